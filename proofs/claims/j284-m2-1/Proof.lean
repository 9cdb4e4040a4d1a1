import JvmDerived
import JvmDerived.Pilot.@@N@@Statement
import JvmDerived.Pilot.@@N@@Code
set_option linter.unusedVariables false
set_option linter.unusedSimpArgs false
namespace Jvm.Pilot.@@N@@
open Jvm Jvm.ClassFile Sem Op Lib Bundle Jvm.Free Jvm.Stand Jvm.LawKit Jvm.RoadKit
/-! ## The walk's own layer: where a run stands (Hr), a method's contract (Ct), one lemma a step. -/
/-- the fixed part of one walk: program, launch, environment, start, method, arguments, frames below, method record, code, the state where the steps begin, the cells that it may write, narrow tables?, known frames? -/
abbrev Cx : Type := Program × Launch × Env × State × MethodId × Array Value × List Frame × Method × Code × State × List Addr × Bool × Bool
abbrev Cx.p (x : Cx) : Program := x.1
abbrev Cx.l (x : Cx) : Launch := x.2.1
abbrev Cx.e (x : Cx) : Env := x.2.2.1
abbrev Cx.s (x : Cx) : State := x.2.2.2.1
abbrev Cx.m (x : Cx) : MethodId := x.2.2.2.2.1
abbrev Cx.args (x : Cx) : Array Value := x.2.2.2.2.2.1
abbrev Cx.below (x : Cx) : List Frame := x.2.2.2.2.2.2.1
abbrev Cx.meth (x : Cx) : Method := x.2.2.2.2.2.2.2.1
abbrev Cx.c (x : Cx) : Code := x.2.2.2.2.2.2.2.2.1
abbrev Cx.B (x : Cx) : State := x.2.2.2.2.2.2.2.2.2.1
abbrev Cx.sf0 (x : Cx) : List Addr := x.2.2.2.2.2.2.2.2.2.2.1
abbrev Cx.nar (x : Cx) : Bool := x.2.2.2.2.2.2.2.2.2.2.2.1
abbrev Cx.kn (x : Cx) : Bool := x.2.2.2.2.2.2.2.2.2.2.2.2
/-- a body: its room, its method's name, bytes, number of locals, what it returns -/
abbrev Bx : Type := Room × MethodName × ByteArray × Nat × Option FieldType
abbrev Bx.R (b : Bx) : Room := b.1
abbrev Bx.y (b : Bx) : MethodName := b.2.1
abbrev Bx.bytes (b : Bx) : ByteArray := b.2.2.1
abbrev Bx.maxL (b : Bx) : Nat := b.2.2.2.1
abbrev Bx.ret (b : Bx) : Option FieldType := b.2.2.2.2
/-- what never moves in a walk -/
def Bs (x : Cx) (b : Bx) (Z : State) (EL : List (String × Nat)) : Prop :=
  (∃ a0, EW Z a0 EL) ∧ x.p.tables.exec = Jvm.exec ∧ x.c.code = b.bytes ∧ x.c.maxLocals = b.maxL ∧ x.meth.sig.returnType = b.ret ∧ x.meth.locks = false ∧ x.meth.name = b.y.name
/-- a cell that the walk may write: made since the walk's start (or handed in), made since the law's start, and no literal's -/
def Mine (x : Cx) (Z : State) (EL : List (String × Nat)) (vm : Vm) (h : Heap) (a : Addr) : Prop := (a ∈ x.sf0 ∨ x.s.heap.size ≤ a) ∧ Z.heap.size ≤ a ∧ a < h.size ∧ Safe Z EL vm h a
/-- what moves, but for the frame -/
def Hx (x : Cx) (b : Bx) (Z : State) (EL : List (String × Nat)) (K S : Nat) (h : Heap) (sf : List Addr) (T : State) (locs : List Loc) (cells slots : Nat) (vm0 : Vm) (k0 : Nat) : Prop :=
  Stand x.p x.l x.e b.R (x.s.setVm vm0) x.m x.args x.below x.meth x.c T locs cells slots ∧ cells ≤ K ∧ slots ≤ S ∧ T.heap = h ∧ Fr Z.heap.size locs ∧
    x.s.Since vm0 k0 ∧ k0 ≤ h.size ∧ Z.Warmed39 vm0 ∧ vm0.findClass b.y.cls = some x.m.cls ∧
    CHr Z EL x.s.vm x.s.heap vm0 h ∧ Keep x.s.heap h x.sf0 ∧ Ext Z.heap h ∧ (∀ a ∈ sf, Mine x Z EL vm0 h a) ∧
    (x.nar = true → x.s.WarmedH vm0) ∧ (x.kn = true → vm0.MethodsKnown ∧ vm0.FramesKnown x.below)
/-- **WHERE THE RUN STANDS**: it has come to the frame (pc, Ls, st), the heap is h; at most K cells and S slots have been made; sf: cells that it may write -/
def Hr (x : Cx) (b : Bx) (Z : State) (EL : List (String × Nat)) (K S : Nat) (h : Heap) (sf : List Addr) (pc : Nat) (Ls : Array Slot) (st : List Value) : Prop :=
  Bs x b Z EL ∧ ∃ (T : State) (locs : List Loc) (cells slots : Nat) (vm0 : Vm) (k0 : Nat), Hx x b Z EL K S h sf T locs cells slots vm0 k0 ∧
    ∀ target, Steps x.p.tables x.e x.below (T.setTop (mkF x.m pc Ls st)) target → Steps x.p.tables x.e x.below x.B target
/-- what an end says: it returned v; Q of it, of the heap and of a list of cells that are the caller's to write; only the cells of sf, and new ones, have been written -/
def Pst (Z : State) (EL : List (String × Nat)) (sf : List Addr) (nar : Bool) (rm : Room) (Q : Option Value → Heap → List Addr → Prop) (U : State) (o : Outcome) (U' : State) : Prop :=
  ∃ (v : Option Value) (L : List Loc) (sn : List Addr), o = .returned v ∧ Q v U'.heap sn ∧ Keep U.heap U'.heap sf ∧ (∀ a ∈ sn, (a ∈ sf ∨ U.heap.size ≤ a) ∧ Z.heap.size ≤ a ∧ a < U'.heap.size ∧ Safe Z EL U'.vm U'.heap a) ∧ Fr Z.heap.size L ∧
    CHr Z EL U.vm U.heap U'.vm U'.heap ∧ (nar = true → U.WarmedH U'.vm) ∧ ReturnedEndW U o U' L rm.cells rm.slots
/-- **A METHOD's CONTRACT** at the arguments as', from the heap h, the cells of sf being its to write -/
def Ct (l : Launch) (Z : State) (EL : List (String × Nat)) (y : MethodName) (bytes : ByteArray) (maxL : Nat) (ret : Option FieldType) (rm : Room) (as' : Array Value) (h : Heap) (sf : List Addr) (nar kn : Bool) (Q : Option Value → Heap → List Addr → Prop) : Prop :=
  ∀ ws : List Jvm.Cond, MetFree l y (head1 (Jvm.Cond.code y bytes maxL ret :: ws) rm) (fun a U => a = as' ∧ Z.Warmed39 U.vm ∧ U.heap = h ∧ CHv Z EL U.vm h ∧ Ext Z.heap h ∧ ∀ a ∈ sf, Z.heap.size ≤ a ∧ a < h.size ∧ Safe Z EL U.vm h a)
    (fun _ _ bl s _ => kn = true → s.vm.MethodsKnown ∧ s.vm.FramesKnown bl) (fun _ U o U' => Pst Z EL sf nar rm Q U o U')
def Ends (x : Cx) (b : Bx) (Z : State) (EL : List (String × Nat)) (Q : Option Value → Heap → List Addr → Prop) : Prop :=
  ∃ (s₂ : State) (o : Outcome), Steps x.p.tables x.e x.below x.B s₂ ∧ s₂.status = .running ∧ Ended s₂ x.below o ∧ Pst Z EL x.sf0 x.nar b.R Q x.s o s₂
section Layer
variable {x : Cx} {b : Bx} {Z : State} {EL : List (String × Nat)} {K S : Nat} {h h' : Heap} {sf : List Addr} {pc pc' : Nat} {Ls Ls' : Array Slot} {st st' : List Value} {a0 : Array Value}
theorem Ext.rfl' (h : Heap) : Ext h h := ⟨Nat.le_refl _, fun _ _ q => q⟩
theorem Ext.tr {h1 h2 h3 : Heap} (A : Ext h1 h2) (B : Ext h2 h3) : Ext h1 h3 := ⟨Nat.le_trans A.1 B.1, fun a c q => B.2 a c (A.2 a c q)⟩
theorem Ext.keep {h1 h2 : Heap} (A : Ext h1 h2) (ws : List Addr) : Keep h1 h2 ws := (Keep.refl _ _).ext A
theorem Ext.ofKeep {h1 h2 h3 : Heap} {ws : List Addr} (A : Ext h1 h2) (B : Keep h2 h3 ws) (q : ∀ a ∈ ws, h1.size ≤ a) : Ext h1 h3 := ⟨Nat.le_trans A.1 B.1, fun a c r => B.2.1 a c (A.2 a c r) fun z => absurd (Array.getElem?_eq_some_iff.mp r).1 (Nat.not_lt.mpr (q a z))⟩
/-- the entry: a contract out of a walk -/
theorem Ct.intro {l : Launch} {y : MethodName} {bytes : ByteArray} {maxL : Nat} {ret : Option FieldType} {rm : Room} {as' : Array Value} {nar kn : Bool} {Q : Option Value → Heap → List Addr → Prop} (hpl : plainFor y = true) (hEL : EW Z a0 EL)
    (hef : ∀ m : MethodId, entryFrame m as' maxL = mkF m 0 Ls [])
    (body : ∀ x : Cx, x.l = l → x.nar = nar → x.kn = kn → x.sf0 = sf → x.s.heap = h → Hr x (rm, y, bytes, maxL, ret) Z EL 0 0 h sf 0 Ls [] → Ends x (rm, y, bytes, maxL, ret) Z EL Q) :
    Ct l Z EL y bytes maxL ret rm as' h sf nar kn Q := by
  intro ws
  refine MetFree.of_bodySF hpl hisR ?_
  intro p e s m args below meth c s₁ Bd hml0 hP hK
  obtain ⟨rfl, hZ, hh, hC, hE, hs⟩ := hP
  have hown : s.vm.findClass y.cls = some m.cls := findClass_of_methodNamed Bd.named
  have hnm := (name_of_methodNamed Bd.named Bd.method).1
  have X0 := Stand.of_body Bd
  have e0 : s₁.heap = h := by rw [← hh, Bd.state]; rfl
  subst hh
  have hF := body (p, l, e, s, m, args, below, meth, c, s₁.setTop (entryFrame m args maxL), sf, nar, kn) rfl rfl rfl rfl rfl
    ⟨⟨⟨_, hEL⟩, Bd.exec, Bd.bytes, hml0, Bd.returns, Bd.notSynchronized, hnm⟩, s₁, [], 0, 0, s.vm, s.heap.size,
      ⟨X0, Nat.le_refl _, Nat.le_refl _, e0, Fr.nil _, (State.WarmedH.refl s).since _, Nat.le_refl _, hZ, hown, CHr.refl hC, Keep.refl _ _, hE, fun a ha => ⟨Or.inl ha, hs a ha⟩, fun _ => State.WarmedH.refl s, hK⟩,
      fun t k => castTop (hef m) k⟩
  exact hF
theorem Hr.base (H : Hr x b Z EL K S h sf pc Ls st) : Bs x b Z EL := H.1
theorem Hr.old (H : Hr x b Z EL K S h sf pc Ls st) : Ext Z.heap h := by obtain ⟨-, T, locs, cells, slots, vm0, k0, X, -⟩ := H; exact X.2.2.2.2.2.2.2.2.2.2.2.1
theorem Hr.kept (H : Hr x b Z EL K S h sf pc Ls st) : Keep x.s.heap h x.sf0 := by obtain ⟨-, T, locs, cells, slots, vm0, k0, X, -⟩ := H; exact X.2.2.2.2.2.2.2.2.2.2.1
theorem Hr.lt {a : Addr} (H : Hr x b Z EL K S h sf pc Ls st) (ha : a ∈ sf) : a < h.size := by obtain ⟨-, T, locs, cells, slots, vm0, k0, X, -⟩ := H; exact (X.2.2.2.2.2.2.2.2.2.2.2.2.1 a ha).2.2.1
theorem Hr.ge {a : Addr} (H : Hr x b Z EL K S h sf pc Ls st) (ha : a ∈ sf) : Z.heap.size ≤ a := by obtain ⟨-, T, locs, cells, slots, vm0, k0, X, -⟩ := H; exact (X.2.2.2.2.2.2.2.2.2.2.2.2.1 a ha).2.1
theorem Hr.since (H : Hr x b Z EL K S h sf pc Ls st) {a : Addr} (ha : a ∈ sf) : a ∈ x.sf0 ∨ x.s.heap.size ≤ a := by obtain ⟨-, T, locs, cells, slots, vm0, k0, X, -⟩ := H; exact (X.2.2.2.2.2.2.2.2.2.2.2.2.1 a ha).1
/-- fewer cells to write, more room said to be used -/
theorem Hr.weaken {K' S' : Nat} {sf' : List Addr} (H : Hr x b Z EL K S h sf pc Ls st) (hK : K ≤ K') (hS : S ≤ S') (hsf : ∀ a ∈ sf', a ∈ sf) : Hr x b Z EL K' S' h sf' pc Ls st := by
  obtain ⟨B, T, locs, cells, slots, vm0, k0, ⟨X, h1, h2, h3, h4, h5, h6, h7, h8, h9, h10, h11, h12, h13, h14⟩, k⟩ := H
  exact ⟨B, T, locs, cells, slots, vm0, k0, ⟨X, Nat.le_trans h1 hK, Nat.le_trans h2 hS, h3, h4, h5, h6, h7, h8, h9, h10, h11, fun a ha => h12 a (hsf a ha), h13, h14⟩, k⟩
/-- a step that moves the frame alone -/
theorem Hr.step (H : Hr x b Z EL K S h sf pc Ls st)
    (f : ∀ T : State, At T x.m x.c x.below → x.p.tables.exec = Jvm.exec → x.c.code = b.bytes → ∀ target, Steps x.p.tables x.e x.below (T.setTop (mkF x.m pc' Ls' st')) target → Steps x.p.tables x.e x.below (T.setTop (mkF x.m pc Ls st)) target) : Hr x b Z EL K S h sf pc' Ls' st' := by
  obtain ⟨B, T, locs, cells, slots, vm0, k0, X, k⟩ := H
  exact ⟨B, T, locs, cells, slots, vm0, k0, X, fun t q => k t (f T X.1.here B.2.1 B.2.2.1 t q)⟩
/-- a step of the library that moves the tables at the most -/
theorem Hr.same (H : Hr x b Z EL K S h sf pc Ls st)
    (f : ∀ (T : State) (locs : List Loc) (cells slots : Nat) (vm0 : Vm), Stand x.p x.l x.e b.R (x.s.setVm vm0) x.m x.args x.below x.meth x.c T locs cells slots → T.heap = h → Z.Warmed39 (x.s.setVm vm0).vm → (x.s.setVm vm0).vm.findClass b.y.cls = some x.m.cls → Bs x b Z EL →
      ∃ T', Stand x.p x.l x.e b.R (x.s.setVm vm0) x.m x.args x.below x.meth x.c T' locs cells slots ∧ T'.heap = h ∧ ∀ target, Steps x.p.tables x.e x.below (T'.setTop (mkF x.m pc' Ls' st')) target → Steps x.p.tables x.e x.below (T.setTop (mkF x.m pc Ls st)) target) : Hr x b Z EL K S h sf pc' Ls' st' := by
  obtain ⟨B, T, locs, cells, slots, vm0, k0, ⟨X, h1, h2, h3, h4, h5, h6, h7, h8, hr⟩, k⟩ := H
  obtain ⟨T', X', e', st1⟩ := f T locs cells slots vm0 X h3 h7 h8 B
  exact ⟨B, T', locs, cells, slots, vm0, k0, ⟨X', h1, h2, e', h4, h5, h6, h7, h8, hr⟩, fun t q => k t (st1 t q)⟩
/-- a step of the library that writes one slot of a cell that is the walk's -/
theorem Hr.write {a : Addr} {sl : Nat} {v : Value} (H : Hr x b Z EL K S h sf pc Ls st) (ha : a ∈ sf)
    (f : ∀ (T : State) (locs : List Loc) (cells slots : Nat) (vm0 : Vm), Stand x.p x.l x.e b.R (x.s.setVm vm0) x.m x.args x.below x.meth x.c T locs cells slots → T.heap = h → Z.Warmed39 (x.s.setVm vm0).vm → (x.s.setVm vm0).vm.findClass b.y.cls = some x.m.cls → Bs x b Z EL →
      ∃ T' h', Stand x.p x.l x.e b.R (x.s.setVm vm0) x.m x.args x.below x.meth x.c T' (locs ++ [⟨a, sl⟩]) cells slots ∧ T'.heap = h' ∧ Wr h h' a sl v ∧ ∀ target, Steps x.p.tables x.e x.below (T'.setTop (mkF x.m pc' Ls' st')) target → Steps x.p.tables x.e x.below (T.setTop (mkF x.m pc Ls st)) target) :
    ∃ h', Wr h h' a sl v ∧ Hr x b Z EL K S h' sf pc' Ls' st' := by
  obtain ⟨B, T, locs, cells, slots, vm0, k0, ⟨X, h1, h2, h3, h4, h5, h6, h7, h8, h9, h10, h11, h12, h13, h14⟩, k⟩ := H
  obtain ⟨T', h', X', e', W, st1⟩ := f T locs cells slots vm0 X h3 h7 h8 B
  have hm := h12 a ha
  have q1 := CHv.wrStep W hm.2.2.2 h9.1
  refine ⟨h', W, B, T', _, cells, slots, vm0, k0, ⟨X', h1, h2, e', Fr.snoc X' h4 hm.2.1, h5, by rw [W.size]; exact h6, h7, h8, h9.trans (CHr.wr W hm.2.2.2 h9.1), h10.wr W hm.1, Ext.ofKeep h11 (Keep.of_wr W) (allS hm.2.1 all0), fun y hy => ?_, h13, h14⟩, fun t q => k t (st1 t q)⟩
  obtain ⟨y1, y2, y3, y4⟩ := h12 y hy
  exact ⟨y1, y2, by rw [W.size]; exact y3, Safe.wr W hm.2.2.2 h9.1 y4⟩
/-- a step of the library that makes one cell -/
theorem Hr.alloc {n : Nat} {P : Heap → Prop} (H : Hr x b Z EL K S h sf pc Ls st) (hc : K + 1 ≤ b.R.cells) (hl : S + n ≤ b.R.slots) (hlt : ∀ h', P h' → h.size < h'.size)
    (f : ∀ (T : State) (locs : List Loc) (cells slots : Nat) (vm0 : Vm), Stand x.p x.l x.e b.R (x.s.setVm vm0) x.m x.args x.below x.meth x.c T locs cells slots → T.heap = h → Z.Warmed39 (x.s.setVm vm0).vm → (x.s.setVm vm0).vm.findClass b.y.cls = some x.m.cls → Bs x b Z EL → cells + 1 ≤ b.R.cells → slots + n ≤ b.R.slots →
      ∃ T' h', Stand x.p x.l x.e b.R (x.s.setVm vm0) x.m x.args x.below x.meth x.c T' locs (cells + 1) (slots + n) ∧ T'.heap = h' ∧ Ext h h' ∧ P h' ∧ ∀ target, Steps x.p.tables x.e x.below (T'.setTop (mkF x.m pc' Ls' st')) target → Steps x.p.tables x.e x.below (T.setTop (mkF x.m pc Ls st)) target) :
    ∃ h', Ext h h' ∧ P h' ∧ Hr x b Z EL (K + 1) (S + n) h' (h.size :: sf) pc' Ls' st' := by
  obtain ⟨B, T, locs, cells, slots, vm0, k0, ⟨X, h1, h2, h3, h4, h5, h6, h7, h8, h9, h10, h11, h12, h13, h14⟩, k⟩ := H
  obtain ⟨T', h', X', e', E, hp, st1⟩ := f T locs cells slots vm0 X h3 h7 h8 B (by omega) (by omega)
  refine ⟨h', E, hp, B, T', _, _, _, vm0, k0, ⟨X', by omega, by omega, e', h4, h5, Nat.le_trans h6 E.1, h7, h8, h9.trans (CHr.ext E h9.1), h10.ext E, Ext.tr h11 E, fun y hy => ?_, h13, h14⟩, fun t q => k t (st1 t q)⟩
  rcases List.mem_cons.mp hy with rfl | hy
  · exact ⟨Or.inr h10.1, h11.1, hlt h' hp, Safe.ext E h9.1 (Safe.new (Nat.le_refl _))⟩
  · obtain ⟨y1, y2, y3, y4⟩ := h12 y hy
    exact ⟨y1, y2, Nat.lt_of_lt_of_le y3 E.1, Safe.ext E h9.1 y4⟩
/-- the payer: a contract as the library's calls take it -/
theorem Ct.backS {l : Launch} {y : MethodName} {bytes : ByteArray} {maxL : Nat} {ret : Option FieldType} {rm : Room} {as' : Array Value} {nar kn : Bool} {Q : Option Value → Heap → List Addr → Prop} (C : Ct l Z EL y bytes maxL ret rm as' h sf nar kn Q)
    {p : Program} {e : Env} {R : Room} {below : List Frame} {s : State} {vm0 : Vm} {args a1 : Array Value} {len W : Nat} (hZ : Z.Warmed39 vm0) (wc : (Jvm.Cond.code y bytes maxL ret).before a0 Z = true) (wz : (Jvm.Cond.initialized y.cls).before a0 Z = true) (hf : rm.frames + 1 ≤ R.frames) (hl : W + (maxL + 11) + rm.locals ≤ R.locals)
    (hEL : EW Z a1 EL) (H : CHv Z EL vm0 h) (hE : Ext Z.heap h) (hsf : ∀ a ∈ sf, Z.heap.size ≤ a ∧ a < h.size ∧ Safe Z EL vm0 h a) (hkn : kn = true → vm0.MethodsKnown ∧ vm0.FramesKnown below) :
    BackS l R p e below (s.setVm vm0) args y len W (fun A a => a = as' ∧ A.U.heap = h ∧ A.cells + rm.cells ≤ R.cells ∧ A.slots + rm.slots ≤ R.slots)
      (fun A _ v B => ∃ (L : List Loc) (sn : List Addr), Q v B.U.heap sn ∧ Keep h B.U.heap sf ∧ (∀ a ∈ sn, (a ∈ sf ∨ h.size ≤ a) ∧ Z.heap.size ≤ a ∧ a < B.U.heap.size ∧ Safe Z EL B.U.vm B.U.heap a) ∧ Fr Z.heap.size L ∧ B.locs = A.locs ++ L ∧ B.cells = A.cells + rm.cells ∧ B.slots = A.slots + rm.slots ∧
        CHr Z EL vm0 h B.U.vm B.U.heap ∧ (nar = true → (s.setVm vm0).WarmedH B.U.vm)) :=
  BackS.of_freeWG (bytes := bytes) (maxL := maxL) (ret := ret)
    (E := fun _ first o t L k n => k = rm.cells ∧ n = rm.slots ∧ ∃ (v : Option Value) (sn : List Addr), o = .returned v ∧ Q v t.heap sn ∧ Keep first.heap t.heap sf ∧ (∀ a ∈ sn, (a ∈ sf ∨ first.heap.size ≤ a) ∧ Z.heap.size ≤ a ∧ a < t.heap.size ∧ Safe Z EL t.vm t.heap a) ∧ Fr Z.heap.size L ∧ CHr Z EL first.vm first.heap t.vm t.heap ∧ (nar = true → first.WarmedH t.vm)) (C []) hf hl
    (fun m meth c A a Y hp => have hU : Z.Warmed39 A.U.vm := wtrans (s := s.setVm vm0) hZ Y.warmed
      ⟨by show (Jvm.Cond.and _ .tt).before a A.U = true; rw [Cond.before_and, mv hU wc]; rfl, mv hU wc, mv hU wz, hp.2.2.1, hp.2.2.2⟩)
    (fun m meth c A a g mk Y hp => ⟨hp.1, wtrans (s := s.setVm vm0) hZ Y.warmed, hp.2.1, (CHv.at Y hZ hEL H).1, hE, fun z hz => ⟨(hsf z hz).1, (hsf z hz).2.1, (CHv.at Y hZ hEL H).safe (hsf z hz).2.1 (hsf z hz).2.2⟩⟩)
    (fun m meth c A a g mk Y _ hg hk => known_frames Y hg (hkn hk).1 (hkn hk).2)
    (fun _ _ _ _ ⟨v, L, sn, q1, q2, q3, q4, q5, q6, q7, q8⟩ => ⟨L, _, _, q8, rfl, rfl, v, sn, q1, q2, q3, q4, q5, q6, q7⟩)
    (fun m meth c A a g mk v t L k n Y hp _ _ ⟨e1, e2, v', sn, q1, q2, q3, q4, q5, q6, q7⟩ => by
      cases q1; subst e1 e2
      obtain ⟨-, rfl, -⟩ := hp
      exact ⟨L, sn, q2, q3, q4, q5, rfl, rfl, rfl, (CHv.at Y hZ hEL H).trans q6, fun hn => State.WarmedH.trans (t := A.U) Y.warmed (q7 hn)⟩)
/-- behind a call: from what the library hands out to where the run stands -/
theorem Hr.after {rm : Room} {sf' : List Addr} {Q : Option Value → Heap → List Addr → Prop} (B : Bs x b Z EL) {T : State} {locs : List Loc} {cells slots : Nat} {vm0 : Vm} {k0 : Nat} (X : Hx x b Z EL K S h sf T locs cells slots vm0 k0)
    (k : ∀ target, Steps x.p.tables x.e x.below (T.setTop (mkF x.m pc Ls st)) target → Steps x.p.tables x.e x.below x.B target) (sub : ∀ a ∈ sf', a ∈ sf)
    {P : Pt} (X' : Stand x.p x.l x.e b.R ((x.s.setVm vm0).setVm P.U.vm) x.m x.args x.below x.meth x.c P.U P.locs P.cells P.slots) (hS : (x.s.setVm vm0).Since P.U.vm P.U.heap.size) (hgr : T.heap.size ≤ P.U.heap.size) {v : Option Value}
    (hp : ∃ (L : List Loc) (sn : List Addr), Q v P.U.heap sn ∧ Keep h P.U.heap sf' ∧ (∀ a ∈ sn, (a ∈ sf' ∨ h.size ≤ a) ∧ Z.heap.size ≤ a ∧ a < P.U.heap.size ∧ Safe Z EL P.U.vm P.U.heap a) ∧ Fr Z.heap.size L ∧ P.locs = locs ++ L ∧ P.cells = cells + rm.cells ∧ P.slots = slots + rm.slots ∧
        CHr Z EL vm0 h P.U.vm P.U.heap ∧ (x.nar = true → (x.s.setVm vm0).WarmedH P.U.vm))
    (hst : Steps x.p.tables x.e x.below (T.setTop (mkF x.m pc Ls st)) (P.U.setTop (mkF x.m pc' Ls st'))) :
    ∃ (h' : Heap) (sn : List Addr), Q v h' sn ∧ Keep h h' sf' ∧ Hr x b Z EL (K + rm.cells) (S + rm.slots) h' (sn ++ sf) pc' Ls st' := by
  obtain ⟨X, h1, h2, h3, h4, h5, h6, h7, h8, h9, h10, h11, h12, h13, h14⟩ := X
  obtain ⟨L, sn, q1, q2, q3, q4, q5, q6, q7, q8, q9⟩ := hp
  have hsf0 : ∀ z ∈ sf', z ∈ x.sf0 ∨ x.s.heap.size ≤ z := fun z hz => (h12 z (sub z hz)).1
  refine ⟨_, sn, q1, q2, B, P.U, P.locs, P.cells, P.slots, P.U.vm, P.U.heap.size, ⟨X', by omega, by omega, rfl, by rw [q5]; exact h4.app q4, h5.trans hS (by rw [h3] at hgr; exact Nat.le_trans h6 hgr), Nat.le_refl _, State.Warmed39.trans (t := x.s.setVm vm0) h7 hS.1, (hS.1.alike.findClass _ _).trans h8, h9.trans q8, h10.trans q2 hsf0,
    Ext.ofKeep h11 q2 (fun z hz => (h12 z (sub z hz)).2.1), fun z hz => ?_, fun hn => State.WarmedH.trans (t := x.s.setVm vm0) (h13 hn) (q9 hn), fun hk => ⟨Vm.MethodsKnown.alikeC hS.1.alike (h14 hk).1, Vm.FramesKnown.alikeC hS.1.alike (h14 hk).2⟩⟩, fun t q => k t (hst.trans q)⟩
  rcases List.mem_append.mp hz with hz | hz
  · obtain ⟨z1, z2, z3, z4⟩ := q3 z hz
    refine ⟨z1.elim (hsf0 z) (fun q => Or.inr (Nat.le_trans h10.1 q)), z2, z3, z4⟩
  · obtain ⟨z1, z2, z3, z4⟩ := h12 z hz
    exact ⟨z1, z2, Nat.lt_of_lt_of_le z3 q2.1, q8.safe z3 z4⟩
end Layer
end Jvm.Pilot.@@N@@
namespace Jvm.Pilot.@@N@@
open Jvm Jvm.ClassFile Sem Op Lib Bundle Jvm.Free Jvm.Stand Jvm.LawKit Jvm.RoadKit
section Layer2
variable {x : Cx} {b : Bx} {Z : State} {EL : List (String × Nat)} {K S : Nat} {h h' : Heap} {sf : List Addr} {pc pc' : Nat} {Ls Ls' : Array Slot} {st st' : List Value} {a0 : Array Value}
/-! ### plain steps -/
theorem Hr.iloadN {k : Fin 4} {v : Int32} (H : Hr x b Z EL K S h sf pc Ls st) (hd : decode b.bytes pc = .ok (.iload_n k, 1)) (hl : Ls[k.val]? = some (.val (.int v)) := by rfl) (hpc : pc + 1 = pc' := by rfl) : Hr x b Z EL K S h sf pc' Ls (.int v :: st) := by
  subst hpc; exact H.step fun T A hx hby t q => XS.iloadN A hx rfl (hb hby hd) hl q
theorem Hr.iload {k : Nat} {v : Int32} (H : Hr x b Z EL K S h sf pc Ls st) (hd : decode b.bytes pc = .ok (.iload k, 2)) (hl : Ls[k]? = some (.val (.int v)) := by rfl) (hpc : pc + 2 = pc' := by rfl) : Hr x b Z EL K S h sf pc' Ls (.int v :: st) := by
  subst hpc; exact H.step fun T A hx hby t q => XS.iload A hx rfl (hb hby hd) hl q
theorem Hr.aloadN {k : Fin 4} {v : Value} (H : Hr x b Z EL K S h sf pc Ls st) (hd : decode b.bytes pc = .ok (.aload_n k, 1)) (hl : Ls[k.val]? = some (.val v) := by rfl) (hv : v.isRef = true := by rfl) (hpc : pc + 1 = pc' := by rfl) : Hr x b Z EL K S h sf pc' Ls (v :: st) := by
  subst hpc; exact H.step fun T A hx hby t q => XS.aloadN A hx rfl (hb hby hd) hl hv q
theorem Hr.aload {k : Nat} {v : Value} (H : Hr x b Z EL K S h sf pc Ls st) (hd : decode b.bytes pc = .ok (.aload k, 2)) (hl : Ls[k]? = some (.val v) := by rfl) (hv : v.isRef = true := by rfl) (hpc : pc + 2 = pc' := by rfl) : Hr x b Z EL K S h sf pc' Ls (v :: st) := by
  subst hpc; exact H.step fun T A hx hby t q => XS.aload A hx rfl (hb hby hd) hl hv q
theorem Hr.iconst {i : Int} {v : Int32} (H : Hr x b Z EL K S h sf pc Ls st) (hd : decode b.bytes pc = .ok (.iconst i, 1)) (hv : Int32.ofInt i = v := by first | rfl | decide) (hpc : pc + 1 = pc' := by rfl) : Hr x b Z EL K S h sf pc' Ls (.int v :: st) := by
  subst hpc hv; exact H.step fun T A hx hby t q => XS.iconst A hx rfl (hb hby hd) q
theorem Hr.bipush {i : Int} {v : Int32} (H : Hr x b Z EL K S h sf pc Ls st) (hd : decode b.bytes pc = .ok (.bipush i, 2)) (hv : (Int8.ofInt i).toInt32 = v := by first | rfl | decide) (hpc : pc + 2 = pc' := by rfl) : Hr x b Z EL K S h sf pc' Ls (.int v :: st) := by
  subst hpc hv; exact H.step fun T A hx hby t q => XS.bipush A hx rfl (hb hby hd) q
theorem Hr.sipush {i : Int} {v : Int32} (H : Hr x b Z EL K S h sf pc Ls st) (hd : decode b.bytes pc = .ok (.sipush i, 3)) (hv : (Int16.ofInt i).toInt32 = v := by first | rfl | decide) (hpc : pc + 3 = pc' := by rfl) : Hr x b Z EL K S h sf pc' Ls (.int v :: st) := by
  subst hpc hv; exact H.step fun T A hx hby t q => XS.sipush A hx rfl (hb hby hd) q
theorem Hr.aconstNull (H : Hr x b Z EL K S h sf pc Ls st) (hd : decode b.bytes pc = .ok (.aconst_null, 1)) (hpc : pc + 1 = pc' := by rfl) : Hr x b Z EL K S h sf pc' Ls (.null :: st) := by
  subst hpc; exact H.step fun T A hx hby t q => XS.aconstNull A hx rfl (hb hby hd) q
theorem Hr.iadd {u w v : Int32} (H : Hr x b Z EL K S h sf pc Ls (.int w :: .int u :: st)) (hd : decode b.bytes pc = .ok (.iadd, 1)) (hv : u + w = v := by rfl) (hpc : pc + 1 = pc' := by rfl) : Hr x b Z EL K S h sf pc' Ls (.int v :: st) := by
  subst hpc hv; exact H.step fun T A hx hby t q => XS.iadd A hx rfl (hb hby hd) rfl q
theorem Hr.isub {u w v : Int32} (H : Hr x b Z EL K S h sf pc Ls (.int w :: .int u :: st)) (hd : decode b.bytes pc = .ok (.isub, 1)) (hv : u - w = v := by rfl) (hpc : pc + 1 = pc' := by rfl) : Hr x b Z EL K S h sf pc' Ls (.int v :: st) := by
  subst hpc hv; exact H.step fun T A hx hby t q => XS.isub A hx rfl (hb hby hd) rfl q
theorem Hr.imul {u w v : Int32} (H : Hr x b Z EL K S h sf pc Ls (.int w :: .int u :: st)) (hd : decode b.bytes pc = .ok (.imul, 1)) (hv : u * w = v := by rfl) (hpc : pc + 1 = pc' := by rfl) : Hr x b Z EL K S h sf pc' Ls (.int v :: st) := by
  subst hpc hv; exact H.step fun T A hx hby t q => XS.imul A hx rfl (hb hby hd) rfl q
theorem Hr.iand {u w v : Int32} (H : Hr x b Z EL K S h sf pc Ls (.int w :: .int u :: st)) (hd : decode b.bytes pc = .ok (.iand, 1)) (hv : u &&& w = v := by rfl) (hpc : pc + 1 = pc' := by rfl) : Hr x b Z EL K S h sf pc' Ls (.int v :: st) := by
  subst hpc hv; exact H.step fun T A hx hby t q => XS.iand A hx rfl (hb hby hd) rfl q
theorem Hr.ior {u w v : Int32} (H : Hr x b Z EL K S h sf pc Ls (.int w :: .int u :: st)) (hd : decode b.bytes pc = .ok (.ior, 1)) (hv : u ||| w = v := by rfl) (hpc : pc + 1 = pc' := by rfl) : Hr x b Z EL K S h sf pc' Ls (.int v :: st) := by
  subst hpc hv; exact H.step fun T A hx hby t q => XT.ior A hx rfl (hb hby hd) rfl q
theorem Hr.ixor {u w v : Int32} (H : Hr x b Z EL K S h sf pc Ls (.int w :: .int u :: st)) (hd : decode b.bytes pc = .ok (.ixor, 1)) (hv : u ^^^ w = v := by rfl) (hpc : pc + 1 = pc' := by rfl) : Hr x b Z EL K S h sf pc' Ls (.int v :: st) := by
  subst hpc hv; exact H.step fun T A hx hby t q => XT.ixor A hx rfl (hb hby hd) rfl q
theorem Hr.ishl {u w v : Int32} (H : Hr x b Z EL K S h sf pc Ls (.int w :: .int u :: st)) (hd : decode b.bytes pc = .ok (.ishl, 1)) (hv : u <<< (w &&& 31) = v := by rfl) (hpc : pc + 1 = pc' := by rfl) : Hr x b Z EL K S h sf pc' Ls (.int v :: st) := by
  subst hpc hv; exact H.step fun T A hx hby t q => XT.ishl A hx rfl (hb hby hd) rfl q
theorem Hr.ishr {u w v : Int32} (H : Hr x b Z EL K S h sf pc Ls (.int w :: .int u :: st)) (hd : decode b.bytes pc = .ok (.ishr, 1)) (hv : u >>> (w &&& 31) = v := by rfl) (hpc : pc + 1 = pc' := by rfl) : Hr x b Z EL K S h sf pc' Ls (.int v :: st) := by
  subst hpc hv; exact H.step fun T A hx hby t q => XT.ishr A hx rfl (hb hby hd) rfl q
theorem Hr.iushr {u w v : Int32} (H : Hr x b Z EL K S h sf pc Ls (.int w :: .int u :: st)) (hd : decode b.bytes pc = .ok (.iushr, 1)) (hv : (u.toUInt32 >>> (w &&& 31).toUInt32).toInt32 = v := by rfl) (hpc : pc + 1 = pc' := by rfl) : Hr x b Z EL K S h sf pc' Ls (.int v :: st) := by
  subst hpc hv; exact H.step fun T A hx hby t q => XT.iushr A hx rfl (hb hby hd) rfl q
theorem Hr.ineg {u v : Int32} (H : Hr x b Z EL K S h sf pc Ls (.int u :: st)) (hd : decode b.bytes pc = .ok (.ineg, 1)) (hv : -u = v := by rfl) (hpc : pc + 1 = pc' := by rfl) : Hr x b Z EL K S h sf pc' Ls (.int v :: st) := by
  subst hpc hv; exact H.step fun T A hx hby t q => XS.ineg A hx rfl (hb hby hd) rfl q
theorem Hr.irem {u w v : Int32} (H : Hr x b Z EL K S h sf pc Ls (.int w :: .int u :: st)) (hd : decode b.bytes pc = .ok (.irem, 1)) (hw : w ≠ 0) (hv : u % w = v := by rfl) (hpc : pc + 1 = pc' := by rfl) : Hr x b Z EL K S h sf pc' Ls (.int v :: st) := by
  subst hpc hv; exact H.step fun T A hx hby t q => XS.irem A hx rfl (hb hby hd) rfl hw (by rw [irem_eq_mod]; exact q)
theorem Hr.idiv {u w v : Int32} (H : Hr x b Z EL K S h sf pc Ls (.int w :: .int u :: st)) (hd : decode b.bytes pc = .ok (.idiv, 1)) (hw : w ≠ 0) (hv : u / w = v := by rfl) (hpc : pc + 1 = pc' := by rfl) : Hr x b Z EL K S h sf pc' Ls (.int v :: st) := by
  subst hpc hv; exact H.step fun T A hx hby t q => XS.idiv A hx rfl (hb hby hd) rfl hw q
theorem Hr.i2c {u v : Int32} (H : Hr x b Z EL K S h sf pc Ls (.int u :: st)) (hd : decode b.bytes pc = .ok (.i2c, 1)) (hv : u.toUInt32.toUInt16.toUInt32.toInt32 = v := by rfl) (hpc : pc + 1 = pc' := by rfl) : Hr x b Z EL K S h sf pc' Ls (.int v :: st) := by
  subst hpc hv; exact H.step fun T A hx hby t q => XT.i2c A hx rfl (hb hby hd) rfl q
theorem Hr.i2b {u v : Int32} (H : Hr x b Z EL K S h sf pc Ls (.int u :: st)) (hd : decode b.bytes pc = .ok (.i2b, 1)) (hv : u.toInt8.toInt32 = v := by rfl) (hpc : pc + 1 = pc' := by rfl) : Hr x b Z EL K S h sf pc' Ls (.int v :: st) := by
  subst hpc hv; exact H.step fun T A hx hby t q => XT.i2b A hx rfl (hb hby hd) rfl q
theorem Hr.dup {v : Value} (H : Hr x b Z EL K S h sf pc Ls (v :: st)) (hd : decode b.bytes pc = .ok (.dup, 1)) (hc : v.category = 1 := by rfl) (hpc : pc + 1 = pc' := by rfl) : Hr x b Z EL K S h sf pc' Ls (v :: v :: st) := by
  subst hpc; exact H.step fun T A hx hby t q => XS.dup A hx rfl (hb hby hd) rfl hc q
theorem Hr.dupX1 {v w : Value} (H : Hr x b Z EL K S h sf pc Ls (v :: w :: st)) (hd : decode b.bytes pc = .ok (.dup_x1, 1)) (hc : v.category = 1 := by rfl) (hc' : w.category = 1 := by rfl) (hpc : pc + 1 = pc' := by rfl) : Hr x b Z EL K S h sf pc' Ls (v :: w :: v :: st) := by
  subst hpc; exact H.step fun T A hx hby t q => XT.dupX1 A hx rfl (hb hby hd) rfl hc hc' q
theorem Hr.pop {v : Value} (H : Hr x b Z EL K S h sf pc Ls (v :: st)) (hd : decode b.bytes pc = .ok (.pop, 1)) (hc : v.category = 1 := by rfl) (hpc : pc + 1 = pc' := by rfl) : Hr x b Z EL K S h sf pc' Ls st := by
  subst hpc; exact H.step fun T A hx hby t q => XT.pop A hx rfl (hb hby hd) rfl hc q
theorem Hr.istoreN {k : Fin 4} {v : Int32} (H : Hr x b Z EL K S h sf pc Ls (.int v :: st)) (hd : decode b.bytes pc = .ok (.istore_n k, 1)) (hl : storeLocals Ls k.val (.int v) = some Ls' := by rfl) (hpc : pc + 1 = pc' := by rfl) : Hr x b Z EL K S h sf pc' Ls' st := by
  subst hpc; exact H.step fun T A hx hby t q => XS.istoreN A hx rfl (hb hby hd) rfl hl q
theorem Hr.istore {k : Nat} {v : Int32} (H : Hr x b Z EL K S h sf pc Ls (.int v :: st)) (hd : decode b.bytes pc = .ok (.istore k, 2)) (hl : storeLocals Ls k (.int v) = some Ls' := by rfl) (hpc : pc + 2 = pc' := by rfl) : Hr x b Z EL K S h sf pc' Ls' st := by
  subst hpc; exact H.step fun T A hx hby t q => XS.istore A hx rfl (hb hby hd) rfl hl q
theorem Hr.astoreN {k : Fin 4} {v : Value} (H : Hr x b Z EL K S h sf pc Ls (v :: st)) (hd : decode b.bytes pc = .ok (.astore_n k, 1)) (hl : storeLocals Ls k.val v = some Ls' := by rfl) (hv : v.isRef = true := by rfl) (hpc : pc + 1 = pc' := by rfl) : Hr x b Z EL K S h sf pc' Ls' st := by
  subst hpc; exact H.step fun T A hx hby t q => XS.astoreN A hx rfl (hb hby hd) rfl hv hl q
theorem Hr.astore {k : Nat} {v : Value} (H : Hr x b Z EL K S h sf pc Ls (v :: st)) (hd : decode b.bytes pc = .ok (.astore k, 2)) (hl : storeLocals Ls k v = some Ls' := by rfl) (hv : v.isRef = true := by rfl) (hpc : pc + 2 = pc' := by rfl) : Hr x b Z EL K S h sf pc' Ls' st := by
  subst hpc; exact H.step fun T A hx hby t q => XS.astore A hx rfl (hb hby hd) rfl hv hl q
theorem Hr.iinc {k : Nat} {cst : Int} {u v : Int32} (H : Hr x b Z EL K S h sf pc Ls st) (hd : decode b.bytes pc = .ok (.iinc k cst, 3)) (hl : Ls[k]? = some (.val (.int u)) := by rfl) (hv : u + Int32.ofInt cst = v := by rfl) (hl' : storeLocals Ls k (.int v) = some Ls' := by rfl) (hpc : pc + 3 = pc' := by rfl) : Hr x b Z EL K S h sf pc' Ls' st := by
  subst hpc hv; exact H.step fun T A hx hby t q => XS.iinc A hx rfl (hb hby hd) hl hl' q
theorem Hr.goto {o : Int} (H : Hr x b Z EL K S h sf pc Ls st) (hd : decode b.bytes pc = .ok (.goto o, 3)) (hp : ((pc : Int) + o).toNat = pc' := by decide) (ho : 0 ≤ (pc : Int) + o := by decide) : Hr x b Z EL K S h sf pc' Ls st := by
  exact H.step fun T A hx hby t q => XS.goto A hx rfl (pc0 := pc) rfl (hb hby hd) ho hp q
theorem Hr.ifT {cd : ClassFile.Cond} {o : Int} {u : Int32} (H : Hr x b Z EL K S h sf pc Ls (.int u :: st)) (hd : decode b.bytes pc = .ok (.ifCond cd o, 3)) (hc : ifCond.holds cd u = true) (hp : ((pc : Int) + o).toNat = pc' := by decide) (ho : 0 ≤ (pc : Int) + o := by decide) : Hr x b Z EL K S h sf pc' Ls st := by
  exact H.step fun T A hx hby t q => XS.ifYes A hx rfl (pc0 := pc) rfl (hb hby hd) rfl hc ho hp q
theorem Hr.ifF {cd : ClassFile.Cond} {o : Int} {u : Int32} (H : Hr x b Z EL K S h sf pc Ls (.int u :: st)) (hd : decode b.bytes pc = .ok (.ifCond cd o, 3)) (hc : ifCond.holds cd u = false) (hpc : pc + 3 = pc' := by rfl) : Hr x b Z EL K S h sf pc' Ls st := by
  subst hpc; exact H.step fun T A hx hby t q => XS.ifNo A hx rfl (hb hby hd) rfl hc q
theorem Hr.icmpT {cd : ClassFile.Cond} {o : Int} {u w : Int32} (H : Hr x b Z EL K S h sf pc Ls (.int w :: .int u :: st)) (hd : decode b.bytes pc = .ok (.if_icmp cd o, 3)) (hc : if_icmp.holds cd u w = true) (hp : ((pc : Int) + o).toNat = pc' := by decide) (ho : 0 ≤ (pc : Int) + o := by decide) : Hr x b Z EL K S h sf pc' Ls st := by
  exact H.step fun T A hx hby t q => XS.icmpYes A hx rfl (pc0 := pc) rfl (hb hby hd) rfl hc ho hp q
theorem Hr.icmpF {cd : ClassFile.Cond} {o : Int} {u w : Int32} (H : Hr x b Z EL K S h sf pc Ls (.int w :: .int u :: st)) (hd : decode b.bytes pc = .ok (.if_icmp cd o, 3)) (hc : if_icmp.holds cd u w = false) (hpc : pc + 3 = pc' := by rfl) : Hr x b Z EL K S h sf pc' Ls st := by
  subst hpc; exact H.step fun T A hx hby t q => XS.icmpNo A hx rfl (hb hby hd) rfl hc q
theorem Hr.acmpT {cd : ClassFile.ACond} {o : Int} {u w : Value} (H : Hr x b Z EL K S h sf pc Ls (w :: u :: st)) (hd : decode b.bytes pc = .ok (.if_acmp cd o, 3)) (hc : XT.acmp cd u w = true) (hu : u.isRef = true := by rfl) (hw : w.isRef = true := by rfl) (hp : ((pc : Int) + o).toNat = pc' := by decide) (ho : 0 ≤ (pc : Int) + o := by decide) : Hr x b Z EL K S h sf pc' Ls st := by
  exact H.step fun T A hx hby t q => XT.acmpYes A hx rfl (pc0 := pc) rfl (hb hby hd) rfl hu hw hc ho hp q
theorem Hr.acmpF {cd : ClassFile.ACond} {o : Int} {u w : Value} (H : Hr x b Z EL K S h sf pc Ls (w :: u :: st)) (hd : decode b.bytes pc = .ok (.if_acmp cd o, 3)) (hc : XT.acmp cd u w = false) (hu : u.isRef = true := by rfl) (hw : w.isRef = true := by rfl) (hpc : pc + 3 = pc' := by rfl) : Hr x b Z EL K S h sf pc' Ls st := by
  subst hpc; exact H.step fun T A hx hby t q => XT.acmpNo A hx rfl (hb hby hd) rfl hu hw hc q
theorem Hr.ifnullT {o : Int} (H : Hr x b Z EL K S h sf pc Ls (.null :: st)) (hd : decode b.bytes pc = .ok (.ifnull o, 3)) (hp : ((pc : Int) + o).toNat = pc' := by decide) (ho : 0 ≤ (pc : Int) + o := by decide) : Hr x b Z EL K S h sf pc' Ls st := by
  exact H.step fun T A hx hby t q => XS.ifnullYes A hx rfl (pc0 := pc) rfl (hb hby hd) rfl ho hp q
theorem Hr.ifnullF {o : Int} {a : Addr} (H : Hr x b Z EL K S h sf pc Ls (.ref a :: st)) (hd : decode b.bytes pc = .ok (.ifnull o, 3)) (hpc : pc + 3 = pc' := by rfl) : Hr x b Z EL K S h sf pc' Ls st := by
  subst hpc; exact H.step fun T A hx hby t q => XS.ifnullNo A hx rfl (hb hby hd) rfl q
theorem Hr.ifnonnullT {o : Int} {a : Addr} (H : Hr x b Z EL K S h sf pc Ls (.ref a :: st)) (hd : decode b.bytes pc = .ok (.ifnonnull o, 3)) (hp : ((pc : Int) + o).toNat = pc' := by decide) (ho : 0 ≤ (pc : Int) + o := by decide) : Hr x b Z EL K S h sf pc' Ls st := by
  exact H.step fun T A hx hby t q => XT.ifnonnullYes A hx rfl (pc0 := pc) rfl (hb hby hd) rfl ho hp q
theorem Hr.ifnonnullF {o : Int} (H : Hr x b Z EL K S h sf pc Ls (.null :: st)) (hd : decode b.bytes pc = .ok (.ifnonnull o, 3)) (hpc : pc + 3 = pc' := by rfl) : Hr x b Z EL K S h sf pc' Ls st := by
  subst hpc; exact H.step fun T A hx hby t q => XT.ifnonnullNo A hx rfl (hb hby hd) rfl q
/-! ### longs -/
theorem Hr.lloadN {k : Fin 4} {v : Int64} (H : Hr x b Z EL K S h sf pc Ls st) (hd : decode b.bytes pc = .ok (.lload_n k, 1)) (hl : Ls[k.val]? = some (.val (.long v)) := by rfl) (hpc : pc + 1 = pc' := by rfl) : Hr x b Z EL K S h sf pc' Ls (.long v :: st) := by
  subst hpc; exact H.step fun T A hx hby t q => XT.lloadN A hx rfl (hb hby hd) hl q
theorem Hr.lushr {u : Int64} {w : Int32} {v : Int64} (H : Hr x b Z EL K S h sf pc Ls (.int w :: .long u :: st)) (hd : decode b.bytes pc = .ok (.lushr, 1)) (hv : XT.ushrL u w = v := by rfl) (hpc : pc + 1 = pc' := by rfl) : Hr x b Z EL K S h sf pc' Ls (.long v :: st) := by
  subst hpc hv; exact H.step fun T A hx hby t q => XT.lushr A hx rfl (hb hby hd) rfl q
theorem Hr.land {u w v : Int64} (H : Hr x b Z EL K S h sf pc Ls (.long w :: .long u :: st)) (hd : decode b.bytes pc = .ok (.land, 1)) (hv : u &&& w = v := by rfl) (hpc : pc + 1 = pc' := by rfl) : Hr x b Z EL K S h sf pc' Ls (.long v :: st) := by
  subst hpc hv; exact H.step fun T A hx hby t q => XT.land A hx rfl (hb hby hd) rfl q
theorem Hr.l2i {u : Int64} {v : Int32} (H : Hr x b Z EL K S h sf pc Ls (.long u :: st)) (hd : decode b.bytes pc = .ok (.l2i, 1)) (hv : u.toInt32 = v := by rfl) (hpc : pc + 1 = pc' := by rfl) : Hr x b Z EL K S h sf pc' Ls (.int v :: st) := by
  subst hpc hv; exact H.step fun T A hx hby t q => XT.l2i A hx rfl (hb hby hd) rfl q
/-! ### constants, fields, statics, casts -/
theorem Hr.ldcI {index : Nat} {v : Int32} (H : Hr x b Z EL K S h sf pc Ls st) (w : (Jvm.Cond.constant b.y.cls index v).before a0 Z = true) (hd : decode b.bytes pc = .ok (.ldc index, 2)) (hpc : pc + 2 = pc' := by rfl) : Hr x b Z EL K S h sf pc' Ls (.int v :: st) := by
  subst hpc
  exact H.same fun T locs cells slots vm0 X eT hZ hown B => ⟨T, X, eT, X.ldcInt B.2.1 hown (mvT hZ w) (g := mkF x.m pc Ls st) rfl (hb B.2.2.1 hd)⟩
theorem Hr.ldcL {index : Nat} {v : Int64} (H : Hr x b Z EL K S h sf pc Ls st) (w : (Jvm.Cond.constantLong b.y.cls index v).before a0 Z = true) (hd : decode b.bytes pc = .ok (.ldc2_w index, 3)) (hpc : pc + 3 = pc' := by rfl) : Hr x b Z EL K S h sf pc' Ls (.long v :: st) := by
  subst hpc
  exact H.same fun T locs cells slots vm0 X eT hZ hown B => ⟨T, X, eT, X.ldc2Long B.2.1 hown (mvT hZ w) (g := mkF x.m pc Ls st) rfl (hb B.2.2.1 hd)⟩
theorem Hr.getF {index : Nat} {O n d : String} {a : Addr} {v : Value} (H : Hr x b Z EL K S h sf pc Ls (.ref a :: st)) (w : (Jvm.Cond.fieldLink b.y.cls index O n d).before a0 Z = true) (F : Fld Z h a O n d v) (hd : decode b.bytes pc = .ok (.getfield index, 3)) (hpc : pc + 3 = pc' := by rfl) : Hr x b Z EL K S h sf pc' Ls (v :: st) := by
  subst hpc
  exact H.same fun T locs cells slots vm0 X eT hZ hown B => Jvm.RoadKit.getF X B.2.1 hZ hown (host := "") (Or.inl w) Via.refl eT F (g := mkF x.m pc Ls (.ref a :: st)) rfl rfl (hb B.2.2.1 hd)
theorem Hr.getFvia {index : Nat} {R0 O n d : String} {a : Addr} {v : Value} (H : Hr x b Z EL K S h sf pc Ls (.ref a :: st)) (w : (Jvm.Cond.fieldLink b.y.cls index R0 n d).before a0 Z = true) (via : Via Z R0 O n d) (F : Fld Z h a O n d v) (hd : decode b.bytes pc = .ok (.getfield index, 3)) (hpc : pc + 3 = pc' := by rfl) : Hr x b Z EL K S h sf pc' Ls (v :: st) := by
  subst hpc
  exact H.same fun T locs cells slots vm0 X eT hZ hown B => Jvm.RoadKit.getF X B.2.1 hZ hown (host := "") (Or.inl w) via eT F (g := mkF x.m pc Ls (.ref a :: st)) rfl rfl (hb B.2.2.1 hd)
theorem Hr.getS {index : Nat} {O n d : String} {v : Value} (H : Hr x b Z EL K S h sf pc Ls st) (w : (Jvm.Cond.fieldLink b.y.cls index O n d).before a0 Z = true) (F : Sta Z h O n d v) (hd : decode b.bytes pc = .ok (.getstatic index, 3)) (hpc : pc + 3 = pc' := by rfl) : Hr x b Z EL K S h sf pc' Ls (v :: st) := by
  subst hpc
  exact H.same fun T locs cells slots vm0 X eT hZ hown B => Jvm.RoadKit.getS (host := "") X B.2.1 hZ hown w Via.refl eT F (g := mkF x.m pc Ls st) rfl (hb B.2.2.1 hd)
theorem Hr.cast {index : Nat} {C : String} {a : Addr} (H : Hr x b Z EL K S h sf pc Ls (.ref a :: st)) (w : (Jvm.Cond.classLink b.y.cls index C).before a0 Z = true) (F : Ins Z h a C true) (hd : decode b.bytes pc = .ok (.checkcast index, 3)) (hpc : pc + 3 = pc' := by rfl) : Hr x b Z EL K S h sf pc' Ls (.ref a :: st) := by
  subst hpc
  exact H.same fun T locs cells slots vm0 X eT hZ hown B => castY X B.2.1 hZ hown w eT F (g := mkF x.m pc Ls (.ref a :: st)) rfl rfl (hb B.2.2.1 hd)
theorem Hr.inst {index : Nat} {C : String} {a : Addr} (H : Hr x b Z EL K S h sf pc Ls (.ref a :: st)) (w : (Jvm.Cond.classLink b.y.cls index C).before a0 Z = true) (F : Ins Z h a C true) (hd : decode b.bytes pc = .ok (.instanceof index, 3)) (hpc : pc + 3 = pc' := by rfl) : Hr x b Z EL K S h sf pc' Ls (.int 1 :: st) := by
  subst hpc
  exact H.same fun T locs cells slots vm0 X eT hZ hown B => instY X B.2.1 hZ hown w eT F (g := mkF x.m pc Ls (.ref a :: st)) rfl rfl (hb B.2.2.1 hd)
theorem Hr.initO {index : Nat} {a : Addr} (H : Hr x b Z EL K S h sf pc Ls (.ref a :: st)) (w1 : (Jvm.Cond.methodLink b.y.cls index Lib.objectInit).before a0 Z = true) (w2 : (Jvm.Cond.instanceMethod Lib.objectInit).before a0 Z = true) (w3 : (Jvm.Cond.code Lib.objectInit ⟨#[0xb1]⟩ 1 none).before a0 Z = true)
    (hd : decode b.bytes pc = .ok (.invokespecial index, 3)) (hLs : Ls.size = b.maxL := by rfl) (hf : 1 ≤ b.R.frames := by decide) {Wr : Nat} (hW : (st.map fun v => v.category).sum = Wr := by rfl) (hl : Wr + 12 ≤ b.R.locals := by decide) (hpc : pc + 3 = pc' := by rfl) : Hr x b Z EL K S h sf pc' Ls st := by
  subst hpc hW
  exact H.same fun T locs cells slots vm0 X eT hZ hown B => Jvm.RoadKit.initO X B.2.1 hZ hown w1 w2 w3 eT (g := mkF x.m pc Ls (.ref a :: st)) rfl (hLs.trans B.2.2.2.1.symm) rfl (hb B.2.2.1 hd) hf (W := (st.map fun v => v.category).sum) (by show 2 * 0 + _ ≤ _; omega) hl
theorem Hr.putF {index kk : Nat} {O n d C : String} {ty : FieldType} {a : Addr} {v old : Value} (H : Hr x b Z EL K S h sf pc Ls (v :: .ref a :: st)) (ha : a ∈ sf) (w : (Jvm.Cond.fieldLink b.y.cls index O n d).before a0 Z = true) (F : Fld Z h a O n d old) (E : Exa Z h a C)
    (L : (Jvm.Cond.lays C O n d).before a0 Z = true ∨ ((Jvm.Cond.laysFinal C O n d).before a0 Z = true ∧ b.y.cls = O ∧ b.y.name = "<init>")) (wi : (Jvm.Cond.instantiable C kk).before a0 Z = true) (hd : decode b.bytes pc = .ok (.putfield index, 3))
    (hty : parseFieldDescriptor d = some ty := by decide +kernel) (hn : narrow ty v = v := by rfl) (hf : fits ty v = true := by rfl) (hpc : pc + 3 = pc' := by rfl) :
    ∃ h', Wr h h' a (Jvm.RoadKit.slotOf Z O n d) v ∧ Hr x b Z EL K S h' sf pc' Ls st := by
  subst hpc
  exact H.write ha fun T locs cells slots vm0 X eT hZ hown B => Jvm.RoadKit.putF X B.2.1 hZ hown (host := "") (Or.inl w) Via.refl eT F E (L.imp id fun q => ⟨q.1, q.2.1, B.2.2.2.2.2.2.trans q.2.2⟩) wi hty hn hf (g := mkF x.m pc Ls (v :: .ref a :: st)) rfl rfl (hb B.2.2.1 hd)
theorem Hr.new {index n : Nat} {C : String} (H : Hr x b Z EL K S h sf pc Ls st) (w : (Jvm.Cond.classLink b.y.cls index C).before a0 Z = true) (wi : (Jvm.Cond.instantiable C n).before a0 Z = true) (wz : (Jvm.Cond.initialized C).before a0 Z = true) (hd : decode b.bytes pc = .ok (.new index, 3))
    (hc : K + 1 ≤ b.R.cells := by decide) (hl : S + n ≤ b.R.slots := by decide) (hpc : pc + 3 = pc' := by rfl) :
    ∃ h', Ext h h' ∧ (Exa Z h' h.size C ∧ (∀ {O nm d : String} {ty : FieldType}, Laid Z a0 C O nm d → parseFieldDescriptor d = some ty → Fld Z h' h.size O nm d (defaultValue ty)) ∧ Unt h' h.size) ∧ Hr x b Z EL (K + 1) (S + n) h' (h.size :: sf) pc' Ls (.ref h.size :: st) := by
  subst hpc
  refine H.alloc hc hl (P := fun h' => Exa Z h' h.size C ∧ (∀ {O nm d : String} {ty : FieldType}, Laid Z a0 C O nm d → parseFieldDescriptor d = some ty → Fld Z h' h.size O nm d (defaultValue ty)) ∧ Unt h' h.size) (fun h' q => q.1.lt) fun T locs cells slots vm0 X eT hZ hown B hc' hl' => ?_
  obtain ⟨T', h', X', e', E, A, D, U, st1⟩ := newO X B.2.1 hZ hown w wi wz eT (g := mkF x.m pc Ls st) rfl (hb B.2.2.1 hd) hc' hl'
  exact ⟨T', h', X', e', E, ⟨A, D, U⟩, st1⟩
/-! ### ends -/
theorem Hr.fin {Q : Option Value → Heap → List Addr → Prop} {v : Value} {t : FieldType} {i : Instr} {sn : List Addr} (H : Hr x b Z EL K S h sf pc Ls (v :: st)) (hd : decode b.bytes pc = .ok (i, 1)) (hret : b.ret = some t) (hn : narrow t v = v)
    (hi : (i = .ireturn ∧ (t = .int ∨ t = .boolean ∨ t = .byte ∨ t = .char ∨ t = .short) ∧ ∃ z, v = .int z) ∨ (i = .lreturn ∧ t = .long ∧ ∃ z, v = .long z) ∨ (i = .dreturn ∧ t = .double ∧ ∃ z, v = .double z) ∨ (i = .freturn ∧ t = .float ∧ ∃ z, v = .float z) ∨ (i = .areturn ∧ t.isReference = true ∧ v.isRef = true))
    (hK : K ≤ b.R.cells) (hS : S ≤ b.R.slots) (hsn : ∀ a ∈ sn, a ∈ sf) (q : Q (some v) h sn) : Ends x b Z EL Q := by
  obtain ⟨B, T, locs, cells, slots, vm0, k0, ⟨X, h1, h2, h3, h4, h5, h6, h7, h8, h9, h10, h11, h12, h13, h14⟩, k⟩ := H
  have A := CHv.at X h7 B.1.choose_spec h9.1
  obtain ⟨fs, hr, hrun, hended, hW⟩ := (X.mono (Nat.le_trans h1 hK) (Nat.le_trans h2 hS)).leaveW h5 (by rw [h3]; exact h6) (v := some v) (fun z => by rw [B.2.2.2.2.1, hret] at z; cases z) B.2.2.2.2.2.1
  refine ⟨_, _, k _ (retOut X B.2.1 (t := t) (by rw [B.2.2.2.2.1]; exact hret) hn hi (hb B.2.2.1 hd) hr), hrun, hended, some v, locs, sn, rfl, ?_, ?_, fun z hz => ?_, h4, ?_, fun hn => State.WarmedH.trans (t := x.s.setVm vm0) (h13 hn) X.warmed, hW⟩
  · show Q (some v) T.heap sn; rw [h3]; exact q
  · show Keep x.s.heap T.heap x.sf0; rw [h3]; exact h10
  · obtain ⟨z1, z2, z3, z4⟩ := h12 z (hsn z hz)
    refine ⟨z1, z2, ?_, ?_⟩
    · show z < T.heap.size; rw [h3]; exact z3
    · show Safe Z EL T.vm T.heap z; rw [h3]; exact A.safe z3 z4
  · show CHr Z EL x.s.vm x.s.heap T.vm T.heap; rw [h3]; exact h9.trans A
theorem Hr.finN {Q : Option Value → Heap → List Addr → Prop} {sn : List Addr} (H : Hr x b Z EL K S h sf pc Ls []) (hd : decode b.bytes pc = .ok (.return_, 1)) (hret : b.ret = none)
    (hK : K ≤ b.R.cells) (hS : S ≤ b.R.slots) (hsn : ∀ a ∈ sn, a ∈ sf) (q : Q none h sn) : Ends x b Z EL Q := by
  obtain ⟨B, T, locs, cells, slots, vm0, k0, ⟨X, h1, h2, h3, h4, h5, h6, h7, h8, h9, h10, h11, h12, h13, h14⟩, k⟩ := H
  have A := CHv.at X h7 B.1.choose_spec h9.1
  obtain ⟨fs, hr, hrun, hended, hW⟩ := (X.mono (Nat.le_trans h1 hK) (Nat.le_trans h2 hS)).leaveW h5 (by rw [h3]; exact h6) (v := none) (fun _ => rfl) B.2.2.2.2.2.1
  refine ⟨_, _, k _ (X.returnOut B.2.1 (by rw [B.2.2.2.2.1]; exact hret) (hb B.2.2.1 hd) hr), hrun, hended, none, locs, sn, rfl, ?_, ?_, fun z hz => ?_, h4, ?_, fun hn => State.WarmedH.trans (t := x.s.setVm vm0) (h13 hn) X.warmed, hW⟩
  · show Q none T.heap sn; rw [h3]; exact q
  · show Keep x.s.heap T.heap x.sf0; rw [h3]; exact h10
  · obtain ⟨z1, z2, z3, z4⟩ := h12 z (hsn z hz)
    refine ⟨z1, z2, ?_, ?_⟩
    · show z < T.heap.size; rw [h3]; exact z3
    · show Safe Z EL T.vm T.heap z; rw [h3]; exact A.safe z3 z4
  · show CHr Z EL x.s.vm x.s.heap T.vm T.heap; rw [h3]; exact h9.trans A
theorem Hr.finI {Q : Option Value → Heap → List Addr → Prop} {v : Int32} {sn : List Addr} (H : Hr x b Z EL K S h sf pc Ls (.int v :: st)) (hd : decode b.bytes pc = .ok (.ireturn, 1)) (q : Q (some (.int v)) h sn) (hsn : ∀ a ∈ sn, a ∈ sf) (hret : b.ret = some .int := by rfl) (hK : K ≤ b.R.cells := by decide) (hS : S ≤ b.R.slots := by decide) : Ends x b Z EL Q :=
  H.fin hd hret rfl (Or.inl ⟨rfl, Or.inl rfl, _, rfl⟩) hK hS hsn q
theorem Hr.finZ {Q : Option Value → Heap → List Addr → Prop} {v : Int32} {t : FieldType} {sn : List Addr} (H : Hr x b Z EL K S h sf pc Ls (.int v :: st)) (hd : decode b.bytes pc = .ok (.ireturn, 1)) (hn : narrow t (.int v) = .int v) (q : Q (some (.int v)) h sn) (hsn : ∀ a ∈ sn, a ∈ sf) (hret : b.ret = some t := by rfl) (ht : t = .int ∨ t = .boolean ∨ t = .byte ∨ t = .char ∨ t = .short := by simp) (hK : K ≤ b.R.cells := by decide) (hS : S ≤ b.R.slots := by decide) : Ends x b Z EL Q :=
  H.fin hd hret hn (Or.inl ⟨rfl, ht, _, rfl⟩) hK hS hsn q
theorem Hr.finA {Q : Option Value → Heap → List Addr → Prop} {v : Value} {t : FieldType} {sn : List Addr} (H : Hr x b Z EL K S h sf pc Ls (v :: st)) (hd : decode b.bytes pc = .ok (.areturn, 1)) (q : Q (some v) h sn) (hsn : ∀ a ∈ sn, a ∈ sf) (hv : v.isRef = true := by rfl) (hret : b.ret = some t := by rfl) (ht : t.isReference = true := by rfl) (hK : K ≤ b.R.cells := by decide) (hS : S ≤ b.R.slots := by decide) : Ends x b Z EL Q :=
  H.fin hd hret (by rcases ref_cases hv with rfl | ⟨a, rfl⟩ <;> cases t <;> first | rfl | cases ht) (Or.inr (Or.inr (Or.inr (Or.inr ⟨rfl, ht, hv⟩)))) hK hS hsn q
/-! ### calls -/
theorem Hr.callS {y : MethodName} {bytes : ByteArray} {maxL : Nat} {ret : Option FieldType} {rm : Room} {as' : Array Value} {sf' : List Addr} {Q : Option Value → Heap → List Addr → Prop} {index : Nat} {argsL rest : List Value} {ps : List FieldType} {rt : Option FieldType}
    (H : Hr x b Z EL K S h sf pc Ls st) (C : Ct x.l Z EL y bytes maxL ret rm as' h sf' x.nar x.kn Q) (sub : ∀ a ∈ sf', a ∈ sf)
    (w1 : (Jvm.Cond.methodLink b.y.cls index y).before a0 Z = true) (w2 : (Jvm.Cond.static y).before a0 Z = true) (w3 : (Jvm.Cond.initialized y.cls).before a0 Z = true) (w4 : (Jvm.Cond.code y bytes maxL ret).before a0 Z = true)
    (hd : decode b.bytes pc = .ok (.invokestatic index, 3)) (hp : parseMethodDescriptor y.desc = some ⟨ps, rt⟩) (hst : st = argsL.reverse ++ rest) (has : argsL.toArray = as' := by rfl) (hl2 : argsL.length = ps.length := by rfl) (hy : y.cls ≠ "java/lang/invoke/MethodHandle" ∧ y.cls ≠ "java/lang/invoke/VarHandle" := by decide)
    (hf : rm.frames + 1 ≤ b.R.frames := by decide) {Wr : Nat} (hW : (rest.map fun v => v.category).sum = Wr := by rfl) (hl : Wr + (maxL + 11) + rm.locals ≤ b.R.locals := by decide) (hc : K + rm.cells ≤ b.R.cells := by decide) (hs : S + rm.slots ≤ b.R.slots := by decide) (hLs : Ls.size = b.maxL := by rfl) (hpc : pc + 3 = pc' := by rfl) :
    ∃ (v : Option Value) (h' : Heap) (sn : List Addr), Q v h' sn ∧ Keep h h' sf' ∧ Hr x b Z EL (K + rm.cells) (S + rm.slots) h' (sn ++ sf) pc' Ls (v.toList ++ rest) := by
  subst has hpc hW
  obtain ⟨B, T, locs, cells, slots, vm0, k0, X, k⟩ := H
  have X2 := X
  obtain ⟨X1, h1, h2, h3, h4, h5, h6, h7, h8, h9, h10, h11, h12, h13, h14⟩ := X2
  obtain ⟨v, vm₁, P, -, X', hS, hgr, hp', hsteps⟩ := callSS X1 B.2.1 (own := b.y.cls) h8 (mvT h7 w1) (mvT h7 w2) (mvT h7 w3) (mvT h7 w4) hy
    (C.backS (W := (rest.map fun v => v.category).sum) h7 w4 w3 hf hl B.1.choose_spec h9.1 h11 (fun z hz => (h12 z (sub z hz)).2) h14)
    (g := mkF x.m pc Ls st) rfl (hLs.trans B.2.2.2.1.symm) (argsL := argsL) (rest := rest) (lenOf hp hl2) hst (by show 2 * 0 + _ ≤ _; omega) (hb B.2.2.1 hd) (fun vm₁ _ => ⟨rfl, h3, by show cells + _ ≤ _; omega, by show slots + _ ≤ _; omega⟩)
  obtain ⟨h', sn, r1, r2, r3⟩ := Hr.after (rm := rm) (sf' := sf') (Q := Q) B X k sub X' hS hgr hp' hsteps
  exact ⟨v, h', sn, r1, r2, r3⟩
theorem Hr.callI {y : MethodName} {bytes : ByteArray} {maxL : Nat} {rm : Room} {as' : Array Value} {sf' : List Addr} {Q : Option Value → Heap → List Addr → Prop} {index : Nat} {a : Addr} {argsL rest : List Value} {ps : List FieldType} {rt : Option FieldType}
    (H : Hr x b Z EL K S h sf pc Ls st) (C : Ct x.l Z EL y bytes maxL none rm as' h sf' x.nar x.kn Q) (sub : ∀ a ∈ sf', a ∈ sf)
    (w1 : (Jvm.Cond.methodLink b.y.cls index y).before a0 Z = true) (w2 : (Jvm.Cond.instanceMethod y).before a0 Z = true) (w3 : (Jvm.Cond.initialized y.cls).before a0 Z = true) (w4 : (Jvm.Cond.code y bytes maxL none).before a0 Z = true)
    (hd : decode b.bytes pc = .ok (.invokespecial index, 3)) (hp : parseMethodDescriptor y.desc = some ⟨ps, rt⟩) (hst : st = argsL.reverse ++ .ref a :: rest) (has : (Value.ref a :: argsL).toArray = as' := by rfl) (hl2 : argsL.length = ps.length := by rfl) (hy1 : y.name = "<init>" := by rfl) (hy : y.cls ≠ "java/lang/invoke/MethodHandle" ∧ y.cls ≠ "java/lang/invoke/VarHandle" := by decide)
    (hf : rm.frames + 1 ≤ b.R.frames := by decide) {Wr : Nat} (hW : (rest.map fun v => v.category).sum = Wr := by rfl) (hl : Wr + (maxL + 11) + rm.locals ≤ b.R.locals := by decide) (hc : K + rm.cells ≤ b.R.cells := by decide) (hs : S + rm.slots ≤ b.R.slots := by decide) (hLs : Ls.size = b.maxL := by rfl) (hpc : pc + 3 = pc' := by rfl) :
    ∃ (v : Option Value) (h' : Heap) (sn : List Addr), Q v h' sn ∧ Keep h h' sf' ∧ Hr x b Z EL (K + rm.cells) (S + rm.slots) h' (sn ++ sf) pc' Ls (v.toList ++ rest) := by
  subst has hpc hW
  obtain ⟨B, T, locs, cells, slots, vm0, k0, X, k⟩ := H
  have X2 := X
  obtain ⟨X1, h1, h2, h3, h4, h5, h6, h7, h8, h9, h10, h11, h12, h13, h14⟩ := X2
  obtain ⟨v, vm₁, P, -, X', hS, hgr, hp', hsteps⟩ := X1.specialBackS B.2.1 hy1 h8 (mvT h7 w1) (mvT h7 w2) (mvT h7 w4) hy
    (C.backS (W := (rest.map fun v => v.category).sum) h7 w4 w3 hf hl B.1.choose_spec h9.1 h11 (fun z hz => (h12 z (sub z hz)).2) h14)
    (g := mkF x.m pc Ls st) rfl (hLs.trans B.2.2.2.1.symm) (Steps.refl _) (a := a) (argsL := argsL) (rest := rest) (lenOf hp hl2) hst (by show 2 * 0 + _ ≤ _; omega) (hb B.2.2.1 hd) (fun vm₁ _ => ⟨rfl, h3, by show cells + _ ≤ _; omega, by show slots + _ ≤ _; omega⟩)
  obtain ⟨h', sn, r1, r2, r3⟩ := Hr.after (rm := rm) (sf' := sf') (Q := Q) B X k sub X' hS hgr hp' hsteps
  exact ⟨v, h', sn, r1, r2, r3⟩
theorem notFace_by {s : State} {args : Array Value} {C : String} {y y' : MethodName} (ws : (Jvm.Cond.selects C y' y').before args s = true) (hc : y'.cls = y.cls) : NotFace s y := fun r0 h0 => by
  obtain ⟨c2, r2, m2, -, -, q3, -, kP, hkP, hkPi⟩ := Cond.selects_spec ws
  have h1 := findClass_of_methodNamed h0
  have h2 := findClass_of_methodNamed q3
  rw [hc, h1] at h2
  have e : r0.cls = m2.cls := Option.some.inj h2
  rw [← e] at hkP
  exact ⟨kP, hkP, hkPi⟩
theorem Hr.callV {y y' z : MethodName} {bytes : ByteArray} {maxL : Nat} {ret : Option FieldType} {rm : Room} {as' : Array Value} {sf' : List Addr} {Q : Option Value → Heap → List Addr → Prop} {index : Nat} {a : Addr} {cls cls' : String} {argsL rest : List Value} {ps : List FieldType} {rt : Option FieldType}
    (H : Hr x b Z EL K S h sf pc Ls st) (C : Ct x.l Z EL z bytes maxL ret rm as' h sf' x.nar x.kn Q) (sub : ∀ a ∈ sf', a ∈ sf) (E : Exa Z h a cls)
    (w1 : (Jvm.Cond.methodLink b.y.cls index y).before a0 Z = true) (w2 : (Jvm.Cond.declares y).before a0 Z = true) (wn : (Jvm.Cond.selects cls' y' y').before a0 Z = true) (ws : (Jvm.Cond.selects cls y z).before a0 Z = true) (wi : (Jvm.Cond.instanceMethod z).before a0 Z = true) (w3 : (Jvm.Cond.initialized z.cls).before a0 Z = true) (w4 : (Jvm.Cond.code z bytes maxL ret).before a0 Z = true)
    (hd : decode b.bytes pc = .ok (.invokevirtual index, 3)) (hp : parseMethodDescriptor y.desc = some ⟨ps, rt⟩) (hst : st = argsL.reverse ++ .ref a :: rest) (hyc : y'.cls = y.cls := by rfl) (has : (Value.ref a :: argsL).toArray = as' := by rfl) (hl2 : argsL.length = ps.length := by rfl) (hy : y.cls ≠ "java/lang/invoke/MethodHandle" ∧ y.cls ≠ "java/lang/invoke/VarHandle" := by decide)
    (hf : rm.frames + 1 ≤ b.R.frames := by decide) {Wr : Nat} (hW : (rest.map fun v => v.category).sum = Wr := by rfl) (hl : Wr + (maxL + 11) + rm.locals ≤ b.R.locals := by decide) (hc : K + rm.cells ≤ b.R.cells := by decide) (hs : S + rm.slots ≤ b.R.slots := by decide) (hLs : Ls.size = b.maxL := by rfl) (hpc : pc + 3 = pc' := by rfl) :
    ∃ (v : Option Value) (h' : Heap) (sn : List Addr), Q v h' sn ∧ Keep h h' sf' ∧ Hr x b Z EL (K + rm.cells) (S + rm.slots) h' (sn ++ sf) pc' Ls (v.toList ++ rest) := by
  subst has hpc hW
  obtain ⟨B, T, locs, cells, slots, vm0, k0, X, k⟩ := H
  have X2 := X
  obtain ⟨X1, h1, h2, h3, h4, h5, h6, h7, h8, h9, h10, h11, h12, h13, h14⟩ := X2
  obtain ⟨cB, kB, i1, i2, i3⟩ := isOf (s := x.s.setVm vm0) (T := T) h7 h3 E
  obtain ⟨v, vm₁, P, -, X', hS, hgr, hp', hsteps⟩ := X1.virtualBackS B.2.1 (y := y) (z := z) h8 (mvT h7 w1) (mvT h7 w2) (notFace_by (args := #[]) (mvT h7 wn) hyc) (mvT h7 ws) (mvT h7 wi) hy
    (C.backS (W := (rest.map fun v => v.category).sum) h7 w4 w3 hf hl B.1.choose_spec h9.1 h11 (fun z hz => (h12 z (sub z hz)).2) h14) i1 i3
    (g := mkF x.m pc Ls st) rfl (hLs.trans B.2.2.2.1.symm) (Steps.refl _) (argsL := argsL) (rest := rest) (lenOf hp hl2) hst (by show 2 * 0 + _ ≤ _; omega) (hb B.2.2.1 hd) (fun vm₁ _ => ⟨rfl, h3, by show cells + _ ≤ _; omega, by show slots + _ ≤ _; omega⟩)
  obtain ⟨h', sn, r1, r2, r3⟩ := Hr.after (rm := rm) (sf' := sf') (Q := Q) B X k sub X' hS hgr hp' hsteps
  exact ⟨v, h', sn, r1, r2, r3⟩
end Layer2
end Jvm.Pilot.@@N@@
namespace Jvm.Pilot.@@N@@
open Jvm Jvm.ClassFile Sem Op Lib Bundle Jvm.Free Jvm.Stand Jvm.LawKit Jvm.RoadKit
section Layer3
variable {x : Cx} {b : Bx} {Z : State} {EL : List (String × Nat)} {K S : Nat} {h h' : Heap} {sf : List Addr} {pc pc' : Nat} {Ls Ls' : Array Slot} {st st' : List Value} {a0 : Array Value}
/-- an array and all that it holds -/
def Ar (Z : State) (h : Heap) (a : Addr) (ty : FieldType) (vs : List Value) : Prop := ∃ c : Cell, Arr Z h a c ty ∧ c.slots.toList = vs ∧ vs.length < 2147483648
variable {a d : Addr} {ty : FieldType} {vs : List Value} {ws : List Addr} {sl : Nat} {v : Value}
theorem neN {p q : Addr} (h : @Ne Nat p q) : p ≠ q := h
theorem exa_lt {C : String} (F : Exa Z h a C) : h.size > a := F.lt
theorem fld_lt {C n d : String} (F : Fld Z h a C n d v) : h.size > a := F.lt
theorem Ar.lt (F : Ar Z h a ty vs) : h.size > a := by obtain ⟨c, A, -⟩ := F; exact A.lt
theorem Ar.len (F : Ar Z h a ty vs) : vs.length < 2147483648 := by obtain ⟨c, A, -, q⟩ := F; exact q
theorem Ar.ext (F : Ar Z h a ty vs) (E : Ext h h') : Ar Z h' a ty vs := by obtain ⟨c, A, r⟩ := F; exact ⟨c, A.ext E, r⟩
theorem Ar.keep (F : Ar Z h a ty vs) (K : Keep h h' ws) (q : a ∉ ws) : Ar Z h' a ty vs := by obtain ⟨c, A, r⟩ := F; exact ⟨c, ⟨K.2.1 a c A.1 q, A.2⟩, r⟩
theorem Ar.other (F : Ar Z h a ty vs) (W : Wr h h' d sl v) (q : a ≠ d) : Ar Z h' a ty vs := by obtain ⟨c, A, r⟩ := F; exact ⟨c, A.other W q, r⟩
theorem Ar.set (F : Ar Z h a ty vs) (W : Wr h h' a sl v) : Ar Z h' a ty (vs.set sl v) := by
  obtain ⟨c, A, r1, r2⟩ := F
  exact ⟨_, A.same W, by subst r1; simp [Cell.setSlot], by simpa using r2⟩
theorem Ar.of_new {k : ClassId} {n : Int32} (A : Arr Z h a (newA k ty n) ty) (hn : ¬ n < 0) : Ar Z h a ty (List.replicate n.toNatClampNeg (defaultValue ty)) :=
  ⟨_, A, by simp [newA], by have := (back32 hn).2; simpa using this⟩
theorem Ar.of_arv {k : ClassId} {z : Int32} {dv : Value} (F : Arv Z h a k ty z vs dv) (hz : z.toNatClampNeg = vs.length) : Ar Z h a ty vs := by
  obtain ⟨c, A, -, r2, r3, r4, -⟩ := F
  refine ⟨c, A, ?_, by have := (back32 r3).2; omega⟩
  apply List.ext_getElem?
  intro i
  by_cases hi : i < vs.length
  · have := r4 i (by omega)
    rw [Array.getElem?_toList, this]
    simp [List.getD, hi]
  · rw [List.getElem?_eq_none (by rw [Array.length_toList]; omega), List.getElem?_eq_none (by omega)]
theorem Ar.at {c : Cell} {i : Nat} {j : Int32} (hc : c.slots.toList = vs) (hl : vs.length < 2147483648) (hj : j = Int32.ofNat i) (hv : vs[i]? = some v) : ¬ (j < 0 ∨ c.slots.size ≤ j.toNatClampNeg) ∧ j.toNatClampNeg = i ∧ c.slots[j.toNatClampNeg]? = some v := by
  obtain ⟨hi, -⟩ := List.getElem?_eq_some_iff.mp hv
  have hs : c.slots.size = vs.length := by rw [← hc, Array.length_toList]
  have h2 : j.toNatClampNeg = i := clamp_of hj (by omega)
  exact ⟨by rw [hs]; exact within hj hi (by omega), h2, by rw [h2, ← Array.getElem?_toList, hc]; exact hv⟩
theorem Hr.arraylength {n : Int32} (H : Hr x b Z EL K S h sf pc Ls (.ref a :: st)) (A : Ar Z h a ty vs) (hd : decode b.bytes pc = .ok (.arraylength, 1)) (hn : Int32.ofNat vs.length = n := by rfl) (hpc : pc + 1 = pc' := by rfl) : Hr x b Z EL K S h sf pc' Ls (.int n :: st) := by
  subst hpc hn
  obtain ⟨c, A1, r1, r2⟩ := A
  refine H.same fun T locs cells slots vm0 X eT hZ hown B => ⟨T, X, eT, fun t q => X.arraylength B.2.1 (cell := c) (ty := ty) (by rw [eT]; exact A1.1) (State.isArrayOf_alike hZ.alike A1.2.1) (g := mkF x.m pc Ls (.ref a :: st)) rfl rfl (hb B.2.2.1 hd) t ?_⟩
  have e : c.slots.size.toInt32 = Int32.ofNat vs.length := by rw [← r1, Array.length_toList]
  rw [e]; exact q
theorem Hr.caload {i : Nat} {j : Int32} (H : Hr x b Z EL K S h sf pc Ls (.int j :: .ref a :: st)) (A : Ar Z h a .char vs) (hd : decode b.bytes pc = .ok (.caload, 1)) (hj : j = Int32.ofNat i) (hv : vs[i]? = some v) (hpc : pc + 1 = pc' := by rfl) : Hr x b Z EL K S h sf pc' Ls (v :: st) := by
  subst hpc
  obtain ⟨c, A1, r1, r2⟩ := A
  obtain ⟨q1, q2, q3⟩ := Ar.at r1 r2 hj hv
  exact H.same fun T locs cells slots vm0 X eT hZ hown B => ⟨T, X, eT, fun t q => X.caload B.2.1 (cell := c) (by rw [eT]; exact A1.1) (State.isArrayOf_alike hZ.alike A1.2.1) A1.2.2 q1 q3 (g := mkF x.m pc Ls (.int j :: .ref a :: st)) rfl rfl (hb B.2.2.1 hd) t q⟩
theorem Hr.baload {i : Nat} {j : Int32} (H : Hr x b Z EL K S h sf pc Ls (.int j :: .ref a :: st)) (A : Ar Z h a .byte vs) (hd : decode b.bytes pc = .ok (.baload, 1)) (hj : j = Int32.ofNat i) (hv : vs[i]? = some v) (hpc : pc + 1 = pc' := by rfl) : Hr x b Z EL K S h sf pc' Ls (v :: st) := by
  subst hpc
  obtain ⟨c, A1, r1, r2⟩ := A
  obtain ⟨q1, q2, q3⟩ := Ar.at r1 r2 hj hv
  exact H.same fun T locs cells slots vm0 X eT hZ hown B => ⟨T, X, eT, fun t q => X.baloadBytes B.2.1 (cell := c) (by rw [eT]; exact A1.1) (State.isArrayOf_alike hZ.alike A1.2.1) A1.2.2 q1 q3 (g := mkF x.m pc Ls (.int j :: .ref a :: st)) rfl rfl (hb B.2.2.1 hd) t q⟩
theorem Hr.iaload {i : Nat} {j : Int32} (H : Hr x b Z EL K S h sf pc Ls (.int j :: .ref a :: st)) (A : Ar Z h a .int vs) (hd : decode b.bytes pc = .ok (.iaload, 1)) (hj : j = Int32.ofNat i) (hv : vs[i]? = some v) (hpc : pc + 1 = pc' := by rfl) : Hr x b Z EL K S h sf pc' Ls (v :: st) := by
  subst hpc
  obtain ⟨c, A1, r1, r2⟩ := A
  obtain ⟨q1, q2, q3⟩ := Ar.at r1 r2 hj hv
  exact H.same fun T locs cells slots vm0 X eT hZ hown B => ⟨T, X, eT, fun t q => X.iaload B.2.1 (cell := c) (by rw [eT]; exact A1.1) (State.isArrayOf_alike hZ.alike A1.2.1) A1.2.2 q1 q3 (g := mkF x.m pc Ls (.int j :: .ref a :: st)) rfl rfl (hb B.2.2.1 hd) t q⟩
theorem Hr.aaload {i : Nat} {j : Int32} (H : Hr x b Z EL K S h sf pc Ls (.int j :: .ref a :: st)) (A : Ar Z h a ty vs) (hd : decode b.bytes pc = .ok (.aaload, 1)) (hj : j = Int32.ofNat i) (hv : vs[i]? = some v) (hty : ty.isReference = true := by rfl) (hpc : pc + 1 = pc' := by rfl) : Hr x b Z EL K S h sf pc' Ls (v :: st) := by
  subst hpc
  obtain ⟨c, A1, r1, r2⟩ := A
  obtain ⟨q1, q2, q3⟩ := Ar.at r1 r2 hj hv
  exact H.same fun T locs cells slots vm0 X eT hZ hown B => ⟨T, X, eT, fun t q => X.aaload B.2.1 (cell := c) (by rw [eT]; exact A1.1) (State.isArrayOf_alike hZ.alike A1.2.1) hty A1.2.2 q1 q3 (g := mkF x.m pc Ls (.int j :: .ref a :: st)) rfl rfl (hb B.2.2.1 hd) t q⟩
theorem Hr.castore {i : Nat} {j u w : Int32} (H : Hr x b Z EL K S h sf pc Ls (.int u :: .int j :: .ref a :: st)) (ha : a ∈ sf) (A : Ar Z h a .char vs) (hd : decode b.bytes pc = .ok (.castore, 1)) (hj : j = Int32.ofNat i) (hi : i < vs.length) (hw : nar .char u = w := by rfl) (hpc : pc + 1 = pc' := by rfl) :
    ∃ h', Wr h h' a i (.int w) ∧ Hr x b Z EL K S h' sf pc' Ls st := by
  subst hpc hw
  obtain ⟨c, A1, r1, r2⟩ := A
  obtain ⟨q1, q2, q3⟩ := Ar.at r1 r2 hj (List.getElem?_eq_getElem hi)
  rw [← q2]
  exact H.write ha fun T locs cells slots vm0 X eT hZ hown B => stC X B.2.1 hZ eT A1 q1 (g := mkF x.m pc Ls (.int u :: .int j :: .ref a :: st)) rfl rfl (hb B.2.2.1 hd)
theorem Hr.bastore {i : Nat} {j u w : Int32} (H : Hr x b Z EL K S h sf pc Ls (.int u :: .int j :: .ref a :: st)) (ha : a ∈ sf) (A : Ar Z h a .byte vs) (hd : decode b.bytes pc = .ok (.bastore, 1)) (hj : j = Int32.ofNat i) (hi : i < vs.length) (hw : nar .byte u = w := by rfl) (hpc : pc + 1 = pc' := by rfl) :
    ∃ h', Wr h h' a i (.int w) ∧ Hr x b Z EL K S h' sf pc' Ls st := by
  subst hpc hw
  obtain ⟨c, A1, r1, r2⟩ := A
  obtain ⟨q1, q2, q3⟩ := Ar.at r1 r2 hj (List.getElem?_eq_getElem hi)
  rw [← q2]
  exact H.write ha fun T locs cells slots vm0 X eT hZ hown B => stB X B.2.1 hZ eT A1 q1 (g := mkF x.m pc Ls (.int u :: .int j :: .ref a :: st)) rfl rfl (hb B.2.2.1 hd)
theorem Hr.iastore {i : Nat} {j u : Int32} (H : Hr x b Z EL K S h sf pc Ls (.int u :: .int j :: .ref a :: st)) (ha : a ∈ sf) (A : Ar Z h a .int vs) (hd : decode b.bytes pc = .ok (.iastore, 1)) (hj : j = Int32.ofNat i) (hi : i < vs.length) (hpc : pc + 1 = pc' := by rfl) :
    ∃ h', Wr h h' a i (.int u) ∧ Hr x b Z EL K S h' sf pc' Ls st := by
  subst hpc
  obtain ⟨c, A1, r1, r2⟩ := A
  obtain ⟨q1, q2, q3⟩ := Ar.at r1 r2 hj (List.getElem?_eq_getElem hi)
  rw [← q2]
  exact H.write ha fun T locs cells slots vm0 X eT hZ hown B => stI X B.2.1 hZ eT A1 q1 (g := mkF x.m pc Ls (.int u :: .int j :: .ref a :: st)) rfl rfl (hb B.2.2.1 hd)
theorem Hr.newarray {aty : ArrayType} {n : Int32} {cap : Nat} (H : Hr x b Z EL K S h sf pc Ls (.int n :: st)) (w : (Jvm.Cond.arrayClass (newarray.typeOf aty)).before a0 Z = true) (hd : decode b.bytes pc = .ok (.newarray aty, 2)) (hn : ¬ n < 0) (hcap : n.toNatClampNeg ≤ cap) (hb8 : cap * 8 ≤ 536870912)
    (hc : K + 1 ≤ b.R.cells := by decide) (hl : S + cap ≤ b.R.slots := by decide) (hpc : pc + 2 = pc' := by rfl) :
    ∃ h', Ext h h' ∧ Ar Z h' h.size (newarray.typeOf aty) (List.replicate n.toNatClampNeg (defaultValue (newarray.typeOf aty))) ∧ Hr x b Z EL (K + 1) (S + cap) h' (h.size :: sf) pc' Ls (.ref h.size :: st) := by
  subst hpc
  refine H.alloc hc hl (P := fun h' => Ar Z h' h.size (newarray.typeOf aty) (List.replicate n.toNatClampNeg (defaultValue (newarray.typeOf aty)))) (fun h' q => q.lt) fun T locs cells slots vm0 X eT hZ hown B hc' hl' => ?_
  obtain ⟨T', h', cA, X', e', E, A, st1⟩ := newP X B.2.1 hZ w eT (g := mkF x.m pc Ls (.int n :: st)) rfl (hb B.2.2.1 hd) rfl hn hcap hb8 hc' hl'
  exact ⟨T', h', X', e', E, Ar.of_new A hn, st1⟩
/-! ### Strings -/
abbrev ST : String := "java/lang/String"
/-- a Latin-1 String: its value array lies at t and holds the bytes bs -/
def Str (Z : State) (h : Heap) (a t : Addr) (bs : List Int32) : Prop := Exa Z h a ST ∧ Fld Z h a ST "coder" "B" (.int 0) ∧ Fld Z h a ST "value" "[B" (.ref t) ∧ Ar Z h t .byte (bs.map Value.int)
variable {t : Addr} {bs : List Int32}
theorem Str.ext (F : Str Z h a t bs) (E : Ext h h') : Str Z h' a t bs := ⟨F.1.ext E, F.2.1.ext E, F.2.2.1.ext E, F.2.2.2.ext E⟩
theorem Str.keep (F : Str Z h a t bs) (K : Keep h h' ws) (q : a ∉ ws) (q' : t ∉ ws) : Str Z h' a t bs := ⟨F.1.keep K, F.2.1.keep K q, F.2.2.1.keep K q, F.2.2.2.keep K q'⟩
theorem Str.other (F : Str Z h a t bs) (W : Wr h h' d sl v) (q : a ≠ d) (q' : t ≠ d) : Str Z h' a t bs := ⟨F.1.wr W, F.2.1.other W (Or.inl q), F.2.2.1.other W (Or.inl q), F.2.2.2.other W q'⟩
theorem Str.lt (F : Str Z h a t bs) : h.size > a := F.1.lt
theorem Str.lt' (F : Str Z h a t bs) : h.size > t := F.2.2.2.lt
theorem Str.len (F : Str Z h a t bs) : bs.length < 2147483648 := by have := F.2.2.2.len; simpa using this
/-- ldc of a String constant, its text read -/
theorem Hr.ldcS {index n : Nat} {text : String} {z : Int32} (H : Hr x b Z EL K S h sf pc Ls st) (w : (Jvm.Cond.stringLink b.y.cls index text).before a0 Z = true) (wS : ∀ d ∈ Bundle.stringAtoms, d.before a0 Z = true) (hEL : EW Z a0 EL) (hmem : (b.y.cls, index) ∈ EL)
    (ht : (∀ c ∈ text.toList, c.toNat < 256) ∧ text.toList.map (fun c => Jvm.Lit.byteI c.toNat.toUInt16) = bs) (hz : ¬ z < 0) (hl : z.toNatClampNeg = bs.length) (hd : decode b.bytes pc = .ok (.ldc index, 2)) (hn : 4 * text.toList.length ≤ n) (hbig : n ≤ 536870912)
    (hnar : x.nar = false) (hc : K + 2 ≤ b.R.cells := by decide) (hl' : S + (n + 4) ≤ b.R.slots := by decide) (hpc : pc + 2 = pc' := by rfl) :
    ∃ (a t : Addr) (h' : Heap), Ext h h' ∧ Str Z h' a t bs ∧ (∀ y ∈ sf, y ≠ a ∧ y ≠ t) ∧ Hr x b Z EL (K + 2) (S + (n + 4)) h' sf pc' Ls (.ref a :: st) := by
  subst hpc
  obtain ⟨B, T, locs, cells, slots, vm0, k0, ⟨X, h1, h2, h3, h4, h5, h6, h7, h8, h9, h10, h11, h12, h13, h14⟩, k⟩ := H
  obtain ⟨a, T', h', k1, b', kc, X', e', E, hS, hk, hW, hf, g1, g2, g3, g4, g5, g6, hC, -, hsafe, st1⟩ := ldcCH X B.2.1 h7 h8 w wS h3 h5 h6 hEL hmem h9.1 (vs := bs.map Value.int) ⟨ht.1, by rw [← ht.2]; simp⟩ hz (by simpa using hl) (g := mkF x.m pc Ls st) rfl (hb B.2.2.1 hd) hn hbig (by omega) (by omega)
  have hm : ∀ y ∈ sf, Mine x Z EL T'.vm h' y := fun y hy => by
    obtain ⟨y1, y2, y3, y4⟩ := h12 y hy
    exact ⟨y1, y2, Nat.lt_of_lt_of_le y3 E.1, hC.safe y3 y4⟩
  refine ⟨a, b', h', E, ⟨g1, g2, g3, Ar.of_arv g4 (by simpa using hl)⟩, fun y hy => hsafe y (hm y hy).2.2.2, B, T', locs, _, _, T'.vm, k1, ⟨X', by omega, by omega, e', h4, hS, hk, hW, hf, h9.trans hC, h10.ext E, Ext.tr h11 E, hm, fun hn => ?_, fun hk => ?_⟩, fun t q => k t (st1 t q)⟩
  · rw [hnar] at hn; cases hn
  · have hal : vm0.Alike T'.vm := h7.alike.symm.trans hW.alike
    exact ⟨Vm.MethodsKnown.alikeC hal (h14 hk).1, Vm.FramesKnown.alikeC hal (h14 hk).2⟩
end Layer3
end Jvm.Pilot.@@N@@
namespace Jvm.Pilot.@@N@@
open Jvm Jvm.ClassFile Sem Op Lib Bundle Jvm.Free Jvm.Stand Jvm.LawKit Jvm.RoadKit
section Layer5
variable {x : Cx} {b : Bx} {Z : State} {EL : List (String × Nat)} {K S : Nat} {h h' : Heap} {sf : List Addr} {pc pc' : Nat} {Ls Ls' : Array Slot} {st st' : List Value} {a0 : Array Value} {a d : Addr}
/-- a step of the library that writes one cell of the walk's, as often as it likes -/
theorem Hr.keepW {P : Heap → Prop} (H : Hr x b Z EL K S h sf pc Ls st) (ha : d ∈ sf)
    (f : ∀ (T : State) (locs : List Loc) (cells slots : Nat) (vm0 : Vm), Stand x.p x.l x.e b.R (x.s.setVm vm0) x.m x.args x.below x.meth x.c T locs cells slots → T.heap = h → Z.Warmed39 (x.s.setVm vm0).vm → (x.s.setVm vm0).vm.findClass b.y.cls = some x.m.cls → Bs x b Z EL → Fr Z.heap.size locs → Z.heap.size ≤ d →
      ∃ T' h' L, Stand x.p x.l x.e b.R (x.s.setVm vm0) x.m x.args x.below x.meth x.c T' L cells slots ∧ T'.heap = h' ∧ Fr Z.heap.size L ∧ Keep h h' [d] ∧ P h' ∧ ∀ target, Steps x.p.tables x.e x.below (T'.setTop (mkF x.m pc' Ls' st')) target → Steps x.p.tables x.e x.below (T.setTop (mkF x.m pc Ls st)) target) :
    ∃ h', Keep h h' [d] ∧ P h' ∧ Hr x b Z EL K S h' sf pc' Ls' st' := by
  obtain ⟨B, T, locs, cells, slots, vm0, k0, ⟨X, h1, h2, h3, h4, h5, h6, h7, h8, h9, h10, h11, h12, h13, h14⟩, k⟩ := H
  have hm := h12 d ha
  obtain ⟨T', h', L, X', e', N, W, hp, st1⟩ := f T locs cells slots vm0 X h3 h7 h8 B h4 hm.2.1
  have hs : ∀ z ∈ [d], Safe Z EL vm0 h z := fun z hz => by cases List.mem_singleton.mp hz; exact hm.2.2.2
  refine ⟨h', W, hp, B, T', L, cells, slots, vm0, k0, ⟨X', h1, h2, e', N, h5, Nat.le_trans h6 W.1, h7, h8, h9.trans (CHr.keep W hs h9.1), h10.trans W (fun z hz => by cases List.mem_singleton.mp hz; exact hm.1), Ext.ofKeep h11 W (allS hm.2.1 all0), fun y hy => ?_, h13, h14⟩, fun t q => k t (st1 t q)⟩
  obtain ⟨y1, y2, y3, y4⟩ := h12 y hy
  exact ⟨y1, y2, Nat.lt_of_lt_of_le y3 W.1, Safe.keep W hs h9.1 y4⟩
theorem Ar.arv {ty : FieldType} {vs : List Value} {dv : Value} (F : Ar Z h a ty vs) (hf : ∀ v ∈ vs, fits ty v = true) : ∃ k, Arv Z h a k ty (Int32.ofNat vs.length) vs dv := by
  obtain ⟨c, A, r1, r2⟩ := F
  have hs : c.slots.size = vs.length := by rw [← r1, Array.length_toList]
  refine ⟨c.cls, c, A, rfl, by rw [hs]; exact (clamp_of rfl (by omega)).symm, by rw [Int32.lt_iff_toInt_lt, toInt_of rfl (by omega)]; simp, fun i hi => ?_, fun i hi => ?_⟩
  · rw [← Array.getElem?_toList, r1, List.getElem?_eq_getElem (by omega)]; simp [List.getD, show i < vs.length by omega]
  · have hi' : i < vs.length := by omega
    simp [List.getD, hi']; exact hf _ (List.getElem_mem hi')
theorem nn32 {n : Nat} (h : n < 2147483648) : ¬ Int32.ofNat n < 0 := by rw [Int32.lt_iff_toInt_lt, toInt_of rfl (by omega)]; simp
/-- System.arraycopy between arrays of one plain kind -/
theorem Hr.arraycopy {index i j n : Nat} {ty : FieldType} {vs ws : List Value} (H : Hr x b Z EL K S h sf pc Ls (.int (Int32.ofNat n) :: .int (Int32.ofNat j) :: .ref d :: .int (Int32.ofNat i) :: .ref a :: st)) (hds : d ∈ sf)
    (w1 : (Jvm.Cond.methodLink b.y.cls index Jvm.Stand.acN).before a0 Z = true) (w2 : (Jvm.Cond.native Jvm.Stand.acN).before a0 Z = true) (w3 : (Jvm.Cond.static Jvm.Stand.acN).before a0 Z = true) (w4 : (Jvm.Cond.initialized "java/lang/System").before a0 Z = true)
    (A : Ar Z h a ty vs) (D : Ar Z h d ty ws) (hty : refKind ty = false) (hfa : ∀ v ∈ vs, fits ty v = true) (hfd : ∀ v ∈ ws, fits ty v = true) (h1 : i + n ≤ vs.length) (h2 : j + n ≤ ws.length) (hd : decode b.bytes pc = .ok (.invokestatic index, 3))
    (hf : 1 ≤ b.R.frames := by decide) {Wr : Nat} (hW : (st.map fun v => v.category).sum = Wr := by rfl) (hl : Wr + 18 ≤ b.R.locals := by decide) (hLs : Ls.size = b.maxL := by rfl) (hpc : pc + 3 = pc' := by rfl) :
    ∃ h', Keep h h' [d] ∧ Ar Z h' d ty (ws.take j ++ (vs.drop i).take n ++ ws.drop (j + n)) ∧ Hr x b Z EL K S h' sf pc' Ls st := by
  subst hpc hW
  have la := A.len
  have ld := D.len
  obtain ⟨k1, A1⟩ := A.arv (dv := .int 0) hfa
  obtain ⟨k2, D1⟩ := D.arv (dv := .int 0) hfd
  have ci := clamp_of (n := Int32.ofNat i) rfl (show i < 2 ^ 31 by omega)
  have cj := clamp_of (n := Int32.ofNat j) rfl (show j < 2 ^ 31 by omega)
  have cn := clamp_of (n := Int32.ofNat n) rfl (show n < 2 ^ 31 by omega)
  have ca := clamp_of (n := Int32.ofNat vs.length) rfl (show vs.length < 2 ^ 31 by omega)
  have cd := clamp_of (n := Int32.ofNat ws.length) rfl (show ws.length < 2 ^ 31 by omega)
  have hus : (List.range n).map (fun q => vs.getD (i + q) (.int 0)) = (vs.drop i).take n := by
    apply List.ext_getElem
    · simp; omega
    · intro q q1 q2
      simp at q1 q2
      simp [List.getD, show i + q < vs.length by omega]
  refine H.keepW hds (P := fun h' => Ar Z h' d ty (ws.take j ++ (vs.drop i).take n ++ ws.drop (j + n))) fun T locs cells slots vm0 X eT hZ hown B N ge => ?_
  obtain ⟨T', h', L, X', e', N', W, F', st1⟩ := cpA X B.2.1 hZ hown w1 w2 w3 w4 eT A1 D1 (us := (vs.drop i).take n) (Or.inl ⟨rfl, hty⟩) (nn32 (by omega)) (nn32 (by omega)) (nn32 (by omega)) (by rw [ci, cn, ca]; exact h1) (by rw [cj, cn, cd]; exact h2) (by rw [ci, cn]; exact hus.symm) (by rw [cj, cn]; exact h2) N ge
    (g := mkF x.m pc Ls (.int (Int32.ofNat n) :: .int (Int32.ofNat j) :: .ref d :: .int (Int32.ofNat i) :: .ref a :: st)) rfl (hLs.trans B.2.2.2.1.symm) rfl (hb B.2.2.1 hd) hf (W := (st.map fun v => v.category).sum) (by show 2 * 0 + _ ≤ _; omega) (by show _ + (_ + 11) ≤ _; exact hl)
  rw [cj, cn] at F'
  refine ⟨T', h', L, X', e', N', W, Ar.of_arv F' (by rw [cd]; simp; omega), st1⟩
/-- a private method of the receiver's class (or above it), by invokevirtual -/
theorem Hr.callP {y y' : MethodName} {bytes : ByteArray} {maxL : Nat} {ret : Option FieldType} {rm : Room} {as' : Array Value} {sf' : List Addr} {Q : Option Value → Heap → List Addr → Prop} {index : Nat} {cls cls' : String} {argsL rest : List Value} {ps : List FieldType} {rt : Option FieldType}
    (H : Hr x b Z EL K S h sf pc Ls st) (C : Ct x.l Z EL y bytes maxL ret rm as' h sf' x.nar x.kn Q) (sub : ∀ a ∈ sf', a ∈ sf) (E : Exa Z h a cls)
    (w1 : (Jvm.Cond.methodLink b.y.cls index y).before a0 Z = true) (wi : (Jvm.Cond.instanceMethod y).before a0 Z = true) (ws : (Jvm.Cond.selects cls' y' y').before a0 Z = true) (wp : (Jvm.Cond.privateMethod y).before a0 Z = true) (w3 : (Jvm.Cond.initialized y.cls).before a0 Z = true) (w4 : (Jvm.Cond.code y bytes maxL ret).before a0 Z = true)
    (hd : decode b.bytes pc = .ok (.invokevirtual index, 3)) (hp : parseMethodDescriptor y.desc = some ⟨ps, rt⟩) (hst : st = argsL.reverse ++ .ref a :: rest) (hyc : y'.cls = y.cls := by rfl) (has : (Value.ref a :: argsL).toArray = as' := by rfl) (hl2 : argsL.length = ps.length := by rfl) (hy : y.cls ≠ "java/lang/invoke/MethodHandle" ∧ y.cls ≠ "java/lang/invoke/VarHandle" := by decide)
    (hf : rm.frames + 1 ≤ b.R.frames := by decide) {Wr : Nat} (hW : (rest.map fun v => v.category).sum = Wr := by rfl) (hl : Wr + (maxL + 11) + rm.locals ≤ b.R.locals := by decide) (hc : K + rm.cells ≤ b.R.cells := by decide) (hs : S + rm.slots ≤ b.R.slots := by decide) (hLs : Ls.size = b.maxL := by rfl) (hpc : pc + 3 = pc' := by rfl) :
    ∃ (v : Option Value) (h' : Heap) (sn : List Addr), Q v h' sn ∧ Keep h h' sf' ∧ Hr x b Z EL (K + rm.cells) (S + rm.slots) h' (sn ++ sf) pc' Ls (v.toList ++ rest) := by
  subst has hpc hW
  obtain ⟨B, T, locs, cells, slots, vm0, k0, X, k⟩ := H
  have X2 := X
  obtain ⟨X1, h1, h2, h3, h4, h5, h6, h7, h8, h9, h10, h11, h12, h13, h14⟩ := X2
  obtain ⟨cq, q1, q2⟩ := E.cell
  obtain ⟨mk, methM, hnamed, hmethM, hstM, habM⟩ := Cond.instanceMethod_spec (mv (args := x.args) (s := x.s.setVm vm0) h7 wi)
  obtain ⟨methM', cM, hmethM', -, -, -, -, -, -, hsigM⟩ := Cond.code_spec hnamed (mv (args := x.args) (s := x.s.setVm vm0) h7 w4)
  cases hmethM.symm.trans hmethM'
  obtain ⟨c2, r2, m2, -, -, q3, -, kP, hkP, hkPi⟩ := Cond.selects_spec (mv (args := x.args) (s := x.s.setVm vm0) h7 ws)
  have hcn := findClass_of_methodNamed hnamed
  have hcn' := findClass_of_methodNamed q3
  rw [hyc, hcn] at hcn'
  have e : mk.cls = m2.cls := Option.some.inj hcn'
  rw [← e] at hkP
  have hselP : selectMethod x.e.platform (x.s.setVm vm0).vm cq.cls mk = .method mk := selectMethod_private hmethM (Cond.privateMethod_at (mvP (s := x.s.setVm vm0) h7 wp (args := #[])) mk methM hnamed hmethM)
  obtain ⟨vm₁, X₁, hstep₁⟩ := X1.invokevirtual B.2.1 h8 (mvT h7 w1) hnamed hmethM hstM hkP hkPi hy (a := a) (cell := cq) (by rw [h3]; exact q1) q2 hselP hmethM habM hkP hkPi (g := mkF x.m pc Ls st) rfl (argsL := argsL) (rest := rest) (lenOf hp hl2 _ hsigM) hst (hb B.2.2.1 hd)
  have hW₁ : (x.s.setVm vm0).WarmedH vm₁ := X₁.warmed
  obtain ⟨v, P, X', hS, hgr, hp', hsteps⟩ := (C.backS (p := x.p) (e := x.e) (R := b.R) (below := x.below) (s := x.s) (args := x.args) (len := 3) (W := (rest.map fun v => v.category).sum) h7 w4 w3 hf hl B.1.choose_spec h9.1 h11 (fun z hz => (h12 z (sub z hz)).2) h14) x.m x.meth x.c ⟨T.setVm vm₁, locs, cells, slots⟩ (mkF x.m pc Ls rest) (.invokevirtual index) mk (.ref a :: argsL).toArray X₁ rfl (hLs.trans B.2.2.2.1.symm) (hb B.2.2.1 hd) (by show 2 * 0 + (rest.map fun v => v.category).sum ≤ (rest.map fun v => v.category).sum; omega) (X₁.named hnamed) ⟨rfl, h3, by show cells + _ ≤ _; omega, by show slots + _ ≤ _; omega⟩
  obtain ⟨h', sn, r1, r2, r3⟩ := Hr.after (rm := rm) (sf' := sf') (Q := Q) (pc' := pc + 3) (st' := v.toList ++ rest) B X k sub X' hS hgr hp' ((hstep₁ _ fun acts => by rw [doInvoke_state]; exact Steps.refl _).trans hsteps)
  exact ⟨v, h', sn, r1, r2, r3⟩
theorem same_own {s : State} {args : Array Value} {y y' : MethodName} {C : String} (wd : (Jvm.Cond.instanceMethod y).before args s = true) (ws : (Jvm.Cond.selects C y' y').before args s = true) (hc : y'.cls = y.cls) (hy : y.cls ≠ "java/lang/invoke/MethodHandle" ∧ y.cls ≠ "java/lang/invoke/VarHandle") : (Jvm.Cond.sameMethod y.cls y.cls y.name y.desc).before args s = true := by
  obtain ⟨mk, methM, hnamed, hmethM, hstM, habM⟩ := Cond.instanceMethod_spec wd
  obtain ⟨c2, r2, m2, -, -, q3, -, kP, hkP, hkPi⟩ := Cond.selects_spec ws
  have hcn := findClass_of_methodNamed hnamed
  have hcn' := findClass_of_methodNamed q3
  rw [hc, hcn] at hcn'
  have e : mk.cls = m2.cls := Option.some.inj hcn'
  rw [← e] at hkP
  have hf := State.methodFound?_of_named hnamed hy
  have hn : s.methodNamed? ⟨y.cls, y.name, y.desc⟩ = some mk := hnamed
  simp [Cond.before, Cond.holds, Cond.value, hcn, hf, hn, hkP, hkPi]
/-- super.m(..) -/
theorem Hr.callSup {y y' : MethodName} {bytes : ByteArray} {maxL : Nat} {ret : Option FieldType} {rm : Room} {as' : Array Value} {sf' : List Addr} {Q : Option Value → Heap → List Addr → Prop} {index : Nat} {cls cls' : String} {argsL rest : List Value} {ps : List FieldType} {rt : Option FieldType}
    (H : Hr x b Z EL K S h sf pc Ls st) (C : Ct x.l Z EL y bytes maxL ret rm as' h sf' x.nar x.kn Q) (sub : ∀ a ∈ sf', a ∈ sf) (E : Exa Z h a cls)
    (w1 : (Jvm.Cond.methodLink b.y.cls index y).before a0 Z = true) (wi : (Jvm.Cond.instanceMethod y).before a0 Z = true) (wf : (Jvm.Cond.selects cls' y' y').before a0 Z = true) (wu : (Jvm.Cond.superclass b.y.cls y.cls).before a0 Z = true) (w3 : (Jvm.Cond.initialized y.cls).before a0 Z = true) (w4 : (Jvm.Cond.code y bytes maxL ret).before a0 Z = true)
    (hd : decode b.bytes pc = .ok (.invokespecial index, 3)) (hp : parseMethodDescriptor y.desc = some ⟨ps, rt⟩) (hst : st = argsL.reverse ++ .ref a :: rest) (hc' : y'.cls = y.cls := by rfl) (has : (Value.ref a :: argsL).toArray = as' := by rfl) (hl2 : argsL.length = ps.length := by rfl) (hn : y.name ≠ "<init>" := by decide) (hy : y.cls ≠ "java/lang/invoke/MethodHandle" ∧ y.cls ≠ "java/lang/invoke/VarHandle" := by decide)
    (hf : rm.frames + 1 ≤ b.R.frames := by decide) {Wr : Nat} (hW : (rest.map fun v => v.category).sum = Wr := by rfl) (hl : Wr + (maxL + 11) + rm.locals ≤ b.R.locals := by decide) (hc : K + rm.cells ≤ b.R.cells := by decide) (hs : S + rm.slots ≤ b.R.slots := by decide) (hLs : Ls.size = b.maxL := by rfl) (hpc : pc + 3 = pc' := by rfl) :
    ∃ (v : Option Value) (h' : Heap) (sn : List Addr), Q v h' sn ∧ Keep h h' sf' ∧ Hr x b Z EL (K + rm.cells) (S + rm.slots) h' (sn ++ sf) pc' Ls (v.toList ++ rest) := by
  subst has hpc hW
  obtain ⟨B, T, locs, cells, slots, vm0, k0, X, k⟩ := H
  have X2 := X
  obtain ⟨X1, h1, h2, h3, h4, h5, h6, h7, h8, h9, h10, h11, h12, h13, h14⟩ := X2
  obtain ⟨v, vm₁, P, -, X', hS, hgr, hp', hsteps⟩ := superBackS X1 B.2.1 h7 (K := cls) h8 w1 (same_own wi wf hc' hy) wi wu hn
    (C.backS (W := (rest.map fun v => v.category).sum) h7 w4 w3 hf hl B.1.choose_spec h9.1 h11 (fun z hz => (h12 z (sub z hz)).2) h14) h3 (Ins.self E)
    (g := mkF x.m pc Ls st) rfl (hLs.trans B.2.2.2.1.symm) w4 (argsL := argsL) (rest := rest) (lenOf hp hl2) hst (by show 2 * 0 + _ ≤ _; omega) (hb B.2.2.1 hd) (fun vm₁ _ => ⟨rfl, h3, by show cells + _ ≤ _; omega, by show slots + _ ≤ _; omega⟩)
  obtain ⟨h', sn, r1, r2, r3⟩ := Hr.after (rm := rm) (sf' := sf') (Q := Q) B X k sub X' hS hgr hp' hsteps
  exact ⟨v, h', sn, r1, r2, r3⟩
end Layer5
end Jvm.Pilot.@@N@@
namespace Jvm.Pilot.@@N@@
open Jvm Jvm.ClassFile Sem Op Lib Bundle Jvm.Free Jvm.Stand Jvm.LawKit Jvm.RoadKit
section Layer7
variable {x : Cx} {b : Bx} {Z : State} {EL : List (String × Nat)} {K S : Nat} {h h' : Heap} {sf : List Addr} {pc pc' : Nat} {Ls Ls' : Array Slot} {st st' : List Value} {a0 : Array Value} {a d : Addr} {ty ty' : FieldType} {vs us : List Value} {ws : List Addr} {sl : Nat} {v : Value} {C : String}
/-- newarray, with the new array's class -/
theorem Hr.newarrayE {aty : ArrayType} {n : Int32} {cap : Nat} {ad : String} (H : Hr x b Z EL K S h sf pc Ls (.int n :: st)) (w : (Jvm.Cond.arrayClass (newarray.typeOf aty)).before a0 Z = true) (hd : decode b.bytes pc = .ok (.newarray aty, 2)) (hn : ¬ n < 0) (hcap : n.toNatClampNeg ≤ cap) (hb8 : cap * 8 ≤ 536870912)
    (had : "[" ++ (newarray.typeOf aty).toString = ad) (hc : K + 1 ≤ b.R.cells := by decide) (hl : S + cap ≤ b.R.slots := by decide) (hpc : pc + 2 = pc' := by rfl) :
    ∃ h', Ext h h' ∧ (Ar Z h' h.size (newarray.typeOf aty) (List.replicate n.toNatClampNeg (defaultValue (newarray.typeOf aty))) ∧ Exa Z h' h.size ad) ∧ Hr x b Z EL (K + 1) (S + cap) h' (h.size :: sf) pc' Ls (.ref h.size :: st) := by
  subst hpc
  refine H.alloc hc hl (P := fun h' => Ar Z h' h.size (newarray.typeOf aty) (List.replicate n.toNatClampNeg (defaultValue (newarray.typeOf aty))) ∧ Exa Z h' h.size ad) (fun h' q => q.1.lt) fun T locs cells slots vm0 X eT hZ hown B hc' hl' => ?_
  obtain ⟨T', h', cA, X', e', E, A, F, st1⟩ := newPE X B.2.1 hZ w eT (g := mkF x.m pc Ls (.int n :: st)) rfl (hb B.2.2.1 hd) rfl hn hcap hb8 hc' hl' had
  exact ⟨T', h', X', e', E, ⟨Ar.of_new A hn, F⟩, st1⟩
/-- an array of references over the class C, and all that it holds -/
def Arf (Z : State) (h : Heap) (a : Addr) (C : String) (vs : List Value) : Prop := ∃ c : Cell, Arr Z h a c (.object C) ∧ c.slots.toList = vs ∧ vs.length < 2147483648 ∧ Ovr Z c.cls C
theorem Arf.ar (F : Arf Z h a C vs) : Ar Z h a (.object C) vs := by obtain ⟨c, A, r1, r2, -⟩ := F; exact ⟨c, A, r1, r2⟩
theorem Arf.lt (F : Arf Z h a C vs) : h.size > a := F.ar.lt
theorem Arf.ext (F : Arf Z h a C vs) (E : Ext h h') : Arf Z h' a C vs := by obtain ⟨c, A, r⟩ := F; exact ⟨c, A.ext E, r⟩
theorem Arf.keep (F : Arf Z h a C vs) (K : Keep h h' ws) (q : a ∉ ws) : Arf Z h' a C vs := by obtain ⟨c, A, r⟩ := F; exact ⟨c, ⟨K.2.1 a c A.1 q, A.2⟩, r⟩
theorem Arf.other (F : Arf Z h a C vs) (W : Wr h h' d sl v) (q : a ≠ d) : Arf Z h' a C vs := by obtain ⟨c, A, r⟩ := F; exact ⟨c, A.other W q, r⟩
theorem Arf.set (F : Arf Z h a C vs) (W : Wr h h' a sl v) : Arf Z h' a C (vs.set sl v) := by
  obtain ⟨c, A, r1, r2, r3⟩ := F
  exact ⟨_, A.same W, by subst r1; simp [Cell.setSlot], by simpa using r2, r3⟩
theorem Ar.neTy (F : Ar Z h a ty vs) (G : Ar Z h d ty' us) (q : ty ≠ ty') : a ≠ d := fun e => by
  subst e
  obtain ⟨c, A, -⟩ := F
  obtain ⟨c', A', -⟩ := G
  cases A.1.symm.trans A'.1
  obtain ⟨-, k, k1, c1, k2⟩ := A.2.1
  obtain ⟨-, k', k1', c1', k2'⟩ := A'.2.1
  cases k1.symm.trans k1'
  rw [k2] at k2'
  cases k2'
  exact q rfl
/-- anewarray of a class type -/
theorem Hr.anewarray {index cap : Nat} {n : Int32} (H : Hr x b Z EL K S h sf pc Ls (.int n :: st)) (w1 : (Jvm.Cond.classLink b.y.cls index C).before a0 Z = true) (w2 : (Jvm.Cond.arrayOver (.object C)).before a0 Z = true) (hd : decode b.bytes pc = .ok (.anewarray index, 3)) (hn : ¬ n < 0) (hcap : n.toNatClampNeg ≤ cap) (hb8 : cap * 8 ≤ 536870912)
    (hc : K + 1 ≤ b.R.cells := by decide) (hl : S + cap ≤ b.R.slots := by decide) (hpc : pc + 3 = pc' := by rfl) :
    ∃ h', Ext h h' ∧ Arf Z h' h.size C (List.replicate n.toNatClampNeg .null) ∧ Hr x b Z EL (K + 1) (S + cap) h' (h.size :: sf) pc' Ls (.ref h.size :: st) := by
  subst hpc
  refine H.alloc hc hl (P := fun h' => Arf Z h' h.size C (List.replicate n.toNatClampNeg .null)) (fun h' q => q.lt) fun T locs cells slots vm0 X eT hZ hown B hc' hl' => ?_
  obtain ⟨T', h', cA, X', e', E, A, O, st1⟩ := newR X B.2.1 hZ hown w1 w2 eT (g := mkF x.m pc Ls (.int n :: st)) rfl (hb B.2.2.1 hd) rfl hn hcap hb8 hc' hl'
  exact ⟨T', h', X', e', E, ⟨_, A, by simp [newA, defaultValue], by have := (back32 hn).2; simpa using this, O⟩, st1⟩
theorem Hr.aastore {i : Nat} {j : Int32} {y : Addr} (H : Hr x b Z EL K S h sf pc Ls (.ref y :: .int j :: .ref a :: st)) (ha : a ∈ sf) (A : Arf Z h a C vs) (I : Ins Z h y C true) (hd : decode b.bytes pc = .ok (.aastore, 1)) (hj : j = Int32.ofNat i) (hi : i < vs.length) (hpc : pc + 1 = pc' := by rfl) :
    ∃ h', Wr h h' a i (.ref y) ∧ Hr x b Z EL K S h' sf pc' Ls st := by
  subst hpc
  obtain ⟨c, A1, r1, r2, O⟩ := A
  obtain ⟨q1, q2, q3⟩ := Ar.at r1 r2 hj (List.getElem?_eq_getElem hi)
  rw [← q2]
  exact H.write ha fun T locs cells slots vm0 X eT hZ hown B => stR X B.2.1 hZ eT A1 q1 rfl (Sto.of A1 O I) (g := mkF x.m pc Ls (.ref y :: .int j :: .ref a :: st)) rfl rfl (hb B.2.2.1 hd)
/-- putfield through a subclass's name -/
theorem Hr.putFvia {index kk : Nat} {R0 O n d C : String} {ty : FieldType} {a : Addr} {v old : Value} (H : Hr x b Z EL K S h sf pc Ls (v :: .ref a :: st)) (ha : a ∈ sf) (w : (Jvm.Cond.fieldLink b.y.cls index R0 n d).before a0 Z = true) (via : Via Z R0 O n d) (F : Fld Z h a O n d old) (E : Exa Z h a C)
    (L : (Jvm.Cond.lays C O n d).before a0 Z = true) (wi : (Jvm.Cond.instantiable C kk).before a0 Z = true) (hd : decode b.bytes pc = .ok (.putfield index, 3))
    (hty : parseFieldDescriptor d = some ty := by decide +kernel) (hn : narrow ty v = v := by rfl) (hf : fits ty v = true := by rfl) (hpc : pc + 3 = pc' := by rfl) :
    ∃ h', Wr h h' a (Jvm.RoadKit.slotOf Z O n d) v ∧ Hr x b Z EL K S h' sf pc' Ls st := by
  subst hpc
  exact H.write ha fun T locs cells slots vm0 X eT hZ hown B => Jvm.RoadKit.putF X B.2.1 hZ hown (host := "") (Or.inl w) via eT F E (Or.inl L) wi hty hn hf (g := mkF x.m pc Ls (v :: .ref a :: st)) rfl rfl (hb B.2.2.1 hd)
theorem Hr.ldcWI {index : Nat} {v : Int32} (H : Hr x b Z EL K S h sf pc Ls st) (w : (Jvm.Cond.constant b.y.cls index v).before a0 Z = true) (hd : decode b.bytes pc = .ok (.ldc_w index, 3)) (hpc : pc + 3 = pc' := by rfl) : Hr x b Z EL K S h sf pc' Ls (.int v :: st) := by
  subst hpc
  exact H.same fun T locs cells slots vm0 X eT hZ hown B => ⟨T, X, eT, fun t q => Jvm.Stand.ldcWI X B.2.1 hown (mvT hZ w) (g := mkF x.m pc Ls st) rfl (hb B.2.2.1 hd) q⟩
theorem lsw {tb : Tables} [Ours tb] {e : Env} {below : List Frame} {T target : State} {m : MethodId} {c : Code} {g : JFrame} (h : At T m c below) (hx : tb.exec = Jvm.exec) (hg : g.method = m) {dflt : Int} {ps : Array (Int × Int)} {len : Nat} {o : Int} {pc0 pc' : Nat} (hpc : g.pc = pc0) (hd : decode c.code g.pc = .ok (.lookupswitch dflt ps, len)) {i : Int32} {rest : List Value} (hs : g.stack = .int i :: rest)
    (hoff : lookupswitch.offset ps.toList dflt i.toInt = o) (ho : 0 ≤ (pc0 : Int) + o) (hp : ((pc0 : Int) + o).toNat = pc') (hok : (ps.toList.zip ps.toList.tail).all (fun q => decide (q.1.1 < q.2.1)) = true)
    (hr : Steps tb e below (T.setTop { g with pc := pc', stack := rest }) target) : Steps tb e below (T.setTop g) target := by
  subst hg hpc hp hoff
  jvm_step h [h.top, hx, hd, hs, ho, lookupswitch.wp_chain]
  exact ⟨fun a b a1 b1 q => by have := List.all_eq_true.mp hok _ q; simpa using this, hr⟩
theorem Hr.lsw {dflt : Int} {ps : Array (Int × Int)} {len : Nat} {o : Int} {u : Int32} (H : Hr x b Z EL K S h sf pc Ls (.int u :: st)) (hd : decode b.bytes pc = .ok (.lookupswitch dflt ps, len)) (hoff : lookupswitch.offset ps.toList dflt u.toInt = o) (hp : ((pc : Int) + o).toNat = pc' := by decide) (ho : 0 ≤ (pc : Int) + o := by decide) (hok : (ps.toList.zip ps.toList.tail).all (fun q => decide (q.1.1 < q.2.1)) = true := by decide) : Hr x b Z EL K S h sf pc' Ls st := by
  exact H.step fun T A hx hby t q => Jvm.Pilot.@@N@@.lsw A hx rfl (pc0 := pc) rfl (hb hby hd) rfl hoff ho hp hok q
theorem Hr.tsw {dflt low high : Int} {offs : Array Int} {len : Nat} {o : Int} {u : Int32} (H : Hr x b Z EL K S h sf pc Ls (.int u :: st)) (hd : decode b.bytes pc = .ok (.tableswitch dflt low high offs, len)) (hin : ¬ (u.toInt < low ∨ u.toInt > high)) (hoff : offs[(u.toInt - low).toNat]? = some o) (hp : ((pc : Int) + o).toNat = pc' := by decide) (ho : 0 ≤ (pc : Int) + o := by decide) : Hr x b Z EL K S h sf pc' Ls st := by
  exact H.step fun T A hx hby t q => XS.tswIn A hx rfl (pc0 := pc) rfl (hb hby hd) rfl hin hoff ho hp q
/-- invokeinterface -/
theorem Hr.callF {y z : MethodName} {bytes : ByteArray} {maxL : Nat} {ret : Option FieldType} {rm : Room} {as' : Array Value} {sf' : List Addr} {Q : Option Value → Heap → List Addr → Prop} {index count : Nat} {a : Addr} {cls : String} {argsL rest : List Value} {ps : List FieldType} {rt : Option FieldType}
    (H : Hr x b Z EL K S h sf pc Ls st) (C : Ct x.l Z EL z bytes maxL ret rm as' h sf' x.nar x.kn Q) (sub : ∀ a ∈ sf', a ∈ sf) (E : Exa Z h a cls)
    (w1 : (Jvm.Cond.methodLink b.y.cls index y).before a0 Z = true) (w2 : (Jvm.Cond.declares y).before a0 Z = true) (wf : (Jvm.Cond.interfaceMethod y.cls y.cls y.name y.desc).before a0 Z = true) (ws : (Jvm.Cond.selects cls y z).before a0 Z = true) (wi : (Jvm.Cond.instanceMethod z).before a0 Z = true) (wp : (Jvm.Cond.publicMethod z).before a0 Z = true) (wu : (Jvm.Cond.unhidden cls y.name y.desc).before a0 Z = true) (wc : (Jvm.Cond.castable cls y.cls).before a0 Z = true)
    (w3 : (Jvm.Cond.initialized z.cls).before a0 Z = true) (w4 : (Jvm.Cond.code z bytes maxL ret).before a0 Z = true)
    (hd : decode b.bytes pc = .ok (.invokeinterface index count, 5)) (hp : parseMethodDescriptor y.desc = some ⟨ps, rt⟩) (hst : st = argsL.reverse ++ .ref a :: rest) (okf : ((Jvm.Cond.interfaceMethod y.cls y.cls y.name y.desc).onTables && (Jvm.Cond.interfaceMethod y.cls y.cls y.name y.desc).keepsFace) = true := by first | rfl | decide) (has : (Value.ref a :: argsL).toArray = as' := by rfl) (hl2 : argsL.length = ps.length := by rfl) (hy : y.cls ≠ "java/lang/invoke/MethodHandle" ∧ y.cls ≠ "java/lang/invoke/VarHandle" := by decide)
    (hf : rm.frames + 1 ≤ b.R.frames := by decide) {Wr : Nat} (hW : (rest.map fun v => v.category).sum = Wr := by rfl) (hl : Wr + (maxL + 11) + rm.locals ≤ b.R.locals := by decide) (hc : K + rm.cells ≤ b.R.cells := by decide) (hs : S + rm.slots ≤ b.R.slots := by decide) (hLs : Ls.size = b.maxL := by rfl) (hpc : pc + 5 = pc' := by rfl) :
    ∃ (v : Option Value) (h' : Heap) (sn : List Addr), Q v h' sn ∧ Keep h h' sf' ∧ Hr x b Z EL (K + rm.cells) (S + rm.slots) h' (sn ++ sf) pc' Ls (v.toList ++ rest) := by
  subst has hpc hW
  obtain ⟨B, T, locs, cells, slots, vm0, k0, X, k⟩ := H
  have X2 := X
  obtain ⟨X1, h1, h2, h3, h4, h5, h6, h7, h8, h9, h10, h11, h12, h13, h14⟩ := X2
  obtain ⟨cB, kB, i1, i2, i3⟩ := isOf (s := x.s.setVm vm0) (T := T) h7 h3 E
  obtain ⟨v, vm₁, P, -, X', hS, hgr, hp', hsteps⟩ := X1.interfaceBackS B.2.1 (xi := y) (y := z) h8 (mvT h7 w1) (mvT h7 w2) (mvT h7 wf okf) (mvT h7 ws) (mvT h7 wi) (mvT h7 wp) (mvT h7 wu) (mvT h7 wc) hy
    (C.backS (W := (rest.map fun v => v.category).sum) h7 w4 w3 hf hl B.1.choose_spec h9.1 h11 (fun z hz => (h12 z (sub z hz)).2) h14) i1 i2 i3
    (g := mkF x.m pc Ls st) rfl (hLs.trans B.2.2.2.1.symm) (Steps.refl _) (argsL := argsL) (rest := rest) (lenOf hp hl2) hst (by show 2 * 0 + _ ≤ _; omega) (hb B.2.2.1 hd) (fun vm₁ _ => ⟨rfl, h3, by show cells + _ ≤ _; omega, by show slots + _ ≤ _; omega⟩)
  obtain ⟨h', sn, r1, r2, r3⟩ := Hr.after (rm := rm) (sf' := sf') (Q := Q) B X k sub X' hS hgr hp' hsteps
  exact ⟨v, h', sn, r1, r2, r3⟩
end Layer7
end Jvm.Pilot.@@N@@
namespace Jvm.Pilot.@@N@@
open Jvm Jvm.ClassFile Sem Op Lib Bundle Jvm.Free Jvm.Stand Jvm.LawKit Jvm.RoadKit Jvm.Pilot.@@N@@.Jvm.D
theorem w0 {a0 : Array Value} {Z : State} (hw : ∀ d ∈ tables_1, d.before a0 Z = true) : ((Jvm.Cond.methodLink "com/example/afterscore/afterscore/io/NameTableNamePinLaw" (7 : Nat) ({ cls := "java/lang/String", name := "valueOf", desc := "(C)Ljava/lang/String;" } : Jvm.MethodName)) : Jvm.Cond).before a0 Z = true := hw _ (List.mem_of_getElem? (i := 0) rfl)
theorem w1 {a0 : Array Value} {Z : State} (hw : ∀ d ∈ tables_1, d.before a0 Z = true) : ((Jvm.Cond.static ({ cls := "java/lang/String", name := "valueOf", desc := "(C)Ljava/lang/String;" } : Jvm.MethodName)) : Jvm.Cond).before a0 Z = true := hw _ (List.mem_of_getElem? (i := 1) rfl)
theorem w2 {a0 : Array Value} {Z : State} (hw : ∀ d ∈ tables_1, d.before a0 Z = true) : ((Jvm.Cond.initialized "java/lang/String") : Jvm.Cond).before a0 Z = true := hw _ (List.mem_of_getElem? (i := 2) rfl)
theorem w3 {a0 : Array Value} {Z : State} (hw : ∀ d ∈ tables_1, d.before a0 Z = true) : ((Jvm.Cond.code ({ cls := "java/lang/String", name := "valueOf", desc := "(C)Ljava/lang/String;" } : Jvm.MethodName) jdk_42_method_139_code (1 : Nat) (Option.some (Jvm.ClassFile.FieldType.object "java/lang/String"))) : Jvm.Cond).before a0 Z = true := hw _ (List.mem_of_getElem? (i := 3) rfl)
theorem w4 {a0 : Array Value} {Z : State} (hw : ∀ d ∈ tables_1, d.before a0 Z = true) : ((Jvm.Cond.fieldLink "java/lang/String" (38 : Nat) "java/lang/String" "COMPACT_STRINGS" "Z") : Jvm.Cond).before a0 Z = true := hw _ (List.mem_of_getElem? (i := 4) rfl)
theorem w5 {a0 : Array Value} {Z : State} (hw : ∀ d ∈ tables_1, d.before a0 Z = true) : ((Jvm.Cond.methodLink "java/lang/String" (1015 : Nat) ({ cls := "java/lang/StringLatin1", name := "canEncode", desc := "(C)Z" } : Jvm.MethodName)) : Jvm.Cond).before a0 Z = true := hw _ (List.mem_of_getElem? (i := 5) rfl)
theorem w6 {a0 : Array Value} {Z : State} (hw : ∀ d ∈ tables_1, d.before a0 Z = true) : ((Jvm.Cond.static ({ cls := "java/lang/StringLatin1", name := "canEncode", desc := "(C)Z" } : Jvm.MethodName)) : Jvm.Cond).before a0 Z = true := hw _ (List.mem_of_getElem? (i := 6) rfl)
theorem w7 {a0 : Array Value} {Z : State} (hw : ∀ d ∈ tables_1, d.before a0 Z = true) : ((Jvm.Cond.initialized "java/lang/StringLatin1") : Jvm.Cond).before a0 Z = true := hw _ (List.mem_of_getElem? (i := 7) rfl)
theorem w8 {a0 : Array Value} {Z : State} (hw : ∀ d ∈ tables_1, d.before a0 Z = true) : ((Jvm.Cond.code ({ cls := "java/lang/StringLatin1", name := "canEncode", desc := "(C)Z" } : Jvm.MethodName) jdk_43_method_3_code (1 : Nat) (Option.some Jvm.ClassFile.FieldType.boolean)) : Jvm.Cond).before a0 Z = true := hw _ (List.mem_of_getElem? (i := 8) rfl)
theorem w9 {a0 : Array Value} {Z : State} (hw : ∀ d ∈ tables_1, d.before a0 Z = true) : ((Jvm.Cond.classLink "java/lang/String" (10 : Nat) "java/lang/String") : Jvm.Cond).before a0 Z = true := hw _ (List.mem_of_getElem? (i := 9) rfl)
theorem w10 {a0 : Array Value} {Z : State} (hw : ∀ d ∈ tables_1, d.before a0 Z = true) : ((Jvm.Cond.instantiable "java/lang/String" (4 : Nat)) : Jvm.Cond).before a0 Z = true := hw _ (List.mem_of_getElem? (i := 10) rfl)
theorem w11 {a0 : Array Value} {Z : State} (hw : ∀ d ∈ tables_1, d.before a0 Z = true) : ((Jvm.Cond.methodLink "java/lang/String" (1018 : Nat) ({ cls := "java/lang/StringLatin1", name := "toBytes", desc := "(C)[B" } : Jvm.MethodName)) : Jvm.Cond).before a0 Z = true := hw _ (List.mem_of_getElem? (i := 11) rfl)
theorem w12 {a0 : Array Value} {Z : State} (hw : ∀ d ∈ tables_1, d.before a0 Z = true) : ((Jvm.Cond.static ({ cls := "java/lang/StringLatin1", name := "toBytes", desc := "(C)[B" } : Jvm.MethodName)) : Jvm.Cond).before a0 Z = true := hw _ (List.mem_of_getElem? (i := 12) rfl)
theorem w13 {a0 : Array Value} {Z : State} (hw : ∀ d ∈ tables_1, d.before a0 Z = true) : ((Jvm.Cond.code ({ cls := "java/lang/StringLatin1", name := "toBytes", desc := "(C)[B" } : Jvm.MethodName) jdk_43_method_46_code (1 : Nat) (Option.some (Jvm.ClassFile.FieldType.array Jvm.ClassFile.FieldType.byte))) : Jvm.Cond).before a0 Z = true := hw _ (List.mem_of_getElem? (i := 13) rfl)
theorem w14 {a0 : Array Value} {Z : State} (hw : ∀ d ∈ tables_1, d.before a0 Z = true) : ((Jvm.Cond.arrayClass Jvm.ClassFile.FieldType.byte) : Jvm.Cond).before a0 Z = true := hw _ (List.mem_of_getElem? (i := 14) rfl)
theorem w15 {a0 : Array Value} {Z : State} (hw : ∀ d ∈ tables_1, d.before a0 Z = true) : ((Jvm.Cond.methodLink "java/lang/String" (209 : Nat) ({ cls := "java/lang/String", name := "<init>", desc := "([BB)V" } : Jvm.MethodName)) : Jvm.Cond).before a0 Z = true := hw _ (List.mem_of_getElem? (i := 15) rfl)
theorem w16 {a0 : Array Value} {Z : State} (hw : ∀ d ∈ tables_1, d.before a0 Z = true) : ((Jvm.Cond.instanceMethod ({ cls := "java/lang/String", name := "<init>", desc := "([BB)V" } : Jvm.MethodName)) : Jvm.Cond).before a0 Z = true := hw _ (List.mem_of_getElem? (i := 16) rfl)
theorem w18 {a0 : Array Value} {Z : State} (hw : ∀ d ∈ tables_1, d.before a0 Z = true) : ((Jvm.Cond.code ({ cls := "java/lang/String", name := "<init>", desc := "([BB)V" } : Jvm.MethodName) jdk_42_method_151_code (3 : Nat) (Option.none : Option Jvm.ClassFile.FieldType)) : Jvm.Cond).before a0 Z = true := hw _ (List.mem_of_getElem? (i := 18) rfl)
theorem w19 {a0 : Array Value} {Z : State} (hw : ∀ d ∈ tables_1, d.before a0 Z = true) : ((Jvm.Cond.methodLink "java/lang/String" (1 : Nat) ({ cls := "java/lang/Object", name := "<init>", desc := "()V" } : Jvm.MethodName)) : Jvm.Cond).before a0 Z = true := hw _ (List.mem_of_getElem? (i := 19) rfl)
theorem w20 {a0 : Array Value} {Z : State} (hw : ∀ d ∈ tables_1, d.before a0 Z = true) : ((Jvm.Cond.instanceMethod ({ cls := "java/lang/Object", name := "<init>", desc := "()V" } : Jvm.MethodName)) : Jvm.Cond).before a0 Z = true := hw _ (List.mem_of_getElem? (i := 20) rfl)
theorem w21 {a0 : Array Value} {Z : State} (hw : ∀ d ∈ tables_1, d.before a0 Z = true) : ((Jvm.Cond.code ({ cls := "java/lang/Object", name := "<init>", desc := "()V" } : Jvm.MethodName) object_method_1_code (1 : Nat) (Option.none : Option Jvm.ClassFile.FieldType)) : Jvm.Cond).before a0 Z = true := hw _ (List.mem_of_getElem? (i := 21) rfl)
theorem w22 {a0 : Array Value} {Z : State} (hw : ∀ d ∈ tables_1, d.before a0 Z = true) : ((Jvm.Cond.fieldLink "java/lang/String" (9 : Nat) "java/lang/String" "value" "[B") : Jvm.Cond).before a0 Z = true := hw _ (List.mem_of_getElem? (i := 22) rfl)
theorem w23 {a0 : Array Value} {Z : State} (hw : ∀ d ∈ tables_1, d.before a0 Z = true) : ((Jvm.Cond.laysFinal "java/lang/String" "java/lang/String" "value" "[B") : Jvm.Cond).before a0 Z = true := hw _ (List.mem_of_getElem? (i := 23) rfl)
theorem w24 {a0 : Array Value} {Z : State} (hw : ∀ d ∈ tables_1, d.before a0 Z = true) : ((Jvm.Cond.fieldLink "java/lang/String" (15 : Nat) "java/lang/String" "coder" "B") : Jvm.Cond).before a0 Z = true := hw _ (List.mem_of_getElem? (i := 24) rfl)
theorem w25 {a0 : Array Value} {Z : State} (hw : ∀ d ∈ tables_1, d.before a0 Z = true) : ((Jvm.Cond.laysFinal "java/lang/String" "java/lang/String" "coder" "B") : Jvm.Cond).before a0 Z = true := hw _ (List.mem_of_getElem? (i := 25) rfl)
theorem w26 {a0 : Array Value} {Z : State} (hw : ∀ d ∈ tables_1, d.before a0 Z = true) : ((Jvm.Cond.arrayClass Jvm.ClassFile.FieldType.char) : Jvm.Cond).before a0 Z = true := hw _ (List.mem_of_getElem? (i := 26) rfl)
theorem w27 {a0 : Array Value} {Z : State} (hw : ∀ d ∈ tables_1, d.before a0 Z = true) : ((Jvm.Cond.classLink "com/example/afterscore/afterscore/io/NameTableNamePinLaw" (8 : Nat) "java/lang/String") : Jvm.Cond).before a0 Z = true := hw _ (List.mem_of_getElem? (i := 27) rfl)
theorem w28 {a0 : Array Value} {Z : State} (hw : ∀ d ∈ tables_1, d.before a0 Z = true) : ((Jvm.Cond.methodLink "com/example/afterscore/afterscore/io/NameTableNamePinLaw" (13 : Nat) ({ cls := "java/lang/String", name := "<init>", desc := "([C)V" } : Jvm.MethodName)) : Jvm.Cond).before a0 Z = true := hw _ (List.mem_of_getElem? (i := 28) rfl)
theorem w29 {a0 : Array Value} {Z : State} (hw : ∀ d ∈ tables_1, d.before a0 Z = true) : ((Jvm.Cond.instanceMethod ({ cls := "java/lang/String", name := "<init>", desc := "([C)V" } : Jvm.MethodName)) : Jvm.Cond).before a0 Z = true := hw _ (List.mem_of_getElem? (i := 29) rfl)
theorem w30 {a0 : Array Value} {Z : State} (hw : ∀ d ∈ tables_1, d.before a0 Z = true) : ((Jvm.Cond.code ({ cls := "java/lang/String", name := "<init>", desc := "([C)V" } : Jvm.MethodName) jdk_42_method_3_code (2 : Nat) (Option.none : Option Jvm.ClassFile.FieldType)) : Jvm.Cond).before a0 Z = true := hw _ (List.mem_of_getElem? (i := 30) rfl)
theorem w31 {a0 : Array Value} {Z : State} (hw : ∀ d ∈ tables_1, d.before a0 Z = true) : ((Jvm.Cond.methodLink "java/lang/String" (27 : Nat) ({ cls := "java/lang/String", name := "<init>", desc := "([CIILjava/lang/Void;)V" } : Jvm.MethodName)) : Jvm.Cond).before a0 Z = true := hw _ (List.mem_of_getElem? (i := 31) rfl)
theorem w32 {a0 : Array Value} {Z : State} (hw : ∀ d ∈ tables_1, d.before a0 Z = true) : ((Jvm.Cond.instanceMethod ({ cls := "java/lang/String", name := "<init>", desc := "([CIILjava/lang/Void;)V" } : Jvm.MethodName)) : Jvm.Cond).before a0 Z = true := hw _ (List.mem_of_getElem? (i := 32) rfl)
theorem w33 {a0 : Array Value} {Z : State} (hw : ∀ d ∈ tables_1, d.before a0 Z = true) : ((Jvm.Cond.code ({ cls := "java/lang/String", name := "<init>", desc := "([CIILjava/lang/Void;)V" } : Jvm.MethodName) jdk_42_method_149_code (6 : Nat) (Option.none : Option Jvm.ClassFile.FieldType)) : Jvm.Cond).before a0 Z = true := hw _ (List.mem_of_getElem? (i := 33) rfl)
theorem w34 {a0 : Array Value} {Z : State} (hw : ∀ d ∈ tables_1, d.before a0 Z = true) : ((Jvm.Cond.methodLink "java/lang/String" (177 : Nat) ({ cls := "java/lang/StringUTF16", name := "compress", desc := "([CII)[B" } : Jvm.MethodName)) : Jvm.Cond).before a0 Z = true := hw _ (List.mem_of_getElem? (i := 34) rfl)
theorem w35 {a0 : Array Value} {Z : State} (hw : ∀ d ∈ tables_1, d.before a0 Z = true) : ((Jvm.Cond.static ({ cls := "java/lang/StringUTF16", name := "compress", desc := "([CII)[B" } : Jvm.MethodName)) : Jvm.Cond).before a0 Z = true := hw _ (List.mem_of_getElem? (i := 35) rfl)
theorem w36 {a0 : Array Value} {Z : State} (hw : ∀ d ∈ tables_1, d.before a0 Z = true) : ((Jvm.Cond.initialized "java/lang/StringUTF16") : Jvm.Cond).before a0 Z = true := hw _ (List.mem_of_getElem? (i := 36) rfl)
theorem w37 {a0 : Array Value} {Z : State} (hw : ∀ d ∈ tables_1, d.before a0 Z = true) : ((Jvm.Cond.code ({ cls := "java/lang/StringUTF16", name := "compress", desc := "([CII)[B" } : Jvm.MethodName) jdk_52_method_16_code (6 : Nat) (Option.some (Jvm.ClassFile.FieldType.array Jvm.ClassFile.FieldType.byte))) : Jvm.Cond).before a0 Z = true := hw _ (List.mem_of_getElem? (i := 37) rfl)
theorem w38 {a0 : Array Value} {Z : State} (hw : ∀ d ∈ tables_1, d.before a0 Z = true) : ((Jvm.Cond.methodLink "java/lang/StringUTF16" (115 : Nat) ({ cls := "java/lang/StringUTF16", name := "compress", desc := "([CI[BII)I" } : Jvm.MethodName)) : Jvm.Cond).before a0 Z = true := hw _ (List.mem_of_getElem? (i := 38) rfl)
theorem w39 {a0 : Array Value} {Z : State} (hw : ∀ d ∈ tables_1, d.before a0 Z = true) : ((Jvm.Cond.static ({ cls := "java/lang/StringUTF16", name := "compress", desc := "([CI[BII)I" } : Jvm.MethodName)) : Jvm.Cond).before a0 Z = true := hw _ (List.mem_of_getElem? (i := 39) rfl)
theorem w40 {a0 : Array Value} {Z : State} (hw : ∀ d ∈ tables_1, d.before a0 Z = true) : ((Jvm.Cond.code ({ cls := "java/lang/StringUTF16", name := "compress", desc := "([CI[BII)I" } : Jvm.MethodName) jdk_52_method_21_code (7 : Nat) (Option.some Jvm.ClassFile.FieldType.int)) : Jvm.Cond).before a0 Z = true := hw _ (List.mem_of_getElem? (i := 40) rfl)
theorem w41 {a0 : Array Value} {Z : State} (hw : ∀ d ∈ tables_1, d.before a0 Z = true) : ((Jvm.Cond.methodLink "java/lang/String" (47 : Nat) ({ cls := "java/lang/StringUTF16", name := "coderFromArrayLen", desc := "([BI)B" } : Jvm.MethodName)) : Jvm.Cond).before a0 Z = true := hw _ (List.mem_of_getElem? (i := 41) rfl)
theorem w42 {a0 : Array Value} {Z : State} (hw : ∀ d ∈ tables_1, d.before a0 Z = true) : ((Jvm.Cond.static ({ cls := "java/lang/StringUTF16", name := "coderFromArrayLen", desc := "([BI)B" } : Jvm.MethodName)) : Jvm.Cond).before a0 Z = true := hw _ (List.mem_of_getElem? (i := 42) rfl)
theorem w43 {a0 : Array Value} {Z : State} (hw : ∀ d ∈ tables_1, d.before a0 Z = true) : ((Jvm.Cond.code ({ cls := "java/lang/StringUTF16", name := "coderFromArrayLen", desc := "([BI)B" } : Jvm.MethodName) jdk_52_method_15_code (2 : Nat) (Option.some Jvm.ClassFile.FieldType.byte)) : Jvm.Cond).before a0 Z = true := hw _ (List.mem_of_getElem? (i := 43) rfl)
theorem w44 {a0 : Array Value} {Z : State} (hw : ∀ d ∈ tables_1, d.before a0 Z = true) : ((Jvm.Cond.classLink "com/example/afterscore/afterscore/io/NameTableNamePinLaw" (16 : Nat) "com/example/afterscore/afterscore/io/NameTable") : Jvm.Cond).before a0 Z = true := hw _ (List.mem_of_getElem? (i := 44) rfl)
theorem w45 {a0 : Array Value} {Z : State} (hw : ∀ d ∈ tables_1, d.before a0 Z = true) : ((Jvm.Cond.instantiable "com/example/afterscore/afterscore/io/NameTable" (6 : Nat)) : Jvm.Cond).before a0 Z = true := hw _ (List.mem_of_getElem? (i := 45) rfl)
theorem w46 {a0 : Array Value} {Z : State} (hw : ∀ d ∈ tables_1, d.before a0 Z = true) : ((Jvm.Cond.initialized "com/example/afterscore/afterscore/io/NameTable") : Jvm.Cond).before a0 Z = true := hw _ (List.mem_of_getElem? (i := 46) rfl)
theorem w47 {a0 : Array Value} {Z : State} (hw : ∀ d ∈ tables_1, d.before a0 Z = true) : ((Jvm.Cond.methodLink "com/example/afterscore/afterscore/io/NameTableNamePinLaw" (18 : Nat) ({ cls := "com/example/afterscore/afterscore/io/NameTable", name := "<init>", desc := "()V" } : Jvm.MethodName)) : Jvm.Cond).before a0 Z = true := hw _ (List.mem_of_getElem? (i := 47) rfl)
theorem w48 {a0 : Array Value} {Z : State} (hw : ∀ d ∈ tables_1, d.before a0 Z = true) : ((Jvm.Cond.instanceMethod ({ cls := "com/example/afterscore/afterscore/io/NameTable", name := "<init>", desc := "()V" } : Jvm.MethodName)) : Jvm.Cond).before a0 Z = true := hw _ (List.mem_of_getElem? (i := 48) rfl)
theorem w49 {a0 : Array Value} {Z : State} (hw : ∀ d ∈ tables_1, d.before a0 Z = true) : ((Jvm.Cond.code ({ cls := "com/example/afterscore/afterscore/io/NameTable", name := "<init>", desc := "()V" } : Jvm.MethodName) prog_4_method_1_code (1 : Nat) (Option.none : Option Jvm.ClassFile.FieldType)) : Jvm.Cond).before a0 Z = true := hw _ (List.mem_of_getElem? (i := 49) rfl)
theorem w50 {a0 : Array Value} {Z : State} (hw : ∀ d ∈ tables_1, d.before a0 Z = true) : ((Jvm.Cond.methodLink "com/example/afterscore/afterscore/io/NameTable" (1 : Nat) ({ cls := "java/lang/Object", name := "<init>", desc := "()V" } : Jvm.MethodName)) : Jvm.Cond).before a0 Z = true := hw _ (List.mem_of_getElem? (i := 50) rfl)
theorem w51 {a0 : Array Value} {Z : State} (hw : ∀ d ∈ tables_1, d.before a0 Z = true) : ((Jvm.Cond.classLink "com/example/afterscore/afterscore/io/NameTable" (7 : Nat) "java/util/ArrayList") : Jvm.Cond).before a0 Z = true := hw _ (List.mem_of_getElem? (i := 51) rfl)
theorem w52 {a0 : Array Value} {Z : State} (hw : ∀ d ∈ tables_1, d.before a0 Z = true) : ((Jvm.Cond.instantiable "java/util/ArrayList" (3 : Nat)) : Jvm.Cond).before a0 Z = true := hw _ (List.mem_of_getElem? (i := 52) rfl)
theorem w53 {a0 : Array Value} {Z : State} (hw : ∀ d ∈ tables_1, d.before a0 Z = true) : ((Jvm.Cond.initialized "java/util/ArrayList") : Jvm.Cond).before a0 Z = true := hw _ (List.mem_of_getElem? (i := 53) rfl)
theorem w54 {a0 : Array Value} {Z : State} (hw : ∀ d ∈ tables_1, d.before a0 Z = true) : ((Jvm.Cond.methodLink "com/example/afterscore/afterscore/io/NameTable" (9 : Nat) ({ cls := "java/util/ArrayList", name := "<init>", desc := "()V" } : Jvm.MethodName)) : Jvm.Cond).before a0 Z = true := hw _ (List.mem_of_getElem? (i := 54) rfl)
theorem w55 {a0 : Array Value} {Z : State} (hw : ∀ d ∈ tables_1, d.before a0 Z = true) : ((Jvm.Cond.instanceMethod ({ cls := "java/util/ArrayList", name := "<init>", desc := "()V" } : Jvm.MethodName)) : Jvm.Cond).before a0 Z = true := hw _ (List.mem_of_getElem? (i := 55) rfl)
theorem w56 {a0 : Array Value} {Z : State} (hw : ∀ d ∈ tables_1, d.before a0 Z = true) : ((Jvm.Cond.code ({ cls := "java/util/ArrayList", name := "<init>", desc := "()V" } : Jvm.MethodName) jdk_38_method_2_code (1 : Nat) (Option.none : Option Jvm.ClassFile.FieldType)) : Jvm.Cond).before a0 Z = true := hw _ (List.mem_of_getElem? (i := 56) rfl)
theorem w57 {a0 : Array Value} {Z : State} (hw : ∀ d ∈ tables_1, d.before a0 Z = true) : ((Jvm.Cond.methodLink "java/util/ArrayList" (1 : Nat) ({ cls := "java/util/AbstractList", name := "<init>", desc := "()V" } : Jvm.MethodName)) : Jvm.Cond).before a0 Z = true := hw _ (List.mem_of_getElem? (i := 57) rfl)
theorem w58 {a0 : Array Value} {Z : State} (hw : ∀ d ∈ tables_1, d.before a0 Z = true) : ((Jvm.Cond.instanceMethod ({ cls := "java/util/AbstractList", name := "<init>", desc := "()V" } : Jvm.MethodName)) : Jvm.Cond).before a0 Z = true := hw _ (List.mem_of_getElem? (i := 58) rfl)
theorem w61 {a0 : Array Value} {Z : State} (hw : ∀ d ∈ tables_1, d.before a0 Z = true) : ((Jvm.Cond.initialized "java/util/AbstractList") : Jvm.Cond).before a0 Z = true := hw _ (List.mem_of_getElem? (i := 61) rfl)
theorem w62 {a0 : Array Value} {Z : State} (hw : ∀ d ∈ tables_1, d.before a0 Z = true) : ((Jvm.Cond.code ({ cls := "java/util/AbstractList", name := "<init>", desc := "()V" } : Jvm.MethodName) jdk_39_method_1_code (1 : Nat) (Option.none : Option Jvm.ClassFile.FieldType)) : Jvm.Cond).before a0 Z = true := hw _ (List.mem_of_getElem? (i := 62) rfl)
theorem w63 {a0 : Array Value} {Z : State} (hw : ∀ d ∈ tables_1, d.before a0 Z = true) : ((Jvm.Cond.methodLink "java/util/AbstractList" (1 : Nat) ({ cls := "java/util/AbstractCollection", name := "<init>", desc := "()V" } : Jvm.MethodName)) : Jvm.Cond).before a0 Z = true := hw _ (List.mem_of_getElem? (i := 63) rfl)
theorem w64 {a0 : Array Value} {Z : State} (hw : ∀ d ∈ tables_1, d.before a0 Z = true) : ((Jvm.Cond.instanceMethod ({ cls := "java/util/AbstractCollection", name := "<init>", desc := "()V" } : Jvm.MethodName)) : Jvm.Cond).before a0 Z = true := hw _ (List.mem_of_getElem? (i := 64) rfl)
theorem w67 {a0 : Array Value} {Z : State} (hw : ∀ d ∈ tables_1, d.before a0 Z = true) : ((Jvm.Cond.initialized "java/util/AbstractCollection") : Jvm.Cond).before a0 Z = true := hw _ (List.mem_of_getElem? (i := 67) rfl)
theorem w68 {a0 : Array Value} {Z : State} (hw : ∀ d ∈ tables_1, d.before a0 Z = true) : ((Jvm.Cond.code ({ cls := "java/util/AbstractCollection", name := "<init>", desc := "()V" } : Jvm.MethodName) jdk_22_method_1_code (1 : Nat) (Option.none : Option Jvm.ClassFile.FieldType)) : Jvm.Cond).before a0 Z = true := hw _ (List.mem_of_getElem? (i := 68) rfl)
theorem w69 {a0 : Array Value} {Z : State} (hw : ∀ d ∈ tables_1, d.before a0 Z = true) : ((Jvm.Cond.methodLink "java/util/AbstractCollection" (1 : Nat) ({ cls := "java/lang/Object", name := "<init>", desc := "()V" } : Jvm.MethodName)) : Jvm.Cond).before a0 Z = true := hw _ (List.mem_of_getElem? (i := 69) rfl)
theorem w70 {a0 : Array Value} {Z : State} (hw : ∀ d ∈ tables_1, d.before a0 Z = true) : ((Jvm.Cond.fieldLink "java/util/AbstractList" (7 : Nat) "java/util/AbstractList" "modCount" "I") : Jvm.Cond).before a0 Z = true := hw _ (List.mem_of_getElem? (i := 70) rfl)
theorem w71 {a0 : Array Value} {Z : State} (hw : ∀ d ∈ tables_1, d.before a0 Z = true) : ((Jvm.Cond.lays "java/util/ArrayList" "java/util/AbstractList" "modCount" "I") : Jvm.Cond).before a0 Z = true := hw _ (List.mem_of_getElem? (i := 71) rfl)
theorem w72 {a0 : Array Value} {Z : State} (hw : ∀ d ∈ tables_1, d.before a0 Z = true) : ((Jvm.Cond.fieldLink "java/util/ArrayList" (39 : Nat) "java/util/ArrayList" "DEFAULTCAPACITY_EMPTY_ELEMENTDATA" "[Ljava/lang/Object;") : Jvm.Cond).before a0 Z = true := hw _ (List.mem_of_getElem? (i := 72) rfl)
theorem w73 {a0 : Array Value} {Z : State} (hw : ∀ d ∈ tables_1, d.before a0 Z = true) : ((Jvm.Cond.fieldLink "java/util/ArrayList" (9 : Nat) "java/util/ArrayList" "elementData" "[Ljava/lang/Object;") : Jvm.Cond).before a0 Z = true := hw _ (List.mem_of_getElem? (i := 73) rfl)
theorem w74 {a0 : Array Value} {Z : State} (hw : ∀ d ∈ tables_1, d.before a0 Z = true) : ((Jvm.Cond.lays "java/util/ArrayList" "java/util/ArrayList" "elementData" "[Ljava/lang/Object;") : Jvm.Cond).before a0 Z = true := hw _ (List.mem_of_getElem? (i := 74) rfl)
theorem w75 {a0 : Array Value} {Z : State} (hw : ∀ d ∈ tables_1, d.before a0 Z = true) : ((Jvm.Cond.fieldLink "com/example/afterscore/afterscore/io/NameTable" (10 : Nat) "com/example/afterscore/afterscore/io/NameTable" "names" "Ljava/util/List;") : Jvm.Cond).before a0 Z = true := hw _ (List.mem_of_getElem? (i := 75) rfl)
theorem w76 {a0 : Array Value} {Z : State} (hw : ∀ d ∈ tables_1, d.before a0 Z = true) : ((Jvm.Cond.laysFinal "com/example/afterscore/afterscore/io/NameTable" "com/example/afterscore/afterscore/io/NameTable" "names" "Ljava/util/List;") : Jvm.Cond).before a0 Z = true := hw _ (List.mem_of_getElem? (i := 76) rfl)
theorem w77 {a0 : Array Value} {Z : State} (hw : ∀ d ∈ tables_1, d.before a0 Z = true) : ((Jvm.Cond.classLink "com/example/afterscore/afterscore/io/NameTable" (16 : Nat) "java/util/TreeMap") : Jvm.Cond).before a0 Z = true := hw _ (List.mem_of_getElem? (i := 77) rfl)
theorem w78 {a0 : Array Value} {Z : State} (hw : ∀ d ∈ tables_1, d.before a0 Z = true) : ((Jvm.Cond.instantiable "java/util/TreeMap" (9 : Nat)) : Jvm.Cond).before a0 Z = true := hw _ (List.mem_of_getElem? (i := 78) rfl)
theorem w79 {a0 : Array Value} {Z : State} (hw : ∀ d ∈ tables_1, d.before a0 Z = true) : ((Jvm.Cond.initialized "java/util/TreeMap") : Jvm.Cond).before a0 Z = true := hw _ (List.mem_of_getElem? (i := 79) rfl)
theorem w80 {a0 : Array Value} {Z : State} (hw : ∀ d ∈ tables_1, d.before a0 Z = true) : ((Jvm.Cond.methodLink "com/example/afterscore/afterscore/io/NameTable" (18 : Nat) ({ cls := "java/util/TreeMap", name := "<init>", desc := "()V" } : Jvm.MethodName)) : Jvm.Cond).before a0 Z = true := hw _ (List.mem_of_getElem? (i := 80) rfl)
theorem w81 {a0 : Array Value} {Z : State} (hw : ∀ d ∈ tables_1, d.before a0 Z = true) : ((Jvm.Cond.instanceMethod ({ cls := "java/util/TreeMap", name := "<init>", desc := "()V" } : Jvm.MethodName)) : Jvm.Cond).before a0 Z = true := hw _ (List.mem_of_getElem? (i := 81) rfl)
theorem w82 {a0 : Array Value} {Z : State} (hw : ∀ d ∈ tables_1, d.before a0 Z = true) : ((Jvm.Cond.code ({ cls := "java/util/TreeMap", name := "<init>", desc := "()V" } : Jvm.MethodName) jdk_2729_method_1_code (1 : Nat) (Option.none : Option Jvm.ClassFile.FieldType)) : Jvm.Cond).before a0 Z = true := hw _ (List.mem_of_getElem? (i := 82) rfl)
theorem w83 {a0 : Array Value} {Z : State} (hw : ∀ d ∈ tables_1, d.before a0 Z = true) : ((Jvm.Cond.methodLink "java/util/TreeMap" (1 : Nat) ({ cls := "java/util/AbstractMap", name := "<init>", desc := "()V" } : Jvm.MethodName)) : Jvm.Cond).before a0 Z = true := hw _ (List.mem_of_getElem? (i := 83) rfl)
theorem w84 {a0 : Array Value} {Z : State} (hw : ∀ d ∈ tables_1, d.before a0 Z = true) : ((Jvm.Cond.instanceMethod ({ cls := "java/util/AbstractMap", name := "<init>", desc := "()V" } : Jvm.MethodName)) : Jvm.Cond).before a0 Z = true := hw _ (List.mem_of_getElem? (i := 84) rfl)
theorem w87 {a0 : Array Value} {Z : State} (hw : ∀ d ∈ tables_1, d.before a0 Z = true) : ((Jvm.Cond.initialized "java/util/AbstractMap") : Jvm.Cond).before a0 Z = true := hw _ (List.mem_of_getElem? (i := 87) rfl)
theorem w88 {a0 : Array Value} {Z : State} (hw : ∀ d ∈ tables_1, d.before a0 Z = true) : ((Jvm.Cond.code ({ cls := "java/util/AbstractMap", name := "<init>", desc := "()V" } : Jvm.MethodName) jdk_71_method_1_code (1 : Nat) (Option.none : Option Jvm.ClassFile.FieldType)) : Jvm.Cond).before a0 Z = true := hw _ (List.mem_of_getElem? (i := 88) rfl)
theorem w89 {a0 : Array Value} {Z : State} (hw : ∀ d ∈ tables_1, d.before a0 Z = true) : ((Jvm.Cond.methodLink "java/util/AbstractMap" (1 : Nat) ({ cls := "java/lang/Object", name := "<init>", desc := "()V" } : Jvm.MethodName)) : Jvm.Cond).before a0 Z = true := hw _ (List.mem_of_getElem? (i := 89) rfl)
theorem w90 {a0 : Array Value} {Z : State} (hw : ∀ d ∈ tables_1, d.before a0 Z = true) : ((Jvm.Cond.fieldLink "java/util/TreeMap" (7 : Nat) "java/util/TreeMap" "size" "I") : Jvm.Cond).before a0 Z = true := hw _ (List.mem_of_getElem? (i := 90) rfl)
theorem w91 {a0 : Array Value} {Z : State} (hw : ∀ d ∈ tables_1, d.before a0 Z = true) : ((Jvm.Cond.lays "java/util/TreeMap" "java/util/TreeMap" "size" "I") : Jvm.Cond).before a0 Z = true := hw _ (List.mem_of_getElem? (i := 91) rfl)
theorem w92 {a0 : Array Value} {Z : State} (hw : ∀ d ∈ tables_1, d.before a0 Z = true) : ((Jvm.Cond.fieldLink "java/util/TreeMap" (13 : Nat) "java/util/TreeMap" "modCount" "I") : Jvm.Cond).before a0 Z = true := hw _ (List.mem_of_getElem? (i := 92) rfl)
theorem w93 {a0 : Array Value} {Z : State} (hw : ∀ d ∈ tables_1, d.before a0 Z = true) : ((Jvm.Cond.lays "java/util/TreeMap" "java/util/TreeMap" "modCount" "I") : Jvm.Cond).before a0 Z = true := hw _ (List.mem_of_getElem? (i := 93) rfl)
theorem w94 {a0 : Array Value} {Z : State} (hw : ∀ d ∈ tables_1, d.before a0 Z = true) : ((Jvm.Cond.fieldLink "java/util/TreeMap" (16 : Nat) "java/util/TreeMap" "comparator" "Ljava/util/Comparator;") : Jvm.Cond).before a0 Z = true := hw _ (List.mem_of_getElem? (i := 94) rfl)
theorem w95 {a0 : Array Value} {Z : State} (hw : ∀ d ∈ tables_1, d.before a0 Z = true) : ((Jvm.Cond.laysFinal "java/util/TreeMap" "java/util/TreeMap" "comparator" "Ljava/util/Comparator;") : Jvm.Cond).before a0 Z = true := hw _ (List.mem_of_getElem? (i := 95) rfl)
theorem w96 {a0 : Array Value} {Z : State} (hw : ∀ d ∈ tables_1, d.before a0 Z = true) : ((Jvm.Cond.fieldLink "com/example/afterscore/afterscore/io/NameTable" (19 : Nat) "com/example/afterscore/afterscore/io/NameTable" "apart" "Ljava/util/TreeMap;") : Jvm.Cond).before a0 Z = true := hw _ (List.mem_of_getElem? (i := 96) rfl)
theorem w97 {a0 : Array Value} {Z : State} (hw : ∀ d ∈ tables_1, d.before a0 Z = true) : ((Jvm.Cond.laysFinal "com/example/afterscore/afterscore/io/NameTable" "com/example/afterscore/afterscore/io/NameTable" "apart" "Ljava/util/TreeMap;") : Jvm.Cond).before a0 Z = true := hw _ (List.mem_of_getElem? (i := 97) rfl)
theorem w98 {a0 : Array Value} {Z : State} (hw : ∀ d ∈ tables_1, d.before a0 Z = true) : ((Jvm.Cond.classLink "com/example/afterscore/afterscore/io/NameTable" (23 : Nat) "java/lang/String") : Jvm.Cond).before a0 Z = true := hw _ (List.mem_of_getElem? (i := 98) rfl)
theorem w99 {a0 : Array Value} {Z : State} (hw : ∀ d ∈ tables_1, d.before a0 Z = true) : ((Jvm.Cond.arrayOver (Jvm.ClassFile.FieldType.object "java/lang/String")) : Jvm.Cond).before a0 Z = true := hw _ (List.mem_of_getElem? (i := 99) rfl)
theorem w100 {a0 : Array Value} {Z : State} (hw : ∀ d ∈ tables_1, d.before a0 Z = true) : ((Jvm.Cond.fieldLink "com/example/afterscore/afterscore/io/NameTable" (25 : Nat) "com/example/afterscore/afterscore/io/NameTable" "slots" "[Ljava/lang/String;") : Jvm.Cond).before a0 Z = true := hw _ (List.mem_of_getElem? (i := 100) rfl)
theorem w101 {a0 : Array Value} {Z : State} (hw : ∀ d ∈ tables_1, d.before a0 Z = true) : ((Jvm.Cond.lays "com/example/afterscore/afterscore/io/NameTable" "com/example/afterscore/afterscore/io/NameTable" "slots" "[Ljava/lang/String;") : Jvm.Cond).before a0 Z = true := hw _ (List.mem_of_getElem? (i := 101) rfl)
theorem w102 {a0 : Array Value} {Z : State} (hw : ∀ d ∈ tables_1, d.before a0 Z = true) : ((Jvm.Cond.arrayClass Jvm.ClassFile.FieldType.int) : Jvm.Cond).before a0 Z = true := hw _ (List.mem_of_getElem? (i := 102) rfl)
theorem w103 {a0 : Array Value} {Z : State} (hw : ∀ d ∈ tables_1, d.before a0 Z = true) : ((Jvm.Cond.fieldLink "com/example/afterscore/afterscore/io/NameTable" (29 : Nat) "com/example/afterscore/afterscore/io/NameTable" "hashes" "[I") : Jvm.Cond).before a0 Z = true := hw _ (List.mem_of_getElem? (i := 103) rfl)
theorem w104 {a0 : Array Value} {Z : State} (hw : ∀ d ∈ tables_1, d.before a0 Z = true) : ((Jvm.Cond.lays "com/example/afterscore/afterscore/io/NameTable" "com/example/afterscore/afterscore/io/NameTable" "hashes" "[I") : Jvm.Cond).before a0 Z = true := hw _ (List.mem_of_getElem? (i := 104) rfl)
theorem w105 {a0 : Array Value} {Z : State} (hw : ∀ d ∈ tables_1, d.before a0 Z = true) : ((Jvm.Cond.fieldLink "com/example/afterscore/afterscore/io/NameTable" (33 : Nat) "com/example/afterscore/afterscore/io/NameTable" "indexes" "[I") : Jvm.Cond).before a0 Z = true := hw _ (List.mem_of_getElem? (i := 105) rfl)
theorem w106 {a0 : Array Value} {Z : State} (hw : ∀ d ∈ tables_1, d.before a0 Z = true) : ((Jvm.Cond.lays "com/example/afterscore/afterscore/io/NameTable" "com/example/afterscore/afterscore/io/NameTable" "indexes" "[I") : Jvm.Cond).before a0 Z = true := hw _ (List.mem_of_getElem? (i := 106) rfl)
theorem w107 {a0 : Array Value} {Z : State} (hw : ∀ d ∈ tables_1, d.before a0 Z = true) : ((Jvm.Cond.methodLink "com/example/afterscore/afterscore/io/NameTableNamePinLaw" (23 : Nat) ({ cls := "com/example/afterscore/afterscore/io/NameTable", name := "size", desc := "()I" } : Jvm.MethodName)) : Jvm.Cond).before a0 Z = true := hw _ (List.mem_of_getElem? (i := 107) rfl)
theorem w108 {a0 : Array Value} {Z : State} (hw : ∀ d ∈ tables_1, d.before a0 Z = true) : ((Jvm.Cond.declares ({ cls := "com/example/afterscore/afterscore/io/NameTable", name := "size", desc := "()I" } : Jvm.MethodName)) : Jvm.Cond).before a0 Z = true := hw _ (List.mem_of_getElem? (i := 108) rfl)
theorem w109 {a0 : Array Value} {Z : State} (hw : ∀ d ∈ tables_1, d.before a0 Z = true) : ((Jvm.Cond.instanceMethod ({ cls := "com/example/afterscore/afterscore/io/NameTable", name := "size", desc := "()I" } : Jvm.MethodName)) : Jvm.Cond).before a0 Z = true := hw _ (List.mem_of_getElem? (i := 109) rfl)
theorem w110 {a0 : Array Value} {Z : State} (hw : ∀ d ∈ tables_1, d.before a0 Z = true) : ((Jvm.Cond.selects "com/example/afterscore/afterscore/io/NameTable" ({ cls := "com/example/afterscore/afterscore/io/NameTable", name := "size", desc := "()I" } : Jvm.MethodName) ({ cls := "com/example/afterscore/afterscore/io/NameTable", name := "size", desc := "()I" } : Jvm.MethodName)) : Jvm.Cond).before a0 Z = true := hw _ (List.mem_of_getElem? (i := 110) rfl)
theorem w111 {a0 : Array Value} {Z : State} (hw : ∀ d ∈ tables_1, d.before a0 Z = true) : ((Jvm.Cond.code ({ cls := "com/example/afterscore/afterscore/io/NameTable", name := "size", desc := "()I" } : Jvm.MethodName) prog_4_method_2_code (1 : Nat) (Option.some Jvm.ClassFile.FieldType.int)) : Jvm.Cond).before a0 Z = true := hw _ (List.mem_of_getElem? (i := 111) rfl)
theorem w112 {a0 : Array Value} {Z : State} (hw : ∀ d ∈ tables_1, d.before a0 Z = true) : ((Jvm.Cond.methodLink "com/example/afterscore/afterscore/io/NameTable" (36 : Nat) ({ cls := "java/util/List", name := "size", desc := "()I" } : Jvm.MethodName)) : Jvm.Cond).before a0 Z = true := hw _ (List.mem_of_getElem? (i := 112) rfl)
theorem w113 {a0 : Array Value} {Z : State} (hw : ∀ d ∈ tables_1, d.before a0 Z = true) : ((Jvm.Cond.declares ({ cls := "java/util/List", name := "size", desc := "()I" } : Jvm.MethodName)) : Jvm.Cond).before a0 Z = true := hw _ (List.mem_of_getElem? (i := 113) rfl)
theorem w114 {a0 : Array Value} {Z : State} (hw : ∀ d ∈ tables_1, d.before a0 Z = true) : ((Jvm.Cond.interfaceMethod "java/util/List" "java/util/List" "size" "()I") : Jvm.Cond).before a0 Z = true := hw _ (List.mem_of_getElem? (i := 114) rfl)
theorem w115 {a0 : Array Value} {Z : State} (hw : ∀ d ∈ tables_1, d.before a0 Z = true) : ((Jvm.Cond.selects "java/util/ArrayList" ({ cls := "java/util/List", name := "size", desc := "()I" } : Jvm.MethodName) ({ cls := "java/util/ArrayList", name := "size", desc := "()I" } : Jvm.MethodName)) : Jvm.Cond).before a0 Z = true := hw _ (List.mem_of_getElem? (i := 115) rfl)
theorem w116 {a0 : Array Value} {Z : State} (hw : ∀ d ∈ tables_1, d.before a0 Z = true) : ((Jvm.Cond.instanceMethod ({ cls := "java/util/ArrayList", name := "size", desc := "()I" } : Jvm.MethodName)) : Jvm.Cond).before a0 Z = true := hw _ (List.mem_of_getElem? (i := 116) rfl)
theorem w117 {a0 : Array Value} {Z : State} (hw : ∀ d ∈ tables_1, d.before a0 Z = true) : ((Jvm.Cond.publicMethod ({ cls := "java/util/ArrayList", name := "size", desc := "()I" } : Jvm.MethodName)) : Jvm.Cond).before a0 Z = true := hw _ (List.mem_of_getElem? (i := 117) rfl)
theorem w118 {a0 : Array Value} {Z : State} (hw : ∀ d ∈ tables_1, d.before a0 Z = true) : ((Jvm.Cond.unhidden "java/util/ArrayList" "size" "()I") : Jvm.Cond).before a0 Z = true := hw _ (List.mem_of_getElem? (i := 118) rfl)
theorem w119 {a0 : Array Value} {Z : State} (hw : ∀ d ∈ tables_1, d.before a0 Z = true) : ((Jvm.Cond.castable "java/util/ArrayList" "java/util/List") : Jvm.Cond).before a0 Z = true := hw _ (List.mem_of_getElem? (i := 119) rfl)
theorem w120 {a0 : Array Value} {Z : State} (hw : ∀ d ∈ tables_1, d.before a0 Z = true) : ((Jvm.Cond.code ({ cls := "java/util/ArrayList", name := "size", desc := "()I" } : Jvm.MethodName) jdk_38_method_8_code (1 : Nat) (Option.some Jvm.ClassFile.FieldType.int)) : Jvm.Cond).before a0 Z = true := hw _ (List.mem_of_getElem? (i := 120) rfl)
theorem w121 {a0 : Array Value} {Z : State} (hw : ∀ d ∈ tables_1, d.before a0 Z = true) : ((Jvm.Cond.fieldLink "java/util/ArrayList" (48 : Nat) "java/util/ArrayList" "size" "I") : Jvm.Cond).before a0 Z = true := hw _ (List.mem_of_getElem? (i := 121) rfl)
theorem w122 {a0 : Array Value} {Z : State} (hw : ∀ d ∈ tables_1, d.before a0 Z = true) : ((Jvm.Cond.lays "java/util/ArrayList" "java/util/ArrayList" "size" "I") : Jvm.Cond).before a0 Z = true := hw _ (List.mem_of_getElem? (i := 122) rfl)
theorem w123 {a0 : Array Value} {Z : State} (hw : ∀ d ∈ tables_1, d.before a0 Z = true) : ((Jvm.Cond.methodLink "com/example/afterscore/afterscore/io/NameTableNamePinLaw" (19 : Nat) ({ cls := "com/example/afterscore/afterscore/io/NameTable", name := "add", desc := "(Ljava/lang/String;)I" } : Jvm.MethodName)) : Jvm.Cond).before a0 Z = true := hw _ (List.mem_of_getElem? (i := 123) rfl)
theorem w124 {a0 : Array Value} {Z : State} (hw : ∀ d ∈ tables_1, d.before a0 Z = true) : ((Jvm.Cond.declares ({ cls := "com/example/afterscore/afterscore/io/NameTable", name := "add", desc := "(Ljava/lang/String;)I" } : Jvm.MethodName)) : Jvm.Cond).before a0 Z = true := hw _ (List.mem_of_getElem? (i := 124) rfl)
theorem w125 {a0 : Array Value} {Z : State} (hw : ∀ d ∈ tables_1, d.before a0 Z = true) : ((Jvm.Cond.instanceMethod ({ cls := "com/example/afterscore/afterscore/io/NameTable", name := "add", desc := "(Ljava/lang/String;)I" } : Jvm.MethodName)) : Jvm.Cond).before a0 Z = true := hw _ (List.mem_of_getElem? (i := 125) rfl)
theorem w126 {a0 : Array Value} {Z : State} (hw : ∀ d ∈ tables_1, d.before a0 Z = true) : ((Jvm.Cond.selects "com/example/afterscore/afterscore/io/NameTable" ({ cls := "com/example/afterscore/afterscore/io/NameTable", name := "add", desc := "(Ljava/lang/String;)I" } : Jvm.MethodName) ({ cls := "com/example/afterscore/afterscore/io/NameTable", name := "add", desc := "(Ljava/lang/String;)I" } : Jvm.MethodName)) : Jvm.Cond).before a0 Z = true := hw _ (List.mem_of_getElem? (i := 126) rfl)
theorem w127 {a0 : Array Value} {Z : State} (hw : ∀ d ∈ tables_1, d.before a0 Z = true) : ((Jvm.Cond.code ({ cls := "com/example/afterscore/afterscore/io/NameTable", name := "add", desc := "(Ljava/lang/String;)I" } : Jvm.MethodName) prog_4_method_4_code (2 : Nat) (Option.some Jvm.ClassFile.FieldType.int)) : Jvm.Cond).before a0 Z = true := hw _ (List.mem_of_getElem? (i := 127) rfl)
theorem w128 {a0 : Array Value} {Z : State} (hw : ∀ d ∈ tables_1, d.before a0 Z = true) : ((Jvm.Cond.methodLink "com/example/afterscore/afterscore/io/NameTable" (46 : Nat) ({ cls := "java/util/List", name := "add", desc := "(Ljava/lang/Object;)Z" } : Jvm.MethodName)) : Jvm.Cond).before a0 Z = true := hw _ (List.mem_of_getElem? (i := 128) rfl)
theorem w129 {a0 : Array Value} {Z : State} (hw : ∀ d ∈ tables_1, d.before a0 Z = true) : ((Jvm.Cond.declares ({ cls := "java/util/List", name := "add", desc := "(Ljava/lang/Object;)Z" } : Jvm.MethodName)) : Jvm.Cond).before a0 Z = true := hw _ (List.mem_of_getElem? (i := 129) rfl)
theorem w130 {a0 : Array Value} {Z : State} (hw : ∀ d ∈ tables_1, d.before a0 Z = true) : ((Jvm.Cond.interfaceMethod "java/util/List" "java/util/List" "add" "(Ljava/lang/Object;)Z") : Jvm.Cond).before a0 Z = true := hw _ (List.mem_of_getElem? (i := 130) rfl)
theorem w131 {a0 : Array Value} {Z : State} (hw : ∀ d ∈ tables_1, d.before a0 Z = true) : ((Jvm.Cond.selects "java/util/ArrayList" ({ cls := "java/util/List", name := "add", desc := "(Ljava/lang/Object;)Z" } : Jvm.MethodName) ({ cls := "java/util/ArrayList", name := "add", desc := "(Ljava/lang/Object;)Z" } : Jvm.MethodName)) : Jvm.Cond).before a0 Z = true := hw _ (List.mem_of_getElem? (i := 131) rfl)
theorem w132 {a0 : Array Value} {Z : State} (hw : ∀ d ∈ tables_1, d.before a0 Z = true) : ((Jvm.Cond.instanceMethod ({ cls := "java/util/ArrayList", name := "add", desc := "(Ljava/lang/Object;)Z" } : Jvm.MethodName)) : Jvm.Cond).before a0 Z = true := hw _ (List.mem_of_getElem? (i := 132) rfl)
theorem w133 {a0 : Array Value} {Z : State} (hw : ∀ d ∈ tables_1, d.before a0 Z = true) : ((Jvm.Cond.publicMethod ({ cls := "java/util/ArrayList", name := "add", desc := "(Ljava/lang/Object;)Z" } : Jvm.MethodName)) : Jvm.Cond).before a0 Z = true := hw _ (List.mem_of_getElem? (i := 133) rfl)
theorem w134 {a0 : Array Value} {Z : State} (hw : ∀ d ∈ tables_1, d.before a0 Z = true) : ((Jvm.Cond.unhidden "java/util/ArrayList" "add" "(Ljava/lang/Object;)Z") : Jvm.Cond).before a0 Z = true := hw _ (List.mem_of_getElem? (i := 134) rfl)
theorem w135 {a0 : Array Value} {Z : State} (hw : ∀ d ∈ tables_1, d.before a0 Z = true) : ((Jvm.Cond.code ({ cls := "java/util/ArrayList", name := "add", desc := "(Ljava/lang/Object;)Z" } : Jvm.MethodName) jdk_38_method_25_code (2 : Nat) (Option.some Jvm.ClassFile.FieldType.boolean)) : Jvm.Cond).before a0 Z = true := hw _ (List.mem_of_getElem? (i := 135) rfl)
theorem w136 {a0 : Array Value} {Z : State} (hw : ∀ d ∈ tables_1, d.before a0 Z = true) : ((Jvm.Cond.fieldLink "java/util/ArrayList" (63 : Nat) "java/util/ArrayList" "modCount" "I") : Jvm.Cond).before a0 Z = true := hw _ (List.mem_of_getElem? (i := 136) rfl)
theorem w137 {a0 : Array Value} {Z : State} (hw : ∀ d ∈ tables_1, d.before a0 Z = true) : ((Jvm.Cond.sameField "java/util/ArrayList" "java/util/AbstractList" "modCount" "I") : Jvm.Cond).before a0 Z = true := hw _ (List.mem_of_getElem? (i := 137) rfl)
theorem w138 {a0 : Array Value} {Z : State} (hw : ∀ d ∈ tables_1, d.before a0 Z = true) : ((Jvm.Cond.methodLink "java/util/ArrayList" (131 : Nat) ({ cls := "java/util/ArrayList", name := "add", desc := "(Ljava/lang/Object;[Ljava/lang/Object;I)V" } : Jvm.MethodName)) : Jvm.Cond).before a0 Z = true := hw _ (List.mem_of_getElem? (i := 138) rfl)
theorem w139 {a0 : Array Value} {Z : State} (hw : ∀ d ∈ tables_1, d.before a0 Z = true) : ((Jvm.Cond.instanceMethod ({ cls := "java/util/ArrayList", name := "add", desc := "(Ljava/lang/Object;[Ljava/lang/Object;I)V" } : Jvm.MethodName)) : Jvm.Cond).before a0 Z = true := hw _ (List.mem_of_getElem? (i := 139) rfl)
theorem w140 {a0 : Array Value} {Z : State} (hw : ∀ d ∈ tables_1, d.before a0 Z = true) : ((Jvm.Cond.privateMethod ({ cls := "java/util/ArrayList", name := "add", desc := "(Ljava/lang/Object;[Ljava/lang/Object;I)V" } : Jvm.MethodName)) : Jvm.Cond).before a0 Z = true := hw _ (List.mem_of_getElem? (i := 140) rfl)
theorem w141 {a0 : Array Value} {Z : State} (hw : ∀ d ∈ tables_1, d.before a0 Z = true) : ((Jvm.Cond.selects "java/util/ArrayList" ({ cls := "java/util/ArrayList", name := "add", desc := "(Ljava/lang/Object;[Ljava/lang/Object;I)V" } : Jvm.MethodName) ({ cls := "java/util/ArrayList", name := "add", desc := "(Ljava/lang/Object;[Ljava/lang/Object;I)V" } : Jvm.MethodName)) : Jvm.Cond).before a0 Z = true := hw _ (List.mem_of_getElem? (i := 141) rfl)
theorem w142 {a0 : Array Value} {Z : State} (hw : ∀ d ∈ tables_1, d.before a0 Z = true) : ((Jvm.Cond.code ({ cls := "java/util/ArrayList", name := "add", desc := "(Ljava/lang/Object;[Ljava/lang/Object;I)V" } : Jvm.MethodName) jdk_38_method_24_code (4 : Nat) (Option.none : Option Jvm.ClassFile.FieldType)) : Jvm.Cond).before a0 Z = true := hw _ (List.mem_of_getElem? (i := 142) rfl)
theorem w143 {a0 : Array Value} {Z : State} (hw : ∀ d ∈ tables_1, d.before a0 Z = true) : ((Jvm.Cond.methodLink "java/util/ArrayList" (129 : Nat) ({ cls := "java/util/ArrayList", name := "grow", desc := "()[Ljava/lang/Object;" } : Jvm.MethodName)) : Jvm.Cond).before a0 Z = true := hw _ (List.mem_of_getElem? (i := 143) rfl)
theorem w144 {a0 : Array Value} {Z : State} (hw : ∀ d ∈ tables_1, d.before a0 Z = true) : ((Jvm.Cond.instanceMethod ({ cls := "java/util/ArrayList", name := "grow", desc := "()[Ljava/lang/Object;" } : Jvm.MethodName)) : Jvm.Cond).before a0 Z = true := hw _ (List.mem_of_getElem? (i := 144) rfl)
theorem w145 {a0 : Array Value} {Z : State} (hw : ∀ d ∈ tables_1, d.before a0 Z = true) : ((Jvm.Cond.privateMethod ({ cls := "java/util/ArrayList", name := "grow", desc := "()[Ljava/lang/Object;" } : Jvm.MethodName)) : Jvm.Cond).before a0 Z = true := hw _ (List.mem_of_getElem? (i := 145) rfl)
theorem w147 {a0 : Array Value} {Z : State} (hw : ∀ d ∈ tables_1, d.before a0 Z = true) : ((Jvm.Cond.code ({ cls := "java/util/ArrayList", name := "grow", desc := "()[Ljava/lang/Object;" } : Jvm.MethodName) jdk_38_method_7_code (1 : Nat) (Option.some (Jvm.ClassFile.FieldType.array (Jvm.ClassFile.FieldType.object "java/lang/Object")))) : Jvm.Cond).before a0 Z = true := hw _ (List.mem_of_getElem? (i := 147) rfl)
theorem w148 {a0 : Array Value} {Z : State} (hw : ∀ d ∈ tables_1, d.before a0 Z = true) : ((Jvm.Cond.methodLink "java/util/ArrayList" (69 : Nat) ({ cls := "java/util/ArrayList", name := "grow", desc := "(I)[Ljava/lang/Object;" } : Jvm.MethodName)) : Jvm.Cond).before a0 Z = true := hw _ (List.mem_of_getElem? (i := 148) rfl)
theorem w149 {a0 : Array Value} {Z : State} (hw : ∀ d ∈ tables_1, d.before a0 Z = true) : ((Jvm.Cond.instanceMethod ({ cls := "java/util/ArrayList", name := "grow", desc := "(I)[Ljava/lang/Object;" } : Jvm.MethodName)) : Jvm.Cond).before a0 Z = true := hw _ (List.mem_of_getElem? (i := 149) rfl)
theorem w150 {a0 : Array Value} {Z : State} (hw : ∀ d ∈ tables_1, d.before a0 Z = true) : ((Jvm.Cond.privateMethod ({ cls := "java/util/ArrayList", name := "grow", desc := "(I)[Ljava/lang/Object;" } : Jvm.MethodName)) : Jvm.Cond).before a0 Z = true := hw _ (List.mem_of_getElem? (i := 150) rfl)
theorem w152 {a0 : Array Value} {Z : State} (hw : ∀ d ∈ tables_1, d.before a0 Z = true) : ((Jvm.Cond.code ({ cls := "java/util/ArrayList", name := "grow", desc := "(I)[Ljava/lang/Object;" } : Jvm.MethodName) jdk_38_method_6_code (4 : Nat) (Option.some (Jvm.ClassFile.FieldType.array (Jvm.ClassFile.FieldType.object "java/lang/Object")))) : Jvm.Cond).before a0 Z = true := hw _ (List.mem_of_getElem? (i := 152) rfl)
theorem w153 {a0 : Array Value} {Z : State} (hw : ∀ d ∈ tables_1, d.before a0 Z = true) : ((Jvm.Cond.methodLink "java/util/ArrayList" (79 : Nat) ({ cls := "java/lang/Math", name := "max", desc := "(II)I" } : Jvm.MethodName)) : Jvm.Cond).before a0 Z = true := hw _ (List.mem_of_getElem? (i := 153) rfl)
theorem w154 {a0 : Array Value} {Z : State} (hw : ∀ d ∈ tables_1, d.before a0 Z = true) : ((Jvm.Cond.static ({ cls := "java/lang/Math", name := "max", desc := "(II)I" } : Jvm.MethodName)) : Jvm.Cond).before a0 Z = true := hw _ (List.mem_of_getElem? (i := 154) rfl)
theorem w155 {a0 : Array Value} {Z : State} (hw : ∀ d ∈ tables_1, d.before a0 Z = true) : ((Jvm.Cond.initialized "java/lang/Math") : Jvm.Cond).before a0 Z = true := hw _ (List.mem_of_getElem? (i := 155) rfl)
theorem w156 {a0 : Array Value} {Z : State} (hw : ∀ d ∈ tables_1, d.before a0 Z = true) : ((Jvm.Cond.code ({ cls := "java/lang/Math", name := "max", desc := "(II)I" } : Jvm.MethodName) jdk_29_method_65_code (2 : Nat) (Option.some Jvm.ClassFile.FieldType.int)) : Jvm.Cond).before a0 Z = true := hw _ (List.mem_of_getElem? (i := 156) rfl)
theorem w157 {a0 : Array Value} {Z : State} (hw : ∀ d ∈ tables_1, d.before a0 Z = true) : ((Jvm.Cond.classLink "java/util/ArrayList" (7 : Nat) "java/lang/Object") : Jvm.Cond).before a0 Z = true := hw _ (List.mem_of_getElem? (i := 157) rfl)
theorem w158 {a0 : Array Value} {Z : State} (hw : ∀ d ∈ tables_1, d.before a0 Z = true) : ((Jvm.Cond.arrayOver (Jvm.ClassFile.FieldType.object "java/lang/Object")) : Jvm.Cond).before a0 Z = true := hw _ (List.mem_of_getElem? (i := 158) rfl)
theorem w159 {a0 : Array Value} {Z : State} (hw : ∀ d ∈ tables_1, d.before a0 Z = true) : ((Jvm.Cond.castable "java/lang/String" "java/lang/Object") : Jvm.Cond).before a0 Z = true := hw _ (List.mem_of_getElem? (i := 159) rfl)
theorem w160 {a0 : Array Value} {Z : State} (hw : ∀ d ∈ tables_1, d.before a0 Z = true) : ((Jvm.Cond.methodLink "com/example/afterscore/afterscore/io/NameTable" (50 : Nat) ({ cls := "com/example/afterscore/afterscore/io/NameTable", name := "place", desc := "(Ljava/lang/String;I)V" } : Jvm.MethodName)) : Jvm.Cond).before a0 Z = true := hw _ (List.mem_of_getElem? (i := 160) rfl)
theorem w161 {a0 : Array Value} {Z : State} (hw : ∀ d ∈ tables_1, d.before a0 Z = true) : ((Jvm.Cond.instanceMethod ({ cls := "com/example/afterscore/afterscore/io/NameTable", name := "place", desc := "(Ljava/lang/String;I)V" } : Jvm.MethodName)) : Jvm.Cond).before a0 Z = true := hw _ (List.mem_of_getElem? (i := 161) rfl)
theorem w162 {a0 : Array Value} {Z : State} (hw : ∀ d ∈ tables_1, d.before a0 Z = true) : ((Jvm.Cond.privateMethod ({ cls := "com/example/afterscore/afterscore/io/NameTable", name := "place", desc := "(Ljava/lang/String;I)V" } : Jvm.MethodName)) : Jvm.Cond).before a0 Z = true := hw _ (List.mem_of_getElem? (i := 162) rfl)
theorem w163 {a0 : Array Value} {Z : State} (hw : ∀ d ∈ tables_1, d.before a0 Z = true) : ((Jvm.Cond.code ({ cls := "com/example/afterscore/afterscore/io/NameTable", name := "place", desc := "(Ljava/lang/String;I)V" } : Jvm.MethodName) prog_4_method_8_code (5 : Nat) (Option.none : Option Jvm.ClassFile.FieldType)) : Jvm.Cond).before a0 Z = true := hw _ (List.mem_of_getElem? (i := 163) rfl)
theorem w164 {a0 : Array Value} {Z : State} (hw : ∀ d ∈ tables_1, d.before a0 Z = true) : ((Jvm.Cond.methodLink "com/example/afterscore/afterscore/io/NameTable" (61 : Nat) ({ cls := "java/lang/String", name := "hashCode", desc := "()I" } : Jvm.MethodName)) : Jvm.Cond).before a0 Z = true := hw _ (List.mem_of_getElem? (i := 164) rfl)
theorem w165 {a0 : Array Value} {Z : State} (hw : ∀ d ∈ tables_1, d.before a0 Z = true) : ((Jvm.Cond.declares ({ cls := "java/lang/String", name := "hashCode", desc := "()I" } : Jvm.MethodName)) : Jvm.Cond).before a0 Z = true := hw _ (List.mem_of_getElem? (i := 165) rfl)
theorem w166 {a0 : Array Value} {Z : State} (hw : ∀ d ∈ tables_1, d.before a0 Z = true) : ((Jvm.Cond.instanceMethod ({ cls := "java/lang/String", name := "hashCode", desc := "()I" } : Jvm.MethodName)) : Jvm.Cond).before a0 Z = true := hw _ (List.mem_of_getElem? (i := 166) rfl)
theorem w167 {a0 : Array Value} {Z : State} (hw : ∀ d ∈ tables_1, d.before a0 Z = true) : ((Jvm.Cond.selects "java/lang/String" ({ cls := "java/lang/String", name := "hashCode", desc := "()I" } : Jvm.MethodName) ({ cls := "java/lang/String", name := "hashCode", desc := "()I" } : Jvm.MethodName)) : Jvm.Cond).before a0 Z = true := hw _ (List.mem_of_getElem? (i := 167) rfl)
theorem w168 {a0 : Array Value} {Z : State} (hw : ∀ d ∈ tables_1, d.before a0 Z = true) : ((Jvm.Cond.code ({ cls := "java/lang/String", name := "hashCode", desc := "()I" } : Jvm.MethodName) jdk_42_method_78_code (2 : Nat) (Option.some Jvm.ClassFile.FieldType.int)) : Jvm.Cond).before a0 Z = true := hw _ (List.mem_of_getElem? (i := 168) rfl)
theorem w169 {a0 : Array Value} {Z : State} (hw : ∀ d ∈ tables_1, d.before a0 Z = true) : ((Jvm.Cond.fieldLink "java/lang/String" (19 : Nat) "java/lang/String" "hash" "I") : Jvm.Cond).before a0 Z = true := hw _ (List.mem_of_getElem? (i := 169) rfl)
theorem w170 {a0 : Array Value} {Z : State} (hw : ∀ d ∈ tables_1, d.before a0 Z = true) : ((Jvm.Cond.lays "java/lang/String" "java/lang/String" "hash" "I") : Jvm.Cond).before a0 Z = true := hw _ (List.mem_of_getElem? (i := 170) rfl)
theorem w171 {a0 : Array Value} {Z : State} (hw : ∀ d ∈ tables_1, d.before a0 Z = true) : ((Jvm.Cond.fieldLink "java/lang/String" (23 : Nat) "java/lang/String" "hashIsZero" "Z") : Jvm.Cond).before a0 Z = true := hw _ (List.mem_of_getElem? (i := 171) rfl)
theorem w172 {a0 : Array Value} {Z : State} (hw : ∀ d ∈ tables_1, d.before a0 Z = true) : ((Jvm.Cond.lays "java/lang/String" "java/lang/String" "hashIsZero" "Z") : Jvm.Cond).before a0 Z = true := hw _ (List.mem_of_getElem? (i := 172) rfl)
theorem w173 {a0 : Array Value} {Z : State} (hw : ∀ d ∈ tables_1, d.before a0 Z = true) : ((Jvm.Cond.methodLink "java/lang/String" (492 : Nat) ({ cls := "java/lang/String", name := "isLatin1", desc := "()Z" } : Jvm.MethodName)) : Jvm.Cond).before a0 Z = true := hw _ (List.mem_of_getElem? (i := 173) rfl)
theorem w174 {a0 : Array Value} {Z : State} (hw : ∀ d ∈ tables_1, d.before a0 Z = true) : ((Jvm.Cond.declares ({ cls := "java/lang/String", name := "isLatin1", desc := "()Z" } : Jvm.MethodName)) : Jvm.Cond).before a0 Z = true := hw _ (List.mem_of_getElem? (i := 174) rfl)
theorem w175 {a0 : Array Value} {Z : State} (hw : ∀ d ∈ tables_1, d.before a0 Z = true) : ((Jvm.Cond.instanceMethod ({ cls := "java/lang/String", name := "isLatin1", desc := "()Z" } : Jvm.MethodName)) : Jvm.Cond).before a0 Z = true := hw _ (List.mem_of_getElem? (i := 175) rfl)
theorem w176 {a0 : Array Value} {Z : State} (hw : ∀ d ∈ tables_1, d.before a0 Z = true) : ((Jvm.Cond.selects "java/lang/String" ({ cls := "java/lang/String", name := "isLatin1", desc := "()Z" } : Jvm.MethodName) ({ cls := "java/lang/String", name := "isLatin1", desc := "()Z" } : Jvm.MethodName)) : Jvm.Cond).before a0 Z = true := hw _ (List.mem_of_getElem? (i := 176) rfl)
theorem w177 {a0 : Array Value} {Z : State} (hw : ∀ d ∈ tables_1, d.before a0 Z = true) : ((Jvm.Cond.code ({ cls := "java/lang/String", name := "isLatin1", desc := "()Z" } : Jvm.MethodName) jdk_42_method_154_code (1 : Nat) (Option.some Jvm.ClassFile.FieldType.boolean)) : Jvm.Cond).before a0 Z = true := hw _ (List.mem_of_getElem? (i := 177) rfl)
theorem w178 {a0 : Array Value} {Z : State} (hw : ∀ d ∈ tables_1, d.before a0 Z = true) : ((Jvm.Cond.methodLink "java/lang/String" (628 : Nat) ({ cls := "java/lang/StringLatin1", name := "hashCode", desc := "([B)I" } : Jvm.MethodName)) : Jvm.Cond).before a0 Z = true := hw _ (List.mem_of_getElem? (i := 178) rfl)
theorem w179 {a0 : Array Value} {Z : State} (hw : ∀ d ∈ tables_1, d.before a0 Z = true) : ((Jvm.Cond.static ({ cls := "java/lang/StringLatin1", name := "hashCode", desc := "([B)I" } : Jvm.MethodName)) : Jvm.Cond).before a0 Z = true := hw _ (List.mem_of_getElem? (i := 179) rfl)
theorem w180 {a0 : Array Value} {Z : State} (hw : ∀ d ∈ tables_1, d.before a0 Z = true) : ((Jvm.Cond.code ({ cls := "java/lang/StringLatin1", name := "hashCode", desc := "([B)I" } : Jvm.MethodName) jdk_43_method_21_code (1 : Nat) (Option.some Jvm.ClassFile.FieldType.int)) : Jvm.Cond).before a0 Z = true := hw _ (List.mem_of_getElem? (i := 180) rfl)
theorem w181 {a0 : Array Value} {Z : State} (hw : ∀ d ∈ tables_1, d.before a0 Z = true) : ((Jvm.Cond.methodLink "com/example/afterscore/afterscore/io/NameTable" (64 : Nat) ({ cls := "com/example/afterscore/afterscore/io/NameTable", name := "slot", desc := "(I)I" } : Jvm.MethodName)) : Jvm.Cond).before a0 Z = true := hw _ (List.mem_of_getElem? (i := 181) rfl)
theorem w182 {a0 : Array Value} {Z : State} (hw : ∀ d ∈ tables_1, d.before a0 Z = true) : ((Jvm.Cond.instanceMethod ({ cls := "com/example/afterscore/afterscore/io/NameTable", name := "slot", desc := "(I)I" } : Jvm.MethodName)) : Jvm.Cond).before a0 Z = true := hw _ (List.mem_of_getElem? (i := 182) rfl)
theorem w183 {a0 : Array Value} {Z : State} (hw : ∀ d ∈ tables_1, d.before a0 Z = true) : ((Jvm.Cond.privateMethod ({ cls := "com/example/afterscore/afterscore/io/NameTable", name := "slot", desc := "(I)I" } : Jvm.MethodName)) : Jvm.Cond).before a0 Z = true := hw _ (List.mem_of_getElem? (i := 183) rfl)
theorem w184 {a0 : Array Value} {Z : State} (hw : ∀ d ∈ tables_1, d.before a0 Z = true) : ((Jvm.Cond.code ({ cls := "com/example/afterscore/afterscore/io/NameTable", name := "slot", desc := "(I)I" } : Jvm.MethodName) prog_4_method_9_code (2 : Nat) (Option.some Jvm.ClassFile.FieldType.int)) : Jvm.Cond).before a0 Z = true := hw _ (List.mem_of_getElem? (i := 184) rfl)
theorem w185 {a0 : Array Value} {Z : State} (hw : ∀ d ∈ tables_1, d.before a0 Z = true) : ((Jvm.Cond.constant "com/example/afterscore/afterscore/io/NameTable" (105 : Nat) (-1640531527 : Int32)) : Jvm.Cond).before a0 Z = true := hw _ (List.mem_of_getElem? (i := 185) rfl)
theorem w186 {a0 : Array Value} {Z : State} (hw : ∀ d ∈ tables_1, d.before a0 Z = true) : ((Jvm.Cond.methodLink "com/example/afterscore/afterscore/io/NameTable" (106 : Nat) ({ cls := "java/lang/Integer", name := "numberOfLeadingZeros", desc := "(I)I" } : Jvm.MethodName)) : Jvm.Cond).before a0 Z = true := hw _ (List.mem_of_getElem? (i := 186) rfl)
theorem w187 {a0 : Array Value} {Z : State} (hw : ∀ d ∈ tables_1, d.before a0 Z = true) : ((Jvm.Cond.static ({ cls := "java/lang/Integer", name := "numberOfLeadingZeros", desc := "(I)I" } : Jvm.MethodName)) : Jvm.Cond).before a0 Z = true := hw _ (List.mem_of_getElem? (i := 187) rfl)
theorem w188 {a0 : Array Value} {Z : State} (hw : ∀ d ∈ tables_1, d.before a0 Z = true) : ((Jvm.Cond.initialized "java/lang/Integer") : Jvm.Cond).before a0 Z = true := hw _ (List.mem_of_getElem? (i := 188) rfl)
theorem w189 {a0 : Array Value} {Z : State} (hw : ∀ d ∈ tables_1, d.before a0 Z = true) : ((Jvm.Cond.code ({ cls := "java/lang/Integer", name := "numberOfLeadingZeros", desc := "(I)I" } : Jvm.MethodName) jdk_33_method_47_code (2 : Nat) (Option.some Jvm.ClassFile.FieldType.int)) : Jvm.Cond).before a0 Z = true := hw _ (List.mem_of_getElem? (i := 189) rfl)
theorem w190 {a0 : Array Value} {Z : State} (hw : ∀ d ∈ tables_1, d.before a0 Z = true) : ((Jvm.Cond.constant "java/lang/Integer" (264 : Nat) (65536 : Int32)) : Jvm.Cond).before a0 Z = true := hw _ (List.mem_of_getElem? (i := 190) rfl)
theorem w191 {a0 : Array Value} {Z : State} (hw : ∀ d ∈ tables_1, d.before a0 Z = true) : ((Jvm.Cond.fieldLink "com/example/afterscore/afterscore/io/NameTable" (54 : Nat) "com/example/afterscore/afterscore/io/NameTable" "taken" "I") : Jvm.Cond).before a0 Z = true := hw _ (List.mem_of_getElem? (i := 191) rfl)
theorem w192 {a0 : Array Value} {Z : State} (hw : ∀ d ∈ tables_1, d.before a0 Z = true) : ((Jvm.Cond.lays "com/example/afterscore/afterscore/io/NameTable" "com/example/afterscore/afterscore/io/NameTable" "taken" "I") : Jvm.Cond).before a0 Z = true := hw _ (List.mem_of_getElem? (i := 192) rfl)
theorem w193 {a0 : Array Value} {Z : State} (hw : ∀ d ∈ tables_1, d.before a0 Z = true) : ((Jvm.Cond.methodLink "java/lang/StringLatin1" (84 : Nat) ({ cls := "jdk/internal/util/ArraysSupport", name := "vectorizedHashCode", desc := "(Ljava/lang/Object;IIII)I" } : Jvm.MethodName)) : Jvm.Cond).before a0 Z = true := hw _ (List.mem_of_getElem? (i := 193) rfl)
theorem w194 {a0 : Array Value} {Z : State} (hw : ∀ d ∈ tables_1, d.before a0 Z = true) : ((Jvm.Cond.static ({ cls := "jdk/internal/util/ArraysSupport", name := "vectorizedHashCode", desc := "(Ljava/lang/Object;IIII)I" } : Jvm.MethodName)) : Jvm.Cond).before a0 Z = true := hw _ (List.mem_of_getElem? (i := 194) rfl)
theorem w195 {a0 : Array Value} {Z : State} (hw : ∀ d ∈ tables_1, d.before a0 Z = true) : ((Jvm.Cond.initialized "jdk/internal/util/ArraysSupport") : Jvm.Cond).before a0 Z = true := hw _ (List.mem_of_getElem? (i := 195) rfl)
theorem w196 {a0 : Array Value} {Z : State} (hw : ∀ d ∈ tables_1, d.before a0 Z = true) : ((Jvm.Cond.code ({ cls := "jdk/internal/util/ArraysSupport", name := "vectorizedHashCode", desc := "(Ljava/lang/Object;IIII)I" } : Jvm.MethodName) jdk_48_method_4_code (5 : Nat) (Option.some Jvm.ClassFile.FieldType.int)) : Jvm.Cond).before a0 Z = true := hw _ (List.mem_of_getElem? (i := 196) rfl)
theorem w197 {a0 : Array Value} {Z : State} (hw : ∀ d ∈ tables_1, d.before a0 Z = true) : ((Jvm.Cond.classLink "jdk/internal/util/ArraysSupport" (60 : Nat) "[B") : Jvm.Cond).before a0 Z = true := hw _ (List.mem_of_getElem? (i := 197) rfl)
theorem w199 {a0 : Array Value} {Z : State} (hw : ∀ d ∈ tables_1, d.before a0 Z = true) : ((Jvm.Cond.methodLink "jdk/internal/util/ArraysSupport" (62 : Nat) ({ cls := "jdk/internal/util/ArraysSupport", name := "signedHashCode", desc := "(I[BII)I" } : Jvm.MethodName)) : Jvm.Cond).before a0 Z = true := hw _ (List.mem_of_getElem? (i := 199) rfl)
theorem w200 {a0 : Array Value} {Z : State} (hw : ∀ d ∈ tables_1, d.before a0 Z = true) : ((Jvm.Cond.static ({ cls := "jdk/internal/util/ArraysSupport", name := "signedHashCode", desc := "(I[BII)I" } : Jvm.MethodName)) : Jvm.Cond).before a0 Z = true := hw _ (List.mem_of_getElem? (i := 200) rfl)
theorem w201 {a0 : Array Value} {Z : State} (hw : ∀ d ∈ tables_1, d.before a0 Z = true) : ((Jvm.Cond.code ({ cls := "jdk/internal/util/ArraysSupport", name := "signedHashCode", desc := "(I[BII)I" } : Jvm.MethodName) jdk_48_method_5_code (6 : Nat) (Option.some Jvm.ClassFile.FieldType.int)) : Jvm.Cond).before a0 Z = true := hw _ (List.mem_of_getElem? (i := 201) rfl)
theorem w202 {a0 : Array Value} {Z : State} (hw : ∀ d ∈ tables_1, d.before a0 Z = true) : ((Jvm.Cond.methodLink "com/example/afterscore/afterscore/io/NameTableNamePinLaw" (27 : Nat) ({ cls := "com/example/afterscore/afterscore/io/NameTable", name := "indexOf", desc := "(Ljava/lang/String;)I" } : Jvm.MethodName)) : Jvm.Cond).before a0 Z = true := hw _ (List.mem_of_getElem? (i := 202) rfl)
theorem w203 {a0 : Array Value} {Z : State} (hw : ∀ d ∈ tables_1, d.before a0 Z = true) : ((Jvm.Cond.declares ({ cls := "com/example/afterscore/afterscore/io/NameTable", name := "indexOf", desc := "(Ljava/lang/String;)I" } : Jvm.MethodName)) : Jvm.Cond).before a0 Z = true := hw _ (List.mem_of_getElem? (i := 203) rfl)
theorem w204 {a0 : Array Value} {Z : State} (hw : ∀ d ∈ tables_1, d.before a0 Z = true) : ((Jvm.Cond.instanceMethod ({ cls := "com/example/afterscore/afterscore/io/NameTable", name := "indexOf", desc := "(Ljava/lang/String;)I" } : Jvm.MethodName)) : Jvm.Cond).before a0 Z = true := hw _ (List.mem_of_getElem? (i := 204) rfl)
theorem w205 {a0 : Array Value} {Z : State} (hw : ∀ d ∈ tables_1, d.before a0 Z = true) : ((Jvm.Cond.selects "com/example/afterscore/afterscore/io/NameTable" ({ cls := "com/example/afterscore/afterscore/io/NameTable", name := "indexOf", desc := "(Ljava/lang/String;)I" } : Jvm.MethodName) ({ cls := "com/example/afterscore/afterscore/io/NameTable", name := "indexOf", desc := "(Ljava/lang/String;)I" } : Jvm.MethodName)) : Jvm.Cond).before a0 Z = true := hw _ (List.mem_of_getElem? (i := 205) rfl)
theorem w206 {a0 : Array Value} {Z : State} (hw : ∀ d ∈ tables_1, d.before a0 Z = true) : ((Jvm.Cond.code ({ cls := "com/example/afterscore/afterscore/io/NameTable", name := "indexOf", desc := "(Ljava/lang/String;)I" } : Jvm.MethodName) prog_4_method_5_code (6 : Nat) (Option.some Jvm.ClassFile.FieldType.int)) : Jvm.Cond).before a0 Z = true := hw _ (List.mem_of_getElem? (i := 206) rfl)
theorem w207 {a0 : Array Value} {Z : State} (hw : ∀ d ∈ tables_1, d.before a0 Z = true) : ((Jvm.Cond.methodLink "com/example/afterscore/afterscore/io/NameTable" (68 : Nat) ({ cls := "java/lang/String", name := "equals", desc := "(Ljava/lang/Object;)Z" } : Jvm.MethodName)) : Jvm.Cond).before a0 Z = true := hw _ (List.mem_of_getElem? (i := 207) rfl)
theorem w208 {a0 : Array Value} {Z : State} (hw : ∀ d ∈ tables_1, d.before a0 Z = true) : ((Jvm.Cond.declares ({ cls := "java/lang/String", name := "equals", desc := "(Ljava/lang/Object;)Z" } : Jvm.MethodName)) : Jvm.Cond).before a0 Z = true := hw _ (List.mem_of_getElem? (i := 208) rfl)
theorem w209 {a0 : Array Value} {Z : State} (hw : ∀ d ∈ tables_1, d.before a0 Z = true) : ((Jvm.Cond.instanceMethod ({ cls := "java/lang/String", name := "equals", desc := "(Ljava/lang/Object;)Z" } : Jvm.MethodName)) : Jvm.Cond).before a0 Z = true := hw _ (List.mem_of_getElem? (i := 209) rfl)
theorem w210 {a0 : Array Value} {Z : State} (hw : ∀ d ∈ tables_1, d.before a0 Z = true) : ((Jvm.Cond.selects "java/lang/String" ({ cls := "java/lang/String", name := "equals", desc := "(Ljava/lang/Object;)Z" } : Jvm.MethodName) ({ cls := "java/lang/String", name := "equals", desc := "(Ljava/lang/Object;)Z" } : Jvm.MethodName)) : Jvm.Cond).before a0 Z = true := hw _ (List.mem_of_getElem? (i := 210) rfl)
theorem w211 {a0 : Array Value} {Z : State} (hw : ∀ d ∈ tables_1, d.before a0 Z = true) : ((Jvm.Cond.code ({ cls := "java/lang/String", name := "equals", desc := "(Ljava/lang/Object;)Z" } : Jvm.MethodName) jdk_42_method_66_code (3 : Nat) (Option.some Jvm.ClassFile.FieldType.boolean)) : Jvm.Cond).before a0 Z = true := hw _ (List.mem_of_getElem? (i := 211) rfl)
theorem w212 {a0 : Array Value} {Z : State} (hw : ∀ d ∈ tables_1, d.before a0 Z = true) : ((Jvm.Cond.methodLink "java/lang/String" (541 : Nat) ({ cls := "java/lang/StringLatin1", name := "equals", desc := "([B[B)Z" } : Jvm.MethodName)) : Jvm.Cond).before a0 Z = true := hw _ (List.mem_of_getElem? (i := 212) rfl)
theorem w213 {a0 : Array Value} {Z : State} (hw : ∀ d ∈ tables_1, d.before a0 Z = true) : ((Jvm.Cond.static ({ cls := "java/lang/StringLatin1", name := "equals", desc := "([B[B)Z" } : Jvm.MethodName)) : Jvm.Cond).before a0 Z = true := hw _ (List.mem_of_getElem? (i := 213) rfl)
theorem w214 {a0 : Array Value} {Z : State} (hw : ∀ d ∈ tables_1, d.before a0 Z = true) : ((Jvm.Cond.code ({ cls := "java/lang/StringLatin1", name := "equals", desc := "([B[B)Z" } : Jvm.MethodName) jdk_43_method_13_code (3 : Nat) (Option.some Jvm.ClassFile.FieldType.boolean)) : Jvm.Cond).before a0 Z = true := hw _ (List.mem_of_getElem? (i := 214) rfl)
theorem w215 {a0 : Array Value} {Z : State} (hw : ∀ d ∈ tables_1, d.before a0 Z = true) : ((Jvm.Cond.methodLink "com/example/afterscore/afterscore/io/NameTableNamePinLaw" (30 : Nat) ({ cls := "com/example/afterscore/afterscore/io/NameTable", name := "name", desc := "(I)Ljava/lang/String;" } : Jvm.MethodName)) : Jvm.Cond).before a0 Z = true := hw _ (List.mem_of_getElem? (i := 215) rfl)
theorem w216 {a0 : Array Value} {Z : State} (hw : ∀ d ∈ tables_1, d.before a0 Z = true) : ((Jvm.Cond.declares ({ cls := "com/example/afterscore/afterscore/io/NameTable", name := "name", desc := "(I)Ljava/lang/String;" } : Jvm.MethodName)) : Jvm.Cond).before a0 Z = true := hw _ (List.mem_of_getElem? (i := 216) rfl)
theorem w217 {a0 : Array Value} {Z : State} (hw : ∀ d ∈ tables_1, d.before a0 Z = true) : ((Jvm.Cond.instanceMethod ({ cls := "com/example/afterscore/afterscore/io/NameTable", name := "name", desc := "(I)Ljava/lang/String;" } : Jvm.MethodName)) : Jvm.Cond).before a0 Z = true := hw _ (List.mem_of_getElem? (i := 217) rfl)
theorem w218 {a0 : Array Value} {Z : State} (hw : ∀ d ∈ tables_1, d.before a0 Z = true) : ((Jvm.Cond.selects "com/example/afterscore/afterscore/io/NameTable" ({ cls := "com/example/afterscore/afterscore/io/NameTable", name := "name", desc := "(I)Ljava/lang/String;" } : Jvm.MethodName) ({ cls := "com/example/afterscore/afterscore/io/NameTable", name := "name", desc := "(I)Ljava/lang/String;" } : Jvm.MethodName)) : Jvm.Cond).before a0 Z = true := hw _ (List.mem_of_getElem? (i := 218) rfl)
theorem w219 {a0 : Array Value} {Z : State} (hw : ∀ d ∈ tables_1, d.before a0 Z = true) : ((Jvm.Cond.code ({ cls := "com/example/afterscore/afterscore/io/NameTable", name := "name", desc := "(I)Ljava/lang/String;" } : Jvm.MethodName) prog_4_method_3_code (2 : Nat) (Option.some (Jvm.ClassFile.FieldType.object "java/lang/String"))) : Jvm.Cond).before a0 Z = true := hw _ (List.mem_of_getElem? (i := 219) rfl)
theorem w220 {a0 : Array Value} {Z : State} (hw : ∀ d ∈ tables_1, d.before a0 Z = true) : ((Jvm.Cond.methodLink "com/example/afterscore/afterscore/io/NameTable" (42 : Nat) ({ cls := "java/util/List", name := "get", desc := "(I)Ljava/lang/Object;" } : Jvm.MethodName)) : Jvm.Cond).before a0 Z = true := hw _ (List.mem_of_getElem? (i := 220) rfl)
theorem w221 {a0 : Array Value} {Z : State} (hw : ∀ d ∈ tables_1, d.before a0 Z = true) : ((Jvm.Cond.declares ({ cls := "java/util/List", name := "get", desc := "(I)Ljava/lang/Object;" } : Jvm.MethodName)) : Jvm.Cond).before a0 Z = true := hw _ (List.mem_of_getElem? (i := 221) rfl)
theorem w222 {a0 : Array Value} {Z : State} (hw : ∀ d ∈ tables_1, d.before a0 Z = true) : ((Jvm.Cond.interfaceMethod "java/util/List" "java/util/List" "get" "(I)Ljava/lang/Object;") : Jvm.Cond).before a0 Z = true := hw _ (List.mem_of_getElem? (i := 222) rfl)
theorem w223 {a0 : Array Value} {Z : State} (hw : ∀ d ∈ tables_1, d.before a0 Z = true) : ((Jvm.Cond.selects "java/util/ArrayList" ({ cls := "java/util/List", name := "get", desc := "(I)Ljava/lang/Object;" } : Jvm.MethodName) ({ cls := "java/util/ArrayList", name := "get", desc := "(I)Ljava/lang/Object;" } : Jvm.MethodName)) : Jvm.Cond).before a0 Z = true := hw _ (List.mem_of_getElem? (i := 223) rfl)
theorem w224 {a0 : Array Value} {Z : State} (hw : ∀ d ∈ tables_1, d.before a0 Z = true) : ((Jvm.Cond.instanceMethod ({ cls := "java/util/ArrayList", name := "get", desc := "(I)Ljava/lang/Object;" } : Jvm.MethodName)) : Jvm.Cond).before a0 Z = true := hw _ (List.mem_of_getElem? (i := 224) rfl)
theorem w225 {a0 : Array Value} {Z : State} (hw : ∀ d ∈ tables_1, d.before a0 Z = true) : ((Jvm.Cond.publicMethod ({ cls := "java/util/ArrayList", name := "get", desc := "(I)Ljava/lang/Object;" } : Jvm.MethodName)) : Jvm.Cond).before a0 Z = true := hw _ (List.mem_of_getElem? (i := 225) rfl)
theorem w226 {a0 : Array Value} {Z : State} (hw : ∀ d ∈ tables_1, d.before a0 Z = true) : ((Jvm.Cond.unhidden "java/util/ArrayList" "get" "(I)Ljava/lang/Object;") : Jvm.Cond).before a0 Z = true := hw _ (List.mem_of_getElem? (i := 226) rfl)
theorem w227 {a0 : Array Value} {Z : State} (hw : ∀ d ∈ tables_1, d.before a0 Z = true) : ((Jvm.Cond.code ({ cls := "java/util/ArrayList", name := "get", desc := "(I)Ljava/lang/Object;" } : Jvm.MethodName) jdk_38_method_20_code (2 : Nat) (Option.some (Jvm.ClassFile.FieldType.object "java/lang/Object"))) : Jvm.Cond).before a0 Z = true := hw _ (List.mem_of_getElem? (i := 227) rfl)
theorem w228 {a0 : Array Value} {Z : State} (hw : ∀ d ∈ tables_1, d.before a0 Z = true) : ((Jvm.Cond.methodLink "java/util/ArrayList" (118 : Nat) ({ cls := "java/util/Objects", name := "checkIndex", desc := "(II)I" } : Jvm.MethodName)) : Jvm.Cond).before a0 Z = true := hw _ (List.mem_of_getElem? (i := 228) rfl)
theorem w229 {a0 : Array Value} {Z : State} (hw : ∀ d ∈ tables_1, d.before a0 Z = true) : ((Jvm.Cond.static ({ cls := "java/util/Objects", name := "checkIndex", desc := "(II)I" } : Jvm.MethodName)) : Jvm.Cond).before a0 Z = true := hw _ (List.mem_of_getElem? (i := 229) rfl)
theorem w230 {a0 : Array Value} {Z : State} (hw : ∀ d ∈ tables_1, d.before a0 Z = true) : ((Jvm.Cond.initialized "java/util/Objects") : Jvm.Cond).before a0 Z = true := hw _ (List.mem_of_getElem? (i := 230) rfl)
theorem w231 {a0 : Array Value} {Z : State} (hw : ∀ d ∈ tables_1, d.before a0 Z = true) : ((Jvm.Cond.code ({ cls := "java/util/Objects", name := "checkIndex", desc := "(II)I" } : Jvm.MethodName) jdk_31_method_17_code (2 : Nat) (Option.some Jvm.ClassFile.FieldType.int)) : Jvm.Cond).before a0 Z = true := hw _ (List.mem_of_getElem? (i := 231) rfl)
theorem w232 {a0 : Array Value} {Z : State} (hw : ∀ d ∈ tables_1, d.before a0 Z = true) : ((Jvm.Cond.methodLink "java/util/Objects" (105 : Nat) ({ cls := "jdk/internal/util/Preconditions", name := "checkIndex", desc := "(IILjava/util/function/BiFunction;)I" } : Jvm.MethodName)) : Jvm.Cond).before a0 Z = true := hw _ (List.mem_of_getElem? (i := 232) rfl)
theorem w233 {a0 : Array Value} {Z : State} (hw : ∀ d ∈ tables_1, d.before a0 Z = true) : ((Jvm.Cond.static ({ cls := "jdk/internal/util/Preconditions", name := "checkIndex", desc := "(IILjava/util/function/BiFunction;)I" } : Jvm.MethodName)) : Jvm.Cond).before a0 Z = true := hw _ (List.mem_of_getElem? (i := 233) rfl)
theorem w234 {a0 : Array Value} {Z : State} (hw : ∀ d ∈ tables_1, d.before a0 Z = true) : ((Jvm.Cond.initialized "jdk/internal/util/Preconditions") : Jvm.Cond).before a0 Z = true := hw _ (List.mem_of_getElem? (i := 234) rfl)
theorem w235 {a0 : Array Value} {Z : State} (hw : ∀ d ∈ tables_1, d.before a0 Z = true) : ((Jvm.Cond.code ({ cls := "jdk/internal/util/Preconditions", name := "checkIndex", desc := "(IILjava/util/function/BiFunction;)I" } : Jvm.MethodName) jdk_41_method_11_code (3 : Nat) (Option.some Jvm.ClassFile.FieldType.int)) : Jvm.Cond).before a0 Z = true := hw _ (List.mem_of_getElem? (i := 235) rfl)
theorem w236 {a0 : Array Value} {Z : State} (hw : ∀ d ∈ tables_1, d.before a0 Z = true) : ((Jvm.Cond.methodLink "java/util/ArrayList" (123 : Nat) ({ cls := "java/util/ArrayList", name := "elementData", desc := "(I)Ljava/lang/Object;" } : Jvm.MethodName)) : Jvm.Cond).before a0 Z = true := hw _ (List.mem_of_getElem? (i := 236) rfl)
theorem w237 {a0 : Array Value} {Z : State} (hw : ∀ d ∈ tables_1, d.before a0 Z = true) : ((Jvm.Cond.declares ({ cls := "java/util/ArrayList", name := "elementData", desc := "(I)Ljava/lang/Object;" } : Jvm.MethodName)) : Jvm.Cond).before a0 Z = true := hw _ (List.mem_of_getElem? (i := 237) rfl)
theorem w238 {a0 : Array Value} {Z : State} (hw : ∀ d ∈ tables_1, d.before a0 Z = true) : ((Jvm.Cond.instanceMethod ({ cls := "java/util/ArrayList", name := "elementData", desc := "(I)Ljava/lang/Object;" } : Jvm.MethodName)) : Jvm.Cond).before a0 Z = true := hw _ (List.mem_of_getElem? (i := 238) rfl)
theorem w239 {a0 : Array Value} {Z : State} (hw : ∀ d ∈ tables_1, d.before a0 Z = true) : ((Jvm.Cond.selects "java/util/ArrayList" ({ cls := "java/util/ArrayList", name := "elementData", desc := "(I)Ljava/lang/Object;" } : Jvm.MethodName) ({ cls := "java/util/ArrayList", name := "elementData", desc := "(I)Ljava/lang/Object;" } : Jvm.MethodName)) : Jvm.Cond).before a0 Z = true := hw _ (List.mem_of_getElem? (i := 239) rfl)
theorem w240 {a0 : Array Value} {Z : State} (hw : ∀ d ∈ tables_1, d.before a0 Z = true) : ((Jvm.Cond.code ({ cls := "java/util/ArrayList", name := "elementData", desc := "(I)Ljava/lang/Object;" } : Jvm.MethodName) jdk_38_method_18_code (2 : Nat) (Option.some (Jvm.ClassFile.FieldType.object "java/lang/Object"))) : Jvm.Cond).before a0 Z = true := hw _ (List.mem_of_getElem? (i := 240) rfl)
theorem w241 {a0 : Array Value} {Z : State} (hw : ∀ d ∈ tables_1, d.before a0 Z = true) : ((Jvm.Cond.methodLink "com/example/afterscore/afterscore/io/NameTable" (71 : Nat) ({ cls := "com/example/afterscore/afterscore/io/NameTable", name := "next", desc := "(I)I" } : Jvm.MethodName)) : Jvm.Cond).before a0 Z = true := hw _ (List.mem_of_getElem? (i := 241) rfl)
theorem w242 {a0 : Array Value} {Z : State} (hw : ∀ d ∈ tables_1, d.before a0 Z = true) : ((Jvm.Cond.instanceMethod ({ cls := "com/example/afterscore/afterscore/io/NameTable", name := "next", desc := "(I)I" } : Jvm.MethodName)) : Jvm.Cond).before a0 Z = true := hw _ (List.mem_of_getElem? (i := 242) rfl)
theorem w243 {a0 : Array Value} {Z : State} (hw : ∀ d ∈ tables_1, d.before a0 Z = true) : ((Jvm.Cond.privateMethod ({ cls := "com/example/afterscore/afterscore/io/NameTable", name := "next", desc := "(I)I" } : Jvm.MethodName)) : Jvm.Cond).before a0 Z = true := hw _ (List.mem_of_getElem? (i := 243) rfl)
theorem w244 {a0 : Array Value} {Z : State} (hw : ∀ d ∈ tables_1, d.before a0 Z = true) : ((Jvm.Cond.code ({ cls := "com/example/afterscore/afterscore/io/NameTable", name := "next", desc := "(I)I" } : Jvm.MethodName) prog_4_method_10_code (2 : Nat) (Option.some Jvm.ClassFile.FieldType.int)) : Jvm.Cond).before a0 Z = true := hw _ (List.mem_of_getElem? (i := 244) rfl)
abbrev EL1 : List (String × Nat) := []
theorem ew {a0 : Array Value} {Z : State} (hw : ∀ d ∈ tables_1, d.before a0 Z = true) : EW Z a0 EL1 := EW.nil
theorem d_acin_0 : decode jdk_22_method_1_code 0 = .ok (.aload_n 0, 1) := by decide +kernel
theorem d_acin_1 : decode jdk_22_method_1_code 1 = .ok (.invokespecial 1, 3) := by decide +kernel
theorem d_acin_4 : decode jdk_22_method_1_code 4 = .ok (.return_, 1) := by decide +kernel
theorem d_tmin_0 : decode jdk_2729_method_1_code 0 = .ok (.aload_n 0, 1) := by decide +kernel
theorem d_tmin_1 : decode jdk_2729_method_1_code 1 = .ok (.invokespecial 1, 3) := by decide +kernel
theorem d_tmin_4 : decode jdk_2729_method_1_code 4 = .ok (.aload_n 0, 1) := by decide +kernel
theorem d_tmin_5 : decode jdk_2729_method_1_code 5 = .ok (.iconst 0, 1) := by decide +kernel
theorem d_tmin_6 : decode jdk_2729_method_1_code 6 = .ok (.putfield 7, 3) := by decide +kernel
theorem d_tmin_9 : decode jdk_2729_method_1_code 9 = .ok (.aload_n 0, 1) := by decide +kernel
theorem d_tmin_10 : decode jdk_2729_method_1_code 10 = .ok (.iconst 0, 1) := by decide +kernel
theorem d_tmin_11 : decode jdk_2729_method_1_code 11 = .ok (.putfield 13, 3) := by decide +kernel
theorem d_tmin_14 : decode jdk_2729_method_1_code 14 = .ok (.aload_n 0, 1) := by decide +kernel
theorem d_tmin_15 : decode jdk_2729_method_1_code 15 = .ok (.aconst_null, 1) := by decide +kernel
theorem d_tmin_16 : decode jdk_2729_method_1_code 16 = .ok (.putfield 16, 3) := by decide +kernel
theorem d_tmin_19 : decode jdk_2729_method_1_code 19 = .ok (.return_, 1) := by decide +kernel
theorem d_mmax_0 : decode jdk_29_method_65_code 0 = .ok (.iload_n 0, 1) := by decide +kernel
theorem d_mmax_1 : decode jdk_29_method_65_code 1 = .ok (.iload_n 1, 1) := by decide +kernel
theorem d_mmax_2 : decode jdk_29_method_65_code 2 = .ok (.if_icmp .lt 7, 3) := by decide +kernel
theorem d_mmax_5 : decode jdk_29_method_65_code 5 = .ok (.iload_n 0, 1) := by decide +kernel
theorem d_mmax_6 : decode jdk_29_method_65_code 6 = .ok (.goto 4, 3) := by decide +kernel
theorem d_mmax_10 : decode jdk_29_method_65_code 10 = .ok (.ireturn, 1) := by decide +kernel
theorem d_ocix_0 : decode jdk_31_method_17_code 0 = .ok (.iload_n 0, 1) := by decide +kernel
theorem d_ocix_1 : decode jdk_31_method_17_code 1 = .ok (.iload_n 1, 1) := by decide +kernel
theorem d_ocix_2 : decode jdk_31_method_17_code 2 = .ok (.aconst_null, 1) := by decide +kernel
theorem d_ocix_3 : decode jdk_31_method_17_code 3 = .ok (.invokestatic 105, 3) := by decide +kernel
theorem d_ocix_6 : decode jdk_31_method_17_code 6 = .ok (.ireturn, 1) := by decide +kernel
theorem d_nlz_0 : decode jdk_33_method_47_code 0 = .ok (.iload_n 0, 1) := by decide +kernel
theorem d_nlz_1 : decode jdk_33_method_47_code 1 = .ok (.ifCond .gt 14, 3) := by decide +kernel
theorem d_nlz_15 : decode jdk_33_method_47_code 15 = .ok (.bipush 31, 2) := by decide +kernel
theorem d_nlz_17 : decode jdk_33_method_47_code 17 = .ok (.istore_n 1, 1) := by decide +kernel
theorem d_nlz_18 : decode jdk_33_method_47_code 18 = .ok (.iload_n 0, 1) := by decide +kernel
theorem d_nlz_19 : decode jdk_33_method_47_code 19 = .ok (.ldc_w 264, 3) := by decide +kernel
theorem d_nlz_22 : decode jdk_33_method_47_code 22 = .ok (.if_icmp .lt 11, 3) := by decide +kernel
theorem d_nlz_33 : decode jdk_33_method_47_code 33 = .ok (.iload_n 0, 1) := by decide +kernel
theorem d_nlz_34 : decode jdk_33_method_47_code 34 = .ok (.sipush 256, 3) := by decide +kernel
theorem d_nlz_37 : decode jdk_33_method_47_code 37 = .ok (.if_icmp .lt 11, 3) := by decide +kernel
theorem d_nlz_48 : decode jdk_33_method_47_code 48 = .ok (.iload_n 0, 1) := by decide +kernel
theorem d_nlz_49 : decode jdk_33_method_47_code 49 = .ok (.bipush 16, 2) := by decide +kernel
theorem d_nlz_51 : decode jdk_33_method_47_code 51 = .ok (.if_icmp .lt 10, 3) := by decide +kernel
theorem d_nlz_54 : decode jdk_33_method_47_code 54 = .ok (.iinc 1 (-4), 3) := by decide +kernel
theorem d_nlz_57 : decode jdk_33_method_47_code 57 = .ok (.iload_n 0, 1) := by decide +kernel
theorem d_nlz_58 : decode jdk_33_method_47_code 58 = .ok (.iconst 4, 1) := by decide +kernel
theorem d_nlz_59 : decode jdk_33_method_47_code 59 = .ok (.iushr, 1) := by decide +kernel
theorem d_nlz_60 : decode jdk_33_method_47_code 60 = .ok (.istore_n 0, 1) := by decide +kernel
theorem d_nlz_61 : decode jdk_33_method_47_code 61 = .ok (.iload_n 0, 1) := by decide +kernel
theorem d_nlz_62 : decode jdk_33_method_47_code 62 = .ok (.iconst 4, 1) := by decide +kernel
theorem d_nlz_63 : decode jdk_33_method_47_code 63 = .ok (.if_icmp .lt 10, 3) := by decide +kernel
theorem d_nlz_73 : decode jdk_33_method_47_code 73 = .ok (.iload_n 1, 1) := by decide +kernel
theorem d_nlz_74 : decode jdk_33_method_47_code 74 = .ok (.iload_n 0, 1) := by decide +kernel
theorem d_nlz_75 : decode jdk_33_method_47_code 75 = .ok (.iconst 1, 1) := by decide +kernel
theorem d_nlz_76 : decode jdk_33_method_47_code 76 = .ok (.iushr, 1) := by decide +kernel
theorem d_nlz_77 : decode jdk_33_method_47_code 77 = .ok (.isub, 1) := by decide +kernel
theorem d_nlz_78 : decode jdk_33_method_47_code 78 = .ok (.ireturn, 1) := by decide +kernel
theorem d_aled_0 : decode jdk_38_method_18_code 0 = .ok (.aload_n 0, 1) := by decide +kernel
theorem d_aled_1 : decode jdk_38_method_18_code 1 = .ok (.getfield 9, 3) := by decide +kernel
theorem d_aled_4 : decode jdk_38_method_18_code 4 = .ok (.iload_n 1, 1) := by decide +kernel
theorem d_aled_5 : decode jdk_38_method_18_code 5 = .ok (.aaload, 1) := by decide +kernel
theorem d_aled_6 : decode jdk_38_method_18_code 6 = .ok (.areturn, 1) := by decide +kernel
theorem d_alge_0 : decode jdk_38_method_20_code 0 = .ok (.iload_n 1, 1) := by decide +kernel
theorem d_alge_1 : decode jdk_38_method_20_code 1 = .ok (.aload_n 0, 1) := by decide +kernel
theorem d_alge_2 : decode jdk_38_method_20_code 2 = .ok (.getfield 48, 3) := by decide +kernel
theorem d_alge_5 : decode jdk_38_method_20_code 5 = .ok (.invokestatic 118, 3) := by decide +kernel
theorem d_alge_8 : decode jdk_38_method_20_code 8 = .ok (.pop, 1) := by decide +kernel
theorem d_alge_9 : decode jdk_38_method_20_code 9 = .ok (.aload_n 0, 1) := by decide +kernel
theorem d_alge_10 : decode jdk_38_method_20_code 10 = .ok (.iload_n 1, 1) := by decide +kernel
theorem d_alge_11 : decode jdk_38_method_20_code 11 = .ok (.invokevirtual 123, 3) := by decide +kernel
theorem d_alge_14 : decode jdk_38_method_20_code 14 = .ok (.areturn, 1) := by decide +kernel
theorem d_ald3_0 : decode jdk_38_method_24_code 0 = .ok (.iload_n 3, 1) := by decide +kernel
theorem d_ald3_1 : decode jdk_38_method_24_code 1 = .ok (.aload_n 2, 1) := by decide +kernel
theorem d_ald3_2 : decode jdk_38_method_24_code 2 = .ok (.arraylength, 1) := by decide +kernel
theorem d_ald3_3 : decode jdk_38_method_24_code 3 = .ok (.if_icmp .ne 8, 3) := by decide +kernel
theorem d_ald3_6 : decode jdk_38_method_24_code 6 = .ok (.aload_n 0, 1) := by decide +kernel
theorem d_ald3_7 : decode jdk_38_method_24_code 7 = .ok (.invokevirtual 129, 3) := by decide +kernel
theorem d_ald3_10 : decode jdk_38_method_24_code 10 = .ok (.astore_n 2, 1) := by decide +kernel
theorem d_ald3_11 : decode jdk_38_method_24_code 11 = .ok (.aload_n 2, 1) := by decide +kernel
theorem d_ald3_12 : decode jdk_38_method_24_code 12 = .ok (.iload_n 3, 1) := by decide +kernel
theorem d_ald3_13 : decode jdk_38_method_24_code 13 = .ok (.aload_n 1, 1) := by decide +kernel
theorem d_ald3_14 : decode jdk_38_method_24_code 14 = .ok (.aastore, 1) := by decide +kernel
theorem d_ald3_15 : decode jdk_38_method_24_code 15 = .ok (.aload_n 0, 1) := by decide +kernel
theorem d_ald3_16 : decode jdk_38_method_24_code 16 = .ok (.iload_n 3, 1) := by decide +kernel
theorem d_ald3_17 : decode jdk_38_method_24_code 17 = .ok (.iconst 1, 1) := by decide +kernel
theorem d_ald3_18 : decode jdk_38_method_24_code 18 = .ok (.iadd, 1) := by decide +kernel
theorem d_ald3_19 : decode jdk_38_method_24_code 19 = .ok (.putfield 48, 3) := by decide +kernel
theorem d_ald3_22 : decode jdk_38_method_24_code 22 = .ok (.return_, 1) := by decide +kernel
theorem d_ald1_0 : decode jdk_38_method_25_code 0 = .ok (.aload_n 0, 1) := by decide +kernel
theorem d_ald1_1 : decode jdk_38_method_25_code 1 = .ok (.dup, 1) := by decide +kernel
theorem d_ald1_2 : decode jdk_38_method_25_code 2 = .ok (.getfield 63, 3) := by decide +kernel
theorem d_ald1_5 : decode jdk_38_method_25_code 5 = .ok (.iconst 1, 1) := by decide +kernel
theorem d_ald1_6 : decode jdk_38_method_25_code 6 = .ok (.iadd, 1) := by decide +kernel
theorem d_ald1_7 : decode jdk_38_method_25_code 7 = .ok (.putfield 63, 3) := by decide +kernel
theorem d_ald1_10 : decode jdk_38_method_25_code 10 = .ok (.aload_n 0, 1) := by decide +kernel
theorem d_ald1_11 : decode jdk_38_method_25_code 11 = .ok (.aload_n 1, 1) := by decide +kernel
theorem d_ald1_12 : decode jdk_38_method_25_code 12 = .ok (.aload_n 0, 1) := by decide +kernel
theorem d_ald1_13 : decode jdk_38_method_25_code 13 = .ok (.getfield 9, 3) := by decide +kernel
theorem d_ald1_16 : decode jdk_38_method_25_code 16 = .ok (.aload_n 0, 1) := by decide +kernel
theorem d_ald1_17 : decode jdk_38_method_25_code 17 = .ok (.getfield 48, 3) := by decide +kernel
theorem d_ald1_20 : decode jdk_38_method_25_code 20 = .ok (.invokevirtual 131, 3) := by decide +kernel
theorem d_ald1_23 : decode jdk_38_method_25_code 23 = .ok (.iconst 1, 1) := by decide +kernel
theorem d_ald1_24 : decode jdk_38_method_25_code 24 = .ok (.ireturn, 1) := by decide +kernel
theorem d_arin_0 : decode jdk_38_method_2_code 0 = .ok (.aload_n 0, 1) := by decide +kernel
theorem d_arin_1 : decode jdk_38_method_2_code 1 = .ok (.invokespecial 1, 3) := by decide +kernel
theorem d_arin_4 : decode jdk_38_method_2_code 4 = .ok (.aload_n 0, 1) := by decide +kernel
theorem d_arin_5 : decode jdk_38_method_2_code 5 = .ok (.getstatic 39, 3) := by decide +kernel
theorem d_arin_8 : decode jdk_38_method_2_code 8 = .ok (.putfield 9, 3) := by decide +kernel
theorem d_arin_11 : decode jdk_38_method_2_code 11 = .ok (.return_, 1) := by decide +kernel
theorem d_grw1_0 : decode jdk_38_method_6_code 0 = .ok (.aload_n 0, 1) := by decide +kernel
theorem d_grw1_1 : decode jdk_38_method_6_code 1 = .ok (.getfield 9, 3) := by decide +kernel
theorem d_grw1_4 : decode jdk_38_method_6_code 4 = .ok (.arraylength, 1) := by decide +kernel
theorem d_grw1_5 : decode jdk_38_method_6_code 5 = .ok (.istore_n 2, 1) := by decide +kernel
theorem d_grw1_6 : decode jdk_38_method_6_code 6 = .ok (.iload_n 2, 1) := by decide +kernel
theorem d_grw1_7 : decode jdk_38_method_6_code 7 = .ok (.ifCond .gt 13, 3) := by decide +kernel
theorem d_grw1_10 : decode jdk_38_method_6_code 10 = .ok (.aload_n 0, 1) := by decide +kernel
theorem d_grw1_11 : decode jdk_38_method_6_code 11 = .ok (.getfield 9, 3) := by decide +kernel
theorem d_grw1_14 : decode jdk_38_method_6_code 14 = .ok (.getstatic 39, 3) := by decide +kernel
theorem d_grw1_17 : decode jdk_38_method_6_code 17 = .ok (.if_acmp .eq 28, 3) := by decide +kernel
theorem d_grw1_45 : decode jdk_38_method_6_code 45 = .ok (.aload_n 0, 1) := by decide +kernel
theorem d_grw1_46 : decode jdk_38_method_6_code 46 = .ok (.bipush 10, 2) := by decide +kernel
theorem d_grw1_48 : decode jdk_38_method_6_code 48 = .ok (.iload_n 1, 1) := by decide +kernel
theorem d_grw1_49 : decode jdk_38_method_6_code 49 = .ok (.invokestatic 79, 3) := by decide +kernel
theorem d_grw1_52 : decode jdk_38_method_6_code 52 = .ok (.anewarray 7, 3) := by decide +kernel
theorem d_grw1_55 : decode jdk_38_method_6_code 55 = .ok (.dup_x1, 1) := by decide +kernel
theorem d_grw1_56 : decode jdk_38_method_6_code 56 = .ok (.putfield 9, 3) := by decide +kernel
theorem d_grw1_59 : decode jdk_38_method_6_code 59 = .ok (.areturn, 1) := by decide +kernel
theorem d_grw0_0 : decode jdk_38_method_7_code 0 = .ok (.aload_n 0, 1) := by decide +kernel
theorem d_grw0_1 : decode jdk_38_method_7_code 1 = .ok (.aload_n 0, 1) := by decide +kernel
theorem d_grw0_2 : decode jdk_38_method_7_code 2 = .ok (.getfield 48, 3) := by decide +kernel
theorem d_grw0_5 : decode jdk_38_method_7_code 5 = .ok (.iconst 1, 1) := by decide +kernel
theorem d_grw0_6 : decode jdk_38_method_7_code 6 = .ok (.iadd, 1) := by decide +kernel
theorem d_grw0_7 : decode jdk_38_method_7_code 7 = .ok (.invokevirtual 69, 3) := by decide +kernel
theorem d_grw0_10 : decode jdk_38_method_7_code 10 = .ok (.areturn, 1) := by decide +kernel
theorem d_alsz_0 : decode jdk_38_method_8_code 0 = .ok (.aload_n 0, 1) := by decide +kernel
theorem d_alsz_1 : decode jdk_38_method_8_code 1 = .ok (.getfield 48, 3) := by decide +kernel
theorem d_alsz_4 : decode jdk_38_method_8_code 4 = .ok (.ireturn, 1) := by decide +kernel
theorem d_alin_0 : decode jdk_39_method_1_code 0 = .ok (.aload_n 0, 1) := by decide +kernel
theorem d_alin_1 : decode jdk_39_method_1_code 1 = .ok (.invokespecial 1, 3) := by decide +kernel
theorem d_alin_4 : decode jdk_39_method_1_code 4 = .ok (.aload_n 0, 1) := by decide +kernel
theorem d_alin_5 : decode jdk_39_method_1_code 5 = .ok (.iconst 0, 1) := by decide +kernel
theorem d_alin_6 : decode jdk_39_method_1_code 6 = .ok (.putfield 7, 3) := by decide +kernel
theorem d_alin_9 : decode jdk_39_method_1_code 9 = .ok (.return_, 1) := by decide +kernel
theorem d_pcix_0 : decode jdk_41_method_11_code 0 = .ok (.iload_n 0, 1) := by decide +kernel
theorem d_pcix_1 : decode jdk_41_method_11_code 1 = .ok (.ifCond .lt 8, 3) := by decide +kernel
theorem d_pcix_4 : decode jdk_41_method_11_code 4 = .ok (.iload_n 0, 1) := by decide +kernel
theorem d_pcix_5 : decode jdk_41_method_11_code 5 = .ok (.iload_n 1, 1) := by decide +kernel
theorem d_pcix_6 : decode jdk_41_method_11_code 6 = .ok (.if_icmp .lt 10, 3) := by decide +kernel
theorem d_pcix_16 : decode jdk_41_method_11_code 16 = .ok (.iload_n 0, 1) := by decide +kernel
theorem d_pcix_17 : decode jdk_41_method_11_code 17 = .ok (.ireturn, 1) := by decide +kernel
theorem d_vof_0 : decode jdk_42_method_139_code 0 = .ok (.getstatic 38, 3) := by decide +kernel
theorem d_vof_3 : decode jdk_42_method_139_code 3 = .ok (.ifCond .eq 23, 3) := by decide +kernel
theorem d_vof_6 : decode jdk_42_method_139_code 6 = .ok (.iload_n 0, 1) := by decide +kernel
theorem d_vof_7 : decode jdk_42_method_139_code 7 = .ok (.invokestatic 1015, 3) := by decide +kernel
theorem d_vof_10 : decode jdk_42_method_139_code 10 = .ok (.ifCond .eq 16, 3) := by decide +kernel
theorem d_vof_13 : decode jdk_42_method_139_code 13 = .ok (.new 10, 3) := by decide +kernel
theorem d_vof_16 : decode jdk_42_method_139_code 16 = .ok (.dup, 1) := by decide +kernel
theorem d_vof_17 : decode jdk_42_method_139_code 17 = .ok (.iload_n 0, 1) := by decide +kernel
theorem d_vof_18 : decode jdk_42_method_139_code 18 = .ok (.invokestatic 1018, 3) := by decide +kernel
theorem d_vof_21 : decode jdk_42_method_139_code 21 = .ok (.iconst 0, 1) := by decide +kernel
theorem d_vof_22 : decode jdk_42_method_139_code 22 = .ok (.invokespecial 209, 3) := by decide +kernel
theorem d_vof_25 : decode jdk_42_method_139_code 25 = .ok (.areturn, 1) := by decide +kernel
theorem d_sini4_0 : decode jdk_42_method_149_code 0 = .ok (.aload_n 0, 1) := by decide +kernel
theorem d_sini4_1 : decode jdk_42_method_149_code 1 = .ok (.invokespecial 1, 3) := by decide +kernel
theorem d_sini4_4 : decode jdk_42_method_149_code 4 = .ok (.iload_n 3, 1) := by decide +kernel
theorem d_sini4_5 : decode jdk_42_method_149_code 5 = .ok (.ifCond .ne 22, 3) := by decide +kernel
theorem d_sini4_27 : decode jdk_42_method_149_code 27 = .ok (.getstatic 38, 3) := by decide +kernel
theorem d_sini4_30 : decode jdk_42_method_149_code 30 = .ok (.ifCond .eq 28, 3) := by decide +kernel
theorem d_sini4_33 : decode jdk_42_method_149_code 33 = .ok (.aload_n 1, 1) := by decide +kernel
theorem d_sini4_34 : decode jdk_42_method_149_code 34 = .ok (.iload_n 2, 1) := by decide +kernel
theorem d_sini4_35 : decode jdk_42_method_149_code 35 = .ok (.iload_n 3, 1) := by decide +kernel
theorem d_sini4_36 : decode jdk_42_method_149_code 36 = .ok (.invokestatic 177, 3) := by decide +kernel
theorem d_sini4_39 : decode jdk_42_method_149_code 39 = .ok (.astore 5, 2) := by decide +kernel
theorem d_sini4_41 : decode jdk_42_method_149_code 41 = .ok (.aload_n 0, 1) := by decide +kernel
theorem d_sini4_42 : decode jdk_42_method_149_code 42 = .ok (.aload 5, 2) := by decide +kernel
theorem d_sini4_44 : decode jdk_42_method_149_code 44 = .ok (.iload_n 3, 1) := by decide +kernel
theorem d_sini4_45 : decode jdk_42_method_149_code 45 = .ok (.invokestatic 47, 3) := by decide +kernel
theorem d_sini4_48 : decode jdk_42_method_149_code 48 = .ok (.putfield 15, 3) := by decide +kernel
theorem d_sini4_51 : decode jdk_42_method_149_code 51 = .ok (.aload_n 0, 1) := by decide +kernel
theorem d_sini4_52 : decode jdk_42_method_149_code 52 = .ok (.aload 5, 2) := by decide +kernel
theorem d_sini4_54 : decode jdk_42_method_149_code 54 = .ok (.putfield 9, 3) := by decide +kernel
theorem d_sini4_57 : decode jdk_42_method_149_code 57 = .ok (.return_, 1) := by decide +kernel
theorem d_sinib_0 : decode jdk_42_method_151_code 0 = .ok (.aload_n 0, 1) := by decide +kernel
theorem d_sinib_1 : decode jdk_42_method_151_code 1 = .ok (.invokespecial 1, 3) := by decide +kernel
theorem d_sinib_4 : decode jdk_42_method_151_code 4 = .ok (.aload_n 0, 1) := by decide +kernel
theorem d_sinib_5 : decode jdk_42_method_151_code 5 = .ok (.aload_n 1, 1) := by decide +kernel
theorem d_sinib_6 : decode jdk_42_method_151_code 6 = .ok (.putfield 9, 3) := by decide +kernel
theorem d_sinib_9 : decode jdk_42_method_151_code 9 = .ok (.aload_n 0, 1) := by decide +kernel
theorem d_sinib_10 : decode jdk_42_method_151_code 10 = .ok (.iload_n 2, 1) := by decide +kernel
theorem d_sinib_11 : decode jdk_42_method_151_code 11 = .ok (.putfield 15, 3) := by decide +kernel
theorem d_sinib_14 : decode jdk_42_method_151_code 14 = .ok (.return_, 1) := by decide +kernel
theorem d_sil1_0 : decode jdk_42_method_154_code 0 = .ok (.getstatic 38, 3) := by decide +kernel
theorem d_sil1_3 : decode jdk_42_method_154_code 3 = .ok (.ifCond .eq 14, 3) := by decide +kernel
theorem d_sil1_6 : decode jdk_42_method_154_code 6 = .ok (.aload_n 0, 1) := by decide +kernel
theorem d_sil1_7 : decode jdk_42_method_154_code 7 = .ok (.getfield 15, 3) := by decide +kernel
theorem d_sil1_10 : decode jdk_42_method_154_code 10 = .ok (.ifCond .ne 7, 3) := by decide +kernel
theorem d_sil1_13 : decode jdk_42_method_154_code 13 = .ok (.iconst 1, 1) := by decide +kernel
theorem d_sil1_14 : decode jdk_42_method_154_code 14 = .ok (.goto 4, 3) := by decide +kernel
theorem d_sil1_18 : decode jdk_42_method_154_code 18 = .ok (.ireturn, 1) := by decide +kernel
theorem d_sini1_0 : decode jdk_42_method_3_code 0 = .ok (.aload_n 0, 1) := by decide +kernel
theorem d_sini1_1 : decode jdk_42_method_3_code 1 = .ok (.aload_n 1, 1) := by decide +kernel
theorem d_sini1_2 : decode jdk_42_method_3_code 2 = .ok (.iconst 0, 1) := by decide +kernel
theorem d_sini1_3 : decode jdk_42_method_3_code 3 = .ok (.aload_n 1, 1) := by decide +kernel
theorem d_sini1_4 : decode jdk_42_method_3_code 4 = .ok (.arraylength, 1) := by decide +kernel
theorem d_sini1_5 : decode jdk_42_method_3_code 5 = .ok (.aconst_null, 1) := by decide +kernel
theorem d_sini1_6 : decode jdk_42_method_3_code 6 = .ok (.invokespecial 27, 3) := by decide +kernel
theorem d_sini1_9 : decode jdk_42_method_3_code 9 = .ok (.return_, 1) := by decide +kernel
theorem d_seq_0 : decode jdk_42_method_66_code 0 = .ok (.aload_n 0, 1) := by decide +kernel
theorem d_seq_1 : decode jdk_42_method_66_code 1 = .ok (.aload_n 1, 1) := by decide +kernel
theorem d_seq_2 : decode jdk_42_method_66_code 2 = .ok (.if_acmp .ne 5, 3) := by decide +kernel
theorem d_seq_5 : decode jdk_42_method_66_code 5 = .ok (.iconst 1, 1) := by decide +kernel
theorem d_seq_6 : decode jdk_42_method_66_code 6 = .ok (.ireturn, 1) := by decide +kernel
theorem d_seq_7 : decode jdk_42_method_66_code 7 = .ok (.aload_n 1, 1) := by decide +kernel
theorem d_seq_8 : decode jdk_42_method_66_code 8 = .ok (.instanceof 10, 3) := by decide +kernel
theorem d_seq_11 : decode jdk_42_method_66_code 11 = .ok (.ifCond .eq 43, 3) := by decide +kernel
theorem d_seq_14 : decode jdk_42_method_66_code 14 = .ok (.aload_n 1, 1) := by decide +kernel
theorem d_seq_15 : decode jdk_42_method_66_code 15 = .ok (.checkcast 10, 3) := by decide +kernel
theorem d_seq_18 : decode jdk_42_method_66_code 18 = .ok (.astore_n 2, 1) := by decide +kernel
theorem d_seq_19 : decode jdk_42_method_66_code 19 = .ok (.getstatic 38, 3) := by decide +kernel
theorem d_seq_22 : decode jdk_42_method_66_code 22 = .ok (.ifCond .eq 14, 3) := by decide +kernel
theorem d_seq_25 : decode jdk_42_method_66_code 25 = .ok (.aload_n 0, 1) := by decide +kernel
theorem d_seq_26 : decode jdk_42_method_66_code 26 = .ok (.getfield 15, 3) := by decide +kernel
theorem d_seq_29 : decode jdk_42_method_66_code 29 = .ok (.aload_n 2, 1) := by decide +kernel
theorem d_seq_30 : decode jdk_42_method_66_code 30 = .ok (.getfield 15, 3) := by decide +kernel
theorem d_seq_33 : decode jdk_42_method_66_code 33 = .ok (.if_icmp .ne 21, 3) := by decide +kernel
theorem d_seq_36 : decode jdk_42_method_66_code 36 = .ok (.aload_n 0, 1) := by decide +kernel
theorem d_seq_37 : decode jdk_42_method_66_code 37 = .ok (.getfield 9, 3) := by decide +kernel
theorem d_seq_40 : decode jdk_42_method_66_code 40 = .ok (.aload_n 2, 1) := by decide +kernel
theorem d_seq_41 : decode jdk_42_method_66_code 41 = .ok (.getfield 9, 3) := by decide +kernel
theorem d_seq_44 : decode jdk_42_method_66_code 44 = .ok (.invokestatic 541, 3) := by decide +kernel
theorem d_seq_47 : decode jdk_42_method_66_code 47 = .ok (.ifCond .eq 7, 3) := by decide +kernel
theorem d_seq_50 : decode jdk_42_method_66_code 50 = .ok (.iconst 1, 1) := by decide +kernel
theorem d_seq_51 : decode jdk_42_method_66_code 51 = .ok (.goto 4, 3) := by decide +kernel
theorem d_seq_54 : decode jdk_42_method_66_code 54 = .ok (.iconst 0, 1) := by decide +kernel
theorem d_seq_55 : decode jdk_42_method_66_code 55 = .ok (.ireturn, 1) := by decide +kernel
theorem d_hash_0 : decode jdk_42_method_78_code 0 = .ok (.aload_n 0, 1) := by decide +kernel
theorem d_hash_1 : decode jdk_42_method_78_code 1 = .ok (.getfield 19, 3) := by decide +kernel
theorem d_hash_4 : decode jdk_42_method_78_code 4 = .ok (.istore_n 1, 1) := by decide +kernel
theorem d_hash_5 : decode jdk_42_method_78_code 5 = .ok (.iload_n 1, 1) := by decide +kernel
theorem d_hash_6 : decode jdk_42_method_78_code 6 = .ok (.ifCond .ne 52, 3) := by decide +kernel
theorem d_hash_9 : decode jdk_42_method_78_code 9 = .ok (.aload_n 0, 1) := by decide +kernel
theorem d_hash_10 : decode jdk_42_method_78_code 10 = .ok (.getfield 23, 3) := by decide +kernel
theorem d_hash_13 : decode jdk_42_method_78_code 13 = .ok (.ifCond .ne 45, 3) := by decide +kernel
theorem d_hash_16 : decode jdk_42_method_78_code 16 = .ok (.aload_n 0, 1) := by decide +kernel
theorem d_hash_17 : decode jdk_42_method_78_code 17 = .ok (.invokevirtual 492, 3) := by decide +kernel
theorem d_hash_20 : decode jdk_42_method_78_code 20 = .ok (.ifCond .eq 13, 3) := by decide +kernel
theorem d_hash_23 : decode jdk_42_method_78_code 23 = .ok (.aload_n 0, 1) := by decide +kernel
theorem d_hash_24 : decode jdk_42_method_78_code 24 = .ok (.getfield 9, 3) := by decide +kernel
theorem d_hash_27 : decode jdk_42_method_78_code 27 = .ok (.invokestatic 628, 3) := by decide +kernel
theorem d_hash_30 : decode jdk_42_method_78_code 30 = .ok (.goto 10, 3) := by decide +kernel
theorem d_hash_40 : decode jdk_42_method_78_code 40 = .ok (.istore_n 1, 1) := by decide +kernel
theorem d_hash_41 : decode jdk_42_method_78_code 41 = .ok (.iload_n 1, 1) := by decide +kernel
theorem d_hash_42 : decode jdk_42_method_78_code 42 = .ok (.ifCond .ne 11, 3) := by decide +kernel
theorem d_hash_45 : decode jdk_42_method_78_code 45 = .ok (.aload_n 0, 1) := by decide +kernel
theorem d_hash_46 : decode jdk_42_method_78_code 46 = .ok (.iconst 1, 1) := by decide +kernel
theorem d_hash_47 : decode jdk_42_method_78_code 47 = .ok (.putfield 23, 3) := by decide +kernel
theorem d_hash_50 : decode jdk_42_method_78_code 50 = .ok (.goto 8, 3) := by decide +kernel
theorem d_hash_53 : decode jdk_42_method_78_code 53 = .ok (.aload_n 0, 1) := by decide +kernel
theorem d_hash_54 : decode jdk_42_method_78_code 54 = .ok (.iload_n 1, 1) := by decide +kernel
theorem d_hash_55 : decode jdk_42_method_78_code 55 = .ok (.putfield 19, 3) := by decide +kernel
theorem d_hash_58 : decode jdk_42_method_78_code 58 = .ok (.iload_n 1, 1) := by decide +kernel
theorem d_hash_59 : decode jdk_42_method_78_code 59 = .ok (.ireturn, 1) := by decide +kernel
theorem d_leq_0 : decode jdk_43_method_13_code 0 = .ok (.aload_n 0, 1) := by decide +kernel
theorem d_leq_1 : decode jdk_43_method_13_code 1 = .ok (.arraylength, 1) := by decide +kernel
theorem d_leq_2 : decode jdk_43_method_13_code 2 = .ok (.aload_n 1, 1) := by decide +kernel
theorem d_leq_3 : decode jdk_43_method_13_code 3 = .ok (.arraylength, 1) := by decide +kernel
theorem d_leq_4 : decode jdk_43_method_13_code 4 = .ok (.if_icmp .ne 30, 3) := by decide +kernel
theorem d_leq_7 : decode jdk_43_method_13_code 7 = .ok (.iconst 0, 1) := by decide +kernel
theorem d_leq_8 : decode jdk_43_method_13_code 8 = .ok (.istore_n 2, 1) := by decide +kernel
theorem d_leq_9 : decode jdk_43_method_13_code 9 = .ok (.iload_n 2, 1) := by decide +kernel
theorem d_leq_10 : decode jdk_43_method_13_code 10 = .ok (.aload_n 0, 1) := by decide +kernel
theorem d_leq_11 : decode jdk_43_method_13_code 11 = .ok (.arraylength, 1) := by decide +kernel
theorem d_leq_12 : decode jdk_43_method_13_code 12 = .ok (.if_icmp .ge 20, 3) := by decide +kernel
theorem d_leq_15 : decode jdk_43_method_13_code 15 = .ok (.aload_n 0, 1) := by decide +kernel
theorem d_leq_16 : decode jdk_43_method_13_code 16 = .ok (.iload_n 2, 1) := by decide +kernel
theorem d_leq_17 : decode jdk_43_method_13_code 17 = .ok (.baload, 1) := by decide +kernel
theorem d_leq_18 : decode jdk_43_method_13_code 18 = .ok (.aload_n 1, 1) := by decide +kernel
theorem d_leq_19 : decode jdk_43_method_13_code 19 = .ok (.iload_n 2, 1) := by decide +kernel
theorem d_leq_20 : decode jdk_43_method_13_code 20 = .ok (.baload, 1) := by decide +kernel
theorem d_leq_21 : decode jdk_43_method_13_code 21 = .ok (.if_icmp .eq 5, 3) := by decide +kernel
theorem d_leq_24 : decode jdk_43_method_13_code 24 = .ok (.iconst 0, 1) := by decide +kernel
theorem d_leq_25 : decode jdk_43_method_13_code 25 = .ok (.ireturn, 1) := by decide +kernel
theorem d_leq_26 : decode jdk_43_method_13_code 26 = .ok (.iinc 2 1, 3) := by decide +kernel
theorem d_leq_29 : decode jdk_43_method_13_code 29 = .ok (.goto (-20), 3) := by decide +kernel
theorem d_leq_32 : decode jdk_43_method_13_code 32 = .ok (.iconst 1, 1) := by decide +kernel
theorem d_leq_33 : decode jdk_43_method_13_code 33 = .ok (.ireturn, 1) := by decide +kernel
theorem d_leq_34 : decode jdk_43_method_13_code 34 = .ok (.iconst 0, 1) := by decide +kernel
theorem d_leq_35 : decode jdk_43_method_13_code 35 = .ok (.ireturn, 1) := by decide +kernel
theorem d_lhc_0 : decode jdk_43_method_21_code 0 = .ok (.aload_n 0, 1) := by decide +kernel
theorem d_lhc_1 : decode jdk_43_method_21_code 1 = .ok (.arraylength, 1) := by decide +kernel
theorem d_lhc_2 : decode jdk_43_method_21_code 2 = .ok (.lookupswitch 40 #[(0, 26), (1, 30)], 26) := by decide +kernel
theorem d_lhc_32 : decode jdk_43_method_21_code 32 = .ok (.aload_n 0, 1) := by decide +kernel
theorem d_lhc_33 : decode jdk_43_method_21_code 33 = .ok (.iconst 0, 1) := by decide +kernel
theorem d_lhc_34 : decode jdk_43_method_21_code 34 = .ok (.baload, 1) := by decide +kernel
theorem d_lhc_35 : decode jdk_43_method_21_code 35 = .ok (.sipush 255, 3) := by decide +kernel
theorem d_lhc_38 : decode jdk_43_method_21_code 38 = .ok (.iand, 1) := by decide +kernel
theorem d_lhc_39 : decode jdk_43_method_21_code 39 = .ok (.goto 12, 3) := by decide +kernel
theorem d_lhc_42 : decode jdk_43_method_21_code 42 = .ok (.aload_n 0, 1) := by decide +kernel
theorem d_lhc_43 : decode jdk_43_method_21_code 43 = .ok (.iconst 0, 1) := by decide +kernel
theorem d_lhc_44 : decode jdk_43_method_21_code 44 = .ok (.aload_n 0, 1) := by decide +kernel
theorem d_lhc_45 : decode jdk_43_method_21_code 45 = .ok (.arraylength, 1) := by decide +kernel
theorem d_lhc_46 : decode jdk_43_method_21_code 46 = .ok (.iconst 0, 1) := by decide +kernel
theorem d_lhc_47 : decode jdk_43_method_21_code 47 = .ok (.iconst 4, 1) := by decide +kernel
theorem d_lhc_48 : decode jdk_43_method_21_code 48 = .ok (.invokestatic 84, 3) := by decide +kernel
theorem d_lhc_51 : decode jdk_43_method_21_code 51 = .ok (.ireturn, 1) := by decide +kernel
theorem d_cenc_0 : decode jdk_43_method_3_code 0 = .ok (.iload_n 0, 1) := by decide +kernel
theorem d_cenc_1 : decode jdk_43_method_3_code 1 = .ok (.sipush 255, 3) := by decide +kernel
theorem d_cenc_4 : decode jdk_43_method_3_code 4 = .ok (.if_icmp .gt 7, 3) := by decide +kernel
theorem d_cenc_7 : decode jdk_43_method_3_code 7 = .ok (.iconst 1, 1) := by decide +kernel
theorem d_cenc_8 : decode jdk_43_method_3_code 8 = .ok (.goto 4, 3) := by decide +kernel
theorem d_cenc_12 : decode jdk_43_method_3_code 12 = .ok (.ireturn, 1) := by decide +kernel
theorem d_tob_0 : decode jdk_43_method_46_code 0 = .ok (.iconst 1, 1) := by decide +kernel
theorem d_tob_1 : decode jdk_43_method_46_code 1 = .ok (.newarray .byte, 2) := by decide +kernel
theorem d_tob_3 : decode jdk_43_method_46_code 3 = .ok (.dup, 1) := by decide +kernel
theorem d_tob_4 : decode jdk_43_method_46_code 4 = .ok (.iconst 0, 1) := by decide +kernel
theorem d_tob_5 : decode jdk_43_method_46_code 5 = .ok (.iload_n 0, 1) := by decide +kernel
theorem d_tob_6 : decode jdk_43_method_46_code 6 = .ok (.i2b, 1) := by decide +kernel
theorem d_tob_7 : decode jdk_43_method_46_code 7 = .ok (.bastore, 1) := by decide +kernel
theorem d_tob_8 : decode jdk_43_method_46_code 8 = .ok (.areturn, 1) := by decide +kernel
theorem d_vhc_0 : decode jdk_48_method_4_code 0 = .ok (.iload 4, 2) := by decide +kernel
theorem d_vhc_2 : decode jdk_48_method_4_code 2 = .ok (.tableswitch 127 4 10 #[42, 55, 127, 127, 88, 101, 114], 42) := by decide +kernel
theorem d_vhc_44 : decode jdk_48_method_4_code 44 = .ok (.iload_n 3, 1) := by decide +kernel
theorem d_vhc_45 : decode jdk_48_method_4_code 45 = .ok (.aload_n 0, 1) := by decide +kernel
theorem d_vhc_46 : decode jdk_48_method_4_code 46 = .ok (.checkcast 60, 3) := by decide +kernel
theorem d_vhc_49 : decode jdk_48_method_4_code 49 = .ok (.iload_n 1, 1) := by decide +kernel
theorem d_vhc_50 : decode jdk_48_method_4_code 50 = .ok (.iload_n 2, 1) := by decide +kernel
theorem d_vhc_51 : decode jdk_48_method_4_code 51 = .ok (.invokestatic 62, 3) := by decide +kernel
theorem d_vhc_54 : decode jdk_48_method_4_code 54 = .ok (.goto 103, 3) := by decide +kernel
theorem d_vhc_157 : decode jdk_48_method_4_code 157 = .ok (.ireturn, 1) := by decide +kernel
theorem d_shc_0 : decode jdk_48_method_5_code 0 = .ok (.iload_n 2, 1) := by decide +kernel
theorem d_shc_1 : decode jdk_48_method_5_code 1 = .ok (.iload_n 3, 1) := by decide +kernel
theorem d_shc_2 : decode jdk_48_method_5_code 2 = .ok (.iadd, 1) := by decide +kernel
theorem d_shc_3 : decode jdk_48_method_5_code 3 = .ok (.istore 4, 2) := by decide +kernel
theorem d_shc_5 : decode jdk_48_method_5_code 5 = .ok (.iload_n 2, 1) := by decide +kernel
theorem d_shc_6 : decode jdk_48_method_5_code 6 = .ok (.istore 5, 2) := by decide +kernel
theorem d_shc_8 : decode jdk_48_method_5_code 8 = .ok (.iload 5, 2) := by decide +kernel
theorem d_shc_10 : decode jdk_48_method_5_code 10 = .ok (.iload 4, 2) := by decide +kernel
theorem d_shc_12 : decode jdk_48_method_5_code 12 = .ok (.if_icmp .ge 23, 3) := by decide +kernel
theorem d_shc_15 : decode jdk_48_method_5_code 15 = .ok (.bipush 31, 2) := by decide +kernel
theorem d_shc_17 : decode jdk_48_method_5_code 17 = .ok (.iload_n 0, 1) := by decide +kernel
theorem d_shc_18 : decode jdk_48_method_5_code 18 = .ok (.imul, 1) := by decide +kernel
theorem d_shc_19 : decode jdk_48_method_5_code 19 = .ok (.aload_n 1, 1) := by decide +kernel
theorem d_shc_20 : decode jdk_48_method_5_code 20 = .ok (.iload 5, 2) := by decide +kernel
theorem d_shc_22 : decode jdk_48_method_5_code 22 = .ok (.baload, 1) := by decide +kernel
theorem d_shc_23 : decode jdk_48_method_5_code 23 = .ok (.sipush 255, 3) := by decide +kernel
theorem d_shc_26 : decode jdk_48_method_5_code 26 = .ok (.iand, 1) := by decide +kernel
theorem d_shc_27 : decode jdk_48_method_5_code 27 = .ok (.iadd, 1) := by decide +kernel
theorem d_shc_28 : decode jdk_48_method_5_code 28 = .ok (.istore_n 0, 1) := by decide +kernel
theorem d_shc_29 : decode jdk_48_method_5_code 29 = .ok (.iinc 5 1, 3) := by decide +kernel
theorem d_shc_32 : decode jdk_48_method_5_code 32 = .ok (.goto (-24), 3) := by decide +kernel
theorem d_shc_35 : decode jdk_48_method_5_code 35 = .ok (.iload_n 0, 1) := by decide +kernel
theorem d_shc_36 : decode jdk_48_method_5_code 36 = .ok (.ireturn, 1) := by decide +kernel
theorem d_cfal_0 : decode jdk_52_method_15_code 0 = .ok (.iload_n 1, 1) := by decide +kernel
theorem d_cfal_1 : decode jdk_52_method_15_code 1 = .ok (.aload_n 0, 1) := by decide +kernel
theorem d_cfal_2 : decode jdk_52_method_15_code 2 = .ok (.arraylength, 1) := by decide +kernel
theorem d_cfal_3 : decode jdk_52_method_15_code 3 = .ok (.isub, 1) := by decide +kernel
theorem d_cfal_4 : decode jdk_52_method_15_code 4 = .ok (.bipush 31, 2) := by decide +kernel
theorem d_cfal_6 : decode jdk_52_method_15_code 6 = .ok (.iushr, 1) := by decide +kernel
theorem d_cfal_7 : decode jdk_52_method_15_code 7 = .ok (.i2b, 1) := by decide +kernel
theorem d_cfal_8 : decode jdk_52_method_15_code 8 = .ok (.ireturn, 1) := by decide +kernel
theorem d_cmp3_0 : decode jdk_52_method_16_code 0 = .ok (.iload_n 2, 1) := by decide +kernel
theorem d_cmp3_1 : decode jdk_52_method_16_code 1 = .ok (.newarray .byte, 2) := by decide +kernel
theorem d_cmp3_3 : decode jdk_52_method_16_code 3 = .ok (.astore_n 3, 1) := by decide +kernel
theorem d_cmp3_4 : decode jdk_52_method_16_code 4 = .ok (.aload_n 0, 1) := by decide +kernel
theorem d_cmp3_5 : decode jdk_52_method_16_code 5 = .ok (.iload_n 1, 1) := by decide +kernel
theorem d_cmp3_6 : decode jdk_52_method_16_code 6 = .ok (.aload_n 3, 1) := by decide +kernel
theorem d_cmp3_7 : decode jdk_52_method_16_code 7 = .ok (.iconst 0, 1) := by decide +kernel
theorem d_cmp3_8 : decode jdk_52_method_16_code 8 = .ok (.iload_n 2, 1) := by decide +kernel
theorem d_cmp3_9 : decode jdk_52_method_16_code 9 = .ok (.invokestatic 115, 3) := by decide +kernel
theorem d_cmp3_12 : decode jdk_52_method_16_code 12 = .ok (.istore 4, 2) := by decide +kernel
theorem d_cmp3_14 : decode jdk_52_method_16_code 14 = .ok (.iload 4, 2) := by decide +kernel
theorem d_cmp3_16 : decode jdk_52_method_16_code 16 = .ok (.iload_n 2, 1) := by decide +kernel
theorem d_cmp3_17 : decode jdk_52_method_16_code 17 = .ok (.if_icmp .eq 40, 3) := by decide +kernel
theorem d_cmp3_57 : decode jdk_52_method_16_code 57 = .ok (.aload_n 3, 1) := by decide +kernel
theorem d_cmp3_58 : decode jdk_52_method_16_code 58 = .ok (.areturn, 1) := by decide +kernel
theorem d_cmp5_0 : decode jdk_52_method_21_code 0 = .ok (.iconst 0, 1) := by decide +kernel
theorem d_cmp5_1 : decode jdk_52_method_21_code 1 = .ok (.istore 5, 2) := by decide +kernel
theorem d_cmp5_3 : decode jdk_52_method_21_code 3 = .ok (.iload 5, 2) := by decide +kernel
theorem d_cmp5_5 : decode jdk_52_method_21_code 5 = .ok (.iload 4, 2) := by decide +kernel
theorem d_cmp5_7 : decode jdk_52_method_21_code 7 = .ok (.if_icmp .ge 37, 3) := by decide +kernel
theorem d_cmp5_10 : decode jdk_52_method_21_code 10 = .ok (.aload_n 0, 1) := by decide +kernel
theorem d_cmp5_11 : decode jdk_52_method_21_code 11 = .ok (.iload_n 1, 1) := by decide +kernel
theorem d_cmp5_12 : decode jdk_52_method_21_code 12 = .ok (.caload, 1) := by decide +kernel
theorem d_cmp5_13 : decode jdk_52_method_21_code 13 = .ok (.istore 6, 2) := by decide +kernel
theorem d_cmp5_15 : decode jdk_52_method_21_code 15 = .ok (.iload 6, 2) := by decide +kernel
theorem d_cmp5_17 : decode jdk_52_method_21_code 17 = .ok (.sipush 255, 3) := by decide +kernel
theorem d_cmp5_20 : decode jdk_52_method_21_code 20 = .ok (.if_icmp .le 6, 3) := by decide +kernel
theorem d_cmp5_26 : decode jdk_52_method_21_code 26 = .ok (.aload_n 2, 1) := by decide +kernel
theorem d_cmp5_27 : decode jdk_52_method_21_code 27 = .ok (.iload_n 3, 1) := by decide +kernel
theorem d_cmp5_28 : decode jdk_52_method_21_code 28 = .ok (.iload 6, 2) := by decide +kernel
theorem d_cmp5_30 : decode jdk_52_method_21_code 30 = .ok (.i2b, 1) := by decide +kernel
theorem d_cmp5_31 : decode jdk_52_method_21_code 31 = .ok (.bastore, 1) := by decide +kernel
theorem d_cmp5_32 : decode jdk_52_method_21_code 32 = .ok (.iinc 1 1, 3) := by decide +kernel
theorem d_cmp5_35 : decode jdk_52_method_21_code 35 = .ok (.iinc 3 1, 3) := by decide +kernel
theorem d_cmp5_38 : decode jdk_52_method_21_code 38 = .ok (.iinc 5 1, 3) := by decide +kernel
theorem d_cmp5_41 : decode jdk_52_method_21_code 41 = .ok (.goto (-38), 3) := by decide +kernel
theorem d_cmp5_44 : decode jdk_52_method_21_code 44 = .ok (.iload 4, 2) := by decide +kernel
theorem d_cmp5_46 : decode jdk_52_method_21_code 46 = .ok (.ireturn, 1) := by decide +kernel
theorem d_amin_0 : decode jdk_71_method_1_code 0 = .ok (.aload_n 0, 1) := by decide +kernel
theorem d_amin_1 : decode jdk_71_method_1_code 1 = .ok (.invokespecial 1, 3) := by decide +kernel
theorem d_amin_4 : decode jdk_71_method_1_code 4 = .ok (.return_, 1) := by decide +kernel
theorem d_ntnx_0 : decode prog_4_method_10_code 0 = .ok (.iload_n 1, 1) := by decide +kernel
theorem d_ntnx_1 : decode prog_4_method_10_code 1 = .ok (.iconst 1, 1) := by decide +kernel
theorem d_ntnx_2 : decode prog_4_method_10_code 2 = .ok (.iadd, 1) := by decide +kernel
theorem d_ntnx_3 : decode prog_4_method_10_code 3 = .ok (.aload_n 0, 1) := by decide +kernel
theorem d_ntnx_4 : decode prog_4_method_10_code 4 = .ok (.getfield 25, 3) := by decide +kernel
theorem d_ntnx_7 : decode prog_4_method_10_code 7 = .ok (.arraylength, 1) := by decide +kernel
theorem d_ntnx_8 : decode prog_4_method_10_code 8 = .ok (.iconst 1, 1) := by decide +kernel
theorem d_ntnx_9 : decode prog_4_method_10_code 9 = .ok (.isub, 1) := by decide +kernel
theorem d_ntnx_10 : decode prog_4_method_10_code 10 = .ok (.iand, 1) := by decide +kernel
theorem d_ntnx_11 : decode prog_4_method_10_code 11 = .ok (.ireturn, 1) := by decide +kernel
theorem d_ntin_0 : decode prog_4_method_1_code 0 = .ok (.aload_n 0, 1) := by decide +kernel
theorem d_ntin_1 : decode prog_4_method_1_code 1 = .ok (.invokespecial 1, 3) := by decide +kernel
theorem d_ntin_4 : decode prog_4_method_1_code 4 = .ok (.aload_n 0, 1) := by decide +kernel
theorem d_ntin_5 : decode prog_4_method_1_code 5 = .ok (.new 7, 3) := by decide +kernel
theorem d_ntin_8 : decode prog_4_method_1_code 8 = .ok (.dup, 1) := by decide +kernel
theorem d_ntin_9 : decode prog_4_method_1_code 9 = .ok (.invokespecial 9, 3) := by decide +kernel
theorem d_ntin_12 : decode prog_4_method_1_code 12 = .ok (.putfield 10, 3) := by decide +kernel
theorem d_ntin_15 : decode prog_4_method_1_code 15 = .ok (.aload_n 0, 1) := by decide +kernel
theorem d_ntin_16 : decode prog_4_method_1_code 16 = .ok (.new 16, 3) := by decide +kernel
theorem d_ntin_19 : decode prog_4_method_1_code 19 = .ok (.dup, 1) := by decide +kernel
theorem d_ntin_20 : decode prog_4_method_1_code 20 = .ok (.invokespecial 18, 3) := by decide +kernel
theorem d_ntin_23 : decode prog_4_method_1_code 23 = .ok (.putfield 19, 3) := by decide +kernel
theorem d_ntin_26 : decode prog_4_method_1_code 26 = .ok (.aload_n 0, 1) := by decide +kernel
theorem d_ntin_27 : decode prog_4_method_1_code 27 = .ok (.bipush 64, 2) := by decide +kernel
theorem d_ntin_29 : decode prog_4_method_1_code 29 = .ok (.anewarray 23, 3) := by decide +kernel
theorem d_ntin_32 : decode prog_4_method_1_code 32 = .ok (.putfield 25, 3) := by decide +kernel
theorem d_ntin_35 : decode prog_4_method_1_code 35 = .ok (.aload_n 0, 1) := by decide +kernel
theorem d_ntin_36 : decode prog_4_method_1_code 36 = .ok (.bipush 64, 2) := by decide +kernel
theorem d_ntin_38 : decode prog_4_method_1_code 38 = .ok (.newarray .int, 2) := by decide +kernel
theorem d_ntin_40 : decode prog_4_method_1_code 40 = .ok (.putfield 29, 3) := by decide +kernel
theorem d_ntin_43 : decode prog_4_method_1_code 43 = .ok (.aload_n 0, 1) := by decide +kernel
theorem d_ntin_44 : decode prog_4_method_1_code 44 = .ok (.bipush 64, 2) := by decide +kernel
theorem d_ntin_46 : decode prog_4_method_1_code 46 = .ok (.newarray .int, 2) := by decide +kernel
theorem d_ntin_48 : decode prog_4_method_1_code 48 = .ok (.putfield 33, 3) := by decide +kernel
theorem d_ntin_51 : decode prog_4_method_1_code 51 = .ok (.return_, 1) := by decide +kernel
theorem d_ntsz_0 : decode prog_4_method_2_code 0 = .ok (.aload_n 0, 1) := by decide +kernel
theorem d_ntsz_1 : decode prog_4_method_2_code 1 = .ok (.getfield 10, 3) := by decide +kernel
theorem d_ntsz_4 : decode prog_4_method_2_code 4 = .ok (.invokeinterface 36 1, 5) := by decide +kernel
theorem d_ntsz_9 : decode prog_4_method_2_code 9 = .ok (.ireturn, 1) := by decide +kernel
theorem d_ntnm_0 : decode prog_4_method_3_code 0 = .ok (.aload_n 0, 1) := by decide +kernel
theorem d_ntnm_1 : decode prog_4_method_3_code 1 = .ok (.getfield 10, 3) := by decide +kernel
theorem d_ntnm_4 : decode prog_4_method_3_code 4 = .ok (.iload_n 1, 1) := by decide +kernel
theorem d_ntnm_5 : decode prog_4_method_3_code 5 = .ok (.invokeinterface 42 2, 5) := by decide +kernel
theorem d_ntnm_10 : decode prog_4_method_3_code 10 = .ok (.checkcast 23, 3) := by decide +kernel
theorem d_ntnm_13 : decode prog_4_method_3_code 13 = .ok (.areturn, 1) := by decide +kernel
theorem d_ntad_0 : decode prog_4_method_4_code 0 = .ok (.aload_n 0, 1) := by decide +kernel
theorem d_ntad_1 : decode prog_4_method_4_code 1 = .ok (.getfield 10, 3) := by decide +kernel
theorem d_ntad_4 : decode prog_4_method_4_code 4 = .ok (.aload_n 1, 1) := by decide +kernel
theorem d_ntad_5 : decode prog_4_method_4_code 5 = .ok (.invokeinterface 46 2, 5) := by decide +kernel
theorem d_ntad_10 : decode prog_4_method_4_code 10 = .ok (.pop, 1) := by decide +kernel
theorem d_ntad_11 : decode prog_4_method_4_code 11 = .ok (.aload_n 0, 1) := by decide +kernel
theorem d_ntad_12 : decode prog_4_method_4_code 12 = .ok (.aload_n 1, 1) := by decide +kernel
theorem d_ntad_13 : decode prog_4_method_4_code 13 = .ok (.aload_n 0, 1) := by decide +kernel
theorem d_ntad_14 : decode prog_4_method_4_code 14 = .ok (.getfield 10, 3) := by decide +kernel
theorem d_ntad_17 : decode prog_4_method_4_code 17 = .ok (.invokeinterface 36 1, 5) := by decide +kernel
theorem d_ntad_22 : decode prog_4_method_4_code 22 = .ok (.iconst 1, 1) := by decide +kernel
theorem d_ntad_23 : decode prog_4_method_4_code 23 = .ok (.isub, 1) := by decide +kernel
theorem d_ntad_24 : decode prog_4_method_4_code 24 = .ok (.invokevirtual 50, 3) := by decide +kernel
theorem d_ntad_27 : decode prog_4_method_4_code 27 = .ok (.aload_n 0, 1) := by decide +kernel
theorem d_ntad_28 : decode prog_4_method_4_code 28 = .ok (.getfield 54, 3) := by decide +kernel
theorem d_ntad_31 : decode prog_4_method_4_code 31 = .ok (.iconst 2, 1) := by decide +kernel
theorem d_ntad_32 : decode prog_4_method_4_code 32 = .ok (.imul, 1) := by decide +kernel
theorem d_ntad_33 : decode prog_4_method_4_code 33 = .ok (.aload_n 0, 1) := by decide +kernel
theorem d_ntad_34 : decode prog_4_method_4_code 34 = .ok (.getfield 25, 3) := by decide +kernel
theorem d_ntad_37 : decode prog_4_method_4_code 37 = .ok (.arraylength, 1) := by decide +kernel
theorem d_ntad_38 : decode prog_4_method_4_code 38 = .ok (.if_icmp .le 7, 3) := by decide +kernel
theorem d_ntad_45 : decode prog_4_method_4_code 45 = .ok (.aload_n 0, 1) := by decide +kernel
theorem d_ntad_46 : decode prog_4_method_4_code 46 = .ok (.getfield 10, 3) := by decide +kernel
theorem d_ntad_49 : decode prog_4_method_4_code 49 = .ok (.invokeinterface 36 1, 5) := by decide +kernel
theorem d_ntad_54 : decode prog_4_method_4_code 54 = .ok (.iconst 1, 1) := by decide +kernel
theorem d_ntad_55 : decode prog_4_method_4_code 55 = .ok (.isub, 1) := by decide +kernel
theorem d_ntad_56 : decode prog_4_method_4_code 56 = .ok (.ireturn, 1) := by decide +kernel
theorem d_ntio_0 : decode prog_4_method_5_code 0 = .ok (.aload_n 1, 1) := by decide +kernel
theorem d_ntio_1 : decode prog_4_method_5_code 1 = .ok (.invokevirtual 61, 3) := by decide +kernel
theorem d_ntio_4 : decode prog_4_method_5_code 4 = .ok (.istore_n 2, 1) := by decide +kernel
theorem d_ntio_5 : decode prog_4_method_5_code 5 = .ok (.aload_n 0, 1) := by decide +kernel
theorem d_ntio_6 : decode prog_4_method_5_code 6 = .ok (.iload_n 2, 1) := by decide +kernel
theorem d_ntio_7 : decode prog_4_method_5_code 7 = .ok (.invokevirtual 64, 3) := by decide +kernel
theorem d_ntio_10 : decode prog_4_method_5_code 10 = .ok (.istore_n 3, 1) := by decide +kernel
theorem d_ntio_11 : decode prog_4_method_5_code 11 = .ok (.iconst 0, 1) := by decide +kernel
theorem d_ntio_12 : decode prog_4_method_5_code 12 = .ok (.istore 4, 2) := by decide +kernel
theorem d_ntio_14 : decode prog_4_method_5_code 14 = .ok (.iload 4, 2) := by decide +kernel
theorem d_ntio_16 : decode prog_4_method_5_code 16 = .ok (.bipush 8, 2) := by decide +kernel
theorem d_ntio_18 : decode prog_4_method_5_code 18 = .ok (.if_icmp .ge 76, 3) := by decide +kernel
theorem d_ntio_21 : decode prog_4_method_5_code 21 = .ok (.aload_n 0, 1) := by decide +kernel
theorem d_ntio_22 : decode prog_4_method_5_code 22 = .ok (.getfield 25, 3) := by decide +kernel
theorem d_ntio_25 : decode prog_4_method_5_code 25 = .ok (.iload_n 3, 1) := by decide +kernel
theorem d_ntio_26 : decode prog_4_method_5_code 26 = .ok (.aaload, 1) := by decide +kernel
theorem d_ntio_27 : decode prog_4_method_5_code 27 = .ok (.astore 5, 2) := by decide +kernel
theorem d_ntio_29 : decode prog_4_method_5_code 29 = .ok (.aload 5, 2) := by decide +kernel
theorem d_ntio_31 : decode prog_4_method_5_code 31 = .ok (.ifnonnull 5, 3) := by decide +kernel
theorem d_ntio_34 : decode prog_4_method_5_code 34 = .ok (.iconst (-1), 1) := by decide +kernel
theorem d_ntio_35 : decode prog_4_method_5_code 35 = .ok (.ireturn, 1) := by decide +kernel
theorem d_ntio_36 : decode prog_4_method_5_code 36 = .ok (.aload 5, 2) := by decide +kernel
theorem d_ntio_38 : decode prog_4_method_5_code 38 = .ok (.aload_n 1, 1) := by decide +kernel
theorem d_ntio_39 : decode prog_4_method_5_code 39 = .ok (.if_acmp .ne 10, 3) := by decide +kernel
theorem d_ntio_49 : decode prog_4_method_5_code 49 = .ok (.aload_n 0, 1) := by decide +kernel
theorem d_ntio_50 : decode prog_4_method_5_code 50 = .ok (.getfield 29, 3) := by decide +kernel
theorem d_ntio_53 : decode prog_4_method_5_code 53 = .ok (.iload_n 3, 1) := by decide +kernel
theorem d_ntio_54 : decode prog_4_method_5_code 54 = .ok (.iaload, 1) := by decide +kernel
theorem d_ntio_55 : decode prog_4_method_5_code 55 = .ok (.iload_n 2, 1) := by decide +kernel
theorem d_ntio_56 : decode prog_4_method_5_code 56 = .ok (.if_icmp .ne 26, 3) := by decide +kernel
theorem d_ntio_59 : decode prog_4_method_5_code 59 = .ok (.aload 5, 2) := by decide +kernel
theorem d_ntio_61 : decode prog_4_method_5_code 61 = .ok (.aload_n 1, 1) := by decide +kernel
theorem d_ntio_62 : decode prog_4_method_5_code 62 = .ok (.invokevirtual 68, 3) := by decide +kernel
theorem d_ntio_65 : decode prog_4_method_5_code 65 = .ok (.ifCond .eq 17, 3) := by decide +kernel
theorem d_ntio_68 : decode prog_4_method_5_code 68 = .ok (.aload_n 0, 1) := by decide +kernel
theorem d_ntio_69 : decode prog_4_method_5_code 69 = .ok (.getfield 25, 3) := by decide +kernel
theorem d_ntio_72 : decode prog_4_method_5_code 72 = .ok (.iload_n 3, 1) := by decide +kernel
theorem d_ntio_73 : decode prog_4_method_5_code 73 = .ok (.aload_n 1, 1) := by decide +kernel
theorem d_ntio_74 : decode prog_4_method_5_code 74 = .ok (.aastore, 1) := by decide +kernel
theorem d_ntio_75 : decode prog_4_method_5_code 75 = .ok (.aload_n 0, 1) := by decide +kernel
theorem d_ntio_76 : decode prog_4_method_5_code 76 = .ok (.getfield 33, 3) := by decide +kernel
theorem d_ntio_79 : decode prog_4_method_5_code 79 = .ok (.iload_n 3, 1) := by decide +kernel
theorem d_ntio_80 : decode prog_4_method_5_code 80 = .ok (.iaload, 1) := by decide +kernel
theorem d_ntio_81 : decode prog_4_method_5_code 81 = .ok (.ireturn, 1) := by decide +kernel
theorem d_ntio_82 : decode prog_4_method_5_code 82 = .ok (.aload_n 0, 1) := by decide +kernel
theorem d_ntio_83 : decode prog_4_method_5_code 83 = .ok (.iload_n 3, 1) := by decide +kernel
theorem d_ntio_84 : decode prog_4_method_5_code 84 = .ok (.invokevirtual 71, 3) := by decide +kernel
theorem d_ntio_87 : decode prog_4_method_5_code 87 = .ok (.istore_n 3, 1) := by decide +kernel
theorem d_ntio_88 : decode prog_4_method_5_code 88 = .ok (.iinc 4 1, 3) := by decide +kernel
theorem d_ntio_91 : decode prog_4_method_5_code 91 = .ok (.goto (-77), 3) := by decide +kernel
theorem d_ntpl_0 : decode prog_4_method_8_code 0 = .ok (.aload_n 0, 1) := by decide +kernel
theorem d_ntpl_1 : decode prog_4_method_8_code 1 = .ok (.aload_n 1, 1) := by decide +kernel
theorem d_ntpl_2 : decode prog_4_method_8_code 2 = .ok (.invokevirtual 61, 3) := by decide +kernel
theorem d_ntpl_5 : decode prog_4_method_8_code 5 = .ok (.invokevirtual 64, 3) := by decide +kernel
theorem d_ntpl_8 : decode prog_4_method_8_code 8 = .ok (.istore_n 3, 1) := by decide +kernel
theorem d_ntpl_9 : decode prog_4_method_8_code 9 = .ok (.iconst 0, 1) := by decide +kernel
theorem d_ntpl_10 : decode prog_4_method_8_code 10 = .ok (.istore 4, 2) := by decide +kernel
theorem d_ntpl_12 : decode prog_4_method_8_code 12 = .ok (.iload 4, 2) := by decide +kernel
theorem d_ntpl_14 : decode prog_4_method_8_code 14 = .ok (.bipush 8, 2) := by decide +kernel
theorem d_ntpl_16 : decode prog_4_method_8_code 16 = .ok (.if_icmp .ge 59, 3) := by decide +kernel
theorem d_ntpl_19 : decode prog_4_method_8_code 19 = .ok (.aload_n 0, 1) := by decide +kernel
theorem d_ntpl_20 : decode prog_4_method_8_code 20 = .ok (.getfield 25, 3) := by decide +kernel
theorem d_ntpl_23 : decode prog_4_method_8_code 23 = .ok (.iload_n 3, 1) := by decide +kernel
theorem d_ntpl_24 : decode prog_4_method_8_code 24 = .ok (.aaload, 1) := by decide +kernel
theorem d_ntpl_25 : decode prog_4_method_8_code 25 = .ok (.ifnonnull 38, 3) := by decide +kernel
theorem d_ntpl_28 : decode prog_4_method_8_code 28 = .ok (.aload_n 0, 1) := by decide +kernel
theorem d_ntpl_29 : decode prog_4_method_8_code 29 = .ok (.getfield 25, 3) := by decide +kernel
theorem d_ntpl_32 : decode prog_4_method_8_code 32 = .ok (.iload_n 3, 1) := by decide +kernel
theorem d_ntpl_33 : decode prog_4_method_8_code 33 = .ok (.aload_n 1, 1) := by decide +kernel
theorem d_ntpl_34 : decode prog_4_method_8_code 34 = .ok (.aastore, 1) := by decide +kernel
theorem d_ntpl_35 : decode prog_4_method_8_code 35 = .ok (.aload_n 0, 1) := by decide +kernel
theorem d_ntpl_36 : decode prog_4_method_8_code 36 = .ok (.getfield 29, 3) := by decide +kernel
theorem d_ntpl_39 : decode prog_4_method_8_code 39 = .ok (.iload_n 3, 1) := by decide +kernel
theorem d_ntpl_40 : decode prog_4_method_8_code 40 = .ok (.aload_n 1, 1) := by decide +kernel
theorem d_ntpl_41 : decode prog_4_method_8_code 41 = .ok (.invokevirtual 61, 3) := by decide +kernel
theorem d_ntpl_44 : decode prog_4_method_8_code 44 = .ok (.iastore, 1) := by decide +kernel
theorem d_ntpl_45 : decode prog_4_method_8_code 45 = .ok (.aload_n 0, 1) := by decide +kernel
theorem d_ntpl_46 : decode prog_4_method_8_code 46 = .ok (.getfield 33, 3) := by decide +kernel
theorem d_ntpl_49 : decode prog_4_method_8_code 49 = .ok (.iload_n 3, 1) := by decide +kernel
theorem d_ntpl_50 : decode prog_4_method_8_code 50 = .ok (.iload_n 2, 1) := by decide +kernel
theorem d_ntpl_51 : decode prog_4_method_8_code 51 = .ok (.iastore, 1) := by decide +kernel
theorem d_ntpl_52 : decode prog_4_method_8_code 52 = .ok (.aload_n 0, 1) := by decide +kernel
theorem d_ntpl_53 : decode prog_4_method_8_code 53 = .ok (.dup, 1) := by decide +kernel
theorem d_ntpl_54 : decode prog_4_method_8_code 54 = .ok (.getfield 54, 3) := by decide +kernel
theorem d_ntpl_57 : decode prog_4_method_8_code 57 = .ok (.iconst 1, 1) := by decide +kernel
theorem d_ntpl_58 : decode prog_4_method_8_code 58 = .ok (.iadd, 1) := by decide +kernel
theorem d_ntpl_59 : decode prog_4_method_8_code 59 = .ok (.putfield 54, 3) := by decide +kernel
theorem d_ntpl_62 : decode prog_4_method_8_code 62 = .ok (.return_, 1) := by decide +kernel
theorem d_ntpl_63 : decode prog_4_method_8_code 63 = .ok (.aload_n 0, 1) := by decide +kernel
theorem d_ntpl_64 : decode prog_4_method_8_code 64 = .ok (.iload_n 3, 1) := by decide +kernel
theorem d_ntpl_65 : decode prog_4_method_8_code 65 = .ok (.invokevirtual 71, 3) := by decide +kernel
theorem d_ntpl_68 : decode prog_4_method_8_code 68 = .ok (.istore_n 3, 1) := by decide +kernel
theorem d_ntpl_69 : decode prog_4_method_8_code 69 = .ok (.iinc 4 1, 3) := by decide +kernel
theorem d_ntpl_72 : decode prog_4_method_8_code 72 = .ok (.goto (-60), 3) := by decide +kernel
theorem d_ntsl_0 : decode prog_4_method_9_code 0 = .ok (.iload_n 1, 1) := by decide +kernel
theorem d_ntsl_1 : decode prog_4_method_9_code 1 = .ok (.ldc 105, 2) := by decide +kernel
theorem d_ntsl_3 : decode prog_4_method_9_code 3 = .ok (.imul, 1) := by decide +kernel
theorem d_ntsl_4 : decode prog_4_method_9_code 4 = .ok (.aload_n 0, 1) := by decide +kernel
theorem d_ntsl_5 : decode prog_4_method_9_code 5 = .ok (.getfield 25, 3) := by decide +kernel
theorem d_ntsl_8 : decode prog_4_method_9_code 8 = .ok (.arraylength, 1) := by decide +kernel
theorem d_ntsl_9 : decode prog_4_method_9_code 9 = .ok (.iconst 1, 1) := by decide +kernel
theorem d_ntsl_10 : decode prog_4_method_9_code 10 = .ok (.isub, 1) := by decide +kernel
theorem d_ntsl_11 : decode prog_4_method_9_code 11 = .ok (.invokestatic 106, 3) := by decide +kernel
theorem d_ntsl_14 : decode prog_4_method_9_code 14 = .ok (.iushr, 1) := by decide +kernel
theorem d_ntsl_15 : decode prog_4_method_9_code 15 = .ok (.ireturn, 1) := by decide +kernel
/-- a char's low byte, signed: what a Latin-1 String holds of it -/
def b8 (c : Int32) : Int32 := c.toInt8.toInt32
theorem b8_b8 (c : Int32) : (b8 c).toInt8.toInt32 = b8 c := by simp [b8]
theorem set_next {f : Int32 → Value} {cs : List Int32} {i k : Nat} {z : Value} (hi : i < cs.length) : ((cs.take i).map f ++ List.replicate (k + 1) z).set i (f cs[i]) = (cs.take (i + 1)).map f ++ List.replicate k z := by
  have hl : ((cs.take i).map f).length = i := by simp; omega
  have e : (cs.take (i + 1)).map f = (cs.take i).map f ++ [f cs[i]] := by
    rw [List.take_add_one, List.getElem?_eq_getElem hi, List.map_append]; rfl
  rw [List.set_append_right _ _ (by omega), hl, Nat.sub_self, List.replicate_succ, List.set_cons_zero, e, List.append_assoc]; rfl
theorem hcs0 : ∀ d ∈ ([] : List Int32), ¬ d < 0 ∧ ¬ 255 < d := fun d hd => nomatch hd
theorem hcsC {c : Int32} {cs : List Int32} (p : ¬ c < 0 ∧ ¬ 255 < c) (q : ∀ d ∈ cs, ¬ d < 0 ∧ ¬ 255 < d) : ∀ d ∈ c :: cs, ¬ d < 0 ∧ ¬ 255 < d := fun d hd => (List.mem_cons.mp hd).elim (fun e => e ▸ p) (q d)
theorem sub1 {a : Addr} {sf : List Addr} (h : a ∈ sf) : ∀ z ∈ [a], z ∈ sf := fun z hz => by cases List.mem_singleton.mp hz; exact h
theorem sub0 {sf : List Addr} : ∀ z ∈ ([] : List Addr), z ∈ sf := fun z hz => nomatch hz
theorem nar_c {c : Int32} (h0 : ¬ c < 0) (h1 : ¬ 255 < c) : nar .char c = c := by
  have q : c &&& 255 = c := by
    rw [← Int32.toInt_inj, c_mask c 255 8 (by omega) (by decide)]
    rw [Int32.lt_iff_toInt_lt] at h0 h1
    have e1 : (0 : Int32).toInt = 0 := by decide
    have e2 : (255 : Int32).toInt = 255 := by decide
    omega
  show c.toUInt32.toUInt16.toUInt32.toInt32 = c
  have := i2c_mask c
  rw [q] at this; exact this
theorem chr_rng (x : Int32) : ¬ (x &&& 255).toUInt32.toUInt16.toUInt32.toInt32 < 0 ∧ ¬ 255 < (x &&& 255).toUInt32.toUInt16.toUInt32.toInt32 := by
  rw [i2c_mask]
  have h := c_mask x 255 8 (by omega) (by decide)
  rw [Int32.lt_iff_toInt_lt, Int32.lt_iff_toInt_lt, h]
  have e1 : (0 : Int32).toInt = 0 := by decide
  have e2 : (255 : Int32).toInt = 255 := by decide
  rw [e1, e2]
  omega
theorem b8_inj {a c : Int32} (ha : ¬ a < 0 ∧ ¬ 255 < a) (hc : ¬ c < 0 ∧ ¬ 255 < c) (q : b8 a = b8 c) : a = c := by
  have h1 := c_i2b a
  have h2 := c_i2b c
  have e := congrArg Int32.toInt q
  unfold b8 at e
  obtain ⟨a1, a2⟩ := ha
  obtain ⟨c1, c2⟩ := hc
  rw [Int32.lt_iff_toInt_lt] at a1 a2 c1 c2
  have e1 : (0 : Int32).toInt = 0 := by decide
  have e2 : (255 : Int32).toInt = 255 := by decide
  rw [← Int32.toInt_inj]
  omega
theorem ofNat_inj {m n : Nat} (hm : m < 2147483648) (hn : n < 2147483648) (q : Int32.ofNat m = Int32.ofNat n) : m = n := by
  have := congrArg Int32.toInt q
  rw [toInt_of rfl (by omega), toInt_of rfl (by omega)] at this
  omega
theorem lt_ofNat {m n : Nat} (h : m < n) (hn : n < 2147483648) : Int32.ofNat m < Int32.ofNat n := by
  rw [Int32.lt_iff_toInt_lt, toInt_of (n := Int32.ofNat m) rfl (by omega), toInt_of (n := Int32.ofNat n) rfl (by omega)]; omega
theorem nlt_ofNat {m n : Nat} (h : n ≤ m) (hm : m < 2147483648) : ¬ Int32.ofNat m < Int32.ofNat n := by
  rw [Int32.lt_iff_toInt_lt, toInt_of (n := Int32.ofNat m) rfl (by omega), toInt_of (n := Int32.ofNat n) rfl (by omega)]; omega
theorem slot64 (y : Int32) : ∃ p, p < 64 ∧ XT.ushr y 26 = Int32.ofNat p := by
  have h := c_iushr y 26 26 (by decide) (by decide)
  have p26 : ((2 ^ 26 : Nat) : Int) = 67108864 := by decide
  rw [p26] at h
  refine ⟨(y.toInt % 4294967296 / 67108864).toNat, by omega, ?_⟩
  rw [← Int32.toInt_inj, toInt_of (n := Int32.ofNat _) rfl (by omega)]
  show ((y.toUInt32 >>> ((26 : Int32) &&& 31).toUInt32).toInt32).toInt = _
  rw [h]
  omega
theorem nxt {j : Nat} (h : j < 64) : (Int32.ofNat j + 1) &&& 63 = Int32.ofNat ((j + 1) % 64) := by
  have h1 := c_mask (Int32.ofNat j + 1) 63 6 (by omega) (by decide)
  have p6 : ((2 ^ 6 : Nat) : Int) = 64 := by decide
  rw [p6, ← inc_ofNat, toInt_of (n := Int32.ofNat (j + 1)) rfl (by omega)] at h1
  rw [← Int32.toInt_inj, ← inc_ofNat, h1, toInt_of (n := Int32.ofNat ((j + 1) % 64)) rfl (by omega)]
  omega
theorem and3 (p : Int32) : p &&& 3 = 0 ∨ p &&& 3 = 1 ∨ p &&& 3 = 2 ∨ p &&& 3 = 3 := by
  have h := c_mask p 3 2 (by omega) (by decide)
  have p2 : ((2 ^ 2 : Nat) : Int) = 4 := by decide
  rw [p2] at h
  have e0 : (0 : Int32).toInt = 0 := by decide
  have e1 : (1 : Int32).toInt = 1 := by decide
  have e2 : (2 : Int32).toInt = 2 := by decide
  have e3 : (3 : Int32).toInt = 3 := by decide
  rw [← Int32.toInt_inj, ← Int32.toInt_inj, ← Int32.toInt_inj, ← Int32.toInt_inj]
  omega
theorem set_end {ys : List Addr} {y : Addr} {k : Nat} (hk : ys.length + 1 + k = 10) : (ys.map Value.ref ++ List.replicate (10 - ys.length) Value.null).set ys.length (.ref y) = (ys ++ [y]).map Value.ref ++ List.replicate (10 - (ys ++ [y]).length) Value.null := by
  have e1 : 10 - ys.length = k + 1 := by omega
  have e2 : 10 - (ys ++ [y]).length = k := by rw [List.length_append]; simp; omega
  rw [e1, e2, List.replicate_succ, List.set_append_right _ _ (by simp)]
  simp
theorem exa_neAr {Z : State} {h : Heap} {p q : Addr} {C : String} {ty : FieldType} {vs : List Value} {n : Nat} {a0 : Array Value} (E : Exa Z h p C) (F : Ar Z h q ty vs) (w : (Jvm.Cond.instantiable C n).before a0 Z = true) : p ≠ q := fun e => by
  subst e
  obtain ⟨c1, k1, e1, f1, g1, -⟩ := E
  obtain ⟨c2, ⟨e2, hA, -⟩, -⟩ := F
  cases e1.symm.trans e2
  obtain ⟨-, kk, hk, comp, hkind⟩ := hA
  cases g1.symm.trans hk
  simp [Jvm.Cond.before, Jvm.Cond.holds, Jvm.Cond.value, f1, g1, hkind] at w
abbrev NT : String := "com/example/afterscore/afterscore/io/NameTable"
abbrev AL : String := "java/util/ArrayList"
abbrev ALB : String := "java/util/AbstractList"
abbrev OBJ : String := "java/lang/Object"
/-- a String that the law has made -/
def SG (Z : State) (h : Heap) (s : Addr) : Prop := ∃ t bs u w, Str Z h s t bs ∧ Exa Z h t "[B" ∧ Fld Z h s ST "hash" "I" (.int u) ∧ Fld Z h s ST "hashIsZero" "Z" (.int w) ∧ 0 < bs.length ∧ bs.length ≤ 3
/-- a cell z that is neither the String s nor a byte array -/
def Apt (Z : State) (h : Heap) (s z : Addr) : Prop := s ≠ z ∧ ∀ t vs, Ar Z h t .byte vs → Exa Z h t "[B" → t ≠ z
section Preds
variable {Z : State} {h h' : Heap} {s z t L sl hs ix y e D : Addr} {ws : List Addr} {C : String} {ty : FieldType} {vs : List Value} {a0 : Array Value} {n k : Nat} {ps : List Nat} {zs ys eds : List Addr}
theorem SG.exa (F : SG Z h s) : Exa Z h s ST := by obtain ⟨t, bs, u, w, S, -⟩ := F; exact S.1
theorem SG.ext (F : SG Z h s) (E : Ext h h') : SG Z h' s := by obtain ⟨t, bs, u, w, S, q1, q2, q3, l⟩ := F; exact ⟨t, bs, u, w, S.ext E, q1.ext E, q2.ext E, q3.ext E, l⟩
theorem SG.keep (F : SG Z h s) (K : Keep h h' ws) (q : ∀ z ∈ ws, Apt Z h s z) : SG Z h' s := by
  obtain ⟨t, bs, u, w, S, q1, q2, q3, l⟩ := F
  have n1 : s ∉ ws := fun m => (q s m).1 rfl
  have n2 : t ∉ ws := fun m => (q t m).2 t _ S.2.2.2 q1 rfl
  exact ⟨t, bs, u, w, S.keep K n1 n2, q1.keep K, q2.keep K n1, q3.keep K n1, l⟩
theorem apt_obj (Es : Exa Z h s ST) (Ez : Exa Z h z C) (h1 : ST ≠ C) (h2 : "[B" ≠ C) : Apt Z h s z := ⟨Es.ne Ez h1, fun _ _ _ Et => Et.ne Ez h2⟩
theorem apt_str (hn : s ≠ z) (Ez : Exa Z h z ST) : Apt Z h s z := ⟨hn, fun _ _ _ Et => Et.ne Ez (by decide)⟩
theorem apt_arr (Es : Exa Z h s ST) (Az : Ar Z h z ty vs) (hty : FieldType.byte ≠ ty) (w : (Jvm.Cond.instantiable ST n).before a0 Z = true) : Apt Z h s z := ⟨exa_neAr Es Az w, fun _ _ At _ => At.neTy Az hty⟩
/-- an ArrayList's fields -/
def ALF (Z : State) (h : Heap) (L : Addr) (e : Value) (k m : Int32) : Prop := Exa Z h L AL ∧ Fld Z h L AL "elementData" "[Ljava/lang/Object;" e ∧ Fld Z h L AL "size" "I" (.int k) ∧ Fld Z h L ALB "modCount" "I" (.int m)
/-- an ArrayList that holds ys: its array e (eds: the cells of it that the law may write) -/
def ALP (Z : State) (h : Heap) (D L e : Addr) (eds ys : List Addr) : Prop := (∃ m, ALF Z h L (.ref e) (Int32.ofNat ys.length) m) ∧ ((ys = [] ∧ e = D ∧ eds = []) ∨ (eds = [e] ∧ 0 < ys.length ∧ Arf Z h e OBJ (ys.map Value.ref ++ List.replicate (10 - ys.length) Value.null)))
theorem ALP.keep (F : ALP Z h D L e eds ys) (K : Keep h h' ws) (q : L ∉ ws) (r : ∀ z ∈ eds, z ∉ ws) : ALP Z h' D L e eds ys := by
  obtain ⟨⟨m, F1, F2, F3, F4⟩, F5⟩ := F
  exact ⟨⟨m, F1.keep K, F2.keep K q, F3.keep K q, F4.keep K q⟩, F5.imp id fun z => ⟨z.1, z.2.1, z.2.2.keep K (r e (by rw [z.1]; simp))⟩⟩
/-- a NameTable but for its list -/
def NTS (Z : State) (h : Heap) (t L sl hs ix : Addr) (k : Nat) (ps : List Nat) (zs : List Addr) : Prop :=
  (Exa Z h t NT ∧ Fld Z h t NT "names" "Ljava/util/List;" (.ref L) ∧ Fld Z h t NT "slots" "[Ljava/lang/String;" (.ref sl) ∧ Fld Z h t NT "hashes" "[I" (.ref hs) ∧ Fld Z h t NT "indexes" "[I" (.ref ix) ∧ Fld Z h t NT "taken" "I" (.int (Int32.ofNat k))) ∧
  (∃ vs, Arf Z h sl ST vs ∧ vs.length = 64 ∧ ∀ j v, vs[j]? = some v → v = .null ∨ (j ∈ ps ∧ ∃ y ∈ zs, v = .ref y)) ∧
  (∃ is : List Int32, Ar Z h hs .int (is.map Value.int) ∧ is.length = 64) ∧ (∃ is : List Int32, Ar Z h ix .int (is.map Value.int) ∧ is.length = 64)
theorem NTS.keep (F : NTS Z h t L sl hs ix k ps zs) (K : Keep h h' ws) (q1 : t ∉ ws) (q2 : sl ∉ ws) (q3 : hs ∉ ws) (q4 : ix ∉ ws) : NTS Z h' t L sl hs ix k ps zs := by
  obtain ⟨⟨f1, f2, f3, f4, f5, f6⟩, ⟨vs, v1, v2⟩, ⟨i1, i2, i3⟩, ⟨j1, j2, j3⟩⟩ := F
  exact ⟨⟨f1.keep K, f2.keep K q1, f3.keep K q1, f4.keep K q1, f5.keep K q1, f6.keep K q1⟩, ⟨vs, v1.keep K q2, v2⟩, ⟨i1, i2.keep K q3, i3⟩, ⟨j1, j2.keep K q4, j3⟩⟩
theorem SG.keepA (F : SG Z h z) (K : Keep h h' (t :: sl :: hs :: ix :: y :: L :: eds)) (N : NTS Z h t L sl hs ix k ps zs) (A : ALP Z h D L e eds ys) (Ey : Exa Z h y ST) (hz : z ≠ y) (wS : (Jvm.Cond.instantiable ST n).before a0 Z = true) : SG Z h' z :=
  F.keep K (allS (apt_obj F.exa N.1.1 (by decide) (by decide)) (allS (apt_arr F.exa N.2.1.choose_spec.1.ar (by decide) wS) (allS (apt_arr F.exa N.2.2.1.choose_spec.1 (by decide) wS) (allS (apt_arr F.exa N.2.2.2.choose_spec.1 (by decide) wS) (allS (apt_str hz Ey) (allS (apt_obj F.exa A.1.choose_spec.1 (by decide) (by decide)) (fun w hw => by
    rcases A.2 with ⟨_, _, q⟩ | ⟨q, _, G⟩
    · rw [q] at hw; cases hw
    · rw [q] at hw; cases List.mem_singleton.mp hw; exact apt_arr F.exa G.ar (by decide) wS)))))))
end Preds
theorem len_is {args : Array Value} {s : State} {t : Term} {y : Addr} {cl : Cell} {n : Nat} (h : (Term.length t).eval args s none [] s = some (.int (Int32.ofNat n))) (ht : t.eval args s none [] s = some (.ref y)) (ha : s.arrayAt? y = some cl) (hn : n < 2147483648) : cl.slots.size = n := by
  by_cases q : cl.slots.size < 2 ^ 31
  · rw [len_f ht ha q] at h
    exact ofNat_inj (by omega) hn (Value.int.inj (Option.some.inj h))
  · simp [Term.eval, ht, ha, q] at h
def b_cmp5 : Bx := (({ frames := 0, cells := 0, slots := 0, locals := 0 } : Room), (⟨"java/lang/StringUTF16", "compress", "([CI[BII)I"⟩ : MethodName), jdk_52_method_21_code, 7, (Option.some Jvm.ClassFile.FieldType.int))
theorem ef_cmp5 (a d : Addr) (cs : List Int32) (mI : MethodId) : entryFrame mI #[.ref a, .int (0 : Int32), .ref d, .int (0 : Int32), .int (Int32.ofNat cs.length)] 7 = mkF mI 0 #[.val (.ref a), .val (.int (0 : Int32)), .val (.ref d), .val (.int (0 : Int32)), .val (.int (Int32.ofNat cs.length)), .unset, .unset] [] := by first | (simp [entryFrame, mkF, argsToLocals, Value.category]; done) | rfl
theorem pn_java_lang_StringUTF16 : plainName "java/lang/StringUTF16" = true := by first | (simp [plainName, overriddenIn]; done) | decide +kernel
theorem pd_cmp5 : parseMethodDescriptor "([CI[BII)I" = some ⟨[(.array .char), .int, (.array .byte), .int, .int], some .int⟩ := by decide +kernel
set_option maxRecDepth 65536 in
set_option maxHeartbeats 4000000 in
theorem ct_cmp5 {a0 : Array Value} {Z : State} (hw : ∀ d ∈ tables_1, d.before a0 Z = true) (l : Launch) (nar kn : Bool) (hnr : nar = nar) (h0 : Heap) (a d : Addr) (cs : List Int32) (Fa : Ar Z h0 a .char (cs.map Value.int)) (Fd : Ar Z h0 d .byte (List.replicate cs.length (.int 0))) (hne : a ≠ d) (hcs : ∀ c ∈ cs, ¬ c < 0 ∧ ¬ 255 < c) :
    Ct l Z EL1 (⟨"java/lang/StringUTF16", "compress", "([CI[BII)I"⟩ : MethodName) jdk_52_method_21_code 7 (Option.some Jvm.ClassFile.FieldType.int) ({ frames := 0, cells := 0, slots := 0, locals := 0 } : Room) #[.ref a, .int (0 : Int32), .ref d, .int (0 : Int32), .int (Int32.ofNat cs.length)] h0 [d] nar kn (fun v h sn => v = some (.int (Int32.ofNat cs.length)) ∧ sn = [] ∧ Ar Z h d .byte (cs.map fun c => Value.int (b8 c))) := by
  refine Ct.intro (plainFor_of_name pn_java_lang_StringUTF16) (ew hw) (ef_cmp5 a d cs) ?_
  intro x hl hn0 hkn hsf hh H0
  have hnar : x.nar = x.nar := rfl
  have H0 : Hr x b_cmp5 Z EL1 0 0 h0 [d] 0 #[.val (.ref a), .val (.int (0 : Int32)), .val (.ref d), .val (.int (0 : Int32)), .val (.int (Int32.ofNat cs.length)), .unset, .unset] [] := H0
  have hlen : cs.length < 2147483648 := by simpa using Fa.len
  have H1 : Hr x b_cmp5 Z EL1 0 0 h0 [d] 1 #[.val (.ref a), .val (.int (0 : Int32)), .val (.ref d), .val (.int (0 : Int32)), .val (.int (Int32.ofNat cs.length)), .unset, .unset] [.int (0 : Int32)] := H0.iconst d_cmp5_0
  have H2 : Hr x b_cmp5 Z EL1 0 0 h0 [d] 3 #[.val (.ref a), .val (.int (0 : Int32)), .val (.ref d), .val (.int (0 : Int32)), .val (.int (Int32.ofNat cs.length)), .val (.int (0 : Int32)), .unset] [] := H1.istore d_cmp5_1
  have loop : ∀ (k i : Nat) (h : Heap) (o : Slot), i + k = cs.length → (o = .unset ∨ ∃ w, o = .val w ∧ w.category = 1) → Ar Z h a .char (cs.map Value.int) → Ar Z h d .byte ((cs.take i).map (fun c => Value.int (b8 c)) ++ List.replicate k (.int 0)) → Hr x b_cmp5 Z EL1 0 0 h [d] 3 #[.val (.ref a), .val (.int (Int32.ofNat i)), .val (.ref d), .val (.int (Int32.ofNat i)), .val (.int (Int32.ofNat cs.length)), .val (.int (Int32.ofNat i)), o] [] → Ends x b_cmp5 Z EL1 (fun v h sn => v = some (.int (Int32.ofNat cs.length)) ∧ sn = [] ∧ Ar Z h d .byte (cs.map fun c => Value.int (b8 c))) := by
    intro k
    induction k with
    | zero =>
      intro i h o hi ho Fa Fd H
      obtain rfl : i = cs.length := by omega
      have H3 : Hr x b_cmp5 Z EL1 0 0 h [d] 5 #[.val (.ref a), .val (.int (Int32.ofNat cs.length)), .val (.ref d), .val (.int (Int32.ofNat cs.length)), .val (.int (Int32.ofNat cs.length)), .val (.int (Int32.ofNat cs.length)), o] [.int (Int32.ofNat cs.length)] := H.iload d_cmp5_3
      have H4 : Hr x b_cmp5 Z EL1 0 0 h [d] 7 #[.val (.ref a), .val (.int (Int32.ofNat cs.length)), .val (.ref d), .val (.int (Int32.ofNat cs.length)), .val (.int (Int32.ofNat cs.length)), .val (.int (Int32.ofNat cs.length)), o] [.int (Int32.ofNat cs.length), .int (Int32.ofNat cs.length)] := H3.iload d_cmp5_5
      have H5 : Hr x b_cmp5 Z EL1 0 0 h [d] 44 #[.val (.ref a), .val (.int (Int32.ofNat cs.length)), .val (.ref d), .val (.int (Int32.ofNat cs.length)), .val (.int (Int32.ofNat cs.length)), .val (.int (Int32.ofNat cs.length)), o] [] := H4.icmpT d_cmp5_7 (XT.ii_ge_t (by simp))
      have H6 : Hr x b_cmp5 Z EL1 0 0 h [d] 46 #[.val (.ref a), .val (.int (Int32.ofNat cs.length)), .val (.ref d), .val (.int (Int32.ofNat cs.length)), .val (.int (Int32.ofNat cs.length)), .val (.int (Int32.ofNat cs.length)), o] [.int (Int32.ofNat cs.length)] := H5.iload d_cmp5_44
      exact H6.finI d_cmp5_46 ⟨rfl, rfl, by simpa using Fd⟩ sub0
    | succ k ih =>
      intro i h o hi ho Fa Fd H
      have hi1 : i < cs.length := by omega
      have hlt : Int32.ofNat i < Int32.ofNat cs.length := by rw [Int32.lt_iff_toInt_lt, toInt_of rfl (by omega), toInt_of rfl (by omega)]; omega
      obtain ⟨hc0, hc1⟩ := hcs cs[i] (List.getElem_mem hi1)
      have H3 : Hr x b_cmp5 Z EL1 0 0 h [d] 5 #[.val (.ref a), .val (.int (Int32.ofNat i)), .val (.ref d), .val (.int (Int32.ofNat i)), .val (.int (Int32.ofNat cs.length)), .val (.int (Int32.ofNat i)), o] [.int (Int32.ofNat i)] := H.iload d_cmp5_3
      have H4 : Hr x b_cmp5 Z EL1 0 0 h [d] 7 #[.val (.ref a), .val (.int (Int32.ofNat i)), .val (.ref d), .val (.int (Int32.ofNat i)), .val (.int (Int32.ofNat cs.length)), .val (.int (Int32.ofNat i)), o] [.int (Int32.ofNat cs.length), .int (Int32.ofNat i)] := H3.iload d_cmp5_5
      have H5 : Hr x b_cmp5 Z EL1 0 0 h [d] 10 #[.val (.ref a), .val (.int (Int32.ofNat i)), .val (.ref d), .val (.int (Int32.ofNat i)), .val (.int (Int32.ofNat cs.length)), .val (.int (Int32.ofNat i)), o] [] := H4.icmpF d_cmp5_7 (XT.ii_ge_f hlt)
      have H6 : Hr x b_cmp5 Z EL1 0 0 h [d] 11 #[.val (.ref a), .val (.int (Int32.ofNat i)), .val (.ref d), .val (.int (Int32.ofNat i)), .val (.int (Int32.ofNat cs.length)), .val (.int (Int32.ofNat i)), o] [.ref a] := H5.aloadN d_cmp5_10
      have H7 : Hr x b_cmp5 Z EL1 0 0 h [d] 12 #[.val (.ref a), .val (.int (Int32.ofNat i)), .val (.ref d), .val (.int (Int32.ofNat i)), .val (.int (Int32.ofNat cs.length)), .val (.int (Int32.ofNat i)), o] [.int (Int32.ofNat i), .ref a] := H6.iloadN d_cmp5_11
      have H8 : Hr x b_cmp5 Z EL1 0 0 h [d] 13 #[.val (.ref a), .val (.int (Int32.ofNat i)), .val (.ref d), .val (.int (Int32.ofNat i)), .val (.int (Int32.ofNat cs.length)), .val (.int (Int32.ofNat i)), o] [.int (cs[i])] := H7.caload Fa d_cmp5_12 (i := i) rfl (by simp [hi1])
      have H9 : Hr x b_cmp5 Z EL1 0 0 h [d] 15 #[.val (.ref a), .val (.int (Int32.ofNat i)), .val (.ref d), .val (.int (Int32.ofNat i)), .val (.int (Int32.ofNat cs.length)), .val (.int (Int32.ofNat i)), .val (.int (cs[i]))] [] := H8.istore d_cmp5_13 (hl := XS.store1 (o := o) rfl ho rfl)
      have H10 : Hr x b_cmp5 Z EL1 0 0 h [d] 17 #[.val (.ref a), .val (.int (Int32.ofNat i)), .val (.ref d), .val (.int (Int32.ofNat i)), .val (.int (Int32.ofNat cs.length)), .val (.int (Int32.ofNat i)), .val (.int (cs[i]))] [.int (cs[i])] := H9.iload d_cmp5_15
      have H11 : Hr x b_cmp5 Z EL1 0 0 h [d] 20 #[.val (.ref a), .val (.int (Int32.ofNat i)), .val (.ref d), .val (.int (Int32.ofNat i)), .val (.int (Int32.ofNat cs.length)), .val (.int (Int32.ofNat i)), .val (.int (cs[i]))] [.int (255 : Int32), .int (cs[i])] := H10.sipush d_cmp5_17
      have H12 : Hr x b_cmp5 Z EL1 0 0 h [d] 26 #[.val (.ref a), .val (.int (Int32.ofNat i)), .val (.ref d), .val (.int (Int32.ofNat i)), .val (.int (Int32.ofNat cs.length)), .val (.int (Int32.ofNat i)), .val (.int (cs[i]))] [] := H11.icmpT d_cmp5_20 (XT.ii_le_t hc1)
      have H13 : Hr x b_cmp5 Z EL1 0 0 h [d] 27 #[.val (.ref a), .val (.int (Int32.ofNat i)), .val (.ref d), .val (.int (Int32.ofNat i)), .val (.int (Int32.ofNat cs.length)), .val (.int (Int32.ofNat i)), .val (.int (cs[i]))] [.ref d] := H12.aloadN d_cmp5_26
      have H14 : Hr x b_cmp5 Z EL1 0 0 h [d] 28 #[.val (.ref a), .val (.int (Int32.ofNat i)), .val (.ref d), .val (.int (Int32.ofNat i)), .val (.int (Int32.ofNat cs.length)), .val (.int (Int32.ofNat i)), .val (.int (cs[i]))] [.int (Int32.ofNat i), .ref d] := H13.iloadN d_cmp5_27
      have H15 : Hr x b_cmp5 Z EL1 0 0 h [d] 30 #[.val (.ref a), .val (.int (Int32.ofNat i)), .val (.ref d), .val (.int (Int32.ofNat i)), .val (.int (Int32.ofNat cs.length)), .val (.int (Int32.ofNat i)), .val (.int (cs[i]))] [.int (cs[i]), .int (Int32.ofNat i), .ref d] := H14.iload d_cmp5_28
      have H16 : Hr x b_cmp5 Z EL1 0 0 h [d] 31 #[.val (.ref a), .val (.int (Int32.ofNat i)), .val (.ref d), .val (.int (Int32.ofNat i)), .val (.int (Int32.ofNat cs.length)), .val (.int (Int32.ofNat i)), .val (.int (cs[i]))] [.int (b8 cs[i]), .int (Int32.ofNat i), .ref d] := H15.i2b d_cmp5_30
      obtain ⟨h', Wd, H17⟩ := H16.bastore (List.mem_singleton.mpr rfl) Fd d_cmp5_31 (i := i) rfl (by simp; omega) (hw := (b8_b8 _))
      have H17 : Hr x b_cmp5 Z EL1 0 0 h' [d] 32 #[.val (.ref a), .val (.int (Int32.ofNat i)), .val (.ref d), .val (.int (Int32.ofNat i)), .val (.int (Int32.ofNat cs.length)), .val (.int (Int32.ofNat i)), .val (.int (cs[i]))] [] := H17
      have H18 : Hr x b_cmp5 Z EL1 0 0 h' [d] 35 #[.val (.ref a), .val (.int (Int32.ofNat (i + 1))), .val (.ref d), .val (.int (Int32.ofNat i)), .val (.int (Int32.ofNat cs.length)), .val (.int (Int32.ofNat i)), .val (.int (cs[i]))] [] := H17.iinc d_cmp5_32 (v := (Int32.ofNat (i + 1))) (hv := (inc_ofNat i).symm)
      have H19 : Hr x b_cmp5 Z EL1 0 0 h' [d] 38 #[.val (.ref a), .val (.int (Int32.ofNat (i + 1))), .val (.ref d), .val (.int (Int32.ofNat (i + 1))), .val (.int (Int32.ofNat cs.length)), .val (.int (Int32.ofNat i)), .val (.int (cs[i]))] [] := H18.iinc d_cmp5_35 (v := (Int32.ofNat (i + 1))) (hv := (inc_ofNat i).symm)
      have H20 : Hr x b_cmp5 Z EL1 0 0 h' [d] 41 #[.val (.ref a), .val (.int (Int32.ofNat (i + 1))), .val (.ref d), .val (.int (Int32.ofNat (i + 1))), .val (.int (Int32.ofNat cs.length)), .val (.int (Int32.ofNat (i + 1))), .val (.int (cs[i]))] [] := H19.iinc d_cmp5_38 (v := (Int32.ofNat (i + 1))) (hv := (inc_ofNat i).symm)
      have H21 : Hr x b_cmp5 Z EL1 0 0 h' [d] 3 #[.val (.ref a), .val (.int (Int32.ofNat (i + 1))), .val (.ref d), .val (.int (Int32.ofNat (i + 1))), .val (.int (Int32.ofNat cs.length)), .val (.int (Int32.ofNat (i + 1))), .val (.int (cs[i]))] [] := H20.goto d_cmp5_41
      refine ih (i + 1) _ _ (by omega) (Or.inr ⟨_, rfl, rfl⟩) (Fa.other Wd hne) ?_ H21
      have := Fd.set Wd; rw [set_next (f := fun c => Value.int (b8 c)) hi1] at this; exact this
  exact loop cs.length 0 h0 .unset (by omega) (Or.inl rfl) Fa (by simpa using Fd) H2
def b_cmp3 : Bx := (({ frames := 1, cells := 1, slots := 3, locals := 18 } : Room), (⟨"java/lang/StringUTF16", "compress", "([CII)[B"⟩ : MethodName), jdk_52_method_16_code, 6, (Option.some (Jvm.ClassFile.FieldType.array Jvm.ClassFile.FieldType.byte)))
theorem ef_cmp3 (a : Addr) (cs : List Int32) (mI : MethodId) : entryFrame mI #[.ref a, .int (0 : Int32), .int (Int32.ofNat cs.length)] 6 = mkF mI 0 #[.val (.ref a), .val (.int (0 : Int32)), .val (.int (Int32.ofNat cs.length)), .unset, .unset, .unset] [] := by first | (simp [entryFrame, mkF, argsToLocals, Value.category]; done) | rfl
theorem pd_cmp3 : parseMethodDescriptor "([CII)[B" = some ⟨[(.array .char), .int, .int], some (.array .byte)⟩ := by decide +kernel
set_option maxRecDepth 65536 in
set_option maxHeartbeats 4000000 in
theorem ct_cmp3 {a0 : Array Value} {Z : State} (hw : ∀ d ∈ tables_1, d.before a0 Z = true) (l : Launch) (nar kn : Bool) (hnr : nar = nar) (h0 : Heap) (a : Addr) (cs : List Int32) (Fa : Ar Z h0 a .char (cs.map Value.int)) (hcap : cs.length ≤ 3) (hcs : ∀ c ∈ cs, ¬ c < 0 ∧ ¬ 255 < c) :
    Ct l Z EL1 (⟨"java/lang/StringUTF16", "compress", "([CII)[B"⟩ : MethodName) jdk_52_method_16_code 6 (Option.some (Jvm.ClassFile.FieldType.array Jvm.ClassFile.FieldType.byte)) ({ frames := 1, cells := 1, slots := 3, locals := 18 } : Room) #[.ref a, .int (0 : Int32), .int (Int32.ofNat cs.length)] h0 [] nar kn (fun v h sn => ∃ t, v = some (.ref t) ∧ h0.size ≤ t ∧ sn = [t] ∧ Ar Z h t .byte ((cs.map b8).map Value.int) ∧ Exa Z h t "[B") := by
  refine Ct.intro (plainFor_of_name pn_java_lang_StringUTF16) (ew hw) (ef_cmp3 a cs) ?_
  intro x hl hn0 hkn hsf hh H0
  have hnar : x.nar = x.nar := rfl
  have H0 : Hr x b_cmp3 Z EL1 0 0 h0 [] 0 #[.val (.ref a), .val (.int (0 : Int32)), .val (.int (Int32.ofNat cs.length)), .unset, .unset, .unset] [] := H0
  have hcl : (Int32.ofNat cs.length).toNatClampNeg = cs.length := clamp_of rfl (by omega)
  have H1 : Hr x b_cmp3 Z EL1 0 0 h0 [] 1 #[.val (.ref a), .val (.int (0 : Int32)), .val (.int (Int32.ofNat cs.length)), .unset, .unset, .unset] [.int (Int32.ofNat cs.length)] := H0.iloadN d_cmp3_0
  obtain ⟨h1, E1, ⟨Fd, Xd⟩, H2⟩ := H1.newarrayE (aty := .byte) (cap := 3) (ad := "[B") (w14 hw) d_cmp3_1 (nn32 (by omega)) (by rw [hcl]; exact hcap) (by decide) (by decide +kernel) (by first | decide | (simp [b_cmp3, Bx.R]; done) | (simp [b_cmp3, Bx.R]; omega)) (by first | decide | (simp [b_cmp3, Bx.R]; done) | (simp [b_cmp3, Bx.R]; omega))
  obtain ⟨d, g_d⟩ : ∃ z, z = h0.size := ⟨_, rfl⟩
  rw [← g_d] at Fd Xd H2
  have Fd : Ar Z h1 d .byte (List.replicate cs.length (.int 0)) := (by have := Fd; rw [hcl] at this; exact this)
  have H2 : Hr x b_cmp3 Z EL1 1 3 h1 [d] 3 #[.val (.ref a), .val (.int (0 : Int32)), .val (.int (Int32.ofNat cs.length)), .unset, .unset, .unset] [.ref d] := H2
  have H3 : Hr x b_cmp3 Z EL1 1 3 h1 [d] 4 #[.val (.ref a), .val (.int (0 : Int32)), .val (.int (Int32.ofNat cs.length)), .val (.ref d), .unset, .unset] [] := H2.astoreN d_cmp3_3
  have H4 : Hr x b_cmp3 Z EL1 1 3 h1 [d] 5 #[.val (.ref a), .val (.int (0 : Int32)), .val (.int (Int32.ofNat cs.length)), .val (.ref d), .unset, .unset] [.ref a] := H3.aloadN d_cmp3_4
  have H5 : Hr x b_cmp3 Z EL1 1 3 h1 [d] 6 #[.val (.ref a), .val (.int (0 : Int32)), .val (.int (Int32.ofNat cs.length)), .val (.ref d), .unset, .unset] [.int (0 : Int32), .ref a] := H4.iloadN d_cmp3_5
  have H6 : Hr x b_cmp3 Z EL1 1 3 h1 [d] 7 #[.val (.ref a), .val (.int (0 : Int32)), .val (.int (Int32.ofNat cs.length)), .val (.ref d), .unset, .unset] [.ref d, .int (0 : Int32), .ref a] := H5.aloadN d_cmp3_6
  have H7 : Hr x b_cmp3 Z EL1 1 3 h1 [d] 8 #[.val (.ref a), .val (.int (0 : Int32)), .val (.int (Int32.ofNat cs.length)), .val (.ref d), .unset, .unset] [.int (0 : Int32), .ref d, .int (0 : Int32), .ref a] := H6.iconst d_cmp3_7
  have H8 : Hr x b_cmp3 Z EL1 1 3 h1 [d] 9 #[.val (.ref a), .val (.int (0 : Int32)), .val (.int (Int32.ofNat cs.length)), .val (.ref d), .unset, .unset] [.int (Int32.ofNat cs.length), .int (0 : Int32), .ref d, .int (0 : Int32), .ref a] := H7.iloadN d_cmp3_8
  obtain ⟨_, h2, _, ⟨rfl, rfl, Fd2⟩, K2, H9⟩ := H8.callS (argsL := [.ref a, .int (0 : Int32), .ref d, .int (0 : Int32), .int (Int32.ofNat cs.length)]) (rest := []) (Wr := 0) (ct_cmp5 hw x.l x.nar x.kn hnar h1 a d cs (Fa.ext E1) Fd (neN (by have := Fa.lt; omega)) hcs) (sub1 (by simp)) (w38 hw) (w39 hw) (w36 hw) (w40 hw) d_cmp3_9 pd_cmp5 rfl (hf := by first | decide | (simp [b_cmp3, Bx.R]; done) | (simp [b_cmp3, Bx.R]; omega)) (hl := by first | decide | (simp [b_cmp3, Bx.R]; done) | (simp [b_cmp3, Bx.R]; omega)) (hc := by first | decide | (simp [b_cmp3, Bx.R]; done) | (simp [b_cmp3, Bx.R]; omega)) (hs := by first | decide | (simp [b_cmp3, Bx.R]; done) | (simp [b_cmp3, Bx.R]; omega))
  have H9 : Hr x b_cmp3 Z EL1 1 3 h2 [d] 12 #[.val (.ref a), .val (.int (0 : Int32)), .val (.int (Int32.ofNat cs.length)), .val (.ref d), .unset, .unset] [.int (Int32.ofNat cs.length)] := H9
  have H10 : Hr x b_cmp3 Z EL1 1 3 h2 [d] 14 #[.val (.ref a), .val (.int (0 : Int32)), .val (.int (Int32.ofNat cs.length)), .val (.ref d), .val (.int (Int32.ofNat cs.length)), .unset] [] := H9.istore d_cmp3_12
  have H11 : Hr x b_cmp3 Z EL1 1 3 h2 [d] 16 #[.val (.ref a), .val (.int (0 : Int32)), .val (.int (Int32.ofNat cs.length)), .val (.ref d), .val (.int (Int32.ofNat cs.length)), .unset] [.int (Int32.ofNat cs.length)] := H10.iload d_cmp3_14
  have H12 : Hr x b_cmp3 Z EL1 1 3 h2 [d] 17 #[.val (.ref a), .val (.int (0 : Int32)), .val (.int (Int32.ofNat cs.length)), .val (.ref d), .val (.int (Int32.ofNat cs.length)), .unset] [.int (Int32.ofNat cs.length), .int (Int32.ofNat cs.length)] := H11.iloadN d_cmp3_16
  have H13 : Hr x b_cmp3 Z EL1 1 3 h2 [d] 57 #[.val (.ref a), .val (.int (0 : Int32)), .val (.int (Int32.ofNat cs.length)), .val (.ref d), .val (.int (Int32.ofNat cs.length)), .unset] [] := H12.icmpT d_cmp3_17 (XT.ii_eq_t rfl)
  have H14 : Hr x b_cmp3 Z EL1 1 3 h2 [d] 58 #[.val (.ref a), .val (.int (0 : Int32)), .val (.int (Int32.ofNat cs.length)), .val (.ref d), .val (.int (Int32.ofNat cs.length)), .unset] [.ref d] := H13.aloadN d_cmp3_57
  exact H14.finA d_cmp3_58 ⟨d, rfl, by omega, rfl, by simpa [List.map_map, Function.comp_def] using Fd2, Xd.keep K2⟩ (sub1 (by simp))
def b_cfal : Bx := (({ frames := 0, cells := 0, slots := 0, locals := 0 } : Room), (⟨"java/lang/StringUTF16", "coderFromArrayLen", "([BI)B"⟩ : MethodName), jdk_52_method_15_code, 2, (Option.some Jvm.ClassFile.FieldType.byte))
theorem ef_cfal (d : Addr) (n : Nat) (mI : MethodId) : entryFrame mI #[.ref d, .int (Int32.ofNat n)] 2 = mkF mI 0 #[.val (.ref d), .val (.int (Int32.ofNat n))] [] := by first | (simp [entryFrame, mkF, argsToLocals, Value.category]; done) | rfl
theorem pd_cfal : parseMethodDescriptor "([BI)B" = some ⟨[(.array .byte), .int], some .byte⟩ := by decide +kernel
set_option maxRecDepth 65536 in
set_option maxHeartbeats 4000000 in
theorem ct_cfal {a0 : Array Value} {Z : State} (hw : ∀ d ∈ tables_1, d.before a0 Z = true) (l : Launch) (nar kn : Bool) (hnr : nar = nar) (h0 : Heap) (d : Addr) (vs : List Value) (n : Nat) (hn : vs.length = n) (Fd : Ar Z h0 d .byte vs) :
    Ct l Z EL1 (⟨"java/lang/StringUTF16", "coderFromArrayLen", "([BI)B"⟩ : MethodName) jdk_52_method_15_code 2 (Option.some Jvm.ClassFile.FieldType.byte) ({ frames := 0, cells := 0, slots := 0, locals := 0 } : Room) #[.ref d, .int (Int32.ofNat n)] h0 [] nar kn (fun v h sn => v = some (.int 0) ∧ sn = [] ∧ h = h0) := by
  refine Ct.intro (plainFor_of_name pn_java_lang_StringUTF16) (ew hw) (ef_cfal d n) ?_
  intro x hl hn0 hkn hsf hh H0
  have hnar : x.nar = x.nar := rfl
  have H0 : Hr x b_cfal Z EL1 0 0 h0 [] 0 #[.val (.ref d), .val (.int (Int32.ofNat n))] [] := H0
  have H1 : Hr x b_cfal Z EL1 0 0 h0 [] 1 #[.val (.ref d), .val (.int (Int32.ofNat n))] [.int (Int32.ofNat n)] := H0.iloadN d_cfal_0
  have H2 : Hr x b_cfal Z EL1 0 0 h0 [] 2 #[.val (.ref d), .val (.int (Int32.ofNat n))] [.ref d, .int (Int32.ofNat n)] := H1.aloadN d_cfal_1
  have H3 : Hr x b_cfal Z EL1 0 0 h0 [] 3 #[.val (.ref d), .val (.int (Int32.ofNat n))] [.int (Int32.ofNat n), .int (Int32.ofNat n)] := H2.arraylength Fd d_cfal_2 (hn := (by rw [hn]))
  have H4 : Hr x b_cfal Z EL1 0 0 h0 [] 4 #[.val (.ref d), .val (.int (Int32.ofNat n))] [.int (0 : Int32)] := H3.isub d_cfal_3 (hv := (by simp))
  have H5 : Hr x b_cfal Z EL1 0 0 h0 [] 6 #[.val (.ref d), .val (.int (Int32.ofNat n))] [.int (31 : Int32), .int (0 : Int32)] := H4.bipush d_cfal_4
  have H6 : Hr x b_cfal Z EL1 0 0 h0 [] 7 #[.val (.ref d), .val (.int (Int32.ofNat n))] [.int (0 : Int32)] := H5.iushr d_cfal_6 (hv := (by decide))
  have H7 : Hr x b_cfal Z EL1 0 0 h0 [] 8 #[.val (.ref d), .val (.int (Int32.ofNat n))] [.int (0 : Int32)] := H6.i2b d_cfal_7 (hv := (by decide))
  exact H7.finZ d_cfal_8 (t := .byte) (by first | rfl | decide) ⟨rfl, rfl, rfl⟩ sub0
def b_sini4 : Bx := (({ frames := 2, cells := 1, slots := 3, locals := 35 } : Room), (⟨"java/lang/String", "<init>", "([CIILjava/lang/Void;)V"⟩ : MethodName), jdk_42_method_149_code, 6, (Option.none : Option Jvm.ClassFile.FieldType))
theorem ef_sini4 (s a : Addr) (cs : List Int32) (mI : MethodId) : entryFrame mI #[.ref s, .ref a, .int (0 : Int32), .int (Int32.ofNat cs.length), .null] 6 = mkF mI 0 #[.val (.ref s), .val (.ref a), .val (.int (0 : Int32)), .val (.int (Int32.ofNat cs.length)), .val (.null), .unset] [] := by first | (simp [entryFrame, mkF, argsToLocals, Value.category]; done) | rfl
theorem pn_java_lang_String : plainName "java/lang/String" = true := by first | (simp [plainName, overriddenIn]; done) | decide +kernel
theorem pd_sini4 : parseMethodDescriptor "([CIILjava/lang/Void;)V" = some ⟨[(.array .char), .int, .int, (.object "java/lang/Void")], none⟩ := by decide +kernel
set_option maxRecDepth 65536 in
set_option maxHeartbeats 4000000 in
theorem ct_sini4 {a0 : Array Value} {Z : State} (hw : ∀ d ∈ tables_1, d.before a0 Z = true) (l : Launch) (nar kn : Bool) (hnr : nar = nar) (h0 : Heap) (s a : Addr) (cs : List Int32) (Es : Exa Z h0 s "java/lang/String") (Fc : Fld Z h0 s "java/lang/String" "coder" "B" (.int 0)) (Fv : Fld Z h0 s "java/lang/String" "value" "[B" .null) (Fh : Fld Z h0 s "java/lang/String" "hash" "I" (.int 0)) (Fz : Fld Z h0 s "java/lang/String" "hashIsZero" "Z" (.int 0)) (Fa : Ar Z h0 a .char (cs.map Value.int)) (hcap : cs.length ≤ 3) (hpos : 0 < cs.length) (hcs : ∀ c ∈ cs, ¬ c < 0 ∧ ¬ 255 < c) (cz : Int32) (O : Sta Z Z.heap "java/lang/String" "COMPACT_STRINGS" "Z" (.int cz)) (hcz : ¬ cz = 0) :
    Ct l Z EL1 (⟨"java/lang/String", "<init>", "([CIILjava/lang/Void;)V"⟩ : MethodName) jdk_42_method_149_code 6 (Option.none : Option Jvm.ClassFile.FieldType) ({ frames := 2, cells := 1, slots := 3, locals := 35 } : Room) #[.ref s, .ref a, .int (0 : Int32), .int (Int32.ofNat cs.length), .null] h0 [s] nar kn (fun v h sn => v = none ∧ sn = [] ∧ SG Z h s) := by
  refine Ct.intro (plainFor_of_name pn_java_lang_String) (ew hw) (ef_sini4 s a cs) ?_
  intro x hl hn0 hkn hsf hh H0
  have hnar : x.nar = x.nar := rfl
  have H0 : Hr x b_sini4 Z EL1 0 0 h0 [s] 0 #[.val (.ref s), .val (.ref a), .val (.int (0 : Int32)), .val (.int (Int32.ofNat cs.length)), .val (.null), .unset] [] := H0
  have n01 := slot_ne (a0 := a0) (C := "java/lang/String") (O := "java/lang/String") (O' := "java/lang/String") (n := "coder") (n' := "value") (Or.inr (w25 hw)) (Or.inr (w23 hw)) (by decide) (t := .byte) (t' := .array .byte) (by decide) (by decide)
  have n02 := slot_ne (a0 := a0) (C := "java/lang/String") (O := "java/lang/String") (O' := "java/lang/String") (n := "coder") (n' := "hash") (Or.inr (w25 hw)) (Or.inl (w170 hw)) (by decide) (t := .byte) (t' := .int) (by decide) (by decide)
  have n03 := slot_ne (a0 := a0) (C := "java/lang/String") (O := "java/lang/String") (O' := "java/lang/String") (n := "coder") (n' := "hashIsZero") (Or.inr (w25 hw)) (Or.inl (w172 hw)) (by decide) (t := .byte) (t' := .boolean) (by decide) (by decide)
  have n12 := slot_ne (a0 := a0) (C := "java/lang/String") (O := "java/lang/String") (O' := "java/lang/String") (n := "value") (n' := "hash") (Or.inr (w23 hw)) (Or.inl (w170 hw)) (by decide) (t := .array .byte) (t' := .int) (by decide) (by decide)
  have n13 := slot_ne (a0 := a0) (C := "java/lang/String") (O := "java/lang/String") (O' := "java/lang/String") (n := "value") (n' := "hashIsZero") (Or.inr (w23 hw)) (Or.inl (w172 hw)) (by decide) (t := .array .byte) (t' := .boolean) (by decide) (by decide)
  have n23 := slot_ne (a0 := a0) (C := "java/lang/String") (O := "java/lang/String") (O' := "java/lang/String") (n := "hash") (n' := "hashIsZero") (Or.inl (w170 hw)) (Or.inl (w172 hw)) (by decide) (t := .int) (t' := .boolean) (by decide) (by decide)
  have hn0 : ¬ Int32.ofNat cs.length = 0 := fun q => by have := ofNat_inj (m := cs.length) (n := 0) (by omega) (by decide) q; omega
  have H1 : Hr x b_sini4 Z EL1 0 0 h0 [s] 1 #[.val (.ref s), .val (.ref a), .val (.int (0 : Int32)), .val (.int (Int32.ofNat cs.length)), .val (.null), .unset] [.ref s] := H0.aloadN d_sini4_0
  have H2 : Hr x b_sini4 Z EL1 0 0 h0 [s] 4 #[.val (.ref s), .val (.ref a), .val (.int (0 : Int32)), .val (.int (Int32.ofNat cs.length)), .val (.null), .unset] [] := H1.initO (Wr := 0) (w19 hw) (w20 hw) (w21 hw) d_sini4_1 (hf := by first | decide | (simp [b_sini4, Bx.R]; done) | (simp [b_sini4, Bx.R]; omega)) (hl := by first | decide | (simp [b_sini4, Bx.R]; done) | (simp [b_sini4, Bx.R]; omega))
  have H3 : Hr x b_sini4 Z EL1 0 0 h0 [s] 5 #[.val (.ref s), .val (.ref a), .val (.int (0 : Int32)), .val (.int (Int32.ofNat cs.length)), .val (.null), .unset] [.int (Int32.ofNat cs.length)] := H2.iloadN d_sini4_4
  have H4 : Hr x b_sini4 Z EL1 0 0 h0 [s] 27 #[.val (.ref s), .val (.ref a), .val (.int (0 : Int32)), .val (.int (Int32.ofNat cs.length)), .val (.null), .unset] [] := H3.ifT d_sini4_5 (XT.i0_ne_t hn0)
  have H5 : Hr x b_sini4 Z EL1 0 0 h0 [s] 30 #[.val (.ref s), .val (.ref a), .val (.int (0 : Int32)), .val (.int (Int32.ofNat cs.length)), .val (.null), .unset] [.int cz] := H4.getS (w4 hw) (O.ext H4.old) d_sini4_27
  have H6 : Hr x b_sini4 Z EL1 0 0 h0 [s] 33 #[.val (.ref s), .val (.ref a), .val (.int (0 : Int32)), .val (.int (Int32.ofNat cs.length)), .val (.null), .unset] [] := H5.ifF d_sini4_30 (XT.i0_eq_f hcz)
  have H7 : Hr x b_sini4 Z EL1 0 0 h0 [s] 34 #[.val (.ref s), .val (.ref a), .val (.int (0 : Int32)), .val (.int (Int32.ofNat cs.length)), .val (.null), .unset] [.ref a] := H6.aloadN d_sini4_33
  have H8 : Hr x b_sini4 Z EL1 0 0 h0 [s] 35 #[.val (.ref s), .val (.ref a), .val (.int (0 : Int32)), .val (.int (Int32.ofNat cs.length)), .val (.null), .unset] [.int (0 : Int32), .ref a] := H7.iloadN d_sini4_34
  have H9 : Hr x b_sini4 Z EL1 0 0 h0 [s] 36 #[.val (.ref s), .val (.ref a), .val (.int (0 : Int32)), .val (.int (Int32.ofNat cs.length)), .val (.null), .unset] [.int (Int32.ofNat cs.length), .int (0 : Int32), .ref a] := H8.iloadN d_sini4_35
  obtain ⟨_, h1, _, ⟨t, rfl, ht, rfl, Ft, Xt⟩, K1, H10⟩ := H9.callS (argsL := [.ref a, .int (0 : Int32), .int (Int32.ofNat cs.length)]) (rest := []) (Wr := 0) (ct_cmp3 hw x.l x.nar x.kn hnar h0 a cs Fa hcap hcs) sub0 (w34 hw) (w35 hw) (w36 hw) (w37 hw) d_sini4_36 pd_cmp3 rfl (hf := by first | decide | (simp [b_sini4, Bx.R]; done) | (simp [b_sini4, Bx.R]; omega)) (hl := by first | decide | (simp [b_sini4, Bx.R]; done) | (simp [b_sini4, Bx.R]; omega)) (hc := by first | decide | (simp [b_sini4, Bx.R]; done) | (simp [b_sini4, Bx.R]; omega)) (hs := by first | decide | (simp [b_sini4, Bx.R]; done) | (simp [b_sini4, Bx.R]; omega))
  have H10 : Hr x b_sini4 Z EL1 1 3 h1 [t, s] 39 #[.val (.ref s), .val (.ref a), .val (.int (0 : Int32)), .val (.int (Int32.ofNat cs.length)), .val (.null), .unset] [.ref t] := H10
  have H11 : Hr x b_sini4 Z EL1 1 3 h1 [t, s] 41 #[.val (.ref s), .val (.ref a), .val (.int (0 : Int32)), .val (.int (Int32.ofNat cs.length)), .val (.null), .val (.ref t)] [] := H10.astore d_sini4_39
  have H12 : Hr x b_sini4 Z EL1 1 3 h1 [t, s] 42 #[.val (.ref s), .val (.ref a), .val (.int (0 : Int32)), .val (.int (Int32.ofNat cs.length)), .val (.null), .val (.ref t)] [.ref s] := H11.aloadN d_sini4_41
  have H13 : Hr x b_sini4 Z EL1 1 3 h1 [t, s] 44 #[.val (.ref s), .val (.ref a), .val (.int (0 : Int32)), .val (.int (Int32.ofNat cs.length)), .val (.null), .val (.ref t)] [.ref t, .ref s] := H12.aload d_sini4_42
  have H14 : Hr x b_sini4 Z EL1 1 3 h1 [t, s] 45 #[.val (.ref s), .val (.ref a), .val (.int (0 : Int32)), .val (.int (Int32.ofNat cs.length)), .val (.null), .val (.ref t)] [.int (Int32.ofNat cs.length), .ref t, .ref s] := H13.iloadN d_sini4_44
  obtain ⟨_, h2, _, ⟨rfl, rfl, e2⟩, K2, H15⟩ := H14.callS (argsL := [.ref t, .int (Int32.ofNat cs.length)]) (rest := [.ref s]) (Wr := 1) (ct_cfal hw x.l x.nar x.kn hnar h1 t ((cs.map b8).map Value.int) cs.length (by simp) Ft) sub0 (w41 hw) (w42 hw) (w36 hw) (w43 hw) d_sini4_45 pd_cfal rfl (hf := by first | decide | (simp [b_sini4, Bx.R]; done) | (simp [b_sini4, Bx.R]; omega)) (hl := by first | decide | (simp [b_sini4, Bx.R]; done) | (simp [b_sini4, Bx.R]; omega)) (hc := by first | decide | (simp [b_sini4, Bx.R]; done) | (simp [b_sini4, Bx.R]; omega)) (hs := by first | decide | (simp [b_sini4, Bx.R]; done) | (simp [b_sini4, Bx.R]; omega))
  rw [e2] at H15
  have H15 : Hr x b_sini4 Z EL1 1 3 h1 [t, s] 48 #[.val (.ref s), .val (.ref a), .val (.int (0 : Int32)), .val (.int (Int32.ofNat cs.length)), .val (.null), .val (.ref t)] [.int (0 : Int32), .ref s] := H15
  have hts : t ≠ s := Xt.ne (Es.keep K1) (by decide)
  obtain ⟨h3, W3, H16⟩ := H15.putF (by simp) (w24 hw) (Fc.keep K1 nin0) (Es.keep K1) (Or.inr ⟨(w25 hw), rfl, rfl⟩) (w10 hw) d_sini4_48 (ty := .byte)
  have H16 : Hr x b_sini4 Z EL1 1 3 h3 [t, s] 51 #[.val (.ref s), .val (.ref a), .val (.int (0 : Int32)), .val (.int (Int32.ofNat cs.length)), .val (.null), .val (.ref t)] [] := H16
  have H17 : Hr x b_sini4 Z EL1 1 3 h3 [t, s] 52 #[.val (.ref s), .val (.ref a), .val (.int (0 : Int32)), .val (.int (Int32.ofNat cs.length)), .val (.null), .val (.ref t)] [.ref s] := H16.aloadN d_sini4_51
  have H18 : Hr x b_sini4 Z EL1 1 3 h3 [t, s] 54 #[.val (.ref s), .val (.ref a), .val (.int (0 : Int32)), .val (.int (Int32.ofNat cs.length)), .val (.null), .val (.ref t)] [.ref t, .ref s] := H17.aload d_sini4_52
  obtain ⟨h4, W4, H19⟩ := H18.putF (by simp) (w22 hw) ((Fv.keep K1 nin0).other W3 (Or.inr (Ne.symm n01))) ((Es.keep K1).wr W3) (Or.inr ⟨(w23 hw), rfl, rfl⟩) (w10 hw) d_sini4_54 (ty := (.array .byte))
  have H19 : Hr x b_sini4 Z EL1 1 3 h4 [t, s] 57 #[.val (.ref s), .val (.ref a), .val (.int (0 : Int32)), .val (.int (Int32.ofNat cs.length)), .val (.null), .val (.ref t)] [] := H19
  exact H19.finN d_sini4_57 rfl (by decide) (by decide) sub0 ⟨rfl, rfl, t, cs.map b8, 0, 0, ⟨((Es.keep K1).wr W3).wr W4, (Fld.same W3 (Fc.keep K1 nin0)).other W4 (Or.inr n01), Fld.same W4 ((Fv.keep K1 nin0).other W3 (Or.inr (Ne.symm n01))), (Ft.other W3 hts).other W4 hts⟩, (Xt.wr W3).wr W4, ((Fh.keep K1 nin0).other W3 (Or.inr (Ne.symm n02))).other W4 (Or.inr (Ne.symm n12)), ((Fz.keep K1 nin0).other W3 (Or.inr (Ne.symm n03))).other W4 (Or.inr (Ne.symm n13)), by simpa using hpos, by simpa using hcap⟩
def b_sini1 : Bx := (({ frames := 3, cells := 1, slots := 3, locals := 52 } : Room), (⟨"java/lang/String", "<init>", "([C)V"⟩ : MethodName), jdk_42_method_3_code, 2, (Option.none : Option Jvm.ClassFile.FieldType))
theorem ef_sini1 (s a : Addr) (mI : MethodId) : entryFrame mI #[.ref s, .ref a] 2 = mkF mI 0 #[.val (.ref s), .val (.ref a)] [] := by first | (simp [entryFrame, mkF, argsToLocals, Value.category]; done) | rfl
theorem pd_sini1 : parseMethodDescriptor "([C)V" = some ⟨[(.array .char)], none⟩ := by decide +kernel
set_option maxRecDepth 65536 in
set_option maxHeartbeats 4000000 in
theorem ct_sini1 {a0 : Array Value} {Z : State} (hw : ∀ d ∈ tables_1, d.before a0 Z = true) (l : Launch) (nar kn : Bool) (hnr : nar = nar) (h0 : Heap) (s a : Addr) (cs : List Int32) (Es : Exa Z h0 s "java/lang/String") (Fc : Fld Z h0 s "java/lang/String" "coder" "B" (.int 0)) (Fv : Fld Z h0 s "java/lang/String" "value" "[B" .null) (Fh : Fld Z h0 s "java/lang/String" "hash" "I" (.int 0)) (Fz : Fld Z h0 s "java/lang/String" "hashIsZero" "Z" (.int 0)) (Fa : Ar Z h0 a .char (cs.map Value.int)) (hcap : cs.length ≤ 3) (hpos : 0 < cs.length) (hcs : ∀ c ∈ cs, ¬ c < 0 ∧ ¬ 255 < c) (cz : Int32) (O : Sta Z Z.heap "java/lang/String" "COMPACT_STRINGS" "Z" (.int cz)) (hcz : ¬ cz = 0) :
    Ct l Z EL1 (⟨"java/lang/String", "<init>", "([C)V"⟩ : MethodName) jdk_42_method_3_code 2 (Option.none : Option Jvm.ClassFile.FieldType) ({ frames := 3, cells := 1, slots := 3, locals := 52 } : Room) #[.ref s, .ref a] h0 [s] nar kn (fun v h sn => v = none ∧ sn = [] ∧ SG Z h s) := by
  refine Ct.intro (plainFor_of_name pn_java_lang_String) (ew hw) (ef_sini1 s a) ?_
  intro x hl hn0 hkn hsf hh H0
  have hnar : x.nar = x.nar := rfl
  have H0 : Hr x b_sini1 Z EL1 0 0 h0 [s] 0 #[.val (.ref s), .val (.ref a)] [] := H0
  have H1 : Hr x b_sini1 Z EL1 0 0 h0 [s] 1 #[.val (.ref s), .val (.ref a)] [.ref s] := H0.aloadN d_sini1_0
  have H2 : Hr x b_sini1 Z EL1 0 0 h0 [s] 2 #[.val (.ref s), .val (.ref a)] [.ref a, .ref s] := H1.aloadN d_sini1_1
  have H3 : Hr x b_sini1 Z EL1 0 0 h0 [s] 3 #[.val (.ref s), .val (.ref a)] [.int (0 : Int32), .ref a, .ref s] := H2.iconst d_sini1_2
  have H4 : Hr x b_sini1 Z EL1 0 0 h0 [s] 4 #[.val (.ref s), .val (.ref a)] [.ref a, .int (0 : Int32), .ref a, .ref s] := H3.aloadN d_sini1_3
  have H5 : Hr x b_sini1 Z EL1 0 0 h0 [s] 5 #[.val (.ref s), .val (.ref a)] [.int (Int32.ofNat cs.length), .int (0 : Int32), .ref a, .ref s] := H4.arraylength Fa d_sini1_4 (hn := (by simp))
  have H6 : Hr x b_sini1 Z EL1 0 0 h0 [s] 6 #[.val (.ref s), .val (.ref a)] [.null, .int (Int32.ofNat cs.length), .int (0 : Int32), .ref a, .ref s] := H5.aconstNull d_sini1_5
  obtain ⟨_, h1, _, ⟨rfl, rfl, Fs⟩, K1, H7⟩ := H6.callI (argsL := [.ref a, .int (0 : Int32), .int (Int32.ofNat cs.length), .null]) (rest := []) (Wr := 0) (a := s) (ct_sini4 hw x.l x.nar x.kn hnar h0 s a cs Es Fc Fv Fh Fz Fa hcap hpos hcs cz O hcz) (sub1 (List.mem_singleton.mpr rfl)) (w31 hw) (w32 hw) (w2 hw) (w33 hw) d_sini1_6 pd_sini4 rfl (hf := by first | decide | (simp [b_sini1, Bx.R]; done) | (simp [b_sini1, Bx.R]; omega)) (hl := by first | decide | (simp [b_sini1, Bx.R]; done) | (simp [b_sini1, Bx.R]; omega)) (hc := by first | decide | (simp [b_sini1, Bx.R]; done) | (simp [b_sini1, Bx.R]; omega)) (hs := by first | decide | (simp [b_sini1, Bx.R]; done) | (simp [b_sini1, Bx.R]; omega))
  have H7 : Hr x b_sini1 Z EL1 1 3 h1 [s] 9 #[.val (.ref s), .val (.ref a)] [] := H7
  exact H7.finN d_sini1_9 rfl (by decide) (by decide) sub0 ⟨rfl, rfl, Fs⟩
def b_cenc : Bx := (({ frames := 0, cells := 0, slots := 0, locals := 0 } : Room), (⟨"java/lang/StringLatin1", "canEncode", "(C)Z"⟩ : MethodName), jdk_43_method_3_code, 1, (Option.some Jvm.ClassFile.FieldType.boolean))
theorem ef_cenc (c : Int32) (mI : MethodId) : entryFrame mI #[.int c] 1 = mkF mI 0 #[.val (.int c)] [] := by first | (simp [entryFrame, mkF, argsToLocals, Value.category]; done) | rfl
theorem pn_java_lang_StringLatin1 : plainName "java/lang/StringLatin1" = true := by first | (simp [plainName, overriddenIn]; done) | decide +kernel
theorem pd_cenc : parseMethodDescriptor "(C)Z" = some ⟨[.char], some .boolean⟩ := by decide +kernel
set_option maxRecDepth 65536 in
set_option maxHeartbeats 4000000 in
theorem ct_cenc {a0 : Array Value} {Z : State} (hw : ∀ d ∈ tables_1, d.before a0 Z = true) (l : Launch) (nar kn : Bool) (hnr : nar = nar) (h0 : Heap) (c : Int32) (rc : ¬ c < 0 ∧ ¬ 255 < c) :
    Ct l Z EL1 (⟨"java/lang/StringLatin1", "canEncode", "(C)Z"⟩ : MethodName) jdk_43_method_3_code 1 (Option.some Jvm.ClassFile.FieldType.boolean) ({ frames := 0, cells := 0, slots := 0, locals := 0 } : Room) #[.int c] h0 [] nar kn (fun v h sn => v = some (.int 1) ∧ sn = [] ∧ h = h0) := by
  refine Ct.intro (plainFor_of_name pn_java_lang_StringLatin1) (ew hw) (ef_cenc c) ?_
  intro x hl hn0 hkn hsf hh H0
  have hnar : x.nar = x.nar := rfl
  have H0 : Hr x b_cenc Z EL1 0 0 h0 [] 0 #[.val (.int c)] [] := H0
  have H1 : Hr x b_cenc Z EL1 0 0 h0 [] 1 #[.val (.int c)] [.int c] := H0.iloadN d_cenc_0
  have H2 : Hr x b_cenc Z EL1 0 0 h0 [] 4 #[.val (.int c)] [.int (255 : Int32), .int c] := H1.sipush d_cenc_1
  have H3 : Hr x b_cenc Z EL1 0 0 h0 [] 7 #[.val (.int c)] [] := H2.icmpF d_cenc_4 (XT.ii_gt_f rc.2)
  have H4 : Hr x b_cenc Z EL1 0 0 h0 [] 8 #[.val (.int c)] [.int (1 : Int32)] := H3.iconst d_cenc_7
  have H5 : Hr x b_cenc Z EL1 0 0 h0 [] 12 #[.val (.int c)] [.int (1 : Int32)] := H4.goto d_cenc_8
  exact H5.finZ d_cenc_12 (t := .boolean) (by first | rfl | decide) ⟨rfl, rfl, rfl⟩ sub0
def b_tob : Bx := (({ frames := 0, cells := 1, slots := 1, locals := 0 } : Room), (⟨"java/lang/StringLatin1", "toBytes", "(C)[B"⟩ : MethodName), jdk_43_method_46_code, 1, (Option.some (Jvm.ClassFile.FieldType.array Jvm.ClassFile.FieldType.byte)))
theorem ef_tob (c : Int32) (mI : MethodId) : entryFrame mI #[.int c] 1 = mkF mI 0 #[.val (.int c)] [] := by first | (simp [entryFrame, mkF, argsToLocals, Value.category]; done) | rfl
theorem pd_tob : parseMethodDescriptor "(C)[B" = some ⟨[.char], some (.array .byte)⟩ := by decide +kernel
set_option maxRecDepth 65536 in
set_option maxHeartbeats 4000000 in
theorem ct_tob {a0 : Array Value} {Z : State} (hw : ∀ d ∈ tables_1, d.before a0 Z = true) (l : Launch) (nar kn : Bool) (hnr : nar = nar) (h0 : Heap) (c : Int32) :
    Ct l Z EL1 (⟨"java/lang/StringLatin1", "toBytes", "(C)[B"⟩ : MethodName) jdk_43_method_46_code 1 (Option.some (Jvm.ClassFile.FieldType.array Jvm.ClassFile.FieldType.byte)) ({ frames := 0, cells := 1, slots := 1, locals := 0 } : Room) #[.int c] h0 [] nar kn (fun v h sn => ∃ t, v = some (.ref t) ∧ h0.size ≤ t ∧ sn = [t] ∧ Ar Z h t .byte ([b8 c].map Value.int) ∧ Exa Z h t "[B") := by
  refine Ct.intro (plainFor_of_name pn_java_lang_StringLatin1) (ew hw) (ef_tob c) ?_
  intro x hl hn0 hkn hsf hh H0
  have hnar : x.nar = x.nar := rfl
  have H0 : Hr x b_tob Z EL1 0 0 h0 [] 0 #[.val (.int c)] [] := H0
  have H1 : Hr x b_tob Z EL1 0 0 h0 [] 1 #[.val (.int c)] [.int (1 : Int32)] := H0.iconst d_tob_0
  obtain ⟨h1, E1, ⟨F1, X1⟩, H2⟩ := H1.newarrayE (aty := .byte) (cap := 1) (ad := "[B") (w14 hw) d_tob_1 (by decide) (by decide) (by decide) (by decide +kernel) (by first | decide | (simp [b_tob, Bx.R]; done) | (simp [b_tob, Bx.R]; omega)) (by first | decide | (simp [b_tob, Bx.R]; done) | (simp [b_tob, Bx.R]; omega))
  obtain ⟨d, g_d⟩ : ∃ z, z = h0.size := ⟨_, rfl⟩
  rw [← g_d] at F1 X1 H2
  have F1 : Ar Z h1 d .byte (List.replicate 1 (.int 0)) := F1
  have H2 : Hr x b_tob Z EL1 1 1 h1 [d] 3 #[.val (.int c)] [.ref d] := H2
  have H3 : Hr x b_tob Z EL1 1 1 h1 [d] 4 #[.val (.int c)] [.ref d, .ref d] := H2.dup d_tob_3
  have H4 : Hr x b_tob Z EL1 1 1 h1 [d] 5 #[.val (.int c)] [.int (0 : Int32), .ref d, .ref d] := H3.iconst d_tob_4
  have H5 : Hr x b_tob Z EL1 1 1 h1 [d] 6 #[.val (.int c)] [.int c, .int (0 : Int32), .ref d, .ref d] := H4.iloadN d_tob_5
  have H6 : Hr x b_tob Z EL1 1 1 h1 [d] 7 #[.val (.int c)] [.int (b8 c), .int (0 : Int32), .ref d, .ref d] := H5.i2b d_tob_6
  obtain ⟨h2, W2, H7⟩ := H6.bastore (by simp) F1 d_tob_7 (i := 0) rfl (by simp) (hw := (b8_b8 _))
  have H7 : Hr x b_tob Z EL1 1 1 h2 [d] 8 #[.val (.int c)] [.ref d] := H7
  have F2 : Ar Z h2 d .byte ([b8 c].map Value.int) := F1.set W2
  exact H7.finA d_tob_8 ⟨d, rfl, by omega, rfl, F2, X1.wr W2⟩ (sub1 (by simp))
def b_sinib : Bx := (({ frames := 1, cells := 0, slots := 0, locals := 12 } : Room), (⟨"java/lang/String", "<init>", "([BB)V"⟩ : MethodName), jdk_42_method_151_code, 3, (Option.none : Option Jvm.ClassFile.FieldType))
theorem ef_sinib (s t : Addr) (mI : MethodId) : entryFrame mI #[.ref s, .ref t, .int (0 : Int32)] 3 = mkF mI 0 #[.val (.ref s), .val (.ref t), .val (.int (0 : Int32))] [] := by first | (simp [entryFrame, mkF, argsToLocals, Value.category]; done) | rfl
theorem pd_sinib : parseMethodDescriptor "([BB)V" = some ⟨[(.array .byte), .byte], none⟩ := by decide +kernel
set_option maxRecDepth 65536 in
set_option maxHeartbeats 4000000 in
theorem ct_sinib {a0 : Array Value} {Z : State} (hw : ∀ d ∈ tables_1, d.before a0 Z = true) (l : Launch) (nar kn : Bool) (hnr : nar = nar) (h0 : Heap) (s t : Addr) (bs : List Int32) (Es : Exa Z h0 s "java/lang/String") (Fc : Fld Z h0 s "java/lang/String" "coder" "B" (.int 0)) (Fv : Fld Z h0 s "java/lang/String" "value" "[B" .null) (Fh : Fld Z h0 s "java/lang/String" "hash" "I" (.int 0)) (Fz : Fld Z h0 s "java/lang/String" "hashIsZero" "Z" (.int 0)) (Ft : Ar Z h0 t .byte (bs.map Value.int)) (Xt : Exa Z h0 t "[B") (l1 : 0 < bs.length) (l2 : bs.length ≤ 3) :
    Ct l Z EL1 (⟨"java/lang/String", "<init>", "([BB)V"⟩ : MethodName) jdk_42_method_151_code 3 (Option.none : Option Jvm.ClassFile.FieldType) ({ frames := 1, cells := 0, slots := 0, locals := 12 } : Room) #[.ref s, .ref t, .int (0 : Int32)] h0 [s] nar kn (fun v h sn => v = none ∧ sn = [] ∧ SG Z h s) := by
  refine Ct.intro (plainFor_of_name pn_java_lang_String) (ew hw) (ef_sinib s t) ?_
  intro x hl hn0 hkn hsf hh H0
  have hnar : x.nar = x.nar := rfl
  have H0 : Hr x b_sinib Z EL1 0 0 h0 [s] 0 #[.val (.ref s), .val (.ref t), .val (.int (0 : Int32))] [] := H0
  have n01 := slot_ne (a0 := a0) (C := "java/lang/String") (O := "java/lang/String") (O' := "java/lang/String") (n := "coder") (n' := "value") (Or.inr (w25 hw)) (Or.inr (w23 hw)) (by decide) (t := .byte) (t' := .array .byte) (by decide) (by decide)
  have n02 := slot_ne (a0 := a0) (C := "java/lang/String") (O := "java/lang/String") (O' := "java/lang/String") (n := "coder") (n' := "hash") (Or.inr (w25 hw)) (Or.inl (w170 hw)) (by decide) (t := .byte) (t' := .int) (by decide) (by decide)
  have n03 := slot_ne (a0 := a0) (C := "java/lang/String") (O := "java/lang/String") (O' := "java/lang/String") (n := "coder") (n' := "hashIsZero") (Or.inr (w25 hw)) (Or.inl (w172 hw)) (by decide) (t := .byte) (t' := .boolean) (by decide) (by decide)
  have n12 := slot_ne (a0 := a0) (C := "java/lang/String") (O := "java/lang/String") (O' := "java/lang/String") (n := "value") (n' := "hash") (Or.inr (w23 hw)) (Or.inl (w170 hw)) (by decide) (t := .array .byte) (t' := .int) (by decide) (by decide)
  have n13 := slot_ne (a0 := a0) (C := "java/lang/String") (O := "java/lang/String") (O' := "java/lang/String") (n := "value") (n' := "hashIsZero") (Or.inr (w23 hw)) (Or.inl (w172 hw)) (by decide) (t := .array .byte) (t' := .boolean) (by decide) (by decide)
  have n23 := slot_ne (a0 := a0) (C := "java/lang/String") (O := "java/lang/String") (O' := "java/lang/String") (n := "hash") (n' := "hashIsZero") (Or.inl (w170 hw)) (Or.inl (w172 hw)) (by decide) (t := .int) (t' := .boolean) (by decide) (by decide)
  have hts : t ≠ s := Xt.ne Es (by decide)
  have H1 : Hr x b_sinib Z EL1 0 0 h0 [s] 1 #[.val (.ref s), .val (.ref t), .val (.int (0 : Int32))] [.ref s] := H0.aloadN d_sinib_0
  have H2 : Hr x b_sinib Z EL1 0 0 h0 [s] 4 #[.val (.ref s), .val (.ref t), .val (.int (0 : Int32))] [] := H1.initO (Wr := 0) (w19 hw) (w20 hw) (w21 hw) d_sinib_1 (hf := by first | decide | (simp [b_sinib, Bx.R]; done) | (simp [b_sinib, Bx.R]; omega)) (hl := by first | decide | (simp [b_sinib, Bx.R]; done) | (simp [b_sinib, Bx.R]; omega))
  have H3 : Hr x b_sinib Z EL1 0 0 h0 [s] 5 #[.val (.ref s), .val (.ref t), .val (.int (0 : Int32))] [.ref s] := H2.aloadN d_sinib_4
  have H4 : Hr x b_sinib Z EL1 0 0 h0 [s] 6 #[.val (.ref s), .val (.ref t), .val (.int (0 : Int32))] [.ref t, .ref s] := H3.aloadN d_sinib_5
  obtain ⟨h1, W1, H5⟩ := H4.putF (by simp) (w22 hw) Fv Es (Or.inr ⟨(w23 hw), rfl, rfl⟩) (w10 hw) d_sinib_6 (ty := (.array .byte))
  have H5 : Hr x b_sinib Z EL1 0 0 h1 [s] 9 #[.val (.ref s), .val (.ref t), .val (.int (0 : Int32))] [] := H5
  have H6 : Hr x b_sinib Z EL1 0 0 h1 [s] 10 #[.val (.ref s), .val (.ref t), .val (.int (0 : Int32))] [.ref s] := H5.aloadN d_sinib_9
  have H7 : Hr x b_sinib Z EL1 0 0 h1 [s] 11 #[.val (.ref s), .val (.ref t), .val (.int (0 : Int32))] [.int (0 : Int32), .ref s] := H6.iloadN d_sinib_10
  obtain ⟨h2, W2, H8⟩ := H7.putF (by simp) (w24 hw) (Fc.other W1 (Or.inr n01)) (Es.wr W1) (Or.inr ⟨(w25 hw), rfl, rfl⟩) (w10 hw) d_sinib_11 (ty := .byte)
  have H8 : Hr x b_sinib Z EL1 0 0 h2 [s] 14 #[.val (.ref s), .val (.ref t), .val (.int (0 : Int32))] [] := H8
  exact H8.finN d_sinib_14 rfl (by decide) (by decide) sub0 ⟨rfl, rfl, t, bs, 0, 0, ⟨(Es.wr W1).wr W2, Fld.same W2 (Fc.other W1 (Or.inr n01)), (Fld.same W1 Fv).other W2 (Or.inr (Ne.symm n01)), (Ft.other W1 hts).other W2 hts⟩, (Xt.wr W1).wr W2, (Fh.other W1 (Or.inr (Ne.symm n12))).other W2 (Or.inr (Ne.symm n02)), (Fz.other W1 (Or.inr (Ne.symm n13))).other W2 (Or.inr (Ne.symm n03)), l1, l2⟩
def b_vof : Bx := (({ frames := 2, cells := 2, slots := 5, locals := 28 } : Room), (⟨"java/lang/String", "valueOf", "(C)Ljava/lang/String;"⟩ : MethodName), jdk_42_method_139_code, 1, (Option.some (Jvm.ClassFile.FieldType.object "java/lang/String")))
theorem ef_vof (c : Int32) (mI : MethodId) : entryFrame mI #[.int c] 1 = mkF mI 0 #[.val (.int c)] [] := by first | (simp [entryFrame, mkF, argsToLocals, Value.category]; done) | rfl
theorem pd_vof : parseMethodDescriptor "(C)Ljava/lang/String;" = some ⟨[.char], some (.object "java/lang/String")⟩ := by decide +kernel
set_option maxRecDepth 65536 in
set_option maxHeartbeats 4000000 in
theorem ct_vof {a0 : Array Value} {Z : State} (hw : ∀ d ∈ tables_1, d.before a0 Z = true) (l : Launch) (nar kn : Bool) (hnr : nar = nar) (h0 : Heap) (c : Int32) (rc : ¬ c < 0 ∧ ¬ 255 < c) (cz : Int32) (O : Sta Z Z.heap "java/lang/String" "COMPACT_STRINGS" "Z" (.int cz)) (hcz : ¬ cz = 0) :
    Ct l Z EL1 (⟨"java/lang/String", "valueOf", "(C)Ljava/lang/String;"⟩ : MethodName) jdk_42_method_139_code 1 (Option.some (Jvm.ClassFile.FieldType.object "java/lang/String")) ({ frames := 2, cells := 2, slots := 5, locals := 28 } : Room) #[.int c] h0 [] nar kn (fun v h sn => ∃ a, v = some (.ref a) ∧ sn = [a] ∧ h0.size ≤ a ∧ SG Z h a) := by
  refine Ct.intro (plainFor_of_name pn_java_lang_String) (ew hw) (ef_vof c) ?_
  intro x hl hn0 hkn hsf hh H0
  have hnar : x.nar = x.nar := rfl
  have H0 : Hr x b_vof Z EL1 0 0 h0 [] 0 #[.val (.int c)] [] := H0
  have H1 : Hr x b_vof Z EL1 0 0 h0 [] 3 #[.val (.int c)] [.int cz] := H0.getS (w4 hw) (O.ext H0.old) d_vof_0
  have H2 : Hr x b_vof Z EL1 0 0 h0 [] 6 #[.val (.int c)] [] := H1.ifF d_vof_3 (XT.i0_eq_f hcz)
  have H3 : Hr x b_vof Z EL1 0 0 h0 [] 7 #[.val (.int c)] [.int c] := H2.iloadN d_vof_6
  obtain ⟨_, h1, _, ⟨rfl, rfl, e1⟩, K1, H4⟩ := H3.callS (argsL := [.int c]) (rest := []) (Wr := 0) (ct_cenc hw x.l x.nar x.kn hnar h0 c rc) sub0 (w5 hw) (w6 hw) (w7 hw) (w8 hw) d_vof_7 pd_cenc rfl (hf := by first | decide | (simp [b_vof, Bx.R]; done) | (simp [b_vof, Bx.R]; omega)) (hl := by first | decide | (simp [b_vof, Bx.R]; done) | (simp [b_vof, Bx.R]; omega)) (hc := by first | decide | (simp [b_vof, Bx.R]; done) | (simp [b_vof, Bx.R]; omega)) (hs := by first | decide | (simp [b_vof, Bx.R]; done) | (simp [b_vof, Bx.R]; omega))
  rw [e1] at H4
  have H4 : Hr x b_vof Z EL1 0 0 h0 [] 10 #[.val (.int c)] [.int (1 : Int32)] := H4
  have H5 : Hr x b_vof Z EL1 0 0 h0 [] 13 #[.val (.int c)] [] := H4.ifF d_vof_10 (XT.i0_eq_f (by decide))
  obtain ⟨h2, E2, ⟨X2, D2, U2⟩, H6⟩ := H5.new (w9 hw) (w10 hw) (w2 hw) d_vof_13 (by first | decide | (simp [b_vof, Bx.R]; done) | (simp [b_vof, Bx.R]; omega)) (by first | decide | (simp [b_vof, Bx.R]; done) | (simp [b_vof, Bx.R]; omega))
  obtain ⟨s, g_s⟩ : ∃ z, z = h0.size := ⟨_, rfl⟩
  rw [← g_s] at X2 D2 U2 H6
  have H6 : Hr x b_vof Z EL1 1 4 h2 [s] 16 #[.val (.int c)] [.ref s] := H6
  have H7 : Hr x b_vof Z EL1 1 4 h2 [s] 17 #[.val (.int c)] [.ref s, .ref s] := H6.dup d_vof_16
  have H8 : Hr x b_vof Z EL1 1 4 h2 [s] 18 #[.val (.int c)] [.int c, .ref s, .ref s] := H7.iloadN d_vof_17
  have Fcs : Fld Z h2 s "java/lang/String" "coder" "B" (.int 0) := D2 (Or.inr (w25 hw)) (ty := .byte) (by decide)
  have Fvs : Fld Z h2 s "java/lang/String" "value" "[B" (.null) := D2 (Or.inr (w23 hw)) (ty := .array .byte) (by decide)
  have Fhs : Fld Z h2 s "java/lang/String" "hash" "I" (.int 0) := D2 (Or.inl (w170 hw)) (ty := .int) (by decide)
  have Fzs : Fld Z h2 s "java/lang/String" "hashIsZero" "Z" (.int 0) := D2 (Or.inl (w172 hw)) (ty := .boolean) (by decide)
  obtain ⟨_, h3, _, ⟨t, rfl, ht, rfl, Ft, Xt⟩, K3, H9⟩ := H8.callS (argsL := [.int c]) (rest := [.ref s, .ref s]) (Wr := 2) (ct_tob hw x.l x.nar x.kn hnar h2 c) sub0 (w11 hw) (w12 hw) (w7 hw) (w13 hw) d_vof_18 pd_tob rfl (hf := by first | decide | (simp [b_vof, Bx.R]; done) | (simp [b_vof, Bx.R]; omega)) (hl := by first | decide | (simp [b_vof, Bx.R]; done) | (simp [b_vof, Bx.R]; omega)) (hc := by first | decide | (simp [b_vof, Bx.R]; done) | (simp [b_vof, Bx.R]; omega)) (hs := by first | decide | (simp [b_vof, Bx.R]; done) | (simp [b_vof, Bx.R]; omega))
  have H9 : Hr x b_vof Z EL1 2 5 h3 [t, s] 21 #[.val (.int c)] [.ref t, .ref s, .ref s] := H9
  have H10 : Hr x b_vof Z EL1 2 5 h3 [t, s] 22 #[.val (.int c)] [.int (0 : Int32), .ref t, .ref s, .ref s] := H9.iconst d_vof_21
  obtain ⟨_, h4, _, ⟨rfl, rfl, Fs⟩, K4, H11⟩ := H10.callI (argsL := [.ref t, .int (0 : Int32)]) (rest := [.ref s]) (Wr := 1) (a := s) (ct_sinib hw x.l x.nar x.kn hnar h3 s t _ (X2.keep K3) (Fcs.keep K3 nin0) (Fvs.keep K3 nin0) (Fhs.keep K3 nin0) (Fzs.keep K3 nin0) Ft Xt (by simp) (by simp)) (sub1 (by simp)) (w15 hw) (w16 hw) (w2 hw) (w18 hw) d_vof_22 pd_sinib rfl (hf := by first | decide | (simp [b_vof, Bx.R]; done) | (simp [b_vof, Bx.R]; omega)) (hl := by first | decide | (simp [b_vof, Bx.R]; done) | (simp [b_vof, Bx.R]; omega)) (hc := by first | decide | (simp [b_vof, Bx.R]; done) | (simp [b_vof, Bx.R]; omega)) (hs := by first | decide | (simp [b_vof, Bx.R]; done) | (simp [b_vof, Bx.R]; omega))
  have H11 : Hr x b_vof Z EL1 2 5 h4 [t, s] 25 #[.val (.int c)] [.ref s] := H11
  exact H11.finA d_vof_25 ⟨s, rfl, rfl, by omega, Fs⟩ (sub1 (by simp))
def b_sil1 : Bx := (({ frames := 0, cells := 0, slots := 0, locals := 0 } : Room), (⟨"java/lang/String", "isLatin1", "()Z"⟩ : MethodName), jdk_42_method_154_code, 1, (Option.some Jvm.ClassFile.FieldType.boolean))
theorem ef_sil1 (a : Addr) (mI : MethodId) : entryFrame mI #[.ref a] 1 = mkF mI 0 #[.val (.ref a)] [] := by first | (simp [entryFrame, mkF, argsToLocals, Value.category]; done) | rfl
theorem pd_sil1 : parseMethodDescriptor "()Z" = some ⟨[], some .boolean⟩ := by decide +kernel
set_option maxRecDepth 65536 in
set_option maxHeartbeats 4000000 in
theorem ct_sil1 {a0 : Array Value} {Z : State} (hw : ∀ d ∈ tables_1, d.before a0 Z = true) (l : Launch) (nar kn : Bool) (hnr : nar = nar) (h0 : Heap) (a t : Addr) (bs : List Int32) (Fa : Str Z h0 a t bs) (cz : Int32) (O : Sta Z Z.heap "java/lang/String" "COMPACT_STRINGS" "Z" (.int cz)) (hcz : ¬ cz = 0) :
    Ct l Z EL1 (⟨"java/lang/String", "isLatin1", "()Z"⟩ : MethodName) jdk_42_method_154_code 1 (Option.some Jvm.ClassFile.FieldType.boolean) ({ frames := 0, cells := 0, slots := 0, locals := 0 } : Room) #[.ref a] h0 [] nar kn (fun v h sn => v = some (.int 1) ∧ sn = [] ∧ h = h0) := by
  refine Ct.intro (plainFor_of_name pn_java_lang_String) (ew hw) (ef_sil1 a) ?_
  intro x hl hn0 hkn hsf hh H0
  have hnar : x.nar = x.nar := rfl
  have H0 : Hr x b_sil1 Z EL1 0 0 h0 [] 0 #[.val (.ref a)] [] := H0
  have H1 : Hr x b_sil1 Z EL1 0 0 h0 [] 3 #[.val (.ref a)] [.int cz] := H0.getS (w4 hw) (O.ext H0.old) d_sil1_0
  have H2 : Hr x b_sil1 Z EL1 0 0 h0 [] 6 #[.val (.ref a)] [] := H1.ifF d_sil1_3 (XT.i0_eq_f hcz)
  have H3 : Hr x b_sil1 Z EL1 0 0 h0 [] 7 #[.val (.ref a)] [.ref a] := H2.aloadN d_sil1_6
  have H4 : Hr x b_sil1 Z EL1 0 0 h0 [] 10 #[.val (.ref a)] [.int (0 : Int32)] := H3.getF (w24 hw) Fa.2.1 d_sil1_7
  have H5 : Hr x b_sil1 Z EL1 0 0 h0 [] 13 #[.val (.ref a)] [] := H4.ifF d_sil1_10 (XT.i0_ne_f rfl)
  have H6 : Hr x b_sil1 Z EL1 0 0 h0 [] 14 #[.val (.ref a)] [.int (1 : Int32)] := H5.iconst d_sil1_13
  have H7 : Hr x b_sil1 Z EL1 0 0 h0 [] 18 #[.val (.ref a)] [.int (1 : Int32)] := H6.goto d_sil1_14
  exact H7.finZ d_sil1_18 (t := .boolean) (by first | rfl | decide) ⟨rfl, rfl, rfl⟩ sub0
theorem Ar.uniq {Z : State} {h : Heap} {a : Addr} {ty ty' : FieldType} {vs ws : List Value} (A : Ar Z h a ty vs) (B : Ar Z h a ty' ws) : vs = ws := by
  obtain ⟨c, A1, A2, -⟩ := A
  obtain ⟨c', B1, B2, -⟩ := B
  cases A1.1.symm.trans B1.1
  exact A2.symm.trans B2
theorem int_inj : ∀ {as bs : List Int32}, as.map Value.int = bs.map Value.int → as = bs := fun {as bs} q => by
  have : Function.Injective Value.int := fun a b h => Value.int.inj h
  exact (List.map_inj_right (fun a b h => this h)).mp q
theorem Str.uniq {Z : State} {h : Heap} {a t u : Addr} {bs ds : List Int32} (F : Str Z h a t bs) (G : Str Z h a u ds) : bs = ds := by
  have e : t = u := Classical.byContradiction fun q => (F.2.2.1.ne G.2.2.1 (fun z => q (Value.ref.inj z))) rfl
  subst e
  exact int_inj (F.2.2.2.uniq G.2.2.2)
theorem take_next {as bs : List Int32} {i : Nat} (h1 : i < as.length) (h2 : i < bs.length) (q : as.take i = bs.take i) (e : as[i] = bs[i]) : as.take (i + 1) = bs.take (i + 1) := by
  rw [List.take_add_one, List.take_add_one, q, List.getElem?_eq_getElem h1, List.getElem?_eq_getElem h2, e]
def b_leq : Bx := (({ frames := 0, cells := 0, slots := 0, locals := 0 } : Room), (⟨"java/lang/StringLatin1", "equals", "([B[B)Z"⟩ : MethodName), jdk_43_method_13_code, 3, (Option.some Jvm.ClassFile.FieldType.boolean))
theorem ef_leq (t u : Addr) (mI : MethodId) : entryFrame mI #[.ref t, .ref u] 3 = mkF mI 0 #[.val (.ref t), .val (.ref u), .unset] [] := by first | (simp [entryFrame, mkF, argsToLocals, Value.category]; done) | rfl
theorem pd_leq : parseMethodDescriptor "([B[B)Z" = some ⟨[(.array .byte), (.array .byte)], some .boolean⟩ := by decide +kernel
set_option maxRecDepth 65536 in
set_option maxHeartbeats 4000000 in
theorem ct_leq {a0 : Array Value} {Z : State} (hw : ∀ d ∈ tables_1, d.before a0 Z = true) (l : Launch) (nar kn : Bool) (hnr : nar = nar) (h0 : Heap) (t u : Addr) (bs ds : List Int32) (Ft : Ar Z h0 t .byte (bs.map Value.int)) (Fu : Ar Z h0 u .byte (ds.map Value.int)) :
    Ct l Z EL1 (⟨"java/lang/StringLatin1", "equals", "([B[B)Z"⟩ : MethodName) jdk_43_method_13_code 3 (Option.some Jvm.ClassFile.FieldType.boolean) ({ frames := 0, cells := 0, slots := 0, locals := 0 } : Room) #[.ref t, .ref u] h0 [] nar kn (fun v h sn => v = some (.int (if bs = ds then 1 else 0)) ∧ sn = [] ∧ h = h0) := by
  refine Ct.intro (plainFor_of_name pn_java_lang_StringLatin1) (ew hw) (ef_leq t u) ?_
  intro x hl hn0 hkn hsf hh H0
  have hnar : x.nar = x.nar := rfl
  have H0 : Hr x b_leq Z EL1 0 0 h0 [] 0 #[.val (.ref t), .val (.ref u), .unset] [] := H0
  have hb : bs.length < 2147483648 := by simpa using Ft.len
  have hd : ds.length < 2147483648 := by simpa using Fu.len
  have H1 : Hr x b_leq Z EL1 0 0 h0 [] 1 #[.val (.ref t), .val (.ref u), .unset] [.ref t] := H0.aloadN d_leq_0
  have H2 : Hr x b_leq Z EL1 0 0 h0 [] 2 #[.val (.ref t), .val (.ref u), .unset] [.int (Int32.ofNat bs.length)] := H1.arraylength Ft d_leq_1 (hn := (by simp))
  have H3 : Hr x b_leq Z EL1 0 0 h0 [] 3 #[.val (.ref t), .val (.ref u), .unset] [.ref u, .int (Int32.ofNat bs.length)] := H2.aloadN d_leq_2
  have H4 : Hr x b_leq Z EL1 0 0 h0 [] 4 #[.val (.ref t), .val (.ref u), .unset] [.int (Int32.ofNat ds.length), .int (Int32.ofNat bs.length)] := H3.arraylength Fu d_leq_3 (hn := (by simp))
  by_cases hl2 : bs.length = ds.length
  · have hlI : Int32.ofNat bs.length = Int32.ofNat ds.length := congrArg _ hl2
    have H5 : Hr x b_leq Z EL1 0 0 h0 [] 7 #[.val (.ref t), .val (.ref u), .unset] [] := H4.icmpF d_leq_4 (XT.ii_ne_f hlI)
    have H6 : Hr x b_leq Z EL1 0 0 h0 [] 8 #[.val (.ref t), .val (.ref u), .unset] [.int (0 : Int32)] := H5.iconst d_leq_7
    have H7 : Hr x b_leq Z EL1 0 0 h0 [] 9 #[.val (.ref t), .val (.ref u), .val (.int (0 : Int32))] [] := H6.istoreN d_leq_8
    have loop : ∀ (k i : Nat), i + k = bs.length → bs.take i = ds.take i → Hr x b_leq Z EL1 0 0 h0 [] 9 #[.val (.ref t), .val (.ref u), .val (.int (Int32.ofNat i))] [] → Ends x b_leq Z EL1 (fun v h sn => v = some (.int (if bs = ds then 1 else 0)) ∧ sn = [] ∧ h = h0) := by
      intro k
      induction k with
      | zero =>
        intro i hi hq H
        obtain rfl : i = bs.length := by omega
        have H8 : Hr x b_leq Z EL1 0 0 h0 [] 10 #[.val (.ref t), .val (.ref u), .val (.int (Int32.ofNat bs.length))] [.int (Int32.ofNat bs.length)] := H.iloadN d_leq_9
        have H9 : Hr x b_leq Z EL1 0 0 h0 [] 11 #[.val (.ref t), .val (.ref u), .val (.int (Int32.ofNat bs.length))] [.ref t, .int (Int32.ofNat bs.length)] := H8.aloadN d_leq_10
        have H10 : Hr x b_leq Z EL1 0 0 h0 [] 12 #[.val (.ref t), .val (.ref u), .val (.int (Int32.ofNat bs.length))] [.int (Int32.ofNat bs.length), .int (Int32.ofNat bs.length)] := H9.arraylength Ft d_leq_11 (hn := (by simp))
        have H11 : Hr x b_leq Z EL1 0 0 h0 [] 32 #[.val (.ref t), .val (.ref u), .val (.int (Int32.ofNat bs.length))] [] := H10.icmpT d_leq_12 (XT.ii_ge_t (by simp))
        have H12 : Hr x b_leq Z EL1 0 0 h0 [] 33 #[.val (.ref t), .val (.ref u), .val (.int (Int32.ofNat bs.length))] [.int (1 : Int32)] := H11.iconst d_leq_32
        have e : bs = ds := by rw [List.take_length] at hq; rw [hl2, List.take_length] at hq; exact hq
        exact H12.finZ d_leq_33 (t := .boolean) (by first | rfl | decide) ⟨by rw [if_pos e], rfl, rfl⟩ sub0
      | succ k ih =>
        intro i hi hq H
        have hi1 : i < bs.length := by omega
        have hi2 : i < ds.length := by omega
        have hlt : Int32.ofNat i < Int32.ofNat bs.length := by rw [Int32.lt_iff_toInt_lt, toInt_of rfl (by omega), toInt_of rfl (by omega)]; omega
        have H8 : Hr x b_leq Z EL1 0 0 h0 [] 10 #[.val (.ref t), .val (.ref u), .val (.int (Int32.ofNat i))] [.int (Int32.ofNat i)] := H.iloadN d_leq_9
        have H9 : Hr x b_leq Z EL1 0 0 h0 [] 11 #[.val (.ref t), .val (.ref u), .val (.int (Int32.ofNat i))] [.ref t, .int (Int32.ofNat i)] := H8.aloadN d_leq_10
        have H10 : Hr x b_leq Z EL1 0 0 h0 [] 12 #[.val (.ref t), .val (.ref u), .val (.int (Int32.ofNat i))] [.int (Int32.ofNat bs.length), .int (Int32.ofNat i)] := H9.arraylength Ft d_leq_11 (hn := (by simp))
        have H11 : Hr x b_leq Z EL1 0 0 h0 [] 15 #[.val (.ref t), .val (.ref u), .val (.int (Int32.ofNat i))] [] := H10.icmpF d_leq_12 (XT.ii_ge_f hlt)
        have H12 : Hr x b_leq Z EL1 0 0 h0 [] 16 #[.val (.ref t), .val (.ref u), .val (.int (Int32.ofNat i))] [.ref t] := H11.aloadN d_leq_15
        have H13 : Hr x b_leq Z EL1 0 0 h0 [] 17 #[.val (.ref t), .val (.ref u), .val (.int (Int32.ofNat i))] [.int (Int32.ofNat i), .ref t] := H12.iloadN d_leq_16
        have H14 : Hr x b_leq Z EL1 0 0 h0 [] 18 #[.val (.ref t), .val (.ref u), .val (.int (Int32.ofNat i))] [.int (bs[i])] := H13.baload Ft d_leq_17 (i := i) rfl (by simp [hi1])
        have H15 : Hr x b_leq Z EL1 0 0 h0 [] 19 #[.val (.ref t), .val (.ref u), .val (.int (Int32.ofNat i))] [.ref u, .int (bs[i])] := H14.aloadN d_leq_18
        have H16 : Hr x b_leq Z EL1 0 0 h0 [] 20 #[.val (.ref t), .val (.ref u), .val (.int (Int32.ofNat i))] [.int (Int32.ofNat i), .ref u, .int (bs[i])] := H15.iloadN d_leq_19
        have H17 : Hr x b_leq Z EL1 0 0 h0 [] 21 #[.val (.ref t), .val (.ref u), .val (.int (Int32.ofNat i))] [.int (ds[i]), .int (bs[i])] := H16.baload Fu d_leq_20 (i := i) rfl (by simp [hi2])
        by_cases he : bs[i] = ds[i]
        · have hinc := (inc_ofNat i).symm
          have H18 : Hr x b_leq Z EL1 0 0 h0 [] 26 #[.val (.ref t), .val (.ref u), .val (.int (Int32.ofNat i))] [] := H17.icmpT d_leq_21 (XT.ii_eq_t he)
          have H19 : Hr x b_leq Z EL1 0 0 h0 [] 29 #[.val (.ref t), .val (.ref u), .val (.int (Int32.ofNat (i + 1)))] [] := H18.iinc d_leq_26 (v := (Int32.ofNat (i + 1))) (hv := hinc)
          have H20 : Hr x b_leq Z EL1 0 0 h0 [] 9 #[.val (.ref t), .val (.ref u), .val (.int (Int32.ofNat (i + 1)))] [] := H19.goto d_leq_29
          exact ih (i + 1) (by omega) (take_next hi1 hi2 hq he) H20
        · have hne : ¬ bs = ds := fun q => he (by subst q; rfl)
          have H21 : Hr x b_leq Z EL1 0 0 h0 [] 24 #[.val (.ref t), .val (.ref u), .val (.int (Int32.ofNat i))] [] := H17.icmpF d_leq_21 (XT.ii_eq_f he)
          have H22 : Hr x b_leq Z EL1 0 0 h0 [] 25 #[.val (.ref t), .val (.ref u), .val (.int (Int32.ofNat i))] [.int (0 : Int32)] := H21.iconst d_leq_24
          exact H22.finZ d_leq_25 (t := .boolean) (by first | rfl | decide) ⟨by rw [if_neg hne], rfl, rfl⟩ sub0
    exact loop bs.length 0 (by omega) rfl H7
  · have hne : ¬ bs = ds := fun q => hl2 (congrArg _ q)
    have H201 : Hr x b_leq Z EL1 0 0 h0 [] 34 #[.val (.ref t), .val (.ref u), .unset] [] := H4.icmpT d_leq_4 (XT.ii_ne_t fun q => hl2 (ofNat_inj hb hd q))
    have H202 : Hr x b_leq Z EL1 0 0 h0 [] 35 #[.val (.ref t), .val (.ref u), .unset] [.int (0 : Int32)] := H201.iconst d_leq_34
    exact H202.finZ d_leq_35 (t := .boolean) (by first | rfl | decide) ⟨by rw [if_neg hne], rfl, rfl⟩ sub0
def b_seq : Bx := (({ frames := 1, cells := 0, slots := 0, locals := 14 } : Room), (⟨"java/lang/String", "equals", "(Ljava/lang/Object;)Z"⟩ : MethodName), jdk_42_method_66_code, 3, (Option.some Jvm.ClassFile.FieldType.boolean))
theorem ef_seq (a c : Addr) (mI : MethodId) : entryFrame mI #[.ref a, .ref c] 3 = mkF mI 0 #[.val (.ref a), .val (.ref c), .unset] [] := by first | (simp [entryFrame, mkF, argsToLocals, Value.category]; done) | rfl
theorem pd_seq : parseMethodDescriptor "(Ljava/lang/Object;)Z" = some ⟨[(.object "java/lang/Object")], some .boolean⟩ := by decide +kernel
set_option maxRecDepth 65536 in
set_option maxHeartbeats 4000000 in
theorem ct_seq {a0 : Array Value} {Z : State} (hw : ∀ d ∈ tables_1, d.before a0 Z = true) (l : Launch) (nar kn : Bool) (hnr : nar = nar) (h0 : Heap) (a t c u : Addr) (bs ds : List Int32) (Fa : Str Z h0 a t bs) (Fc : Str Z h0 c u ds) (cz : Int32) (O : Sta Z Z.heap "java/lang/String" "COMPACT_STRINGS" "Z" (.int cz)) (hcz : ¬ cz = 0) :
    Ct l Z EL1 (⟨"java/lang/String", "equals", "(Ljava/lang/Object;)Z"⟩ : MethodName) jdk_42_method_66_code 3 (Option.some Jvm.ClassFile.FieldType.boolean) ({ frames := 1, cells := 0, slots := 0, locals := 14 } : Room) #[.ref a, .ref c] h0 [] nar kn (fun v h sn => v = some (.int (if bs = ds then 1 else 0)) ∧ sn = [] ∧ h = h0) := by
  refine Ct.intro (plainFor_of_name pn_java_lang_String) (ew hw) (ef_seq a c) ?_
  intro x hl hn0 hkn hsf hh H0
  have hnar : x.nar = x.nar := rfl
  have H0 : Hr x b_seq Z EL1 0 0 h0 [] 0 #[.val (.ref a), .val (.ref c), .unset] [] := H0
  have H1 : Hr x b_seq Z EL1 0 0 h0 [] 1 #[.val (.ref a), .val (.ref c), .unset] [.ref a] := H0.aloadN d_seq_0
  have H2 : Hr x b_seq Z EL1 0 0 h0 [] 2 #[.val (.ref a), .val (.ref c), .unset] [.ref c, .ref a] := H1.aloadN d_seq_1
  by_cases hac : a = c
  · have e : bs = ds := by subst hac; exact Fa.uniq Fc
    have H3 : Hr x b_seq Z EL1 0 0 h0 [] 5 #[.val (.ref a), .val (.ref c), .unset] [] := H2.acmpF d_seq_2 (by simp [XT.acmp, hac])
    have H4 : Hr x b_seq Z EL1 0 0 h0 [] 6 #[.val (.ref a), .val (.ref c), .unset] [.int (1 : Int32)] := H3.iconst d_seq_5
    exact H4.finZ d_seq_6 (t := .boolean) (by first | rfl | decide) ⟨by rw [if_pos e], rfl, rfl⟩ sub0
  · have hne : XT.acmp .ne (.ref a) (.ref c) = true := by simp [XT.acmp, hac]
    have H5 : Hr x b_seq Z EL1 0 0 h0 [] 7 #[.val (.ref a), .val (.ref c), .unset] [] := H2.acmpT d_seq_2 hne
    have H6 : Hr x b_seq Z EL1 0 0 h0 [] 8 #[.val (.ref a), .val (.ref c), .unset] [.ref c] := H5.aloadN d_seq_7
    have H7 : Hr x b_seq Z EL1 0 0 h0 [] 11 #[.val (.ref a), .val (.ref c), .unset] [.int (1 : Int32)] := H6.inst (w9 hw) (Ins.self Fc.1) d_seq_8
    have H8 : Hr x b_seq Z EL1 0 0 h0 [] 14 #[.val (.ref a), .val (.ref c), .unset] [] := H7.ifF d_seq_11 (XT.i0_eq_f (by decide))
    have H9 : Hr x b_seq Z EL1 0 0 h0 [] 15 #[.val (.ref a), .val (.ref c), .unset] [.ref c] := H8.aloadN d_seq_14
    have H10 : Hr x b_seq Z EL1 0 0 h0 [] 18 #[.val (.ref a), .val (.ref c), .unset] [.ref c] := H9.cast (w9 hw) (Ins.self Fc.1) d_seq_15
    have H11 : Hr x b_seq Z EL1 0 0 h0 [] 19 #[.val (.ref a), .val (.ref c), .val (.ref c)] [] := H10.astoreN d_seq_18
    have H12 : Hr x b_seq Z EL1 0 0 h0 [] 22 #[.val (.ref a), .val (.ref c), .val (.ref c)] [.int cz] := H11.getS (w4 hw) (O.ext H11.old) d_seq_19
    have H13 : Hr x b_seq Z EL1 0 0 h0 [] 25 #[.val (.ref a), .val (.ref c), .val (.ref c)] [] := H12.ifF d_seq_22 (XT.i0_eq_f hcz)
    have H14 : Hr x b_seq Z EL1 0 0 h0 [] 26 #[.val (.ref a), .val (.ref c), .val (.ref c)] [.ref a] := H13.aloadN d_seq_25
    have H15 : Hr x b_seq Z EL1 0 0 h0 [] 29 #[.val (.ref a), .val (.ref c), .val (.ref c)] [.int (0 : Int32)] := H14.getF (w24 hw) Fa.2.1 d_seq_26
    have H16 : Hr x b_seq Z EL1 0 0 h0 [] 30 #[.val (.ref a), .val (.ref c), .val (.ref c)] [.ref c, .int (0 : Int32)] := H15.aloadN d_seq_29
    have H17 : Hr x b_seq Z EL1 0 0 h0 [] 33 #[.val (.ref a), .val (.ref c), .val (.ref c)] [.int (0 : Int32), .int (0 : Int32)] := H16.getF (w24 hw) Fc.2.1 d_seq_30
    have H18 : Hr x b_seq Z EL1 0 0 h0 [] 36 #[.val (.ref a), .val (.ref c), .val (.ref c)] [] := H17.icmpF d_seq_33 (XT.ii_ne_f rfl)
    have H19 : Hr x b_seq Z EL1 0 0 h0 [] 37 #[.val (.ref a), .val (.ref c), .val (.ref c)] [.ref a] := H18.aloadN d_seq_36
    have H20 : Hr x b_seq Z EL1 0 0 h0 [] 40 #[.val (.ref a), .val (.ref c), .val (.ref c)] [.ref t] := H19.getF (w22 hw) Fa.2.2.1 d_seq_37
    have H21 : Hr x b_seq Z EL1 0 0 h0 [] 41 #[.val (.ref a), .val (.ref c), .val (.ref c)] [.ref c, .ref t] := H20.aloadN d_seq_40
    have H22 : Hr x b_seq Z EL1 0 0 h0 [] 44 #[.val (.ref a), .val (.ref c), .val (.ref c)] [.ref u, .ref t] := H21.getF (w22 hw) Fc.2.2.1 d_seq_41
    obtain ⟨_, h1, _, ⟨rfl, rfl, e1⟩, K1, H23⟩ := H22.callS (argsL := [.ref t, .ref u]) (rest := []) (Wr := 0) (ct_leq hw x.l x.nar x.kn hnar h0 t u bs ds Fa.2.2.2 Fc.2.2.2) sub0 (w212 hw) (w213 hw) (w7 hw) (w214 hw) d_seq_44 pd_leq rfl (hf := by first | decide | (simp [b_seq, Bx.R]; done) | (simp [b_seq, Bx.R]; omega)) (hl := by first | decide | (simp [b_seq, Bx.R]; done) | (simp [b_seq, Bx.R]; omega)) (hc := by first | decide | (simp [b_seq, Bx.R]; done) | (simp [b_seq, Bx.R]; omega)) (hs := by first | decide | (simp [b_seq, Bx.R]; done) | (simp [b_seq, Bx.R]; omega))
    rw [e1] at H23
    have H23 : Hr x b_seq Z EL1 0 0 h0 [] 47 #[.val (.ref a), .val (.ref c), .val (.ref c)] [.int (if bs = ds then 1 else 0)] := H23
    by_cases he : bs = ds
    · have e2 : (if bs = ds then (1 : Int32) else 0) = 1 := if_pos he
      have H24 : Hr x b_seq Z EL1 0 0 h0 [] 50 #[.val (.ref a), .val (.ref c), .val (.ref c)] [] := H23.ifF d_seq_47 (XT.i0_eq_f (by rw [e2]; decide))
      have H25 : Hr x b_seq Z EL1 0 0 h0 [] 51 #[.val (.ref a), .val (.ref c), .val (.ref c)] [.int (1 : Int32)] := H24.iconst d_seq_50
      have H26 : Hr x b_seq Z EL1 0 0 h0 [] 55 #[.val (.ref a), .val (.ref c), .val (.ref c)] [.int (1 : Int32)] := H25.goto d_seq_51
      exact H26.finZ d_seq_55 (t := .boolean) (by first | rfl | decide) ⟨by rw [e2], rfl, rfl⟩ sub0
    · have e2 : (if bs = ds then (1 : Int32) else 0) = 0 := if_neg he
      have H27 : Hr x b_seq Z EL1 0 0 h0 [] 54 #[.val (.ref a), .val (.ref c), .val (.ref c)] [] := H23.ifT d_seq_47 (XT.i0_eq_t e2)
      have H28 : Hr x b_seq Z EL1 0 0 h0 [] 55 #[.val (.ref a), .val (.ref c), .val (.ref c)] [.int (0 : Int32)] := H27.iconst d_seq_54
      exact H28.finZ d_seq_55 (t := .boolean) (by first | rfl | decide) ⟨by rw [e2], rfl, rfl⟩ sub0
def b_shc : Bx := (({ frames := 0, cells := 0, slots := 0, locals := 0 } : Room), (⟨"jdk/internal/util/ArraysSupport", "signedHashCode", "(I[BII)I"⟩ : MethodName), jdk_48_method_5_code, 6, (Option.some Jvm.ClassFile.FieldType.int))
theorem ef_shc (t : Addr) (bs : List Int32) (mI : MethodId) : entryFrame mI #[.int (0 : Int32), .ref t, .int (0 : Int32), .int (Int32.ofNat bs.length)] 6 = mkF mI 0 #[.val (.int (0 : Int32)), .val (.ref t), .val (.int (0 : Int32)), .val (.int (Int32.ofNat bs.length)), .unset, .unset] [] := by first | (simp [entryFrame, mkF, argsToLocals, Value.category]; done) | rfl
theorem pn_jdk_internal_util_ArraysSupport : plainName "jdk/internal/util/ArraysSupport" = true := by first | (simp [plainName, overriddenIn]; done) | decide +kernel
theorem pd_shc : parseMethodDescriptor "(I[BII)I" = some ⟨[.int, (.array .byte), .int, .int], some .int⟩ := by decide +kernel
set_option maxRecDepth 65536 in
set_option maxHeartbeats 4000000 in
theorem ct_shc {a0 : Array Value} {Z : State} (hw : ∀ d ∈ tables_1, d.before a0 Z = true) (l : Launch) (nar kn : Bool) (hnr : nar = nar) (h0 : Heap) (t : Addr) (bs : List Int32) (Ft : Ar Z h0 t .byte (bs.map Value.int)) :
    Ct l Z EL1 (⟨"jdk/internal/util/ArraysSupport", "signedHashCode", "(I[BII)I"⟩ : MethodName) jdk_48_method_5_code 6 (Option.some Jvm.ClassFile.FieldType.int) ({ frames := 0, cells := 0, slots := 0, locals := 0 } : Room) #[.int (0 : Int32), .ref t, .int (0 : Int32), .int (Int32.ofNat bs.length)] h0 [] nar kn (fun v h sn => ∃ r, v = some (.int r) ∧ sn = [] ∧ h = h0) := by
  refine Ct.intro (plainFor_of_name pn_jdk_internal_util_ArraysSupport) (ew hw) (ef_shc t bs) ?_
  intro x hl hn0 hkn hsf hh H0
  have hnar : x.nar = x.nar := rfl
  have H0 : Hr x b_shc Z EL1 0 0 h0 [] 0 #[.val (.int (0 : Int32)), .val (.ref t), .val (.int (0 : Int32)), .val (.int (Int32.ofNat bs.length)), .unset, .unset] [] := H0
  have hlen : bs.length < 2147483648 := by simpa using Ft.len
  have H1 : Hr x b_shc Z EL1 0 0 h0 [] 1 #[.val (.int (0 : Int32)), .val (.ref t), .val (.int (0 : Int32)), .val (.int (Int32.ofNat bs.length)), .unset, .unset] [.int (0 : Int32)] := H0.iloadN d_shc_0
  have H2 : Hr x b_shc Z EL1 0 0 h0 [] 2 #[.val (.int (0 : Int32)), .val (.ref t), .val (.int (0 : Int32)), .val (.int (Int32.ofNat bs.length)), .unset, .unset] [.int (Int32.ofNat bs.length), .int (0 : Int32)] := H1.iloadN d_shc_1
  have H3 : Hr x b_shc Z EL1 0 0 h0 [] 3 #[.val (.int (0 : Int32)), .val (.ref t), .val (.int (0 : Int32)), .val (.int (Int32.ofNat bs.length)), .unset, .unset] [.int (Int32.ofNat bs.length)] := H2.iadd d_shc_2 (hv := (by simp))
  have H4 : Hr x b_shc Z EL1 0 0 h0 [] 5 #[.val (.int (0 : Int32)), .val (.ref t), .val (.int (0 : Int32)), .val (.int (Int32.ofNat bs.length)), .val (.int (Int32.ofNat bs.length)), .unset] [] := H3.istore d_shc_3
  have H5 : Hr x b_shc Z EL1 0 0 h0 [] 6 #[.val (.int (0 : Int32)), .val (.ref t), .val (.int (0 : Int32)), .val (.int (Int32.ofNat bs.length)), .val (.int (Int32.ofNat bs.length)), .unset] [.int (0 : Int32)] := H4.iloadN d_shc_5
  have H6 : Hr x b_shc Z EL1 0 0 h0 [] 8 #[.val (.int (0 : Int32)), .val (.ref t), .val (.int (0 : Int32)), .val (.int (Int32.ofNat bs.length)), .val (.int (Int32.ofNat bs.length)), .val (.int (0 : Int32))] [] := H5.istore d_shc_6
  have loop : ∀ (k i : Nat) (r : Int32), i + k = bs.length → Hr x b_shc Z EL1 0 0 h0 [] 8 #[.val (.int r), .val (.ref t), .val (.int (0 : Int32)), .val (.int (Int32.ofNat bs.length)), .val (.int (Int32.ofNat bs.length)), .val (.int (Int32.ofNat i))] [] → Ends x b_shc Z EL1 (fun v h sn => ∃ r, v = some (.int r) ∧ sn = [] ∧ h = h0) := by
    intro k
    induction k with
    | zero =>
      intro i r hi H
      obtain rfl : i = bs.length := by omega
      have H7 : Hr x b_shc Z EL1 0 0 h0 [] 10 #[.val (.int r), .val (.ref t), .val (.int (0 : Int32)), .val (.int (Int32.ofNat bs.length)), .val (.int (Int32.ofNat bs.length)), .val (.int (Int32.ofNat bs.length))] [.int (Int32.ofNat bs.length)] := H.iload d_shc_8
      have H8 : Hr x b_shc Z EL1 0 0 h0 [] 12 #[.val (.int r), .val (.ref t), .val (.int (0 : Int32)), .val (.int (Int32.ofNat bs.length)), .val (.int (Int32.ofNat bs.length)), .val (.int (Int32.ofNat bs.length))] [.int (Int32.ofNat bs.length), .int (Int32.ofNat bs.length)] := H7.iload d_shc_10
      have H9 : Hr x b_shc Z EL1 0 0 h0 [] 35 #[.val (.int r), .val (.ref t), .val (.int (0 : Int32)), .val (.int (Int32.ofNat bs.length)), .val (.int (Int32.ofNat bs.length)), .val (.int (Int32.ofNat bs.length))] [] := H8.icmpT d_shc_12 (XT.ii_ge_t (by simp))
      have H10 : Hr x b_shc Z EL1 0 0 h0 [] 36 #[.val (.int r), .val (.ref t), .val (.int (0 : Int32)), .val (.int (Int32.ofNat bs.length)), .val (.int (Int32.ofNat bs.length)), .val (.int (Int32.ofNat bs.length))] [.int r] := H9.iloadN d_shc_35
      exact H10.finI d_shc_36 ⟨_, rfl, rfl, rfl⟩ sub0
    | succ k ih =>
      intro i r hi H
      have hi1 : i < bs.length := by omega
      have H11 : Hr x b_shc Z EL1 0 0 h0 [] 10 #[.val (.int r), .val (.ref t), .val (.int (0 : Int32)), .val (.int (Int32.ofNat bs.length)), .val (.int (Int32.ofNat bs.length)), .val (.int (Int32.ofNat i))] [.int (Int32.ofNat i)] := H.iload d_shc_8
      have H12 : Hr x b_shc Z EL1 0 0 h0 [] 12 #[.val (.int r), .val (.ref t), .val (.int (0 : Int32)), .val (.int (Int32.ofNat bs.length)), .val (.int (Int32.ofNat bs.length)), .val (.int (Int32.ofNat i))] [.int (Int32.ofNat bs.length), .int (Int32.ofNat i)] := H11.iload d_shc_10
      have H13 : Hr x b_shc Z EL1 0 0 h0 [] 15 #[.val (.int r), .val (.ref t), .val (.int (0 : Int32)), .val (.int (Int32.ofNat bs.length)), .val (.int (Int32.ofNat bs.length)), .val (.int (Int32.ofNat i))] [] := H12.icmpF d_shc_12 (XT.ii_ge_f (lt_ofNat hi1 hlen))
      have H14 : Hr x b_shc Z EL1 0 0 h0 [] 17 #[.val (.int r), .val (.ref t), .val (.int (0 : Int32)), .val (.int (Int32.ofNat bs.length)), .val (.int (Int32.ofNat bs.length)), .val (.int (Int32.ofNat i))] [.int (31 : Int32)] := H13.bipush d_shc_15
      have H15 : Hr x b_shc Z EL1 0 0 h0 [] 18 #[.val (.int r), .val (.ref t), .val (.int (0 : Int32)), .val (.int (Int32.ofNat bs.length)), .val (.int (Int32.ofNat bs.length)), .val (.int (Int32.ofNat i))] [.int r, .int (31 : Int32)] := H14.iloadN d_shc_17
      have H16 : Hr x b_shc Z EL1 0 0 h0 [] 19 #[.val (.int r), .val (.ref t), .val (.int (0 : Int32)), .val (.int (Int32.ofNat bs.length)), .val (.int (Int32.ofNat bs.length)), .val (.int (Int32.ofNat i))] [.int ((31 : Int32) * r)] := H15.imul d_shc_18
      have H17 : Hr x b_shc Z EL1 0 0 h0 [] 20 #[.val (.int r), .val (.ref t), .val (.int (0 : Int32)), .val (.int (Int32.ofNat bs.length)), .val (.int (Int32.ofNat bs.length)), .val (.int (Int32.ofNat i))] [.ref t, .int ((31 : Int32) * r)] := H16.aloadN d_shc_19
      have H18 : Hr x b_shc Z EL1 0 0 h0 [] 22 #[.val (.int r), .val (.ref t), .val (.int (0 : Int32)), .val (.int (Int32.ofNat bs.length)), .val (.int (Int32.ofNat bs.length)), .val (.int (Int32.ofNat i))] [.int (Int32.ofNat i), .ref t, .int ((31 : Int32) * r)] := H17.iload d_shc_20
      have H19 : Hr x b_shc Z EL1 0 0 h0 [] 23 #[.val (.int r), .val (.ref t), .val (.int (0 : Int32)), .val (.int (Int32.ofNat bs.length)), .val (.int (Int32.ofNat bs.length)), .val (.int (Int32.ofNat i))] [.int (bs[i]), .int ((31 : Int32) * r)] := H18.baload Ft d_shc_22 (i := i) rfl (by simp [hi1])
      have H20 : Hr x b_shc Z EL1 0 0 h0 [] 26 #[.val (.int r), .val (.ref t), .val (.int (0 : Int32)), .val (.int (Int32.ofNat bs.length)), .val (.int (Int32.ofNat bs.length)), .val (.int (Int32.ofNat i))] [.int (255 : Int32), .int (bs[i]), .int ((31 : Int32) * r)] := H19.sipush d_shc_23
      have H21 : Hr x b_shc Z EL1 0 0 h0 [] 27 #[.val (.int r), .val (.ref t), .val (.int (0 : Int32)), .val (.int (Int32.ofNat bs.length)), .val (.int (Int32.ofNat bs.length)), .val (.int (Int32.ofNat i))] [.int ((bs[i]) &&& (255 : Int32)), .int ((31 : Int32) * r)] := H20.iand d_shc_26
      have H22 : Hr x b_shc Z EL1 0 0 h0 [] 28 #[.val (.int r), .val (.ref t), .val (.int (0 : Int32)), .val (.int (Int32.ofNat bs.length)), .val (.int (Int32.ofNat bs.length)), .val (.int (Int32.ofNat i))] [.int (((31 : Int32) * r) + ((bs[i]) &&& (255 : Int32)))] := H21.iadd d_shc_27
      have H23 : Hr x b_shc Z EL1 0 0 h0 [] 29 #[.val (.int (((31 : Int32) * r) + ((bs[i]) &&& (255 : Int32)))), .val (.ref t), .val (.int (0 : Int32)), .val (.int (Int32.ofNat bs.length)), .val (.int (Int32.ofNat bs.length)), .val (.int (Int32.ofNat i))] [] := H22.istoreN d_shc_28
      have H24 : Hr x b_shc Z EL1 0 0 h0 [] 32 #[.val (.int (((31 : Int32) * r) + ((bs[i]) &&& (255 : Int32)))), .val (.ref t), .val (.int (0 : Int32)), .val (.int (Int32.ofNat bs.length)), .val (.int (Int32.ofNat bs.length)), .val (.int (Int32.ofNat (i + 1)))] [] := H23.iinc d_shc_29 (v := (Int32.ofNat (i + 1))) (hv := (inc_ofNat i).symm)
      have H25 : Hr x b_shc Z EL1 0 0 h0 [] 8 #[.val (.int (((31 : Int32) * r) + ((bs[i]) &&& (255 : Int32)))), .val (.ref t), .val (.int (0 : Int32)), .val (.int (Int32.ofNat bs.length)), .val (.int (Int32.ofNat bs.length)), .val (.int (Int32.ofNat (i + 1)))] [] := H24.goto d_shc_32
      exact ih (i + 1) _ (by omega) H25
  exact loop bs.length 0 0 (by omega) H6
def b_vhc : Bx := (({ frames := 1, cells := 0, slots := 0, locals := 17 } : Room), (⟨"jdk/internal/util/ArraysSupport", "vectorizedHashCode", "(Ljava/lang/Object;IIII)I"⟩ : MethodName), jdk_48_method_4_code, 5, (Option.some Jvm.ClassFile.FieldType.int))
theorem ef_vhc (t : Addr) (bs : List Int32) (mI : MethodId) : entryFrame mI #[.ref t, .int (0 : Int32), .int (Int32.ofNat bs.length), .int (0 : Int32), .int (4 : Int32)] 5 = mkF mI 0 #[.val (.ref t), .val (.int (0 : Int32)), .val (.int (Int32.ofNat bs.length)), .val (.int (0 : Int32)), .val (.int (4 : Int32))] [] := by first | (simp [entryFrame, mkF, argsToLocals, Value.category]; done) | rfl
theorem pd_vhc : parseMethodDescriptor "(Ljava/lang/Object;IIII)I" = some ⟨[(.object "java/lang/Object"), .int, .int, .int, .int], some .int⟩ := by decide +kernel
set_option maxRecDepth 65536 in
set_option maxHeartbeats 4000000 in
theorem ct_vhc {a0 : Array Value} {Z : State} (hw : ∀ d ∈ tables_1, d.before a0 Z = true) (l : Launch) (nar kn : Bool) (hnr : nar = nar) (h0 : Heap) (t : Addr) (bs : List Int32) (Ft : Ar Z h0 t .byte (bs.map Value.int)) (Xt : Exa Z h0 t "[B") :
    Ct l Z EL1 (⟨"jdk/internal/util/ArraysSupport", "vectorizedHashCode", "(Ljava/lang/Object;IIII)I"⟩ : MethodName) jdk_48_method_4_code 5 (Option.some Jvm.ClassFile.FieldType.int) ({ frames := 1, cells := 0, slots := 0, locals := 17 } : Room) #[.ref t, .int (0 : Int32), .int (Int32.ofNat bs.length), .int (0 : Int32), .int (4 : Int32)] h0 [] nar kn (fun v h sn => ∃ r, v = some (.int r) ∧ sn = [] ∧ h = h0) := by
  refine Ct.intro (plainFor_of_name pn_jdk_internal_util_ArraysSupport) (ew hw) (ef_vhc t bs) ?_
  intro x hl hn0 hkn hsf hh H0
  have hnar : x.nar = x.nar := rfl
  have H0 : Hr x b_vhc Z EL1 0 0 h0 [] 0 #[.val (.ref t), .val (.int (0 : Int32)), .val (.int (Int32.ofNat bs.length)), .val (.int (0 : Int32)), .val (.int (4 : Int32))] [] := H0
  have H1 : Hr x b_vhc Z EL1 0 0 h0 [] 2 #[.val (.ref t), .val (.int (0 : Int32)), .val (.int (Int32.ofNat bs.length)), .val (.int (0 : Int32)), .val (.int (4 : Int32))] [.int (4 : Int32)] := H0.iload d_vhc_0
  have H2 : Hr x b_vhc Z EL1 0 0 h0 [] 44 #[.val (.ref t), .val (.int (0 : Int32)), .val (.int (Int32.ofNat bs.length)), .val (.int (0 : Int32)), .val (.int (4 : Int32))] [] := H1.tsw d_vhc_2 (o := 42) (by decide) (by first | rfl | decide)
  have H3 : Hr x b_vhc Z EL1 0 0 h0 [] 45 #[.val (.ref t), .val (.int (0 : Int32)), .val (.int (Int32.ofNat bs.length)), .val (.int (0 : Int32)), .val (.int (4 : Int32))] [.int (0 : Int32)] := H2.iloadN d_vhc_44
  have H4 : Hr x b_vhc Z EL1 0 0 h0 [] 46 #[.val (.ref t), .val (.int (0 : Int32)), .val (.int (Int32.ofNat bs.length)), .val (.int (0 : Int32)), .val (.int (4 : Int32))] [.ref t, .int (0 : Int32)] := H3.aloadN d_vhc_45
  have H5 : Hr x b_vhc Z EL1 0 0 h0 [] 49 #[.val (.ref t), .val (.int (0 : Int32)), .val (.int (Int32.ofNat bs.length)), .val (.int (0 : Int32)), .val (.int (4 : Int32))] [.ref t, .int (0 : Int32)] := H4.cast (w197 hw) (Ins.self Xt) d_vhc_46
  have H6 : Hr x b_vhc Z EL1 0 0 h0 [] 50 #[.val (.ref t), .val (.int (0 : Int32)), .val (.int (Int32.ofNat bs.length)), .val (.int (0 : Int32)), .val (.int (4 : Int32))] [.int (0 : Int32), .ref t, .int (0 : Int32)] := H5.iloadN d_vhc_49
  have H7 : Hr x b_vhc Z EL1 0 0 h0 [] 51 #[.val (.ref t), .val (.int (0 : Int32)), .val (.int (Int32.ofNat bs.length)), .val (.int (0 : Int32)), .val (.int (4 : Int32))] [.int (Int32.ofNat bs.length), .int (0 : Int32), .ref t, .int (0 : Int32)] := H6.iloadN d_vhc_50
  obtain ⟨_, h1, _, ⟨r, rfl, rfl, e1⟩, K1, H8⟩ := H7.callS (argsL := [.int (0 : Int32), .ref t, .int (0 : Int32), .int (Int32.ofNat bs.length)]) (rest := []) (Wr := 0) (ct_shc hw x.l x.nar x.kn hnar h0 t bs Ft) sub0 (w199 hw) (w200 hw) (w195 hw) (w201 hw) d_vhc_51 pd_shc rfl (hf := by first | decide | (simp [b_vhc, Bx.R]; done) | (simp [b_vhc, Bx.R]; omega)) (hl := by first | decide | (simp [b_vhc, Bx.R]; done) | (simp [b_vhc, Bx.R]; omega)) (hc := by first | decide | (simp [b_vhc, Bx.R]; done) | (simp [b_vhc, Bx.R]; omega)) (hs := by first | decide | (simp [b_vhc, Bx.R]; done) | (simp [b_vhc, Bx.R]; omega))
  rw [e1] at H8
  have H8 : Hr x b_vhc Z EL1 0 0 h0 [] 54 #[.val (.ref t), .val (.int (0 : Int32)), .val (.int (Int32.ofNat bs.length)), .val (.int (0 : Int32)), .val (.int (4 : Int32))] [.int r] := H8
  have H9 : Hr x b_vhc Z EL1 0 0 h0 [] 157 #[.val (.ref t), .val (.int (0 : Int32)), .val (.int (Int32.ofNat bs.length)), .val (.int (0 : Int32)), .val (.int (4 : Int32))] [.int r] := H8.goto d_vhc_54
  exact H9.finI d_vhc_157 ⟨_, rfl, rfl, rfl⟩ sub0
def b_lhc : Bx := (({ frames := 2, cells := 0, slots := 0, locals := 33 } : Room), (⟨"java/lang/StringLatin1", "hashCode", "([B)I"⟩ : MethodName), jdk_43_method_21_code, 1, (Option.some Jvm.ClassFile.FieldType.int))
theorem ef_lhc (t : Addr) (mI : MethodId) : entryFrame mI #[.ref t] 1 = mkF mI 0 #[.val (.ref t)] [] := by first | (simp [entryFrame, mkF, argsToLocals, Value.category]; done) | rfl
theorem pd_lhc : parseMethodDescriptor "([B)I" = some ⟨[(.array .byte)], some .int⟩ := by decide +kernel
set_option maxRecDepth 65536 in
set_option maxHeartbeats 4000000 in
theorem ct_lhc {a0 : Array Value} {Z : State} (hw : ∀ d ∈ tables_1, d.before a0 Z = true) (l : Launch) (nar kn : Bool) (hnr : nar = nar) (h0 : Heap) (t : Addr) (bs : List Int32) (Ft : Ar Z h0 t .byte (bs.map Value.int)) (Xt : Exa Z h0 t "[B") (l1 : 0 < bs.length) (l2 : bs.length ≤ 3) :
    Ct l Z EL1 (⟨"java/lang/StringLatin1", "hashCode", "([B)I"⟩ : MethodName) jdk_43_method_21_code 1 (Option.some Jvm.ClassFile.FieldType.int) ({ frames := 2, cells := 0, slots := 0, locals := 33 } : Room) #[.ref t] h0 [] nar kn (fun v h sn => ∃ r, v = some (.int r) ∧ sn = [] ∧ h = h0) := by
  refine Ct.intro (plainFor_of_name pn_java_lang_StringLatin1) (ew hw) (ef_lhc t) ?_
  intro x hl hn0 hkn hsf hh H0
  have hnar : x.nar = x.nar := rfl
  have H0 : Hr x b_lhc Z EL1 0 0 h0 [] 0 #[.val (.ref t)] [] := H0
  have H1 : Hr x b_lhc Z EL1 0 0 h0 [] 1 #[.val (.ref t)] [.ref t] := H0.aloadN d_lhc_0
  have H2 : Hr x b_lhc Z EL1 0 0 h0 [] 2 #[.val (.ref t)] [.int (Int32.ofNat bs.length)] := H1.arraylength Ft d_lhc_1 (hn := (by simp))
  by_cases q1 : bs.length = 1
  · have z2 := q1
    have H3 : Hr x b_lhc Z EL1 0 0 h0 [] 32 #[.val (.ref t)] [] := H2.lsw d_lhc_2 (o := 30) (by rw [q1]; decide)
    have H4 : Hr x b_lhc Z EL1 0 0 h0 [] 33 #[.val (.ref t)] [.ref t] := H3.aloadN d_lhc_32
    have H5 : Hr x b_lhc Z EL1 0 0 h0 [] 34 #[.val (.ref t)] [.int (0 : Int32), .ref t] := H4.iconst d_lhc_33
    have H6 : Hr x b_lhc Z EL1 0 0 h0 [] 35 #[.val (.ref t)] [.int (bs[0])] := H5.baload Ft d_lhc_34 (i := 0) rfl (by simp [l1])
    have H7 : Hr x b_lhc Z EL1 0 0 h0 [] 38 #[.val (.ref t)] [.int (255 : Int32), .int (bs[0])] := H6.sipush d_lhc_35
    have H8 : Hr x b_lhc Z EL1 0 0 h0 [] 39 #[.val (.ref t)] [.int ((bs[0]) &&& (255 : Int32))] := H7.iand d_lhc_38
    have H9 : Hr x b_lhc Z EL1 0 0 h0 [] 51 #[.val (.ref t)] [.int ((bs[0]) &&& (255 : Int32))] := H8.goto d_lhc_39
    exact H9.finI d_lhc_51 ⟨_, rfl, rfl, rfl⟩ sub0
  · have z9 := q1
    have q2 : bs.length = 2 ∨ bs.length = 3 := by omega
    have H10 : Hr x b_lhc Z EL1 0 0 h0 [] 42 #[.val (.ref t)] [] := H2.lsw d_lhc_2 (o := 40) (by rcases q2 with q2 | q2 <;> rw [q2] <;> decide)
    have H11 : Hr x b_lhc Z EL1 0 0 h0 [] 43 #[.val (.ref t)] [.ref t] := H10.aloadN d_lhc_42
    have H12 : Hr x b_lhc Z EL1 0 0 h0 [] 44 #[.val (.ref t)] [.int (0 : Int32), .ref t] := H11.iconst d_lhc_43
    have H13 : Hr x b_lhc Z EL1 0 0 h0 [] 45 #[.val (.ref t)] [.ref t, .int (0 : Int32), .ref t] := H12.aloadN d_lhc_44
    have H14 : Hr x b_lhc Z EL1 0 0 h0 [] 46 #[.val (.ref t)] [.int (Int32.ofNat bs.length), .int (0 : Int32), .ref t] := H13.arraylength Ft d_lhc_45 (hn := (by simp))
    have H15 : Hr x b_lhc Z EL1 0 0 h0 [] 47 #[.val (.ref t)] [.int (0 : Int32), .int (Int32.ofNat bs.length), .int (0 : Int32), .ref t] := H14.iconst d_lhc_46
    have H16 : Hr x b_lhc Z EL1 0 0 h0 [] 48 #[.val (.ref t)] [.int (4 : Int32), .int (0 : Int32), .int (Int32.ofNat bs.length), .int (0 : Int32), .ref t] := H15.iconst d_lhc_47
    obtain ⟨_, h1, _, ⟨r, rfl, rfl, e1⟩, K1, H17⟩ := H16.callS (argsL := [.ref t, .int (0 : Int32), .int (Int32.ofNat bs.length), .int (0 : Int32), .int (4 : Int32)]) (rest := []) (Wr := 0) (ct_vhc hw x.l x.nar x.kn hnar h0 t bs Ft Xt) sub0 (w193 hw) (w194 hw) (w195 hw) (w196 hw) d_lhc_48 pd_vhc rfl (hf := by first | decide | (simp [b_lhc, Bx.R]; done) | (simp [b_lhc, Bx.R]; omega)) (hl := by first | decide | (simp [b_lhc, Bx.R]; done) | (simp [b_lhc, Bx.R]; omega)) (hc := by first | decide | (simp [b_lhc, Bx.R]; done) | (simp [b_lhc, Bx.R]; omega)) (hs := by first | decide | (simp [b_lhc, Bx.R]; done) | (simp [b_lhc, Bx.R]; omega))
    rw [e1] at H17
    have H17 : Hr x b_lhc Z EL1 0 0 h0 [] 51 #[.val (.ref t)] [.int r] := H17
    exact H17.finI d_lhc_51 ⟨_, rfl, rfl, rfl⟩ sub0
def b_hash : Bx := (({ frames := 3, cells := 0, slots := 0, locals := 45 } : Room), (⟨"java/lang/String", "hashCode", "()I"⟩ : MethodName), jdk_42_method_78_code, 2, (Option.some Jvm.ClassFile.FieldType.int))
theorem ef_hash (s : Addr) (mI : MethodId) : entryFrame mI #[.ref s] 2 = mkF mI 0 #[.val (.ref s), .unset] [] := by first | (simp [entryFrame, mkF, argsToLocals, Value.category]; done) | rfl
theorem pd_hash : parseMethodDescriptor "()I" = some ⟨[], some .int⟩ := by decide +kernel
set_option maxRecDepth 65536 in
set_option maxHeartbeats 4000000 in
theorem ct_hash {a0 : Array Value} {Z : State} (hw : ∀ d ∈ tables_1, d.before a0 Z = true) (l : Launch) (nar kn : Bool) (hnr : nar = nar) (h0 : Heap) (s : Addr) (F : SG Z h0 s) (cz : Int32) (O : Sta Z Z.heap "java/lang/String" "COMPACT_STRINGS" "Z" (.int cz)) (hcz : ¬ cz = 0) :
    Ct l Z EL1 (⟨"java/lang/String", "hashCode", "()I"⟩ : MethodName) jdk_42_method_78_code 2 (Option.some Jvm.ClassFile.FieldType.int) ({ frames := 3, cells := 0, slots := 0, locals := 45 } : Room) #[.ref s] h0 [s] nar kn (fun v h sn => ∃ r, v = some (.int r) ∧ sn = [] ∧ SG Z h s) := by
  refine Ct.intro (plainFor_of_name pn_java_lang_String) (ew hw) (ef_hash s) ?_
  intro x hl hn0 hkn hsf hh H0
  have hnar : x.nar = x.nar := rfl
  have H0 : Hr x b_hash Z EL1 0 0 h0 [s] 0 #[.val (.ref s), .unset] [] := H0
  have n01 := slot_ne (a0 := a0) (C := "java/lang/String") (O := "java/lang/String") (O' := "java/lang/String") (n := "coder") (n' := "value") (Or.inr (w25 hw)) (Or.inr (w23 hw)) (by decide) (t := .byte) (t' := .array .byte) (by decide) (by decide)
  have n02 := slot_ne (a0 := a0) (C := "java/lang/String") (O := "java/lang/String") (O' := "java/lang/String") (n := "coder") (n' := "hash") (Or.inr (w25 hw)) (Or.inl (w170 hw)) (by decide) (t := .byte) (t' := .int) (by decide) (by decide)
  have n03 := slot_ne (a0 := a0) (C := "java/lang/String") (O := "java/lang/String") (O' := "java/lang/String") (n := "coder") (n' := "hashIsZero") (Or.inr (w25 hw)) (Or.inl (w172 hw)) (by decide) (t := .byte) (t' := .boolean) (by decide) (by decide)
  have n12 := slot_ne (a0 := a0) (C := "java/lang/String") (O := "java/lang/String") (O' := "java/lang/String") (n := "value") (n' := "hash") (Or.inr (w23 hw)) (Or.inl (w170 hw)) (by decide) (t := .array .byte) (t' := .int) (by decide) (by decide)
  have n13 := slot_ne (a0 := a0) (C := "java/lang/String") (O := "java/lang/String") (O' := "java/lang/String") (n := "value") (n' := "hashIsZero") (Or.inr (w23 hw)) (Or.inl (w172 hw)) (by decide) (t := .array .byte) (t' := .boolean) (by decide) (by decide)
  have n23 := slot_ne (a0 := a0) (C := "java/lang/String") (O := "java/lang/String") (O' := "java/lang/String") (n := "hash") (n' := "hashIsZero") (Or.inl (w170 hw)) (Or.inl (w172 hw)) (by decide) (t := .int) (t' := .boolean) (by decide) (by decide)
  have F0 := F
  obtain ⟨t, bs, u, y, S, Xt, Fh, Fz, l1, l2⟩ := F
  have hts : t ≠ s := Xt.ne S.1 (by decide)
  have H1 : Hr x b_hash Z EL1 0 0 h0 [s] 1 #[.val (.ref s), .unset] [.ref s] := H0.aloadN d_hash_0
  have H2 : Hr x b_hash Z EL1 0 0 h0 [s] 4 #[.val (.ref s), .unset] [.int u] := H1.getF (w169 hw) Fh d_hash_1
  have H3 : Hr x b_hash Z EL1 0 0 h0 [s] 5 #[.val (.ref s), .val (.int u)] [] := H2.istoreN d_hash_4
  have H4 : Hr x b_hash Z EL1 0 0 h0 [s] 6 #[.val (.ref s), .val (.int u)] [.int u] := H3.iloadN d_hash_5
  by_cases qu : u = 0
  · have z17 := qu
    have H18 : Hr x b_hash Z EL1 0 0 h0 [s] 9 #[.val (.ref s), .val (.int u)] [] := H4.ifF d_hash_6 (XT.i0_ne_f qu)
    have H19 : Hr x b_hash Z EL1 0 0 h0 [s] 10 #[.val (.ref s), .val (.int u)] [.ref s] := H18.aloadN d_hash_9
    have H20 : Hr x b_hash Z EL1 0 0 h0 [s] 13 #[.val (.ref s), .val (.int u)] [.int y] := H19.getF (w171 hw) Fz d_hash_10
    by_cases qy : y = 0
    · have z20 := qy
      have H21 : Hr x b_hash Z EL1 0 0 h0 [s] 16 #[.val (.ref s), .val (.int u)] [] := H20.ifF d_hash_13 (XT.i0_ne_f qy)
      have H22 : Hr x b_hash Z EL1 0 0 h0 [s] 17 #[.val (.ref s), .val (.int u)] [.ref s] := H21.aloadN d_hash_16
      obtain ⟨_, h1, _, ⟨rfl, rfl, e1⟩, K1, H23⟩ := H22.callV (argsL := []) (rest := []) (Wr := 0) (a := s) (ct_sil1 hw x.l x.nar x.kn hnar h0 s t bs S cz O hcz) sub0 S.1 (w173 hw) (w174 hw) (w176 hw) (w176 hw) (w175 hw) (w2 hw) (w177 hw) d_hash_17 pd_sil1 rfl (hf := by first | decide | (simp [b_hash, Bx.R]; done) | (simp [b_hash, Bx.R]; omega)) (hl := by first | decide | (simp [b_hash, Bx.R]; done) | (simp [b_hash, Bx.R]; omega)) (hc := by first | decide | (simp [b_hash, Bx.R]; done) | (simp [b_hash, Bx.R]; omega)) (hs := by first | decide | (simp [b_hash, Bx.R]; done) | (simp [b_hash, Bx.R]; omega))
      rw [e1] at H23
      have H23 : Hr x b_hash Z EL1 0 0 h0 [s] 20 #[.val (.ref s), .val (.int u)] [.int (1 : Int32)] := H23
      have H24 : Hr x b_hash Z EL1 0 0 h0 [s] 23 #[.val (.ref s), .val (.int u)] [] := H23.ifF d_hash_20 (XT.i0_eq_f (by decide))
      have H25 : Hr x b_hash Z EL1 0 0 h0 [s] 24 #[.val (.ref s), .val (.int u)] [.ref s] := H24.aloadN d_hash_23
      have H26 : Hr x b_hash Z EL1 0 0 h0 [s] 27 #[.val (.ref s), .val (.int u)] [.ref t] := H25.getF (w22 hw) S.2.2.1 d_hash_24
      obtain ⟨_, h2, _, ⟨r, rfl, rfl, e2⟩, K2, H27⟩ := H26.callS (argsL := [.ref t]) (rest := []) (Wr := 0) (ct_lhc hw x.l x.nar x.kn hnar h0 t bs S.2.2.2 Xt l1 l2) sub0 (w178 hw) (w179 hw) (w7 hw) (w180 hw) d_hash_27 pd_lhc rfl (hf := by first | decide | (simp [b_hash, Bx.R]; done) | (simp [b_hash, Bx.R]; omega)) (hl := by first | decide | (simp [b_hash, Bx.R]; done) | (simp [b_hash, Bx.R]; omega)) (hc := by first | decide | (simp [b_hash, Bx.R]; done) | (simp [b_hash, Bx.R]; omega)) (hs := by first | decide | (simp [b_hash, Bx.R]; done) | (simp [b_hash, Bx.R]; omega))
      rw [e2] at H27
      have H27 : Hr x b_hash Z EL1 0 0 h0 [s] 30 #[.val (.ref s), .val (.int u)] [.int r] := H27
      have H28 : Hr x b_hash Z EL1 0 0 h0 [s] 40 #[.val (.ref s), .val (.int u)] [.int r] := H27.goto d_hash_30
      have H29 : Hr x b_hash Z EL1 0 0 h0 [s] 41 #[.val (.ref s), .val (.int r)] [] := H28.istoreN d_hash_40
      have H30 : Hr x b_hash Z EL1 0 0 h0 [s] 42 #[.val (.ref s), .val (.int r)] [.int r] := H29.iloadN d_hash_41
      by_cases qr : r = 0
      · have z30 := qr
        have H31 : Hr x b_hash Z EL1 0 0 h0 [s] 45 #[.val (.ref s), .val (.int r)] [] := H30.ifF d_hash_42 (XT.i0_ne_f qr)
        have H32 : Hr x b_hash Z EL1 0 0 h0 [s] 46 #[.val (.ref s), .val (.int r)] [.ref s] := H31.aloadN d_hash_45
        have H33 : Hr x b_hash Z EL1 0 0 h0 [s] 47 #[.val (.ref s), .val (.int r)] [.int (1 : Int32), .ref s] := H32.iconst d_hash_46
        obtain ⟨h3, W3, H34⟩ := H33.putF (by simp) (w171 hw) Fz S.1 (Or.inl (w172 hw)) (w10 hw) d_hash_47 (ty := .boolean)
        have H34 : Hr x b_hash Z EL1 0 0 h3 [s] 50 #[.val (.ref s), .val (.int r)] [] := H34
        have H35 : Hr x b_hash Z EL1 0 0 h3 [s] 58 #[.val (.ref s), .val (.int r)] [] := H34.goto d_hash_50
        have H36 : Hr x b_hash Z EL1 0 0 h3 [s] 59 #[.val (.ref s), .val (.int r)] [.int r] := H35.iloadN d_hash_58
        exact H36.finI d_hash_59 ⟨_, rfl, rfl, t, bs, _, _, ⟨S.1.wr W3, S.2.1.other W3 (Or.inr n03), S.2.2.1.other W3 (Or.inr n13), S.2.2.2.other W3 hts⟩, Xt.wr W3, Fh.other W3 (Or.inr n23), Fld.same W3 Fz, l1, l2⟩ sub0
      · have z36 := qr
        have H37 : Hr x b_hash Z EL1 0 0 h0 [s] 53 #[.val (.ref s), .val (.int r)] [] := H30.ifT d_hash_42 (XT.i0_ne_t qr)
        have H38 : Hr x b_hash Z EL1 0 0 h0 [s] 54 #[.val (.ref s), .val (.int r)] [.ref s] := H37.aloadN d_hash_53
        have H39 : Hr x b_hash Z EL1 0 0 h0 [s] 55 #[.val (.ref s), .val (.int r)] [.int r, .ref s] := H38.iloadN d_hash_54
        obtain ⟨h3, W3, H40⟩ := H39.putF (by simp) (w169 hw) Fh S.1 (Or.inl (w170 hw)) (w10 hw) d_hash_55 (ty := .int)
        have H40 : Hr x b_hash Z EL1 0 0 h3 [s] 58 #[.val (.ref s), .val (.int r)] [] := H40
        have H41 : Hr x b_hash Z EL1 0 0 h3 [s] 59 #[.val (.ref s), .val (.int r)] [.int r] := H40.iloadN d_hash_58
        exact H41.finI d_hash_59 ⟨_, rfl, rfl, t, bs, _, _, ⟨S.1.wr W3, S.2.1.other W3 (Or.inr n02), S.2.2.1.other W3 (Or.inr n12), S.2.2.2.other W3 hts⟩, Xt.wr W3, Fld.same W3 Fh, Fz.other W3 (Or.inr (Ne.symm n23)), l1, l2⟩ sub0
    · have z41 := qy
      have H42 : Hr x b_hash Z EL1 0 0 h0 [s] 58 #[.val (.ref s), .val (.int u)] [] := H20.ifT d_hash_13 (XT.i0_ne_t qy)
      have H43 : Hr x b_hash Z EL1 0 0 h0 [s] 59 #[.val (.ref s), .val (.int u)] [.int u] := H42.iloadN d_hash_58
      exact H43.finI d_hash_59 ⟨_, rfl, rfl, F0⟩ sub0
  · have z43 := qu
    have H44 : Hr x b_hash Z EL1 0 0 h0 [s] 58 #[.val (.ref s), .val (.int u)] [] := H4.ifT d_hash_6 (XT.i0_ne_t qu)
    have H45 : Hr x b_hash Z EL1 0 0 h0 [s] 59 #[.val (.ref s), .val (.int u)] [.int u] := H44.iloadN d_hash_58
    exact H45.finI d_hash_59 ⟨_, rfl, rfl, F0⟩ sub0
def b_acin : Bx := (({ frames := 1, cells := 0, slots := 0, locals := 12 } : Room), (⟨"java/util/AbstractCollection", "<init>", "()V"⟩ : MethodName), jdk_22_method_1_code, 1, (Option.none : Option Jvm.ClassFile.FieldType))
theorem ef_acin (s : Addr) (mI : MethodId) : entryFrame mI #[.ref s] 1 = mkF mI 0 #[.val (.ref s)] [] := by first | (simp [entryFrame, mkF, argsToLocals, Value.category]; done) | rfl
theorem pn_java_util_AbstractCollection : plainName "java/util/AbstractCollection" = true := by first | (simp [plainName, overriddenIn]; done) | decide +kernel
theorem pd_acin : parseMethodDescriptor "()V" = some ⟨[], none⟩ := by decide +kernel
set_option maxRecDepth 65536 in
set_option maxHeartbeats 4000000 in
theorem ct_acin {a0 : Array Value} {Z : State} (hw : ∀ d ∈ tables_1, d.before a0 Z = true) (l : Launch) (nar kn : Bool) (hnr : nar = nar) (h0 : Heap) (s : Addr) :
    Ct l Z EL1 (⟨"java/util/AbstractCollection", "<init>", "()V"⟩ : MethodName) jdk_22_method_1_code 1 (Option.none : Option Jvm.ClassFile.FieldType) ({ frames := 1, cells := 0, slots := 0, locals := 12 } : Room) #[.ref s] h0 [] nar kn (fun v h sn => v = none ∧ sn = [] ∧ h = h0) := by
  refine Ct.intro (plainFor_of_name pn_java_util_AbstractCollection) (ew hw) (ef_acin s) ?_
  intro x hl hn0 hkn hsf hh H0
  have hnar : x.nar = x.nar := rfl
  have H0 : Hr x b_acin Z EL1 0 0 h0 [] 0 #[.val (.ref s)] [] := H0
  have H1 : Hr x b_acin Z EL1 0 0 h0 [] 1 #[.val (.ref s)] [.ref s] := H0.aloadN d_acin_0
  have H2 : Hr x b_acin Z EL1 0 0 h0 [] 4 #[.val (.ref s)] [] := H1.initO (Wr := 0) (w69 hw) (w20 hw) (w21 hw) d_acin_1 (hf := by first | decide | (simp [b_acin, Bx.R]; done) | (simp [b_acin, Bx.R]; omega)) (hl := by first | decide | (simp [b_acin, Bx.R]; done) | (simp [b_acin, Bx.R]; omega))
  exact H2.finN d_acin_4 rfl (by decide) (by decide) sub0 ⟨rfl, rfl, rfl⟩
def b_amin : Bx := (({ frames := 1, cells := 0, slots := 0, locals := 12 } : Room), (⟨"java/util/AbstractMap", "<init>", "()V"⟩ : MethodName), jdk_71_method_1_code, 1, (Option.none : Option Jvm.ClassFile.FieldType))
theorem ef_amin (s : Addr) (mI : MethodId) : entryFrame mI #[.ref s] 1 = mkF mI 0 #[.val (.ref s)] [] := by first | (simp [entryFrame, mkF, argsToLocals, Value.category]; done) | rfl
theorem pn_java_util_AbstractMap : plainName "java/util/AbstractMap" = true := by first | (simp [plainName, overriddenIn]; done) | decide +kernel
theorem pd_amin : parseMethodDescriptor "()V" = some ⟨[], none⟩ := by decide +kernel
set_option maxRecDepth 65536 in
set_option maxHeartbeats 4000000 in
theorem ct_amin {a0 : Array Value} {Z : State} (hw : ∀ d ∈ tables_1, d.before a0 Z = true) (l : Launch) (nar kn : Bool) (hnr : nar = nar) (h0 : Heap) (s : Addr) :
    Ct l Z EL1 (⟨"java/util/AbstractMap", "<init>", "()V"⟩ : MethodName) jdk_71_method_1_code 1 (Option.none : Option Jvm.ClassFile.FieldType) ({ frames := 1, cells := 0, slots := 0, locals := 12 } : Room) #[.ref s] h0 [] nar kn (fun v h sn => v = none ∧ sn = [] ∧ h = h0) := by
  refine Ct.intro (plainFor_of_name pn_java_util_AbstractMap) (ew hw) (ef_amin s) ?_
  intro x hl hn0 hkn hsf hh H0
  have hnar : x.nar = x.nar := rfl
  have H0 : Hr x b_amin Z EL1 0 0 h0 [] 0 #[.val (.ref s)] [] := H0
  have H1 : Hr x b_amin Z EL1 0 0 h0 [] 1 #[.val (.ref s)] [.ref s] := H0.aloadN d_amin_0
  have H2 : Hr x b_amin Z EL1 0 0 h0 [] 4 #[.val (.ref s)] [] := H1.initO (Wr := 0) (w89 hw) (w20 hw) (w21 hw) d_amin_1 (hf := by first | decide | (simp [b_amin, Bx.R]; done) | (simp [b_amin, Bx.R]; omega)) (hl := by first | decide | (simp [b_amin, Bx.R]; done) | (simp [b_amin, Bx.R]; omega))
  exact H2.finN d_amin_4 rfl (by decide) (by decide) sub0 ⟨rfl, rfl, rfl⟩
def b_alin : Bx := (({ frames := 2, cells := 0, slots := 0, locals := 24 } : Room), (⟨"java/util/AbstractList", "<init>", "()V"⟩ : MethodName), jdk_39_method_1_code, 1, (Option.none : Option Jvm.ClassFile.FieldType))
theorem ef_alin (L : Addr) (mI : MethodId) : entryFrame mI #[.ref L] 1 = mkF mI 0 #[.val (.ref L)] [] := by first | (simp [entryFrame, mkF, argsToLocals, Value.category]; done) | rfl
theorem pn_java_util_AbstractList : plainName "java/util/AbstractList" = true := by first | (simp [plainName, overriddenIn]; done) | decide +kernel
theorem pd_alin : parseMethodDescriptor "()V" = some ⟨[], none⟩ := by decide +kernel
set_option maxRecDepth 65536 in
set_option maxHeartbeats 4000000 in
theorem ct_alin {a0 : Array Value} {Z : State} (hw : ∀ d ∈ tables_1, d.before a0 Z = true) (l : Launch) (nar kn : Bool) (hnr : nar = nar) (h0 : Heap) (L : Addr) (F : ALF Z h0 L .null 0 0) :
    Ct l Z EL1 (⟨"java/util/AbstractList", "<init>", "()V"⟩ : MethodName) jdk_39_method_1_code 1 (Option.none : Option Jvm.ClassFile.FieldType) ({ frames := 2, cells := 0, slots := 0, locals := 24 } : Room) #[.ref L] h0 [L] nar kn (fun v h sn => v = none ∧ sn = [] ∧ ALF Z h L .null 0 0) := by
  refine Ct.intro (plainFor_of_name pn_java_util_AbstractList) (ew hw) (ef_alin L) ?_
  intro x hl hn0 hkn hsf hh H0
  have hnar : x.nar = x.nar := rfl
  have H0 : Hr x b_alin Z EL1 0 0 h0 [L] 0 #[.val (.ref L)] [] := H0
  have n01 := slot_ne (a0 := a0) (C := "java/util/ArrayList") (O := "java/util/ArrayList") (O' := "java/util/ArrayList") (n := "elementData") (n' := "size") (Or.inl (w74 hw)) (Or.inl (w122 hw)) (by decide) (t := .array (.object "java/lang/Object")) (t' := .int) (by decide) (by decide)
  have n02 := slot_ne (a0 := a0) (C := "java/util/ArrayList") (O := "java/util/ArrayList") (O' := "java/util/AbstractList") (n := "elementData") (n' := "modCount") (Or.inl (w74 hw)) (Or.inl (w71 hw)) (by decide) (t := .array (.object "java/lang/Object")) (t' := .int) (by decide) (by decide)
  have n12 := slot_ne (a0 := a0) (C := "java/util/ArrayList") (O := "java/util/ArrayList") (O' := "java/util/AbstractList") (n := "size") (n' := "modCount") (Or.inl (w122 hw)) (Or.inl (w71 hw)) (by decide) (t := .int) (t' := .int) (by decide) (by decide)
  have H1 : Hr x b_alin Z EL1 0 0 h0 [L] 1 #[.val (.ref L)] [.ref L] := H0.aloadN d_alin_0
  obtain ⟨_, h1, _, ⟨rfl, rfl, e1⟩, K1, H2⟩ := H1.callI (argsL := []) (rest := []) (Wr := 0) (a := L) (ct_acin hw x.l x.nar x.kn hnar h0 L) sub0 (w63 hw) (w64 hw) (w67 hw) (w68 hw) d_alin_1 pd_acin rfl (hf := by first | decide | (simp [b_alin, Bx.R]; done) | (simp [b_alin, Bx.R]; omega)) (hl := by first | decide | (simp [b_alin, Bx.R]; done) | (simp [b_alin, Bx.R]; omega)) (hc := by first | decide | (simp [b_alin, Bx.R]; done) | (simp [b_alin, Bx.R]; omega)) (hs := by first | decide | (simp [b_alin, Bx.R]; done) | (simp [b_alin, Bx.R]; omega))
  rw [e1] at H2
  have H2 : Hr x b_alin Z EL1 0 0 h0 [L] 4 #[.val (.ref L)] [] := H2
  have H3 : Hr x b_alin Z EL1 0 0 h0 [L] 5 #[.val (.ref L)] [.ref L] := H2.aloadN d_alin_4
  have H4 : Hr x b_alin Z EL1 0 0 h0 [L] 6 #[.val (.ref L)] [.int (0 : Int32), .ref L] := H3.iconst d_alin_5
  obtain ⟨h2, W2, H5⟩ := H4.putF (by simp) (w70 hw) F.2.2.2 F.1 (Or.inl (w71 hw)) (w52 hw) d_alin_6 (ty := .int)
  have H5 : Hr x b_alin Z EL1 0 0 h2 [L] 9 #[.val (.ref L)] [] := H5
  exact H5.finN d_alin_9 rfl (by decide) (by decide) sub0 ⟨rfl, rfl, F.1.wr W2, F.2.1.other W2 (Or.inr n02), F.2.2.1.other W2 (Or.inr n12), Fld.same W2 F.2.2.2⟩
def b_arin : Bx := (({ frames := 3, cells := 0, slots := 0, locals := 36 } : Room), (⟨"java/util/ArrayList", "<init>", "()V"⟩ : MethodName), jdk_38_method_2_code, 1, (Option.none : Option Jvm.ClassFile.FieldType))
theorem ef_arin (L : Addr) (mI : MethodId) : entryFrame mI #[.ref L] 1 = mkF mI 0 #[.val (.ref L)] [] := by first | (simp [entryFrame, mkF, argsToLocals, Value.category]; done) | rfl
theorem pn_java_util_ArrayList : plainName "java/util/ArrayList" = true := by first | (simp [plainName, overriddenIn]; done) | decide +kernel
theorem pd_arin : parseMethodDescriptor "()V" = some ⟨[], none⟩ := by decide +kernel
set_option maxRecDepth 65536 in
set_option maxHeartbeats 4000000 in
theorem ct_arin {a0 : Array Value} {Z : State} (hw : ∀ d ∈ tables_1, d.before a0 Z = true) (l : Launch) (nar kn : Bool) (hnr : nar = nar) (h0 : Heap) (L : Addr) (F : ALF Z h0 L .null 0 0) (D : Addr) (SDf : Sta Z Z.heap "java/util/ArrayList" "DEFAULTCAPACITY_EMPTY_ELEMENTDATA" "[Ljava/lang/Object;" (.ref D)) (FD : Ar Z Z.heap D (.object "java/lang/Object") []) :
    Ct l Z EL1 (⟨"java/util/ArrayList", "<init>", "()V"⟩ : MethodName) jdk_38_method_2_code 1 (Option.none : Option Jvm.ClassFile.FieldType) ({ frames := 3, cells := 0, slots := 0, locals := 36 } : Room) #[.ref L] h0 [L] nar kn (fun v h sn => v = none ∧ sn = [] ∧ ALF Z h L (.ref D) 0 0) := by
  refine Ct.intro (plainFor_of_name pn_java_util_ArrayList) (ew hw) (ef_arin L) ?_
  intro x hl hn0 hkn hsf hh H0
  have hnar : x.nar = x.nar := rfl
  have H0 : Hr x b_arin Z EL1 0 0 h0 [L] 0 #[.val (.ref L)] [] := H0
  have n01 := slot_ne (a0 := a0) (C := "java/util/ArrayList") (O := "java/util/ArrayList") (O' := "java/util/ArrayList") (n := "elementData") (n' := "size") (Or.inl (w74 hw)) (Or.inl (w122 hw)) (by decide) (t := .array (.object "java/lang/Object")) (t' := .int) (by decide) (by decide)
  have n02 := slot_ne (a0 := a0) (C := "java/util/ArrayList") (O := "java/util/ArrayList") (O' := "java/util/AbstractList") (n := "elementData") (n' := "modCount") (Or.inl (w74 hw)) (Or.inl (w71 hw)) (by decide) (t := .array (.object "java/lang/Object")) (t' := .int) (by decide) (by decide)
  have n12 := slot_ne (a0 := a0) (C := "java/util/ArrayList") (O := "java/util/ArrayList") (O' := "java/util/AbstractList") (n := "size") (n' := "modCount") (Or.inl (w122 hw)) (Or.inl (w71 hw)) (by decide) (t := .int) (t' := .int) (by decide) (by decide)
  have H1 : Hr x b_arin Z EL1 0 0 h0 [L] 1 #[.val (.ref L)] [.ref L] := H0.aloadN d_arin_0
  obtain ⟨_, h1, _, ⟨rfl, rfl, F1⟩, K1, H2⟩ := H1.callI (argsL := []) (rest := []) (Wr := 0) (a := L) (ct_alin hw x.l x.nar x.kn hnar h0 L F) (sub1 (by simp)) (w57 hw) (w58 hw) (w61 hw) (w62 hw) d_arin_1 pd_alin rfl (hf := by first | decide | (simp [b_arin, Bx.R]; done) | (simp [b_arin, Bx.R]; omega)) (hl := by first | decide | (simp [b_arin, Bx.R]; done) | (simp [b_arin, Bx.R]; omega)) (hc := by first | decide | (simp [b_arin, Bx.R]; done) | (simp [b_arin, Bx.R]; omega)) (hs := by first | decide | (simp [b_arin, Bx.R]; done) | (simp [b_arin, Bx.R]; omega))
  have H2 : Hr x b_arin Z EL1 0 0 h1 [L] 4 #[.val (.ref L)] [] := H2
  have H3 : Hr x b_arin Z EL1 0 0 h1 [L] 5 #[.val (.ref L)] [.ref L] := H2.aloadN d_arin_4
  have H4 : Hr x b_arin Z EL1 0 0 h1 [L] 8 #[.val (.ref L)] [.ref D, .ref L] := H3.getS (w72 hw) (SDf.ext H3.old) d_arin_5
  obtain ⟨h2, W2, H5⟩ := H4.putF (by simp) (w73 hw) F1.2.1 F1.1 (Or.inl (w74 hw)) (w52 hw) d_arin_8 (ty := (.array (.object "java/lang/Object")))
  have H5 : Hr x b_arin Z EL1 0 0 h2 [L] 11 #[.val (.ref L)] [] := H5
  exact H5.finN d_arin_11 rfl (by decide) (by decide) sub0 ⟨rfl, rfl, F1.1.wr W2, Fld.same W2 F1.2.1, F1.2.2.1.other W2 (Or.inr (Ne.symm n01)), F1.2.2.2.other W2 (Or.inr (Ne.symm n02))⟩
def b_tmin : Bx := (({ frames := 2, cells := 0, slots := 0, locals := 24 } : Room), (⟨"java/util/TreeMap", "<init>", "()V"⟩ : MethodName), jdk_2729_method_1_code, 1, (Option.none : Option Jvm.ClassFile.FieldType))
theorem ef_tmin (s : Addr) (mI : MethodId) : entryFrame mI #[.ref s] 1 = mkF mI 0 #[.val (.ref s)] [] := by first | (simp [entryFrame, mkF, argsToLocals, Value.category]; done) | rfl
theorem pn_java_util_TreeMap : plainName "java/util/TreeMap" = true := by first | (simp [plainName, overriddenIn]; done) | decide +kernel
theorem pd_tmin : parseMethodDescriptor "()V" = some ⟨[], none⟩ := by decide +kernel
set_option maxRecDepth 65536 in
set_option maxHeartbeats 4000000 in
theorem ct_tmin {a0 : Array Value} {Z : State} (hw : ∀ d ∈ tables_1, d.before a0 Z = true) (l : Launch) (nar kn : Bool) (hnr : nar = nar) (h0 : Heap) (s : Addr) (Es : Exa Z h0 s "java/util/TreeMap") (F0 : Fld Z h0 s "java/util/TreeMap" "size" "I" (.int 0)) (F1 : Fld Z h0 s "java/util/TreeMap" "modCount" "I" (.int 0)) (F2 : Fld Z h0 s "java/util/TreeMap" "comparator" "Ljava/util/Comparator;" .null) :
    Ct l Z EL1 (⟨"java/util/TreeMap", "<init>", "()V"⟩ : MethodName) jdk_2729_method_1_code 1 (Option.none : Option Jvm.ClassFile.FieldType) ({ frames := 2, cells := 0, slots := 0, locals := 24 } : Room) #[.ref s] h0 [s] nar kn (fun v h sn => v = none ∧ sn = []) := by
  refine Ct.intro (plainFor_of_name pn_java_util_TreeMap) (ew hw) (ef_tmin s) ?_
  intro x hl hn0 hkn hsf hh H0
  have hnar : x.nar = x.nar := rfl
  have H0 : Hr x b_tmin Z EL1 0 0 h0 [s] 0 #[.val (.ref s)] [] := H0
  have n01 := slot_ne (a0 := a0) (C := "java/util/TreeMap") (O := "java/util/TreeMap") (O' := "java/util/TreeMap") (n := "size") (n' := "modCount") (Or.inl (w91 hw)) (Or.inl (w93 hw)) (by decide) (t := .int) (t' := .int) (by decide) (by decide)
  have n02 := slot_ne (a0 := a0) (C := "java/util/TreeMap") (O := "java/util/TreeMap") (O' := "java/util/TreeMap") (n := "size") (n' := "comparator") (Or.inl (w91 hw)) (Or.inr (w95 hw)) (by decide) (t := .int) (t' := .object "java/util/Comparator") (by decide) (by decide)
  have n12 := slot_ne (a0 := a0) (C := "java/util/TreeMap") (O := "java/util/TreeMap") (O' := "java/util/TreeMap") (n := "modCount") (n' := "comparator") (Or.inl (w93 hw)) (Or.inr (w95 hw)) (by decide) (t := .int) (t' := .object "java/util/Comparator") (by decide) (by decide)
  have H1 : Hr x b_tmin Z EL1 0 0 h0 [s] 1 #[.val (.ref s)] [.ref s] := H0.aloadN d_tmin_0
  obtain ⟨_, h1, _, ⟨rfl, rfl, e1⟩, K1, H2⟩ := H1.callI (argsL := []) (rest := []) (Wr := 0) (a := s) (ct_amin hw x.l x.nar x.kn hnar h0 s) sub0 (w83 hw) (w84 hw) (w87 hw) (w88 hw) d_tmin_1 pd_amin rfl (hf := by first | decide | (simp [b_tmin, Bx.R]; done) | (simp [b_tmin, Bx.R]; omega)) (hl := by first | decide | (simp [b_tmin, Bx.R]; done) | (simp [b_tmin, Bx.R]; omega)) (hc := by first | decide | (simp [b_tmin, Bx.R]; done) | (simp [b_tmin, Bx.R]; omega)) (hs := by first | decide | (simp [b_tmin, Bx.R]; done) | (simp [b_tmin, Bx.R]; omega))
  rw [e1] at H2
  have H2 : Hr x b_tmin Z EL1 0 0 h0 [s] 4 #[.val (.ref s)] [] := H2
  have H3 : Hr x b_tmin Z EL1 0 0 h0 [s] 5 #[.val (.ref s)] [.ref s] := H2.aloadN d_tmin_4
  have H4 : Hr x b_tmin Z EL1 0 0 h0 [s] 6 #[.val (.ref s)] [.int (0 : Int32), .ref s] := H3.iconst d_tmin_5
  obtain ⟨h2, W2, H5⟩ := H4.putF (by simp) (w90 hw) F0 Es (Or.inl (w91 hw)) (w78 hw) d_tmin_6 (ty := .int)
  have H5 : Hr x b_tmin Z EL1 0 0 h2 [s] 9 #[.val (.ref s)] [] := H5
  have H6 : Hr x b_tmin Z EL1 0 0 h2 [s] 10 #[.val (.ref s)] [.ref s] := H5.aloadN d_tmin_9
  have H7 : Hr x b_tmin Z EL1 0 0 h2 [s] 11 #[.val (.ref s)] [.int (0 : Int32), .ref s] := H6.iconst d_tmin_10
  obtain ⟨h3, W3, H8⟩ := H7.putF (by simp) (w92 hw) (F1.other W2 (Or.inr (Ne.symm n01))) (Es.wr W2) (Or.inl (w93 hw)) (w78 hw) d_tmin_11 (ty := .int)
  have H8 : Hr x b_tmin Z EL1 0 0 h3 [s] 14 #[.val (.ref s)] [] := H8
  have H9 : Hr x b_tmin Z EL1 0 0 h3 [s] 15 #[.val (.ref s)] [.ref s] := H8.aloadN d_tmin_14
  have H10 : Hr x b_tmin Z EL1 0 0 h3 [s] 16 #[.val (.ref s)] [.null, .ref s] := H9.aconstNull d_tmin_15
  obtain ⟨h4, W4, H11⟩ := H10.putF (by simp) (w94 hw) ((F2.other W2 (Or.inr (Ne.symm n02))).other W3 (Or.inr (Ne.symm n12))) ((Es.wr W2).wr W3) (Or.inr ⟨(w95 hw), rfl, rfl⟩) (w78 hw) d_tmin_16 (ty := (.object "java/util/Comparator"))
  have H11 : Hr x b_tmin Z EL1 0 0 h4 [s] 19 #[.val (.ref s)] [] := H11
  exact H11.finN d_tmin_19 rfl (by decide) (by decide) sub0 ⟨rfl, rfl⟩
def b_ntin : Bx := (({ frames := 4, cells := 5, slots := 204, locals := 55 } : Room), (⟨"com/example/afterscore/afterscore/io/NameTable", "<init>", "()V"⟩ : MethodName), prog_4_method_1_code, 1, (Option.none : Option Jvm.ClassFile.FieldType))
theorem ef_ntin (t : Addr) (mI : MethodId) : entryFrame mI #[.ref t] 1 = mkF mI 0 #[.val (.ref t)] [] := by first | (simp [entryFrame, mkF, argsToLocals, Value.category]; done) | rfl
theorem pn_com_example_afterscore_afterscore_io_NameTable : plainName "com/example/afterscore/afterscore/io/NameTable" = true := by first | (simp [plainName, overriddenIn]; done) | decide +kernel
theorem pd_ntin : parseMethodDescriptor "()V" = some ⟨[], none⟩ := by decide +kernel
set_option maxRecDepth 65536 in
set_option maxHeartbeats 4000000 in
theorem ct_ntin {a0 : Array Value} {Z : State} (hw : ∀ d ∈ tables_1, d.before a0 Z = true) (l : Launch) (nar kn : Bool) (hnr : nar = nar) (h0 : Heap) (t : Addr) (Et : Exa Z h0 t "com/example/afterscore/afterscore/io/NameTable") (N0 : Fld Z h0 t "com/example/afterscore/afterscore/io/NameTable" "names" "Ljava/util/List;" (.null)) (N1 : Fld Z h0 t "com/example/afterscore/afterscore/io/NameTable" "apart" "Ljava/util/TreeMap;" (.null)) (N2 : Fld Z h0 t "com/example/afterscore/afterscore/io/NameTable" "slots" "[Ljava/lang/String;" (.null)) (N3 : Fld Z h0 t "com/example/afterscore/afterscore/io/NameTable" "hashes" "[I" (.null)) (N4 : Fld Z h0 t "com/example/afterscore/afterscore/io/NameTable" "indexes" "[I" (.null)) (N5 : Fld Z h0 t "com/example/afterscore/afterscore/io/NameTable" "taken" "I" (.int 0)) (D : Addr) (SDf : Sta Z Z.heap "java/util/ArrayList" "DEFAULTCAPACITY_EMPTY_ELEMENTDATA" "[Ljava/lang/Object;" (.ref D)) (FD : Ar Z Z.heap D (.object "java/lang/Object") []) :
    Ct l Z EL1 (⟨"com/example/afterscore/afterscore/io/NameTable", "<init>", "()V"⟩ : MethodName) prog_4_method_1_code 1 (Option.none : Option Jvm.ClassFile.FieldType) ({ frames := 4, cells := 5, slots := 204, locals := 55 } : Room) #[.ref t] h0 [t] nar kn (fun v h sn => ∃ L sl hs ix, v = none ∧ sn = [L, sl, hs, ix] ∧ h0.size ≤ L ∧ h0.size ≤ sl ∧ h0.size ≤ hs ∧ h0.size ≤ ix ∧ hs ≠ ix ∧ NTS Z h t L sl hs ix 0 [] [] ∧ ALP Z h D L D [] []) := by
  refine Ct.intro (plainFor_of_name pn_com_example_afterscore_afterscore_io_NameTable) (ew hw) (ef_ntin t) ?_
  intro x hl hn0 hkn hsf hh H0
  have hnar : x.nar = x.nar := rfl
  have H0 : Hr x b_ntin Z EL1 0 0 h0 [t] 0 #[.val (.ref t)] [] := H0
  have m01 := slot_ne (a0 := a0) (C := "com/example/afterscore/afterscore/io/NameTable") (O := "com/example/afterscore/afterscore/io/NameTable") (O' := "com/example/afterscore/afterscore/io/NameTable") (n := "names") (n' := "apart") (Or.inr (w76 hw)) (Or.inr (w97 hw)) (by decide) (t := .object "java/util/List") (t' := .object "java/util/TreeMap") (by decide) (by decide)
  have m02 := slot_ne (a0 := a0) (C := "com/example/afterscore/afterscore/io/NameTable") (O := "com/example/afterscore/afterscore/io/NameTable") (O' := "com/example/afterscore/afterscore/io/NameTable") (n := "names") (n' := "slots") (Or.inr (w76 hw)) (Or.inl (w101 hw)) (by decide) (t := .object "java/util/List") (t' := .array (.object "java/lang/String")) (by decide) (by decide)
  have m03 := slot_ne (a0 := a0) (C := "com/example/afterscore/afterscore/io/NameTable") (O := "com/example/afterscore/afterscore/io/NameTable") (O' := "com/example/afterscore/afterscore/io/NameTable") (n := "names") (n' := "hashes") (Or.inr (w76 hw)) (Or.inl (w104 hw)) (by decide) (t := .object "java/util/List") (t' := .array .int) (by decide) (by decide)
  have m04 := slot_ne (a0 := a0) (C := "com/example/afterscore/afterscore/io/NameTable") (O := "com/example/afterscore/afterscore/io/NameTable") (O' := "com/example/afterscore/afterscore/io/NameTable") (n := "names") (n' := "indexes") (Or.inr (w76 hw)) (Or.inl (w106 hw)) (by decide) (t := .object "java/util/List") (t' := .array .int) (by decide) (by decide)
  have m05 := slot_ne (a0 := a0) (C := "com/example/afterscore/afterscore/io/NameTable") (O := "com/example/afterscore/afterscore/io/NameTable") (O' := "com/example/afterscore/afterscore/io/NameTable") (n := "names") (n' := "taken") (Or.inr (w76 hw)) (Or.inl (w192 hw)) (by decide) (t := .object "java/util/List") (t' := .int) (by decide) (by decide)
  have m12 := slot_ne (a0 := a0) (C := "com/example/afterscore/afterscore/io/NameTable") (O := "com/example/afterscore/afterscore/io/NameTable") (O' := "com/example/afterscore/afterscore/io/NameTable") (n := "apart") (n' := "slots") (Or.inr (w97 hw)) (Or.inl (w101 hw)) (by decide) (t := .object "java/util/TreeMap") (t' := .array (.object "java/lang/String")) (by decide) (by decide)
  have m13 := slot_ne (a0 := a0) (C := "com/example/afterscore/afterscore/io/NameTable") (O := "com/example/afterscore/afterscore/io/NameTable") (O' := "com/example/afterscore/afterscore/io/NameTable") (n := "apart") (n' := "hashes") (Or.inr (w97 hw)) (Or.inl (w104 hw)) (by decide) (t := .object "java/util/TreeMap") (t' := .array .int) (by decide) (by decide)
  have m14 := slot_ne (a0 := a0) (C := "com/example/afterscore/afterscore/io/NameTable") (O := "com/example/afterscore/afterscore/io/NameTable") (O' := "com/example/afterscore/afterscore/io/NameTable") (n := "apart") (n' := "indexes") (Or.inr (w97 hw)) (Or.inl (w106 hw)) (by decide) (t := .object "java/util/TreeMap") (t' := .array .int) (by decide) (by decide)
  have m15 := slot_ne (a0 := a0) (C := "com/example/afterscore/afterscore/io/NameTable") (O := "com/example/afterscore/afterscore/io/NameTable") (O' := "com/example/afterscore/afterscore/io/NameTable") (n := "apart") (n' := "taken") (Or.inr (w97 hw)) (Or.inl (w192 hw)) (by decide) (t := .object "java/util/TreeMap") (t' := .int) (by decide) (by decide)
  have m23 := slot_ne (a0 := a0) (C := "com/example/afterscore/afterscore/io/NameTable") (O := "com/example/afterscore/afterscore/io/NameTable") (O' := "com/example/afterscore/afterscore/io/NameTable") (n := "slots") (n' := "hashes") (Or.inl (w101 hw)) (Or.inl (w104 hw)) (by decide) (t := .array (.object "java/lang/String")) (t' := .array .int) (by decide) (by decide)
  have m24 := slot_ne (a0 := a0) (C := "com/example/afterscore/afterscore/io/NameTable") (O := "com/example/afterscore/afterscore/io/NameTable") (O' := "com/example/afterscore/afterscore/io/NameTable") (n := "slots") (n' := "indexes") (Or.inl (w101 hw)) (Or.inl (w106 hw)) (by decide) (t := .array (.object "java/lang/String")) (t' := .array .int) (by decide) (by decide)
  have m25 := slot_ne (a0 := a0) (C := "com/example/afterscore/afterscore/io/NameTable") (O := "com/example/afterscore/afterscore/io/NameTable") (O' := "com/example/afterscore/afterscore/io/NameTable") (n := "slots") (n' := "taken") (Or.inl (w101 hw)) (Or.inl (w192 hw)) (by decide) (t := .array (.object "java/lang/String")) (t' := .int) (by decide) (by decide)
  have m34 := slot_ne (a0 := a0) (C := "com/example/afterscore/afterscore/io/NameTable") (O := "com/example/afterscore/afterscore/io/NameTable") (O' := "com/example/afterscore/afterscore/io/NameTable") (n := "hashes") (n' := "indexes") (Or.inl (w104 hw)) (Or.inl (w106 hw)) (by decide) (t := .array .int) (t' := .array .int) (by decide) (by decide)
  have m35 := slot_ne (a0 := a0) (C := "com/example/afterscore/afterscore/io/NameTable") (O := "com/example/afterscore/afterscore/io/NameTable") (O' := "com/example/afterscore/afterscore/io/NameTable") (n := "hashes") (n' := "taken") (Or.inl (w104 hw)) (Or.inl (w192 hw)) (by decide) (t := .array .int) (t' := .int) (by decide) (by decide)
  have m45 := slot_ne (a0 := a0) (C := "com/example/afterscore/afterscore/io/NameTable") (O := "com/example/afterscore/afterscore/io/NameTable") (O' := "com/example/afterscore/afterscore/io/NameTable") (n := "indexes") (n' := "taken") (Or.inl (w106 hw)) (Or.inl (w192 hw)) (by decide) (t := .array .int) (t' := .int) (by decide) (by decide)
  have ht := exa_lt Et
  have H1 : Hr x b_ntin Z EL1 0 0 h0 [t] 1 #[.val (.ref t)] [.ref t] := H0.aloadN d_ntin_0
  have H2 : Hr x b_ntin Z EL1 0 0 h0 [t] 4 #[.val (.ref t)] [] := H1.initO (Wr := 0) (w50 hw) (w20 hw) (w21 hw) d_ntin_1 (hf := by first | decide | (simp [b_ntin, Bx.R]; done) | (simp [b_ntin, Bx.R]; omega)) (hl := by first | decide | (simp [b_ntin, Bx.R]; done) | (simp [b_ntin, Bx.R]; omega))
  have H3 : Hr x b_ntin Z EL1 0 0 h0 [t] 5 #[.val (.ref t)] [.ref t] := H2.aloadN d_ntin_4
  obtain ⟨h1, E1, ⟨X1, D1, U1⟩, H4⟩ := H3.new (w51 hw) (w52 hw) (w53 hw) d_ntin_5 (by first | decide | (simp [b_ntin, Bx.R]; done) | (simp [b_ntin, Bx.R]; omega)) (by first | decide | (simp [b_ntin, Bx.R]; done) | (simp [b_ntin, Bx.R]; omega))
  obtain ⟨L, g_L⟩ : ∃ z, z = h0.size := ⟨_, rfl⟩
  rw [← g_L] at X1 D1 U1 H4
  have H4 : Hr x b_ntin Z EL1 1 3 h1 [L, t] 8 #[.val (.ref t)] [.ref L, .ref t] := H4
  have H5 : Hr x b_ntin Z EL1 1 3 h1 [L, t] 9 #[.val (.ref t)] [.ref L, .ref L, .ref t] := H4.dup d_ntin_8
  have A0 : ALF Z h1 L .null 0 0 := ⟨X1, D1 (Or.inl (w74 hw)) (ty := .array (.object "java/lang/Object")) (by decide), D1 (Or.inl (w122 hw)) (ty := .int) (by decide), D1 (Or.inl (w71 hw)) (ty := .int) (by decide)⟩
  obtain ⟨_, h2, _, ⟨rfl, rfl, A2⟩, K2, H6⟩ := H5.callI (argsL := []) (rest := [.ref L, .ref t]) (Wr := 2) (a := L) (ct_arin hw x.l x.nar x.kn hnar h1 L A0 D SDf FD) (sub1 (by simp)) (w54 hw) (w55 hw) (w53 hw) (w56 hw) d_ntin_9 pd_arin rfl (hf := by first | decide | (simp [b_ntin, Bx.R]; done) | (simp [b_ntin, Bx.R]; omega)) (hl := by first | decide | (simp [b_ntin, Bx.R]; done) | (simp [b_ntin, Bx.R]; omega)) (hc := by first | decide | (simp [b_ntin, Bx.R]; done) | (simp [b_ntin, Bx.R]; omega)) (hs := by first | decide | (simp [b_ntin, Bx.R]; done) | (simp [b_ntin, Bx.R]; omega))
  have H6 : Hr x b_ntin Z EL1 1 3 h2 [L, t] 12 #[.val (.ref t)] [.ref L, .ref t] := H6
  have ntL : t ∉ [L] := ninS (neN (by omega)) nin0
  have Xt : Exa Z h2 t "com/example/afterscore/afterscore/io/NameTable" := ((Et.ext E1).keep K2)
  have M0 : Fld Z h2 t "com/example/afterscore/afterscore/io/NameTable" "names" "Ljava/util/List;" (.null) := ((N0.ext E1).keep K2 ntL)
  have M1 : Fld Z h2 t "com/example/afterscore/afterscore/io/NameTable" "apart" "Ljava/util/TreeMap;" (.null) := ((N1.ext E1).keep K2 ntL)
  have M2 : Fld Z h2 t "com/example/afterscore/afterscore/io/NameTable" "slots" "[Ljava/lang/String;" (.null) := ((N2.ext E1).keep K2 ntL)
  have M3 : Fld Z h2 t "com/example/afterscore/afterscore/io/NameTable" "hashes" "[I" (.null) := ((N3.ext E1).keep K2 ntL)
  have M4 : Fld Z h2 t "com/example/afterscore/afterscore/io/NameTable" "indexes" "[I" (.null) := ((N4.ext E1).keep K2 ntL)
  have M5 : Fld Z h2 t "com/example/afterscore/afterscore/io/NameTable" "taken" "I" (.int 0) := ((N5.ext E1).keep K2 ntL)
  obtain ⟨h3, W3, H7⟩ := H6.putF (by simp) (w75 hw) M0 Xt (Or.inr ⟨(w76 hw), rfl, rfl⟩) (w45 hw) d_ntin_12 (ty := (.object "java/util/List"))
  have H7 : Hr x b_ntin Z EL1 1 3 h3 [L, t] 15 #[.val (.ref t)] [] := H7
  have Xt : Exa Z h3 t "com/example/afterscore/afterscore/io/NameTable" := (Xt.wr W3)
  have M0 : Fld Z h3 t "com/example/afterscore/afterscore/io/NameTable" "names" "Ljava/util/List;" (.ref L) := (Fld.same W3 M0)
  have M1 : Fld Z h3 t "com/example/afterscore/afterscore/io/NameTable" "apart" "Ljava/util/TreeMap;" (.null) := (M1.other W3 (Or.inr (Ne.symm m01)))
  have M2 : Fld Z h3 t "com/example/afterscore/afterscore/io/NameTable" "slots" "[Ljava/lang/String;" (.null) := (M2.other W3 (Or.inr (Ne.symm m02)))
  have M3 : Fld Z h3 t "com/example/afterscore/afterscore/io/NameTable" "hashes" "[I" (.null) := (M3.other W3 (Or.inr (Ne.symm m03)))
  have M4 : Fld Z h3 t "com/example/afterscore/afterscore/io/NameTable" "indexes" "[I" (.null) := (M4.other W3 (Or.inr (Ne.symm m04)))
  have M5 : Fld Z h3 t "com/example/afterscore/afterscore/io/NameTable" "taken" "I" (.int 0) := (M5.other W3 (Or.inr (Ne.symm m05)))
  have A3 : ALF Z h3 L (.ref D) 0 0 := ⟨A2.1.wr W3, A2.2.1.other W3 (Or.inl (neN (by omega))), A2.2.2.1.other W3 (Or.inl (neN (by omega))), A2.2.2.2.other W3 (Or.inl (neN (by omega)))⟩
  have H8 : Hr x b_ntin Z EL1 1 3 h3 [L, t] 16 #[.val (.ref t)] [.ref t] := H7.aloadN d_ntin_15
  obtain ⟨h4, E4, ⟨X4, D4, U4⟩, H9⟩ := H8.new (w77 hw) (w78 hw) (w79 hw) d_ntin_16 (by first | decide | (simp [b_ntin, Bx.R]; done) | (simp [b_ntin, Bx.R]; omega)) (by first | decide | (simp [b_ntin, Bx.R]; done) | (simp [b_ntin, Bx.R]; omega))
  obtain ⟨tm, g_tm⟩ : ∃ z, z = h3.size := ⟨_, rfl⟩
  rw [← g_tm] at X4 D4 U4 H9
  have H9 : Hr x b_ntin Z EL1 2 12 h4 [tm, L, t] 19 #[.val (.ref t)] [.ref tm, .ref t] := H9
  have H10 : Hr x b_ntin Z EL1 2 12 h4 [tm, L, t] 20 #[.val (.ref t)] [.ref tm, .ref tm, .ref t] := H9.dup d_ntin_19
  have s2 := E1.1
  have s3 := K2.1
  have s4 : h3.size = h2.size := W3.size
  obtain ⟨_, h5, _, ⟨rfl, rfl⟩, K5, H11⟩ := H10.callI (argsL := []) (rest := [.ref tm, .ref t]) (Wr := 2) (a := tm) (ct_tmin hw x.l x.nar x.kn hnar h4 tm X4 (D4 (Or.inl (w91 hw)) (ty := .int) (by decide)) (D4 (Or.inl (w93 hw)) (ty := .int) (by decide)) (D4 (Or.inr (w95 hw)) (ty := .object "java/util/Comparator") (by decide))) (sub1 (by simp)) (w80 hw) (w81 hw) (w79 hw) (w82 hw) d_ntin_20 pd_tmin rfl (hf := by first | decide | (simp [b_ntin, Bx.R]; done) | (simp [b_ntin, Bx.R]; omega)) (hl := by first | decide | (simp [b_ntin, Bx.R]; done) | (simp [b_ntin, Bx.R]; omega)) (hc := by first | decide | (simp [b_ntin, Bx.R]; done) | (simp [b_ntin, Bx.R]; omega)) (hs := by first | decide | (simp [b_ntin, Bx.R]; done) | (simp [b_ntin, Bx.R]; omega))
  have H11 : Hr x b_ntin Z EL1 2 12 h5 [tm, L, t] 23 #[.val (.ref t)] [.ref tm, .ref t] := H11
  have ntm : t ∉ [tm] := ninS (neN (by omega)) nin0
  have nLm : L ∉ [tm] := ninS (neN (by have := exa_lt A3.1; omega)) nin0
  have Xt : Exa Z h5 t "com/example/afterscore/afterscore/io/NameTable" := ((Xt.ext E4).keep K5)
  have M0 : Fld Z h5 t "com/example/afterscore/afterscore/io/NameTable" "names" "Ljava/util/List;" (.ref L) := ((M0.ext E4).keep K5 ntm)
  have M1 : Fld Z h5 t "com/example/afterscore/afterscore/io/NameTable" "apart" "Ljava/util/TreeMap;" (.null) := ((M1.ext E4).keep K5 ntm)
  have M2 : Fld Z h5 t "com/example/afterscore/afterscore/io/NameTable" "slots" "[Ljava/lang/String;" (.null) := ((M2.ext E4).keep K5 ntm)
  have M3 : Fld Z h5 t "com/example/afterscore/afterscore/io/NameTable" "hashes" "[I" (.null) := ((M3.ext E4).keep K5 ntm)
  have M4 : Fld Z h5 t "com/example/afterscore/afterscore/io/NameTable" "indexes" "[I" (.null) := ((M4.ext E4).keep K5 ntm)
  have M5 : Fld Z h5 t "com/example/afterscore/afterscore/io/NameTable" "taken" "I" (.int 0) := ((M5.ext E4).keep K5 ntm)
  have A5 : ALF Z h5 L (.ref D) 0 0 := ⟨(A3.1.ext E4).keep K5, (A3.2.1.ext E4).keep K5 nLm, (A3.2.2.1.ext E4).keep K5 nLm, (A3.2.2.2.ext E4).keep K5 nLm⟩
  obtain ⟨h6, W6, H12⟩ := H11.putF (by simp) (w96 hw) M1 Xt (Or.inr ⟨(w97 hw), rfl, rfl⟩) (w45 hw) d_ntin_23 (ty := (.object "java/util/TreeMap"))
  have H12 : Hr x b_ntin Z EL1 2 12 h6 [tm, L, t] 26 #[.val (.ref t)] [] := H12
  have Xt : Exa Z h6 t "com/example/afterscore/afterscore/io/NameTable" := (Xt.wr W6)
  have M0 : Fld Z h6 t "com/example/afterscore/afterscore/io/NameTable" "names" "Ljava/util/List;" (.ref L) := (M0.other W6 (Or.inr m01))
  have M1 : Fld Z h6 t "com/example/afterscore/afterscore/io/NameTable" "apart" "Ljava/util/TreeMap;" (.ref tm) := (Fld.same W6 M1)
  have M2 : Fld Z h6 t "com/example/afterscore/afterscore/io/NameTable" "slots" "[Ljava/lang/String;" (.null) := (M2.other W6 (Or.inr (Ne.symm m12)))
  have M3 : Fld Z h6 t "com/example/afterscore/afterscore/io/NameTable" "hashes" "[I" (.null) := (M3.other W6 (Or.inr (Ne.symm m13)))
  have M4 : Fld Z h6 t "com/example/afterscore/afterscore/io/NameTable" "indexes" "[I" (.null) := (M4.other W6 (Or.inr (Ne.symm m14)))
  have M5 : Fld Z h6 t "com/example/afterscore/afterscore/io/NameTable" "taken" "I" (.int 0) := (M5.other W6 (Or.inr (Ne.symm m15)))
  have A6 : ALF Z h6 L (.ref D) 0 0 := ⟨A5.1.wr W6, A5.2.1.other W6 (Or.inl (neN (by omega))), A5.2.2.1.other W6 (Or.inl (neN (by omega))), A5.2.2.2.other W6 (Or.inl (neN (by omega)))⟩
  have H13 : Hr x b_ntin Z EL1 2 12 h6 [tm, L, t] 27 #[.val (.ref t)] [.ref t] := H12.aloadN d_ntin_26
  have H14 : Hr x b_ntin Z EL1 2 12 h6 [tm, L, t] 29 #[.val (.ref t)] [.int (64 : Int32), .ref t] := H13.bipush d_ntin_27
  obtain ⟨h7, E7, G7, H15⟩ := H14.anewarray (cap := 64) (C := "java/lang/String") (w98 hw) (w99 hw) d_ntin_29 (by decide) (by decide) (by decide) (by first | decide | (simp [b_ntin, Bx.R]; done) | (simp [b_ntin, Bx.R]; omega)) (by first | decide | (simp [b_ntin, Bx.R]; done) | (simp [b_ntin, Bx.R]; omega))
  obtain ⟨sl, g_sl⟩ : ∃ z, z = h6.size := ⟨_, rfl⟩
  rw [← g_sl] at G7 H15
  have G7 : Arf Z h7 sl "java/lang/String" (List.replicate 64 .null) := G7
  have H15 : Hr x b_ntin Z EL1 3 76 h7 [sl, tm, L, t] 32 #[.val (.ref t)] [.ref sl, .ref t] := H15
  have s5 := E4.1
  have s6 := K5.1
  have s7 : h6.size = h5.size := W6.size
  have s8 := E7.1
  have Xt : Exa Z h7 t "com/example/afterscore/afterscore/io/NameTable" := (Xt.ext E7)
  have M0 : Fld Z h7 t "com/example/afterscore/afterscore/io/NameTable" "names" "Ljava/util/List;" (.ref L) := (M0.ext E7)
  have M1 : Fld Z h7 t "com/example/afterscore/afterscore/io/NameTable" "apart" "Ljava/util/TreeMap;" (.ref tm) := (M1.ext E7)
  have M2 : Fld Z h7 t "com/example/afterscore/afterscore/io/NameTable" "slots" "[Ljava/lang/String;" (.null) := (M2.ext E7)
  have M3 : Fld Z h7 t "com/example/afterscore/afterscore/io/NameTable" "hashes" "[I" (.null) := (M3.ext E7)
  have M4 : Fld Z h7 t "com/example/afterscore/afterscore/io/NameTable" "indexes" "[I" (.null) := (M4.ext E7)
  have M5 : Fld Z h7 t "com/example/afterscore/afterscore/io/NameTable" "taken" "I" (.int 0) := (M5.ext E7)
  obtain ⟨h8, W8, H16⟩ := H15.putF (by simp) (w100 hw) M2 Xt (Or.inl (w101 hw)) (w45 hw) d_ntin_32 (ty := (.array (.object "java/lang/String")))
  have H16 : Hr x b_ntin Z EL1 3 76 h8 [sl, tm, L, t] 35 #[.val (.ref t)] [] := H16
  have Xt : Exa Z h8 t "com/example/afterscore/afterscore/io/NameTable" := (Xt.wr W8)
  have M0 : Fld Z h8 t "com/example/afterscore/afterscore/io/NameTable" "names" "Ljava/util/List;" (.ref L) := (M0.other W8 (Or.inr m02))
  have M1 : Fld Z h8 t "com/example/afterscore/afterscore/io/NameTable" "apart" "Ljava/util/TreeMap;" (.ref tm) := (M1.other W8 (Or.inr m12))
  have M2 : Fld Z h8 t "com/example/afterscore/afterscore/io/NameTable" "slots" "[Ljava/lang/String;" (.ref sl) := (Fld.same W8 M2)
  have M3 : Fld Z h8 t "com/example/afterscore/afterscore/io/NameTable" "hashes" "[I" (.null) := (M3.other W8 (Or.inr (Ne.symm m23)))
  have M4 : Fld Z h8 t "com/example/afterscore/afterscore/io/NameTable" "indexes" "[I" (.null) := (M4.other W8 (Or.inr (Ne.symm m24)))
  have M5 : Fld Z h8 t "com/example/afterscore/afterscore/io/NameTable" "taken" "I" (.int 0) := (M5.other W8 (Or.inr (Ne.symm m25)))
  have G8 := G7.other W8 (neN (by omega))
  have s9 : h8.size = h7.size := W8.size
  have H17 : Hr x b_ntin Z EL1 3 76 h8 [sl, tm, L, t] 36 #[.val (.ref t)] [.ref t] := H16.aloadN d_ntin_35
  have H18 : Hr x b_ntin Z EL1 3 76 h8 [sl, tm, L, t] 38 #[.val (.ref t)] [.int (64 : Int32), .ref t] := H17.bipush d_ntin_36
  obtain ⟨h9, E9, J9, H19⟩ := H18.newarray (aty := .int) (cap := 64) (w102 hw) d_ntin_38 (by decide) (by decide) (by decide) (by first | decide | (simp [b_ntin, Bx.R]; done) | (simp [b_ntin, Bx.R]; omega)) (by first | decide | (simp [b_ntin, Bx.R]; done) | (simp [b_ntin, Bx.R]; omega))
  obtain ⟨hs, g_hs⟩ : ∃ z, z = h8.size := ⟨_, rfl⟩
  rw [← g_hs] at J9 H19
  have J9 : Ar Z h9 hs .int (List.replicate 64 (.int 0)) := J9
  have H19 : Hr x b_ntin Z EL1 4 140 h9 [hs, sl, tm, L, t] 40 #[.val (.ref t)] [.ref hs, .ref t] := H19
  have s10 := E9.1
  have Xt : Exa Z h9 t "com/example/afterscore/afterscore/io/NameTable" := (Xt.ext E9)
  have M0 : Fld Z h9 t "com/example/afterscore/afterscore/io/NameTable" "names" "Ljava/util/List;" (.ref L) := (M0.ext E9)
  have M1 : Fld Z h9 t "com/example/afterscore/afterscore/io/NameTable" "apart" "Ljava/util/TreeMap;" (.ref tm) := (M1.ext E9)
  have M2 : Fld Z h9 t "com/example/afterscore/afterscore/io/NameTable" "slots" "[Ljava/lang/String;" (.ref sl) := (M2.ext E9)
  have M3 : Fld Z h9 t "com/example/afterscore/afterscore/io/NameTable" "hashes" "[I" (.null) := (M3.ext E9)
  have M4 : Fld Z h9 t "com/example/afterscore/afterscore/io/NameTable" "indexes" "[I" (.null) := (M4.ext E9)
  have M5 : Fld Z h9 t "com/example/afterscore/afterscore/io/NameTable" "taken" "I" (.int 0) := (M5.ext E9)
  obtain ⟨h10, W10, H20⟩ := H19.putF (by simp) (w103 hw) M3 Xt (Or.inl (w104 hw)) (w45 hw) d_ntin_40 (ty := (.array .int))
  have H20 : Hr x b_ntin Z EL1 4 140 h10 [hs, sl, tm, L, t] 43 #[.val (.ref t)] [] := H20
  have Xt : Exa Z h10 t "com/example/afterscore/afterscore/io/NameTable" := (Xt.wr W10)
  have M0 : Fld Z h10 t "com/example/afterscore/afterscore/io/NameTable" "names" "Ljava/util/List;" (.ref L) := (M0.other W10 (Or.inr m03))
  have M1 : Fld Z h10 t "com/example/afterscore/afterscore/io/NameTable" "apart" "Ljava/util/TreeMap;" (.ref tm) := (M1.other W10 (Or.inr m13))
  have M2 : Fld Z h10 t "com/example/afterscore/afterscore/io/NameTable" "slots" "[Ljava/lang/String;" (.ref sl) := (M2.other W10 (Or.inr m23))
  have M3 : Fld Z h10 t "com/example/afterscore/afterscore/io/NameTable" "hashes" "[I" (.ref hs) := (Fld.same W10 M3)
  have M4 : Fld Z h10 t "com/example/afterscore/afterscore/io/NameTable" "indexes" "[I" (.null) := (M4.other W10 (Or.inr (Ne.symm m34)))
  have M5 : Fld Z h10 t "com/example/afterscore/afterscore/io/NameTable" "taken" "I" (.int 0) := (M5.other W10 (Or.inr (Ne.symm m35)))
  have J10 := J9.other W10 (neN (by omega))
  have G10 := (G8.ext E9).other W10 (neN (by omega))
  have s11 : h10.size = h9.size := W10.size
  have lh := J9.lt
  have H21 : Hr x b_ntin Z EL1 4 140 h10 [hs, sl, tm, L, t] 44 #[.val (.ref t)] [.ref t] := H20.aloadN d_ntin_43
  have H22 : Hr x b_ntin Z EL1 4 140 h10 [hs, sl, tm, L, t] 46 #[.val (.ref t)] [.int (64 : Int32), .ref t] := H21.bipush d_ntin_44
  obtain ⟨h11, E11, I11, H23⟩ := H22.newarray (aty := .int) (cap := 64) (w102 hw) d_ntin_46 (by decide) (by decide) (by decide) (by first | decide | (simp [b_ntin, Bx.R]; done) | (simp [b_ntin, Bx.R]; omega)) (by first | decide | (simp [b_ntin, Bx.R]; done) | (simp [b_ntin, Bx.R]; omega))
  obtain ⟨ix, g_ix⟩ : ∃ z, z = h10.size := ⟨_, rfl⟩
  rw [← g_ix] at I11 H23
  have I11 : Ar Z h11 ix .int (List.replicate 64 (.int 0)) := I11
  have H23 : Hr x b_ntin Z EL1 5 204 h11 [ix, hs, sl, tm, L, t] 48 #[.val (.ref t)] [.ref ix, .ref t] := H23
  have Xt : Exa Z h11 t "com/example/afterscore/afterscore/io/NameTable" := (Xt.ext E11)
  have M0 : Fld Z h11 t "com/example/afterscore/afterscore/io/NameTable" "names" "Ljava/util/List;" (.ref L) := (M0.ext E11)
  have M1 : Fld Z h11 t "com/example/afterscore/afterscore/io/NameTable" "apart" "Ljava/util/TreeMap;" (.ref tm) := (M1.ext E11)
  have M2 : Fld Z h11 t "com/example/afterscore/afterscore/io/NameTable" "slots" "[Ljava/lang/String;" (.ref sl) := (M2.ext E11)
  have M3 : Fld Z h11 t "com/example/afterscore/afterscore/io/NameTable" "hashes" "[I" (.ref hs) := (M3.ext E11)
  have M4 : Fld Z h11 t "com/example/afterscore/afterscore/io/NameTable" "indexes" "[I" (.null) := (M4.ext E11)
  have M5 : Fld Z h11 t "com/example/afterscore/afterscore/io/NameTable" "taken" "I" (.int 0) := (M5.ext E11)
  obtain ⟨h12, W12, H24⟩ := H23.putF (by simp) (w105 hw) M4 Xt (Or.inl (w106 hw)) (w45 hw) d_ntin_48 (ty := (.array .int))
  have H24 : Hr x b_ntin Z EL1 5 204 h12 [ix, hs, sl, tm, L, t] 51 #[.val (.ref t)] [] := H24
  have Xt : Exa Z h12 t "com/example/afterscore/afterscore/io/NameTable" := (Xt.wr W12)
  have M0 : Fld Z h12 t "com/example/afterscore/afterscore/io/NameTable" "names" "Ljava/util/List;" (.ref L) := (M0.other W12 (Or.inr m04))
  have M1 : Fld Z h12 t "com/example/afterscore/afterscore/io/NameTable" "apart" "Ljava/util/TreeMap;" (.ref tm) := (M1.other W12 (Or.inr m14))
  have M2 : Fld Z h12 t "com/example/afterscore/afterscore/io/NameTable" "slots" "[Ljava/lang/String;" (.ref sl) := (M2.other W12 (Or.inr m24))
  have M3 : Fld Z h12 t "com/example/afterscore/afterscore/io/NameTable" "hashes" "[I" (.ref hs) := (M3.other W12 (Or.inr m34))
  have M4 : Fld Z h12 t "com/example/afterscore/afterscore/io/NameTable" "indexes" "[I" (.ref ix) := (Fld.same W12 M4)
  have M5 : Fld Z h12 t "com/example/afterscore/afterscore/io/NameTable" "taken" "I" (.int 0) := (M5.other W12 (Or.inr (Ne.symm m45)))
  have I12 := I11.other W12 (neN (by omega))
  have J12 := (J10.ext E11).other W12 (neN (by omega))
  have G12 := (G10.ext E11).other W12 (neN (by omega))
  have A12 : ALF Z h12 L (.ref D) 0 0 := ⟨((((((A6.1.ext E7).wr W8).ext E9).wr W10).ext E11).wr W12), ((((((A6.2.1.ext E7).other W8 (Or.inl (neN (by omega)))).ext E9).other W10 (Or.inl (neN (by omega)))).ext E11).other W12 (Or.inl (neN (by omega)))), ((((((A6.2.2.1.ext E7).other W8 (Or.inl (neN (by omega)))).ext E9).other W10 (Or.inl (neN (by omega)))).ext E11).other W12 (Or.inl (neN (by omega)))), ((((((A6.2.2.2.ext E7).other W8 (Or.inl (neN (by omega)))).ext E9).other W10 (Or.inl (neN (by omega)))).ext E11).other W12 (Or.inl (neN (by omega))))⟩
  refine H24.finN d_ntin_51 rfl (by decide) (by decide) (by simp) ⟨L, sl, hs, ix, rfl, rfl, by omega, by omega, by omega, by omega, neN (by omega), ⟨⟨Xt, M0, M2, M3, M4, M5⟩, ⟨_, G12, by simp, fun j v q => Or.inl ?_⟩, ⟨List.replicate 64 0, by simpa using J12, by simp⟩, ⟨List.replicate 64 0, by simpa using I12, by simp⟩⟩, ⟨0, A12⟩, Or.inl ⟨rfl, rfl, rfl⟩⟩
  exact List.eq_of_mem_replicate (List.mem_of_getElem? q)
def b_alsz : Bx := (({ frames := 0, cells := 0, slots := 0, locals := 0 } : Room), (⟨"java/util/ArrayList", "size", "()I"⟩ : MethodName), jdk_38_method_8_code, 1, (Option.some Jvm.ClassFile.FieldType.int))
theorem ef_alsz (L : Addr) (mI : MethodId) : entryFrame mI #[.ref L] 1 = mkF mI 0 #[.val (.ref L)] [] := by first | (simp [entryFrame, mkF, argsToLocals, Value.category]; done) | rfl
theorem pd_alsz : parseMethodDescriptor "()I" = some ⟨[], some .int⟩ := by decide +kernel
set_option maxRecDepth 65536 in
set_option maxHeartbeats 4000000 in
theorem ct_alsz {a0 : Array Value} {Z : State} (hw : ∀ d ∈ tables_1, d.before a0 Z = true) (l : Launch) (nar kn : Bool) (hnr : nar = nar) (h0 : Heap) (D L e : Addr) (eds ys : List Addr) (F : ALP Z h0 D L e eds ys) :
    Ct l Z EL1 (⟨"java/util/ArrayList", "size", "()I"⟩ : MethodName) jdk_38_method_8_code 1 (Option.some Jvm.ClassFile.FieldType.int) ({ frames := 0, cells := 0, slots := 0, locals := 0 } : Room) #[.ref L] h0 [] nar kn (fun v h sn => v = some (.int (Int32.ofNat ys.length)) ∧ sn = [] ∧ h = h0) := by
  refine Ct.intro (plainFor_of_name pn_java_util_ArrayList) (ew hw) (ef_alsz L) ?_
  intro x hl hn0 hkn hsf hh H0
  have hnar : x.nar = x.nar := rfl
  have H0 : Hr x b_alsz Z EL1 0 0 h0 [] 0 #[.val (.ref L)] [] := H0
  obtain ⟨⟨m, F1, F2, F3, F4⟩, F5⟩ := F
  have H1 : Hr x b_alsz Z EL1 0 0 h0 [] 1 #[.val (.ref L)] [.ref L] := H0.aloadN d_alsz_0
  have H2 : Hr x b_alsz Z EL1 0 0 h0 [] 4 #[.val (.ref L)] [.int (Int32.ofNat ys.length)] := H1.getF (w121 hw) F3 d_alsz_1
  exact H2.finI d_alsz_4 ⟨rfl, rfl, rfl⟩ sub0
def b_pcix : Bx := (({ frames := 0, cells := 0, slots := 0, locals := 0 } : Room), (⟨"jdk/internal/util/Preconditions", "checkIndex", "(IILjava/util/function/BiFunction;)I"⟩ : MethodName), jdk_41_method_11_code, 3, (Option.some Jvm.ClassFile.FieldType.int))
theorem ef_pcix (i n : Nat) (mI : MethodId) : entryFrame mI #[.int (Int32.ofNat i), .int (Int32.ofNat n), .null] 3 = mkF mI 0 #[.val (.int (Int32.ofNat i)), .val (.int (Int32.ofNat n)), .val (.null)] [] := by first | (simp [entryFrame, mkF, argsToLocals, Value.category]; done) | rfl
theorem pn_jdk_internal_util_Preconditions : plainName "jdk/internal/util/Preconditions" = true := by first | (simp [plainName, overriddenIn]; done) | decide +kernel
theorem pd_pcix : parseMethodDescriptor "(IILjava/util/function/BiFunction;)I" = some ⟨[.int, .int, (.object "java/util/function/BiFunction")], some .int⟩ := by decide +kernel
set_option maxRecDepth 65536 in
set_option maxHeartbeats 4000000 in
theorem ct_pcix {a0 : Array Value} {Z : State} (hw : ∀ d ∈ tables_1, d.before a0 Z = true) (l : Launch) (nar kn : Bool) (hnr : nar = nar) (h0 : Heap) (i n : Nat) (hi : i < n) (hn : n < 2147483648) :
    Ct l Z EL1 (⟨"jdk/internal/util/Preconditions", "checkIndex", "(IILjava/util/function/BiFunction;)I"⟩ : MethodName) jdk_41_method_11_code 3 (Option.some Jvm.ClassFile.FieldType.int) ({ frames := 0, cells := 0, slots := 0, locals := 0 } : Room) #[.int (Int32.ofNat i), .int (Int32.ofNat n), .null] h0 [] nar kn (fun v h sn => v = some (.int (Int32.ofNat i)) ∧ sn = [] ∧ h = h0) := by
  refine Ct.intro (plainFor_of_name pn_jdk_internal_util_Preconditions) (ew hw) (ef_pcix i n) ?_
  intro x hl hn0 hkn hsf hh H0
  have hnar : x.nar = x.nar := rfl
  have H0 : Hr x b_pcix Z EL1 0 0 h0 [] 0 #[.val (.int (Int32.ofNat i)), .val (.int (Int32.ofNat n)), .val (.null)] [] := H0
  have H1 : Hr x b_pcix Z EL1 0 0 h0 [] 1 #[.val (.int (Int32.ofNat i)), .val (.int (Int32.ofNat n)), .val (.null)] [.int (Int32.ofNat i)] := H0.iloadN d_pcix_0
  have H2 : Hr x b_pcix Z EL1 0 0 h0 [] 4 #[.val (.int (Int32.ofNat i)), .val (.int (Int32.ofNat n)), .val (.null)] [] := H1.ifF d_pcix_1 (XT.i0_lt_f (nn32 (by omega)))
  have H3 : Hr x b_pcix Z EL1 0 0 h0 [] 5 #[.val (.int (Int32.ofNat i)), .val (.int (Int32.ofNat n)), .val (.null)] [.int (Int32.ofNat i)] := H2.iloadN d_pcix_4
  have H4 : Hr x b_pcix Z EL1 0 0 h0 [] 6 #[.val (.int (Int32.ofNat i)), .val (.int (Int32.ofNat n)), .val (.null)] [.int (Int32.ofNat n), .int (Int32.ofNat i)] := H3.iloadN d_pcix_5
  have H5 : Hr x b_pcix Z EL1 0 0 h0 [] 16 #[.val (.int (Int32.ofNat i)), .val (.int (Int32.ofNat n)), .val (.null)] [] := H4.icmpT d_pcix_6 (XT.ii_lt_t (lt_ofNat hi hn))
  have H6 : Hr x b_pcix Z EL1 0 0 h0 [] 17 #[.val (.int (Int32.ofNat i)), .val (.int (Int32.ofNat n)), .val (.null)] [.int (Int32.ofNat i)] := H5.iloadN d_pcix_16
  exact H6.finI d_pcix_17 ⟨rfl, rfl, rfl⟩ sub0
def b_ocix : Bx := (({ frames := 1, cells := 0, slots := 0, locals := 14 } : Room), (⟨"java/util/Objects", "checkIndex", "(II)I"⟩ : MethodName), jdk_31_method_17_code, 2, (Option.some Jvm.ClassFile.FieldType.int))
theorem ef_ocix (i n : Nat) (mI : MethodId) : entryFrame mI #[.int (Int32.ofNat i), .int (Int32.ofNat n)] 2 = mkF mI 0 #[.val (.int (Int32.ofNat i)), .val (.int (Int32.ofNat n))] [] := by first | (simp [entryFrame, mkF, argsToLocals, Value.category]; done) | rfl
theorem pn_java_util_Objects : plainName "java/util/Objects" = true := by first | (simp [plainName, overriddenIn]; done) | decide +kernel
theorem pd_ocix : parseMethodDescriptor "(II)I" = some ⟨[.int, .int], some .int⟩ := by decide +kernel
set_option maxRecDepth 65536 in
set_option maxHeartbeats 4000000 in
theorem ct_ocix {a0 : Array Value} {Z : State} (hw : ∀ d ∈ tables_1, d.before a0 Z = true) (l : Launch) (nar kn : Bool) (hnr : nar = nar) (h0 : Heap) (i n : Nat) (hi : i < n) (hn : n < 2147483648) :
    Ct l Z EL1 (⟨"java/util/Objects", "checkIndex", "(II)I"⟩ : MethodName) jdk_31_method_17_code 2 (Option.some Jvm.ClassFile.FieldType.int) ({ frames := 1, cells := 0, slots := 0, locals := 14 } : Room) #[.int (Int32.ofNat i), .int (Int32.ofNat n)] h0 [] nar kn (fun v h sn => v = some (.int (Int32.ofNat i)) ∧ sn = [] ∧ h = h0) := by
  refine Ct.intro (plainFor_of_name pn_java_util_Objects) (ew hw) (ef_ocix i n) ?_
  intro x hl hn0 hkn hsf hh H0
  have hnar : x.nar = x.nar := rfl
  have H0 : Hr x b_ocix Z EL1 0 0 h0 [] 0 #[.val (.int (Int32.ofNat i)), .val (.int (Int32.ofNat n))] [] := H0
  have H1 : Hr x b_ocix Z EL1 0 0 h0 [] 1 #[.val (.int (Int32.ofNat i)), .val (.int (Int32.ofNat n))] [.int (Int32.ofNat i)] := H0.iloadN d_ocix_0
  have H2 : Hr x b_ocix Z EL1 0 0 h0 [] 2 #[.val (.int (Int32.ofNat i)), .val (.int (Int32.ofNat n))] [.int (Int32.ofNat n), .int (Int32.ofNat i)] := H1.iloadN d_ocix_1
  have H3 : Hr x b_ocix Z EL1 0 0 h0 [] 3 #[.val (.int (Int32.ofNat i)), .val (.int (Int32.ofNat n))] [.null, .int (Int32.ofNat n), .int (Int32.ofNat i)] := H2.aconstNull d_ocix_2
  obtain ⟨_, h1, _, ⟨rfl, rfl, e1⟩, K1, H4⟩ := H3.callS (argsL := [.int (Int32.ofNat i), .int (Int32.ofNat n), .null]) (rest := []) (Wr := 0) (ct_pcix hw x.l x.nar x.kn hnar h0 i n hi hn) sub0 (w232 hw) (w233 hw) (w234 hw) (w235 hw) d_ocix_3 pd_pcix rfl (hf := by first | decide | (simp [b_ocix, Bx.R]; done) | (simp [b_ocix, Bx.R]; omega)) (hl := by first | decide | (simp [b_ocix, Bx.R]; done) | (simp [b_ocix, Bx.R]; omega)) (hc := by first | decide | (simp [b_ocix, Bx.R]; done) | (simp [b_ocix, Bx.R]; omega)) (hs := by first | decide | (simp [b_ocix, Bx.R]; done) | (simp [b_ocix, Bx.R]; omega))
  rw [e1] at H4
  have H4 : Hr x b_ocix Z EL1 0 0 h0 [] 6 #[.val (.int (Int32.ofNat i)), .val (.int (Int32.ofNat n))] [.int (Int32.ofNat i)] := H4
  exact H4.finI d_ocix_6 ⟨rfl, rfl, rfl⟩ sub0
def b_aled : Bx := (({ frames := 0, cells := 0, slots := 0, locals := 0 } : Room), (⟨"java/util/ArrayList", "elementData", "(I)Ljava/lang/Object;"⟩ : MethodName), jdk_38_method_18_code, 2, (Option.some (Jvm.ClassFile.FieldType.object "java/lang/Object")))
theorem ef_aled (L : Addr) (i : Nat) (mI : MethodId) : entryFrame mI #[.ref L, .int (Int32.ofNat i)] 2 = mkF mI 0 #[.val (.ref L), .val (.int (Int32.ofNat i))] [] := by first | (simp [entryFrame, mkF, argsToLocals, Value.category]; done) | rfl
theorem pd_aled : parseMethodDescriptor "(I)Ljava/lang/Object;" = some ⟨[.int], some (.object "java/lang/Object")⟩ := by decide +kernel
set_option maxRecDepth 65536 in
set_option maxHeartbeats 4000000 in
theorem ct_aled {a0 : Array Value} {Z : State} (hw : ∀ d ∈ tables_1, d.before a0 Z = true) (l : Launch) (nar kn : Bool) (hnr : nar = nar) (h0 : Heap) (D L e : Addr) (eds ys : List Addr) (F : ALP Z h0 D L e eds ys) (i : Nat) (hi : i < ys.length) (hk : ys.length ≤ 3) :
    Ct l Z EL1 (⟨"java/util/ArrayList", "elementData", "(I)Ljava/lang/Object;"⟩ : MethodName) jdk_38_method_18_code 2 (Option.some (Jvm.ClassFile.FieldType.object "java/lang/Object")) ({ frames := 0, cells := 0, slots := 0, locals := 0 } : Room) #[.ref L, .int (Int32.ofNat i)] h0 [] nar kn (fun v h sn => v = some (.ref ys[i]) ∧ sn = [] ∧ h = h0) := by
  refine Ct.intro (plainFor_of_name pn_java_util_ArrayList) (ew hw) (ef_aled L i) ?_
  intro x hl hn0 hkn hsf hh H0
  have hnar : x.nar = x.nar := rfl
  have H0 : Hr x b_aled Z EL1 0 0 h0 [] 0 #[.val (.ref L), .val (.int (Int32.ofNat i))] [] := H0
  obtain ⟨⟨m, F1, F2, F3, F4⟩, F5⟩ := F
  have F6 : Arf Z h0 e OBJ (ys.map Value.ref ++ List.replicate (10 - ys.length) Value.null) := F5.elim (fun q => by rw [q.1] at hi; exact absurd hi (by simp)) (fun q => q.2.2)
  have H1 : Hr x b_aled Z EL1 0 0 h0 [] 1 #[.val (.ref L), .val (.int (Int32.ofNat i))] [.ref L] := H0.aloadN d_aled_0
  have H2 : Hr x b_aled Z EL1 0 0 h0 [] 4 #[.val (.ref L), .val (.int (Int32.ofNat i))] [.ref e] := H1.getF (w73 hw) F2 d_aled_1
  have H3 : Hr x b_aled Z EL1 0 0 h0 [] 5 #[.val (.ref L), .val (.int (Int32.ofNat i))] [.int (Int32.ofNat i), .ref e] := H2.iloadN d_aled_4
  have H4 : Hr x b_aled Z EL1 0 0 h0 [] 6 #[.val (.ref L), .val (.int (Int32.ofNat i))] [.ref (ys[i])] := H3.aaload F6.ar d_aled_5 (i := i) rfl (by rw [List.getElem?_append_left (by simpa using hi)]; simp [hi])
  exact H4.finA d_aled_6 ⟨rfl, rfl, rfl⟩ sub0
def b_alge : Bx := (({ frames := 2, cells := 0, slots := 0, locals := 27 } : Room), (⟨"java/util/ArrayList", "get", "(I)Ljava/lang/Object;"⟩ : MethodName), jdk_38_method_20_code, 2, (Option.some (Jvm.ClassFile.FieldType.object "java/lang/Object")))
theorem ef_alge (L : Addr) (i : Nat) (mI : MethodId) : entryFrame mI #[.ref L, .int (Int32.ofNat i)] 2 = mkF mI 0 #[.val (.ref L), .val (.int (Int32.ofNat i))] [] := by first | (simp [entryFrame, mkF, argsToLocals, Value.category]; done) | rfl
theorem pd_alge : parseMethodDescriptor "(I)Ljava/lang/Object;" = some ⟨[.int], some (.object "java/lang/Object")⟩ := by decide +kernel
set_option maxRecDepth 65536 in
set_option maxHeartbeats 4000000 in
theorem ct_alge {a0 : Array Value} {Z : State} (hw : ∀ d ∈ tables_1, d.before a0 Z = true) (l : Launch) (nar kn : Bool) (hnr : nar = nar) (h0 : Heap) (D L e : Addr) (eds ys : List Addr) (F : ALP Z h0 D L e eds ys) (i : Nat) (hi : i < ys.length) (hk : ys.length ≤ 3) :
    Ct l Z EL1 (⟨"java/util/ArrayList", "get", "(I)Ljava/lang/Object;"⟩ : MethodName) jdk_38_method_20_code 2 (Option.some (Jvm.ClassFile.FieldType.object "java/lang/Object")) ({ frames := 2, cells := 0, slots := 0, locals := 27 } : Room) #[.ref L, .int (Int32.ofNat i)] h0 [] nar kn (fun v h sn => v = some (.ref ys[i]) ∧ sn = [] ∧ h = h0) := by
  refine Ct.intro (plainFor_of_name pn_java_util_ArrayList) (ew hw) (ef_alge L i) ?_
  intro x hl hn0 hkn hsf hh H0
  have hnar : x.nar = x.nar := rfl
  have H0 : Hr x b_alge Z EL1 0 0 h0 [] 0 #[.val (.ref L), .val (.int (Int32.ofNat i))] [] := H0
  have F0 := F
  obtain ⟨⟨m, F1, F2, F3, F4⟩, F5⟩ := F0
  have H1 : Hr x b_alge Z EL1 0 0 h0 [] 1 #[.val (.ref L), .val (.int (Int32.ofNat i))] [.int (Int32.ofNat i)] := H0.iloadN d_alge_0
  have H2 : Hr x b_alge Z EL1 0 0 h0 [] 2 #[.val (.ref L), .val (.int (Int32.ofNat i))] [.ref L, .int (Int32.ofNat i)] := H1.aloadN d_alge_1
  have H3 : Hr x b_alge Z EL1 0 0 h0 [] 5 #[.val (.ref L), .val (.int (Int32.ofNat i))] [.int (Int32.ofNat ys.length), .int (Int32.ofNat i)] := H2.getF (w121 hw) F3 d_alge_2
  obtain ⟨_, h1, _, ⟨rfl, rfl, e1⟩, K1, H4⟩ := H3.callS (argsL := [.int (Int32.ofNat i), .int (Int32.ofNat ys.length)]) (rest := []) (Wr := 0) (ct_ocix hw x.l x.nar x.kn hnar h0 i ys.length hi (by omega)) sub0 (w228 hw) (w229 hw) (w230 hw) (w231 hw) d_alge_5 pd_ocix rfl (hf := by first | decide | (simp [b_alge, Bx.R]; done) | (simp [b_alge, Bx.R]; omega)) (hl := by first | decide | (simp [b_alge, Bx.R]; done) | (simp [b_alge, Bx.R]; omega)) (hc := by first | decide | (simp [b_alge, Bx.R]; done) | (simp [b_alge, Bx.R]; omega)) (hs := by first | decide | (simp [b_alge, Bx.R]; done) | (simp [b_alge, Bx.R]; omega))
  rw [e1] at H4
  have H4 : Hr x b_alge Z EL1 0 0 h0 [] 8 #[.val (.ref L), .val (.int (Int32.ofNat i))] [.int (Int32.ofNat i)] := H4
  have H5 : Hr x b_alge Z EL1 0 0 h0 [] 9 #[.val (.ref L), .val (.int (Int32.ofNat i))] [] := H4.pop d_alge_8
  have H6 : Hr x b_alge Z EL1 0 0 h0 [] 10 #[.val (.ref L), .val (.int (Int32.ofNat i))] [.ref L] := H5.aloadN d_alge_9
  have H7 : Hr x b_alge Z EL1 0 0 h0 [] 11 #[.val (.ref L), .val (.int (Int32.ofNat i))] [.int (Int32.ofNat i), .ref L] := H6.iloadN d_alge_10
  obtain ⟨_, h2, _, ⟨rfl, rfl, e2⟩, K2, H8⟩ := H7.callV (argsL := [.int (Int32.ofNat i)]) (rest := []) (Wr := 0) (a := L) (ct_aled hw x.l x.nar x.kn hnar h0 D L e eds ys F i hi hk) sub0 F1 (w236 hw) (w237 hw) (w239 hw) (w239 hw) (w238 hw) (w53 hw) (w240 hw) d_alge_11 pd_aled rfl (hf := by first | decide | (simp [b_alge, Bx.R]; done) | (simp [b_alge, Bx.R]; omega)) (hl := by first | decide | (simp [b_alge, Bx.R]; done) | (simp [b_alge, Bx.R]; omega)) (hc := by first | decide | (simp [b_alge, Bx.R]; done) | (simp [b_alge, Bx.R]; omega)) (hs := by first | decide | (simp [b_alge, Bx.R]; done) | (simp [b_alge, Bx.R]; omega))
  rw [e2] at H8
  have H8 : Hr x b_alge Z EL1 0 0 h0 [] 14 #[.val (.ref L), .val (.int (Int32.ofNat i))] [.ref (ys[i])] := H8
  exact H8.finA d_alge_14 ⟨rfl, rfl, rfl⟩ sub0
def b_mmax : Bx := (({ frames := 0, cells := 0, slots := 0, locals := 0 } : Room), (⟨"java/lang/Math", "max", "(II)I"⟩ : MethodName), jdk_29_method_65_code, 2, (Option.some Jvm.ClassFile.FieldType.int))
theorem ef_mmax  (mI : MethodId) : entryFrame mI #[.int (10 : Int32), .int (1 : Int32)] 2 = mkF mI 0 #[.val (.int (10 : Int32)), .val (.int (1 : Int32))] [] := by first | (simp [entryFrame, mkF, argsToLocals, Value.category]; done) | rfl
theorem pf_mmax : plainFor (⟨"java/lang/Math", "max", "(II)I"⟩ : MethodName) = true := by decide +kernel
theorem pd_mmax : parseMethodDescriptor "(II)I" = some ⟨[.int, .int], some .int⟩ := by decide +kernel
set_option maxRecDepth 65536 in
set_option maxHeartbeats 4000000 in
theorem ct_mmax {a0 : Array Value} {Z : State} (hw : ∀ d ∈ tables_1, d.before a0 Z = true) (l : Launch) (nar kn : Bool) (hnr : nar = nar) (h0 : Heap)  :
    Ct l Z EL1 (⟨"java/lang/Math", "max", "(II)I"⟩ : MethodName) jdk_29_method_65_code 2 (Option.some Jvm.ClassFile.FieldType.int) ({ frames := 0, cells := 0, slots := 0, locals := 0 } : Room) #[.int (10 : Int32), .int (1 : Int32)] h0 [] nar kn (fun v h sn => v = some (.int 10) ∧ sn = [] ∧ h = h0) := by
  refine Ct.intro pf_mmax (ew hw) (ef_mmax ) ?_
  intro x hl hn0 hkn hsf hh H0
  have hnar : x.nar = x.nar := rfl
  have H0 : Hr x b_mmax Z EL1 0 0 h0 [] 0 #[.val (.int (10 : Int32)), .val (.int (1 : Int32))] [] := H0
  have H1 : Hr x b_mmax Z EL1 0 0 h0 [] 1 #[.val (.int (10 : Int32)), .val (.int (1 : Int32))] [.int (10 : Int32)] := H0.iloadN d_mmax_0
  have H2 : Hr x b_mmax Z EL1 0 0 h0 [] 2 #[.val (.int (10 : Int32)), .val (.int (1 : Int32))] [.int (1 : Int32), .int (10 : Int32)] := H1.iloadN d_mmax_1
  have H3 : Hr x b_mmax Z EL1 0 0 h0 [] 5 #[.val (.int (10 : Int32)), .val (.int (1 : Int32))] [] := H2.icmpF d_mmax_2 (XT.ii_lt_f (by decide))
  have H4 : Hr x b_mmax Z EL1 0 0 h0 [] 6 #[.val (.int (10 : Int32)), .val (.int (1 : Int32))] [.int (10 : Int32)] := H3.iloadN d_mmax_5
  have H5 : Hr x b_mmax Z EL1 0 0 h0 [] 10 #[.val (.int (10 : Int32)), .val (.int (1 : Int32))] [.int (10 : Int32)] := H4.goto d_mmax_6
  exact H5.finI d_mmax_10 ⟨rfl, rfl, rfl⟩ sub0
def b_grw1 : Bx := (({ frames := 1, cells := 1, slots := 10, locals := 15 } : Room), (⟨"java/util/ArrayList", "grow", "(I)[Ljava/lang/Object;"⟩ : MethodName), jdk_38_method_6_code, 4, (Option.some (Jvm.ClassFile.FieldType.array (Jvm.ClassFile.FieldType.object "java/lang/Object"))))
theorem ef_grw1 (L : Addr) (mI : MethodId) : entryFrame mI #[.ref L, .int (1 : Int32)] 4 = mkF mI 0 #[.val (.ref L), .val (.int (1 : Int32)), .unset, .unset] [] := by first | (simp [entryFrame, mkF, argsToLocals, Value.category]; done) | rfl
theorem pd_grw1 : parseMethodDescriptor "(I)[Ljava/lang/Object;" = some ⟨[.int], some (.array (.object "java/lang/Object"))⟩ := by decide +kernel
set_option maxRecDepth 65536 in
set_option maxHeartbeats 4000000 in
theorem ct_grw1 {a0 : Array Value} {Z : State} (hw : ∀ d ∈ tables_1, d.before a0 Z = true) (l : Launch) (nar kn : Bool) (hnr : nar = nar) (h0 : Heap) (D : Addr) (SDf : Sta Z Z.heap "java/util/ArrayList" "DEFAULTCAPACITY_EMPTY_ELEMENTDATA" "[Ljava/lang/Object;" (.ref D)) (FD : Ar Z Z.heap D (.object "java/lang/Object") []) (L : Addr) (m : Int32) (F : ALF Z h0 L (.ref D) 0 m) :
    Ct l Z EL1 (⟨"java/util/ArrayList", "grow", "(I)[Ljava/lang/Object;"⟩ : MethodName) jdk_38_method_6_code 4 (Option.some (Jvm.ClassFile.FieldType.array (Jvm.ClassFile.FieldType.object "java/lang/Object"))) ({ frames := 1, cells := 1, slots := 10, locals := 15 } : Room) #[.ref L, .int (1 : Int32)] h0 [L] nar kn (fun v h sn => ∃ e, v = some (.ref e) ∧ sn = [e] ∧ h0.size ≤ e ∧ ALF Z h L (.ref e) 0 m ∧ Arf Z h e OBJ (List.replicate 10 .null)) := by
  refine Ct.intro (plainFor_of_name pn_java_util_ArrayList) (ew hw) (ef_grw1 L) ?_
  intro x hl hn0 hkn hsf hh H0
  have hnar : x.nar = x.nar := rfl
  have H0 : Hr x b_grw1 Z EL1 0 0 h0 [L] 0 #[.val (.ref L), .val (.int (1 : Int32)), .unset, .unset] [] := H0
  have n01 := slot_ne (a0 := a0) (C := "java/util/ArrayList") (O := "java/util/ArrayList") (O' := "java/util/ArrayList") (n := "elementData") (n' := "size") (Or.inl (w74 hw)) (Or.inl (w122 hw)) (by decide) (t := .array (.object "java/lang/Object")) (t' := .int) (by decide) (by decide)
  have n02 := slot_ne (a0 := a0) (C := "java/util/ArrayList") (O := "java/util/ArrayList") (O' := "java/util/AbstractList") (n := "elementData") (n' := "modCount") (Or.inl (w74 hw)) (Or.inl (w71 hw)) (by decide) (t := .array (.object "java/lang/Object")) (t' := .int) (by decide) (by decide)
  have n12 := slot_ne (a0 := a0) (C := "java/util/ArrayList") (O := "java/util/ArrayList") (O' := "java/util/AbstractList") (n := "size") (n' := "modCount") (Or.inl (w122 hw)) (Or.inl (w71 hw)) (by decide) (t := .int) (t' := .int) (by decide) (by decide)
  have H1 : Hr x b_grw1 Z EL1 0 0 h0 [L] 1 #[.val (.ref L), .val (.int (1 : Int32)), .unset, .unset] [.ref L] := H0.aloadN d_grw1_0
  have H2 : Hr x b_grw1 Z EL1 0 0 h0 [L] 4 #[.val (.ref L), .val (.int (1 : Int32)), .unset, .unset] [.ref D] := H1.getF (w73 hw) F.2.1 d_grw1_1
  have H3 : Hr x b_grw1 Z EL1 0 0 h0 [L] 5 #[.val (.ref L), .val (.int (1 : Int32)), .unset, .unset] [.int (0 : Int32)] := H2.arraylength (FD.ext H2.old) d_grw1_4 (hn := rfl)
  have H4 : Hr x b_grw1 Z EL1 0 0 h0 [L] 6 #[.val (.ref L), .val (.int (1 : Int32)), .val (.int (0 : Int32)), .unset] [] := H3.istoreN d_grw1_5
  have H5 : Hr x b_grw1 Z EL1 0 0 h0 [L] 7 #[.val (.ref L), .val (.int (1 : Int32)), .val (.int (0 : Int32)), .unset] [.int (0 : Int32)] := H4.iloadN d_grw1_6
  have H6 : Hr x b_grw1 Z EL1 0 0 h0 [L] 10 #[.val (.ref L), .val (.int (1 : Int32)), .val (.int (0 : Int32)), .unset] [] := H5.ifF d_grw1_7 (XT.i0_gt_f (by decide))
  have H7 : Hr x b_grw1 Z EL1 0 0 h0 [L] 11 #[.val (.ref L), .val (.int (1 : Int32)), .val (.int (0 : Int32)), .unset] [.ref L] := H6.aloadN d_grw1_10
  have H8 : Hr x b_grw1 Z EL1 0 0 h0 [L] 14 #[.val (.ref L), .val (.int (1 : Int32)), .val (.int (0 : Int32)), .unset] [.ref D] := H7.getF (w73 hw) F.2.1 d_grw1_11
  have H9 : Hr x b_grw1 Z EL1 0 0 h0 [L] 17 #[.val (.ref L), .val (.int (1 : Int32)), .val (.int (0 : Int32)), .unset] [.ref D, .ref D] := H8.getS (w72 hw) (SDf.ext H8.old) d_grw1_14
  have H10 : Hr x b_grw1 Z EL1 0 0 h0 [L] 45 #[.val (.ref L), .val (.int (1 : Int32)), .val (.int (0 : Int32)), .unset] [] := H9.acmpT d_grw1_17 (by simp [XT.acmp])
  have H11 : Hr x b_grw1 Z EL1 0 0 h0 [L] 46 #[.val (.ref L), .val (.int (1 : Int32)), .val (.int (0 : Int32)), .unset] [.ref L] := H10.aloadN d_grw1_45
  have H12 : Hr x b_grw1 Z EL1 0 0 h0 [L] 48 #[.val (.ref L), .val (.int (1 : Int32)), .val (.int (0 : Int32)), .unset] [.int (10 : Int32), .ref L] := H11.bipush d_grw1_46
  have H13 : Hr x b_grw1 Z EL1 0 0 h0 [L] 49 #[.val (.ref L), .val (.int (1 : Int32)), .val (.int (0 : Int32)), .unset] [.int (1 : Int32), .int (10 : Int32), .ref L] := H12.iloadN d_grw1_48
  obtain ⟨_, h1, _, ⟨rfl, rfl, e1⟩, K1, H14⟩ := H13.callS (argsL := [.int (10 : Int32), .int (1 : Int32)]) (rest := [.ref L]) (Wr := 1) (ct_mmax hw x.l x.nar x.kn hnar h0 ) sub0 (w153 hw) (w154 hw) (w155 hw) (w156 hw) d_grw1_49 pd_mmax rfl (hf := by first | decide | (simp [b_grw1, Bx.R]; done) | (simp [b_grw1, Bx.R]; omega)) (hl := by first | decide | (simp [b_grw1, Bx.R]; done) | (simp [b_grw1, Bx.R]; omega)) (hc := by first | decide | (simp [b_grw1, Bx.R]; done) | (simp [b_grw1, Bx.R]; omega)) (hs := by first | decide | (simp [b_grw1, Bx.R]; done) | (simp [b_grw1, Bx.R]; omega))
  rw [e1] at H14
  have H14 : Hr x b_grw1 Z EL1 0 0 h0 [L] 52 #[.val (.ref L), .val (.int (1 : Int32)), .val (.int (0 : Int32)), .unset] [.int (10 : Int32), .ref L] := H14
  obtain ⟨h2, E2, G2, H15⟩ := H14.anewarray (cap := 10) (C := "java/lang/Object") (w157 hw) (w158 hw) d_grw1_52 (by decide) (by decide) (by decide) (by first | decide | (simp [b_grw1, Bx.R]; done) | (simp [b_grw1, Bx.R]; omega)) (by first | decide | (simp [b_grw1, Bx.R]; done) | (simp [b_grw1, Bx.R]; omega))
  obtain ⟨e, g_e⟩ : ∃ z, z = h0.size := ⟨_, rfl⟩
  rw [← g_e] at G2 H15
  have G2 : Arf Z h2 e "java/lang/Object" (List.replicate 10 .null) := G2
  have H15 : Hr x b_grw1 Z EL1 1 10 h2 [e, L] 55 #[.val (.ref L), .val (.int (1 : Int32)), .val (.int (0 : Int32)), .unset] [.ref e, .ref L] := H15
  have H16 : Hr x b_grw1 Z EL1 1 10 h2 [e, L] 56 #[.val (.ref L), .val (.int (1 : Int32)), .val (.int (0 : Int32)), .unset] [.ref e, .ref L, .ref e] := H15.dupX1 d_grw1_55
  obtain ⟨h3, W3, H17⟩ := H16.putF (by simp) (w73 hw) (F.2.1.ext E2) (F.1.ext E2) (Or.inl (w74 hw)) (w52 hw) d_grw1_56 (ty := (.array (.object "java/lang/Object")))
  have H17 : Hr x b_grw1 Z EL1 1 10 h3 [e, L] 59 #[.val (.ref L), .val (.int (1 : Int32)), .val (.int (0 : Int32)), .unset] [.ref e] := H17
  have hl := exa_lt F.1
  exact H17.finA d_grw1_59 ⟨e, rfl, rfl, by omega, ⟨(F.1.ext E2).wr W3, Fld.same W3 (F.2.1.ext E2), (F.2.2.1.ext E2).other W3 (Or.inr (Ne.symm n01)), (F.2.2.2.ext E2).other W3 (Or.inr (Ne.symm n02))⟩, G2.other W3 (neN (by omega))⟩ (sub1 (by simp))
def b_grw0 : Bx := (({ frames := 2, cells := 1, slots := 10, locals := 30 } : Room), (⟨"java/util/ArrayList", "grow", "()[Ljava/lang/Object;"⟩ : MethodName), jdk_38_method_7_code, 1, (Option.some (Jvm.ClassFile.FieldType.array (Jvm.ClassFile.FieldType.object "java/lang/Object"))))
theorem ef_grw0 (L : Addr) (mI : MethodId) : entryFrame mI #[.ref L] 1 = mkF mI 0 #[.val (.ref L)] [] := by first | (simp [entryFrame, mkF, argsToLocals, Value.category]; done) | rfl
theorem pd_grw0 : parseMethodDescriptor "()[Ljava/lang/Object;" = some ⟨[], some (.array (.object "java/lang/Object"))⟩ := by decide +kernel
set_option maxRecDepth 65536 in
set_option maxHeartbeats 4000000 in
theorem ct_grw0 {a0 : Array Value} {Z : State} (hw : ∀ d ∈ tables_1, d.before a0 Z = true) (l : Launch) (nar kn : Bool) (hnr : nar = nar) (h0 : Heap) (D : Addr) (SDf : Sta Z Z.heap "java/util/ArrayList" "DEFAULTCAPACITY_EMPTY_ELEMENTDATA" "[Ljava/lang/Object;" (.ref D)) (FD : Ar Z Z.heap D (.object "java/lang/Object") []) (L : Addr) (m : Int32) (F : ALF Z h0 L (.ref D) 0 m) :
    Ct l Z EL1 (⟨"java/util/ArrayList", "grow", "()[Ljava/lang/Object;"⟩ : MethodName) jdk_38_method_7_code 1 (Option.some (Jvm.ClassFile.FieldType.array (Jvm.ClassFile.FieldType.object "java/lang/Object"))) ({ frames := 2, cells := 1, slots := 10, locals := 30 } : Room) #[.ref L] h0 [L] nar kn (fun v h sn => ∃ e, v = some (.ref e) ∧ sn = [e] ∧ h0.size ≤ e ∧ ALF Z h L (.ref e) 0 m ∧ Arf Z h e OBJ (List.replicate 10 .null)) := by
  refine Ct.intro (plainFor_of_name pn_java_util_ArrayList) (ew hw) (ef_grw0 L) ?_
  intro x hl hn0 hkn hsf hh H0
  have hnar : x.nar = x.nar := rfl
  have H0 : Hr x b_grw0 Z EL1 0 0 h0 [L] 0 #[.val (.ref L)] [] := H0
  have H1 : Hr x b_grw0 Z EL1 0 0 h0 [L] 1 #[.val (.ref L)] [.ref L] := H0.aloadN d_grw0_0
  have H2 : Hr x b_grw0 Z EL1 0 0 h0 [L] 2 #[.val (.ref L)] [.ref L, .ref L] := H1.aloadN d_grw0_1
  have H3 : Hr x b_grw0 Z EL1 0 0 h0 [L] 5 #[.val (.ref L)] [.int (0 : Int32), .ref L] := H2.getF (w121 hw) F.2.2.1 d_grw0_2
  have H4 : Hr x b_grw0 Z EL1 0 0 h0 [L] 6 #[.val (.ref L)] [.int (1 : Int32), .int (0 : Int32), .ref L] := H3.iconst d_grw0_5
  have H5 : Hr x b_grw0 Z EL1 0 0 h0 [L] 7 #[.val (.ref L)] [.int (1 : Int32), .ref L] := H4.iadd d_grw0_6 (hv := (by decide))
  obtain ⟨_, h1, _, ⟨e, rfl, rfl, he, F1, G1⟩, K1, H6⟩ := H5.callP (argsL := [.int (1 : Int32)]) (rest := []) (Wr := 0) (a := L) (ct_grw1 hw x.l x.nar x.kn hnar h0 D SDf FD L m F) (sub1 (by simp)) F.1 (w148 hw) (w149 hw) (w141 hw) (w150 hw) (w53 hw) (w152 hw) d_grw0_7 pd_grw1 rfl (hf := by first | decide | (simp [b_grw0, Bx.R]; done) | (simp [b_grw0, Bx.R]; omega)) (hl := by first | decide | (simp [b_grw0, Bx.R]; done) | (simp [b_grw0, Bx.R]; omega)) (hc := by first | decide | (simp [b_grw0, Bx.R]; done) | (simp [b_grw0, Bx.R]; omega)) (hs := by first | decide | (simp [b_grw0, Bx.R]; done) | (simp [b_grw0, Bx.R]; omega))
  have H6 : Hr x b_grw0 Z EL1 1 10 h1 [e, L] 10 #[.val (.ref L)] [.ref e] := H6
  exact H6.finA d_grw0_10 ⟨e, rfl, rfl, he, F1, G1⟩ (sub1 (by simp))
def b_ald3 : Bx := (({ frames := 3, cells := 1, slots := 10, locals := 42 } : Room), (⟨"java/util/ArrayList", "add", "(Ljava/lang/Object;[Ljava/lang/Object;I)V"⟩ : MethodName), jdk_38_method_24_code, 4, (Option.none : Option Jvm.ClassFile.FieldType))
theorem ef_ald3 (L y e : Addr) (ys : List Addr) (mI : MethodId) : entryFrame mI #[.ref L, .ref y, .ref e, .int (Int32.ofNat ys.length)] 4 = mkF mI 0 #[.val (.ref L), .val (.ref y), .val (.ref e), .val (.int (Int32.ofNat ys.length))] [] := by first | (simp [entryFrame, mkF, argsToLocals, Value.category]; done) | rfl
theorem pd_ald3 : parseMethodDescriptor "(Ljava/lang/Object;[Ljava/lang/Object;I)V" = some ⟨[(.object "java/lang/Object"), (.array (.object "java/lang/Object")), .int], none⟩ := by decide +kernel
set_option maxRecDepth 65536 in
set_option maxHeartbeats 4000000 in
theorem ct_ald3 {a0 : Array Value} {Z : State} (hw : ∀ d ∈ tables_1, d.before a0 Z = true) (l : Launch) (nar kn : Bool) (hnr : nar = nar) (h0 : Heap) (D : Addr) (SDf : Sta Z Z.heap "java/util/ArrayList" "DEFAULTCAPACITY_EMPTY_ELEMENTDATA" "[Ljava/lang/Object;" (.ref D)) (FD : Ar Z Z.heap D (.object "java/lang/Object") []) (L y e : Addr) (eds ys : List Addr) (F : ALP Z h0 D L e eds ys) (hk : ys.length < 3) (Ey : Exa Z h0 y ST) :
    Ct l Z EL1 (⟨"java/util/ArrayList", "add", "(Ljava/lang/Object;[Ljava/lang/Object;I)V"⟩ : MethodName) jdk_38_method_24_code 4 (Option.none : Option Jvm.ClassFile.FieldType) ({ frames := 3, cells := 1, slots := 10, locals := 42 } : Room) #[.ref L, .ref y, .ref e, .int (Int32.ofNat ys.length)] h0 (L :: eds) nar kn (fun v h sn => ∃ e, v = none ∧ sn = [e] ∧ ALP Z h D L e [e] (ys ++ [y])) := by
  refine Ct.intro (plainFor_of_name pn_java_util_ArrayList) (ew hw) (ef_ald3 L y e ys) ?_
  intro x hl hn0 hkn hsf hh H0
  have hnar : x.nar = x.nar := rfl
  have H0 : Hr x b_ald3 Z EL1 0 0 h0 (L :: eds) 0 #[.val (.ref L), .val (.ref y), .val (.ref e), .val (.int (Int32.ofNat ys.length))] [] := H0
  have n01 := slot_ne (a0 := a0) (C := "java/util/ArrayList") (O := "java/util/ArrayList") (O' := "java/util/ArrayList") (n := "elementData") (n' := "size") (Or.inl (w74 hw)) (Or.inl (w122 hw)) (by decide) (t := .array (.object "java/lang/Object")) (t' := .int) (by decide) (by decide)
  have n02 := slot_ne (a0 := a0) (C := "java/util/ArrayList") (O := "java/util/ArrayList") (O' := "java/util/AbstractList") (n := "elementData") (n' := "modCount") (Or.inl (w74 hw)) (Or.inl (w71 hw)) (by decide) (t := .array (.object "java/lang/Object")) (t' := .int) (by decide) (by decide)
  have n12 := slot_ne (a0 := a0) (C := "java/util/ArrayList") (O := "java/util/ArrayList") (O' := "java/util/AbstractList") (n := "size") (n' := "modCount") (Or.inl (w122 hw)) (Or.inl (w71 hw)) (by decide) (t := .int) (t' := .int) (by decide) (by decide)
  obtain ⟨⟨m, F1⟩, F5⟩ := F
  rcases F5 with F5 | F5
  · have z45 := True.intro
    obtain ⟨rfl, rfl, rfl⟩ := F5
    have H46 : Hr x b_ald3 Z EL1 0 0 h0 [L] 1 #[.val (.ref L), .val (.ref y), .val (.ref e), .val (.int (Int32.ofNat ([] : List Addr).length))] [.int (Int32.ofNat ([] : List Addr).length)] := H0.iloadN d_ald3_0
    have H47 : Hr x b_ald3 Z EL1 0 0 h0 [L] 2 #[.val (.ref L), .val (.ref y), .val (.ref e), .val (.int (Int32.ofNat ([] : List Addr).length))] [.ref e, .int (Int32.ofNat ([] : List Addr).length)] := H46.aloadN d_ald3_1
    have H48 : Hr x b_ald3 Z EL1 0 0 h0 [L] 3 #[.val (.ref L), .val (.ref y), .val (.ref e), .val (.int (Int32.ofNat ([] : List Addr).length))] [.int (0 : Int32), .int (Int32.ofNat ([] : List Addr).length)] := H47.arraylength (FD.ext H47.old) d_ald3_2 (hn := rfl)
    have H49 : Hr x b_ald3 Z EL1 0 0 h0 [L] 6 #[.val (.ref L), .val (.ref y), .val (.ref e), .val (.int (Int32.ofNat ([] : List Addr).length))] [] := H48.icmpF d_ald3_3 (XT.ii_ne_f rfl)
    have H50 : Hr x b_ald3 Z EL1 0 0 h0 [L] 7 #[.val (.ref L), .val (.ref y), .val (.ref e), .val (.int (Int32.ofNat ([] : List Addr).length))] [.ref L] := H49.aloadN d_ald3_6
    obtain ⟨_, h1, _, ⟨e', rfl, rfl, he, F2, G2⟩, K1, H51⟩ := H50.callP (argsL := []) (rest := []) (Wr := 0) (a := L) (ct_grw0 hw x.l x.nar x.kn hnar h0 e SDf FD L m F1) (sub1 (by simp)) F1.1 (w143 hw) (w144 hw) (w141 hw) (w145 hw) (w53 hw) (w147 hw) d_ald3_7 pd_grw0 rfl (hf := by first | decide | (simp [b_ald3, Bx.R]; done) | (simp [b_ald3, Bx.R]; omega)) (hl := by first | decide | (simp [b_ald3, Bx.R]; done) | (simp [b_ald3, Bx.R]; omega)) (hc := by first | decide | (simp [b_ald3, Bx.R]; done) | (simp [b_ald3, Bx.R]; omega)) (hs := by first | decide | (simp [b_ald3, Bx.R]; done) | (simp [b_ald3, Bx.R]; omega))
    have H51 : Hr x b_ald3 Z EL1 1 10 h1 [e', L] 10 #[.val (.ref L), .val (.ref y), .val (.ref e), .val (.int (Int32.ofNat ([] : List Addr).length))] [.ref e'] := H51
    have H52 : Hr x b_ald3 Z EL1 1 10 h1 [e', L] 11 #[.val (.ref L), .val (.ref y), .val (.ref e'), .val (.int (Int32.ofNat ([] : List Addr).length))] [] := H51.astoreN d_ald3_10
    have H53 : Hr x b_ald3 Z EL1 1 10 h1 [e', L] 12 #[.val (.ref L), .val (.ref y), .val (.ref e'), .val (.int (Int32.ofNat ([] : List Addr).length))] [.ref e'] := H52.aloadN d_ald3_11
    have H54 : Hr x b_ald3 Z EL1 1 10 h1 [e', L] 13 #[.val (.ref L), .val (.ref y), .val (.ref e'), .val (.int (Int32.ofNat ([] : List Addr).length))] [.int (Int32.ofNat ([] : List Addr).length), .ref e'] := H53.iloadN d_ald3_12
    have H55 : Hr x b_ald3 Z EL1 1 10 h1 [e', L] 14 #[.val (.ref L), .val (.ref y), .val (.ref e'), .val (.int (Int32.ofNat ([] : List Addr).length))] [.ref y, .int (Int32.ofNat ([] : List Addr).length), .ref e'] := H54.aloadN d_ald3_13
    obtain ⟨h2, W2, H56⟩ := H55.aastore (by simp) G2 (Ins.of_exa (Ey.keep K1) (w159 hw)) d_ald3_14 (i := 0) rfl (by simp)
    have H56 : Hr x b_ald3 Z EL1 1 10 h2 [e', L] 15 #[.val (.ref L), .val (.ref y), .val (.ref e'), .val (.int (Int32.ofNat ([] : List Addr).length))] [] := H56
    have hl := exa_lt F1.1
    have G3 : Arf Z h2 e' OBJ (([] ++ [y]).map Value.ref ++ List.replicate (10 - ([] ++ [y]).length) Value.null) := G2.set W2
    have nL : @Ne Nat L e' := by omega
    have H57 : Hr x b_ald3 Z EL1 1 10 h2 [e', L] 16 #[.val (.ref L), .val (.ref y), .val (.ref e'), .val (.int (Int32.ofNat ([] : List Addr).length))] [.ref L] := H56.aloadN d_ald3_15
    have H58 : Hr x b_ald3 Z EL1 1 10 h2 [e', L] 17 #[.val (.ref L), .val (.ref y), .val (.ref e'), .val (.int (Int32.ofNat ([] : List Addr).length))] [.int (Int32.ofNat ([] : List Addr).length), .ref L] := H57.iloadN d_ald3_16
    have H59 : Hr x b_ald3 Z EL1 1 10 h2 [e', L] 18 #[.val (.ref L), .val (.ref y), .val (.ref e'), .val (.int (Int32.ofNat ([] : List Addr).length))] [.int (1 : Int32), .int (Int32.ofNat ([] : List Addr).length), .ref L] := H58.iconst d_ald3_17
    have H60 : Hr x b_ald3 Z EL1 1 10 h2 [e', L] 19 #[.val (.ref L), .val (.ref y), .val (.ref e'), .val (.int (Int32.ofNat ([] : List Addr).length))] [.int (1 : Int32), .ref L] := H59.iadd d_ald3_18 (hv := (by decide))
    obtain ⟨h3, W3, H61⟩ := H60.putF (by simp) (w121 hw) (F2.2.2.1.other W2 (Or.inl nL)) (F2.1.wr W2) (Or.inl (w122 hw)) (w52 hw) d_ald3_19 (ty := .int)
    have H61 : Hr x b_ald3 Z EL1 1 10 h3 [e', L] 22 #[.val (.ref L), .val (.ref y), .val (.ref e'), .val (.int (Int32.ofNat ([] : List Addr).length))] [] := H61
    exact H61.finN d_ald3_22 rfl (by decide) (by decide) (sub1 (by simp)) ⟨e', rfl, rfl, ⟨m, (F2.1.wr W2).wr W3, (F2.2.1.other W2 (Or.inl nL)).other W3 (Or.inr n01), Fld.same W3 (F2.2.2.1.other W2 (Or.inl nL)), (F2.2.2.2.other W2 (Or.inl nL)).other W3 (Or.inr (Ne.symm n12))⟩, Or.inr ⟨rfl, by simp, G3.other W3 (Ne.symm nL)⟩⟩
  · have z61 := True.intro
    obtain ⟨rfl, hp, G⟩ := F5
    have H62 : Hr x b_ald3 Z EL1 0 0 h0 [L, e] 1 #[.val (.ref L), .val (.ref y), .val (.ref e), .val (.int (Int32.ofNat ys.length))] [.int (Int32.ofNat ys.length)] := H0.iloadN d_ald3_0
    have H63 : Hr x b_ald3 Z EL1 0 0 h0 [L, e] 2 #[.val (.ref L), .val (.ref y), .val (.ref e), .val (.int (Int32.ofNat ys.length))] [.ref e, .int (Int32.ofNat ys.length)] := H62.aloadN d_ald3_1
    have H64 : Hr x b_ald3 Z EL1 0 0 h0 [L, e] 3 #[.val (.ref L), .val (.ref y), .val (.ref e), .val (.int (Int32.ofNat ys.length))] [.int (10 : Int32), .int (Int32.ofNat ys.length)] := H63.arraylength G.ar d_ald3_2 (hn := (by rw [List.length_append, List.length_map, List.length_replicate, show ys.length + (10 - ys.length) = 10 by omega]; rfl))
    have H65 : Hr x b_ald3 Z EL1 0 0 h0 [L, e] 11 #[.val (.ref L), .val (.ref y), .val (.ref e), .val (.int (Int32.ofNat ys.length))] [] := H64.icmpT d_ald3_3 (XT.ii_ne_t fun q => by have := ofNat_inj (m := ys.length) (n := 10) (by omega) (by decide) q; omega)
    have H66 : Hr x b_ald3 Z EL1 0 0 h0 [L, e] 12 #[.val (.ref L), .val (.ref y), .val (.ref e), .val (.int (Int32.ofNat ys.length))] [.ref e] := H65.aloadN d_ald3_11
    have H67 : Hr x b_ald3 Z EL1 0 0 h0 [L, e] 13 #[.val (.ref L), .val (.ref y), .val (.ref e), .val (.int (Int32.ofNat ys.length))] [.int (Int32.ofNat ys.length), .ref e] := H66.iloadN d_ald3_12
    have H68 : Hr x b_ald3 Z EL1 0 0 h0 [L, e] 14 #[.val (.ref L), .val (.ref y), .val (.ref e), .val (.int (Int32.ofNat ys.length))] [.ref y, .int (Int32.ofNat ys.length), .ref e] := H67.aloadN d_ald3_13
    obtain ⟨h2, W2, H69⟩ := H68.aastore (by simp) G (Ins.of_exa Ey (w159 hw)) d_ald3_14 (i := ys.length) rfl (by simp; omega)
    have H69 : Hr x b_ald3 Z EL1 0 0 h2 [L, e] 15 #[.val (.ref L), .val (.ref y), .val (.ref e), .val (.int (Int32.ofNat ys.length))] [] := H69
    have G3 := G.set W2
    rw [set_end (k := 9 - ys.length) (by omega)] at G3
    have nL : L ≠ e := exa_neAr F1.1 G.ar (w52 hw)
    have H70 : Hr x b_ald3 Z EL1 0 0 h2 [L, e] 16 #[.val (.ref L), .val (.ref y), .val (.ref e), .val (.int (Int32.ofNat ys.length))] [.ref L] := H69.aloadN d_ald3_15
    have H71 : Hr x b_ald3 Z EL1 0 0 h2 [L, e] 17 #[.val (.ref L), .val (.ref y), .val (.ref e), .val (.int (Int32.ofNat ys.length))] [.int (Int32.ofNat ys.length), .ref L] := H70.iloadN d_ald3_16
    have H72 : Hr x b_ald3 Z EL1 0 0 h2 [L, e] 18 #[.val (.ref L), .val (.ref y), .val (.ref e), .val (.int (Int32.ofNat ys.length))] [.int (1 : Int32), .int (Int32.ofNat ys.length), .ref L] := H71.iconst d_ald3_17
    have H73 : Hr x b_ald3 Z EL1 0 0 h2 [L, e] 19 #[.val (.ref L), .val (.ref y), .val (.ref e), .val (.int (Int32.ofNat ys.length))] [.int (Int32.ofNat (ys ++ [y]).length), .ref L] := H72.iadd d_ald3_18 (hv := (by rw [List.length_append]; exact (inc_ofNat ys.length).symm))
    obtain ⟨h3, W3, H74⟩ := H73.putF (by simp) (w121 hw) (F1.2.2.1.other W2 (Or.inl nL)) (F1.1.wr W2) (Or.inl (w122 hw)) (w52 hw) d_ald3_19 (ty := .int)
    have H74 : Hr x b_ald3 Z EL1 0 0 h3 [L, e] 22 #[.val (.ref L), .val (.ref y), .val (.ref e), .val (.int (Int32.ofNat ys.length))] [] := H74
    exact H74.finN d_ald3_22 rfl (by decide) (by decide) (sub1 (by simp)) ⟨e, rfl, rfl, ⟨m, (F1.1.wr W2).wr W3, (F1.2.1.other W2 (Or.inl nL)).other W3 (Or.inr n01), Fld.same W3 (F1.2.2.1.other W2 (Or.inl nL)), (F1.2.2.2.other W2 (Or.inl nL)).other W3 (Or.inr (Ne.symm n12))⟩, Or.inr ⟨rfl, by simp, G3.other W3 (Ne.symm nL)⟩⟩
def b_ald1 : Bx := (({ frames := 4, cells := 1, slots := 10, locals := 58 } : Room), (⟨"java/util/ArrayList", "add", "(Ljava/lang/Object;)Z"⟩ : MethodName), jdk_38_method_25_code, 2, (Option.some Jvm.ClassFile.FieldType.boolean))
theorem ef_ald1 (L y : Addr) (mI : MethodId) : entryFrame mI #[.ref L, .ref y] 2 = mkF mI 0 #[.val (.ref L), .val (.ref y)] [] := by first | (simp [entryFrame, mkF, argsToLocals, Value.category]; done) | rfl
theorem pd_ald1 : parseMethodDescriptor "(Ljava/lang/Object;)Z" = some ⟨[(.object "java/lang/Object")], some .boolean⟩ := by decide +kernel
set_option maxRecDepth 65536 in
set_option maxHeartbeats 4000000 in
theorem ct_ald1 {a0 : Array Value} {Z : State} (hw : ∀ d ∈ tables_1, d.before a0 Z = true) (l : Launch) (nar kn : Bool) (hnr : nar = nar) (h0 : Heap) (D : Addr) (SDf : Sta Z Z.heap "java/util/ArrayList" "DEFAULTCAPACITY_EMPTY_ELEMENTDATA" "[Ljava/lang/Object;" (.ref D)) (FD : Ar Z Z.heap D (.object "java/lang/Object") []) (L y e : Addr) (eds ys : List Addr) (F : ALP Z h0 D L e eds ys) (hk : ys.length < 3) (Ey : Exa Z h0 y ST) :
    Ct l Z EL1 (⟨"java/util/ArrayList", "add", "(Ljava/lang/Object;)Z"⟩ : MethodName) jdk_38_method_25_code 2 (Option.some Jvm.ClassFile.FieldType.boolean) ({ frames := 4, cells := 1, slots := 10, locals := 58 } : Room) #[.ref L, .ref y] h0 (L :: eds) nar kn (fun v h sn => ∃ e, v = some (.int 1) ∧ sn = [e] ∧ ALP Z h D L e [e] (ys ++ [y])) := by
  refine Ct.intro (plainFor_of_name pn_java_util_ArrayList) (ew hw) (ef_ald1 L y) ?_
  intro x hl hn0 hkn hsf hh H0
  have hnar : x.nar = x.nar := rfl
  have H0 : Hr x b_ald1 Z EL1 0 0 h0 (L :: eds) 0 #[.val (.ref L), .val (.ref y)] [] := H0
  have n01 := slot_ne (a0 := a0) (C := "java/util/ArrayList") (O := "java/util/ArrayList") (O' := "java/util/ArrayList") (n := "elementData") (n' := "size") (Or.inl (w74 hw)) (Or.inl (w122 hw)) (by decide) (t := .array (.object "java/lang/Object")) (t' := .int) (by decide) (by decide)
  have n02 := slot_ne (a0 := a0) (C := "java/util/ArrayList") (O := "java/util/ArrayList") (O' := "java/util/AbstractList") (n := "elementData") (n' := "modCount") (Or.inl (w74 hw)) (Or.inl (w71 hw)) (by decide) (t := .array (.object "java/lang/Object")) (t' := .int) (by decide) (by decide)
  have n12 := slot_ne (a0 := a0) (C := "java/util/ArrayList") (O := "java/util/ArrayList") (O' := "java/util/AbstractList") (n := "size") (n' := "modCount") (Or.inl (w122 hw)) (Or.inl (w71 hw)) (by decide) (t := .int) (t' := .int) (by decide) (by decide)
  have hnL : ∀ z ∈ eds, L ≠ z := fun z hz => by
    obtain ⟨⟨m, F1⟩, F5⟩ := F
    rcases F5 with ⟨_, _, q⟩ | ⟨q, _, G⟩
    · rw [q] at hz; cases hz
    · rw [q] at hz; cases List.mem_singleton.mp hz; exact exa_neAr F1.1 G.ar (w52 hw)
  obtain ⟨⟨m, F1⟩, F5⟩ := F
  have H1 : Hr x b_ald1 Z EL1 0 0 h0 ((L :: eds)) 1 #[.val (.ref L), .val (.ref y)] [.ref L] := H0.aloadN d_ald1_0
  have H2 : Hr x b_ald1 Z EL1 0 0 h0 ((L :: eds)) 2 #[.val (.ref L), .val (.ref y)] [.ref L, .ref L] := H1.dup d_ald1_1
  have H3 : Hr x b_ald1 Z EL1 0 0 h0 ((L :: eds)) 5 #[.val (.ref L), .val (.ref y)] [.int m, .ref L] := H2.getFvia (w136 hw) (Via.of (w137 hw)) F1.2.2.2 d_ald1_2
  have H4 : Hr x b_ald1 Z EL1 0 0 h0 ((L :: eds)) 6 #[.val (.ref L), .val (.ref y)] [.int (1 : Int32), .int m, .ref L] := H3.iconst d_ald1_5
  have H5 : Hr x b_ald1 Z EL1 0 0 h0 ((L :: eds)) 7 #[.val (.ref L), .val (.ref y)] [.int (m + (1 : Int32)), .ref L] := H4.iadd d_ald1_6
  obtain ⟨h1, W1, H6⟩ := H5.putFvia (by simp) (w136 hw) (Via.of (w137 hw)) F1.2.2.2 F1.1 (w71 hw) (w52 hw) d_ald1_7 (ty := .int)
  have H6 : Hr x b_ald1 Z EL1 0 0 h1 ((L :: eds)) 10 #[.val (.ref L), .val (.ref y)] [] := H6
  have F6 : ALP Z h1 D L e eds ys := ⟨⟨_, F1.1.wr W1, F1.2.1.other W1 (Or.inr n02), F1.2.2.1.other W1 (Or.inr n12), Fld.same W1 F1.2.2.2⟩, F5.imp id fun q => ⟨q.1, q.2.1, q.2.2.other W1 (Ne.symm (hnL e (by rw [q.1]; simp)))⟩⟩
  have H7 : Hr x b_ald1 Z EL1 0 0 h1 ((L :: eds)) 11 #[.val (.ref L), .val (.ref y)] [.ref L] := H6.aloadN d_ald1_10
  have H8 : Hr x b_ald1 Z EL1 0 0 h1 ((L :: eds)) 12 #[.val (.ref L), .val (.ref y)] [.ref y, .ref L] := H7.aloadN d_ald1_11
  have H9 : Hr x b_ald1 Z EL1 0 0 h1 ((L :: eds)) 13 #[.val (.ref L), .val (.ref y)] [.ref L, .ref y, .ref L] := H8.aloadN d_ald1_12
  have H10 : Hr x b_ald1 Z EL1 0 0 h1 ((L :: eds)) 16 #[.val (.ref L), .val (.ref y)] [.ref e, .ref y, .ref L] := H9.getF (w73 hw) F6.1.choose_spec.2.1 d_ald1_13
  have H11 : Hr x b_ald1 Z EL1 0 0 h1 ((L :: eds)) 17 #[.val (.ref L), .val (.ref y)] [.ref L, .ref e, .ref y, .ref L] := H10.aloadN d_ald1_16
  have H12 : Hr x b_ald1 Z EL1 0 0 h1 ((L :: eds)) 20 #[.val (.ref L), .val (.ref y)] [.int (Int32.ofNat ys.length), .ref e, .ref y, .ref L] := H11.getF (w121 hw) F6.1.choose_spec.2.2.1 d_ald1_17
  obtain ⟨_, h2, _, ⟨e', rfl, rfl, F7⟩, K2, H13⟩ := H12.callP (argsL := [.ref y, .ref e, .int (Int32.ofNat ys.length)]) (rest := []) (Wr := 0) (a := L) (ct_ald3 hw x.l x.nar x.kn hnar h1 D SDf FD L y e eds ys F6 hk (Ey.wr W1)) (fun z hz => hz) (F1.1.wr W1) (w138 hw) (w139 hw) (w141 hw) (w140 hw) (w53 hw) (w142 hw) d_ald1_20 pd_ald3 rfl (hf := by first | decide | (simp [b_ald1, Bx.R]; done) | (simp [b_ald1, Bx.R]; omega)) (hl := by first | decide | (simp [b_ald1, Bx.R]; done) | (simp [b_ald1, Bx.R]; omega)) (hc := by first | decide | (simp [b_ald1, Bx.R]; done) | (simp [b_ald1, Bx.R]; omega)) (hs := by first | decide | (simp [b_ald1, Bx.R]; done) | (simp [b_ald1, Bx.R]; omega))
  have H13 : Hr x b_ald1 Z EL1 1 10 h2 (e' :: (L :: eds)) 23 #[.val (.ref L), .val (.ref y)] [] := H13
  have H14 : Hr x b_ald1 Z EL1 1 10 h2 ((e' :: L :: eds)) 24 #[.val (.ref L), .val (.ref y)] [.int (1 : Int32)] := H13.iconst d_ald1_23
  exact H14.finZ d_ald1_24 (t := .boolean) (by first | rfl | decide) ⟨e', rfl, rfl, F7⟩ (sub1 (by simp))
def b_ntsz : Bx := (({ frames := 1, cells := 0, slots := 0, locals := 12 } : Room), (⟨"com/example/afterscore/afterscore/io/NameTable", "size", "()I"⟩ : MethodName), prog_4_method_2_code, 1, (Option.some Jvm.ClassFile.FieldType.int))
theorem ef_ntsz (t : Addr) (mI : MethodId) : entryFrame mI #[.ref t] 1 = mkF mI 0 #[.val (.ref t)] [] := by first | (simp [entryFrame, mkF, argsToLocals, Value.category]; done) | rfl
theorem pd_ntsz : parseMethodDescriptor "()I" = some ⟨[], some .int⟩ := by decide +kernel
set_option maxRecDepth 65536 in
set_option maxHeartbeats 4000000 in
theorem ct_ntsz {a0 : Array Value} {Z : State} (hw : ∀ d ∈ tables_1, d.before a0 Z = true) (l : Launch) (nar kn : Bool) (hnr : nar = nar) (h0 : Heap) (t L sl hs ix : Addr) (k : Nat) (ps : List Nat) (zs : List Addr) (N : NTS Z h0 t L sl hs ix k ps zs) (D e : Addr) (eds ys : List Addr) (F : ALP Z h0 D L e eds ys) :
    Ct l Z EL1 (⟨"com/example/afterscore/afterscore/io/NameTable", "size", "()I"⟩ : MethodName) prog_4_method_2_code 1 (Option.some Jvm.ClassFile.FieldType.int) ({ frames := 1, cells := 0, slots := 0, locals := 12 } : Room) #[.ref t] h0 [] nar kn (fun v h sn => v = some (.int (Int32.ofNat ys.length)) ∧ sn = [] ∧ h = h0) := by
  refine Ct.intro (plainFor_of_name pn_com_example_afterscore_afterscore_io_NameTable) (ew hw) (ef_ntsz t) ?_
  intro x hl hn0 hkn hsf hh H0
  have hnar : x.nar = x.nar := rfl
  have H0 : Hr x b_ntsz Z EL1 0 0 h0 [] 0 #[.val (.ref t)] [] := H0
  have XL := F.1.choose_spec.1
  have H1 : Hr x b_ntsz Z EL1 0 0 h0 [] 1 #[.val (.ref t)] [.ref t] := H0.aloadN d_ntsz_0
  have H2 : Hr x b_ntsz Z EL1 0 0 h0 [] 4 #[.val (.ref t)] [.ref L] := H1.getF (w75 hw) N.1.2.1 d_ntsz_1
  obtain ⟨_, h1, _, ⟨rfl, rfl, e1⟩, K1, H3⟩ := H2.callF (argsL := []) (rest := []) (Wr := 0) (a := L) (ct_alsz hw x.l x.nar x.kn hnar h0 D L e eds ys F) sub0 XL (w112 hw) (w113 hw) (w114 hw) (w115 hw) (w116 hw) (w117 hw) (w118 hw) (w119 hw) (w53 hw) (w120 hw) d_ntsz_4 pd_alsz rfl (hf := by first | decide | (simp [b_ntsz, Bx.R]; done) | (simp [b_ntsz, Bx.R]; omega)) (hl := by first | decide | (simp [b_ntsz, Bx.R]; done) | (simp [b_ntsz, Bx.R]; omega)) (hc := by first | decide | (simp [b_ntsz, Bx.R]; done) | (simp [b_ntsz, Bx.R]; omega)) (hs := by first | decide | (simp [b_ntsz, Bx.R]; done) | (simp [b_ntsz, Bx.R]; omega))
  rw [e1] at H3
  have H3 : Hr x b_ntsz Z EL1 0 0 h0 [] 9 #[.val (.ref t)] [.int (Int32.ofNat ys.length)] := H3
  exact H3.finI d_ntsz_9 ⟨rfl, rfl, rfl⟩ sub0
def b_ntnm : Bx := (({ frames := 3, cells := 0, slots := 0, locals := 40 } : Room), (⟨"com/example/afterscore/afterscore/io/NameTable", "name", "(I)Ljava/lang/String;"⟩ : MethodName), prog_4_method_3_code, 2, (Option.some (Jvm.ClassFile.FieldType.object "java/lang/String")))
theorem ef_ntnm (t : Addr) (i : Nat) (mI : MethodId) : entryFrame mI #[.ref t, .int (Int32.ofNat i)] 2 = mkF mI 0 #[.val (.ref t), .val (.int (Int32.ofNat i))] [] := by first | (simp [entryFrame, mkF, argsToLocals, Value.category]; done) | rfl
theorem pd_ntnm : parseMethodDescriptor "(I)Ljava/lang/String;" = some ⟨[.int], some (.object "java/lang/String")⟩ := by decide +kernel
set_option maxRecDepth 65536 in
set_option maxHeartbeats 4000000 in
theorem ct_ntnm {a0 : Array Value} {Z : State} (hw : ∀ d ∈ tables_1, d.before a0 Z = true) (l : Launch) (nar kn : Bool) (hnr : nar = nar) (h0 : Heap) (t L sl hs ix : Addr) (k : Nat) (ps : List Nat) (zs : List Addr) (N : NTS Z h0 t L sl hs ix k ps zs) (D e : Addr) (eds ys : List Addr) (F : ALP Z h0 D L e eds ys) (i : Nat) (hi : i < ys.length) (hk : ys.length ≤ 3) (Ey : Exa Z h0 ys[i] ST) :
    Ct l Z EL1 (⟨"com/example/afterscore/afterscore/io/NameTable", "name", "(I)Ljava/lang/String;"⟩ : MethodName) prog_4_method_3_code 2 (Option.some (Jvm.ClassFile.FieldType.object "java/lang/String")) ({ frames := 3, cells := 0, slots := 0, locals := 40 } : Room) #[.ref t, .int (Int32.ofNat i)] h0 [] nar kn (fun v h sn => v = some (.ref ys[i]) ∧ sn = [] ∧ h = h0) := by
  refine Ct.intro (plainFor_of_name pn_com_example_afterscore_afterscore_io_NameTable) (ew hw) (ef_ntnm t i) ?_
  intro x hl hn0 hkn hsf hh H0
  have hnar : x.nar = x.nar := rfl
  have H0 : Hr x b_ntnm Z EL1 0 0 h0 [] 0 #[.val (.ref t), .val (.int (Int32.ofNat i))] [] := H0
  have XL := F.1.choose_spec.1
  have H1 : Hr x b_ntnm Z EL1 0 0 h0 [] 1 #[.val (.ref t), .val (.int (Int32.ofNat i))] [.ref t] := H0.aloadN d_ntnm_0
  have H2 : Hr x b_ntnm Z EL1 0 0 h0 [] 4 #[.val (.ref t), .val (.int (Int32.ofNat i))] [.ref L] := H1.getF (w75 hw) N.1.2.1 d_ntnm_1
  have H3 : Hr x b_ntnm Z EL1 0 0 h0 [] 5 #[.val (.ref t), .val (.int (Int32.ofNat i))] [.int (Int32.ofNat i), .ref L] := H2.iloadN d_ntnm_4
  obtain ⟨_, h1, _, ⟨rfl, rfl, e1⟩, K1, H4⟩ := H3.callF (argsL := [.int (Int32.ofNat i)]) (rest := []) (Wr := 0) (a := L) (ct_alge hw x.l x.nar x.kn hnar h0 D L e eds ys F i hi hk) sub0 XL (w220 hw) (w221 hw) (w222 hw) (w223 hw) (w224 hw) (w225 hw) (w226 hw) (w119 hw) (w53 hw) (w227 hw) d_ntnm_5 pd_alge rfl (hf := by first | decide | (simp [b_ntnm, Bx.R]; done) | (simp [b_ntnm, Bx.R]; omega)) (hl := by first | decide | (simp [b_ntnm, Bx.R]; done) | (simp [b_ntnm, Bx.R]; omega)) (hc := by first | decide | (simp [b_ntnm, Bx.R]; done) | (simp [b_ntnm, Bx.R]; omega)) (hs := by first | decide | (simp [b_ntnm, Bx.R]; done) | (simp [b_ntnm, Bx.R]; omega))
  rw [e1] at H4
  have H4 : Hr x b_ntnm Z EL1 0 0 h0 [] 10 #[.val (.ref t), .val (.int (Int32.ofNat i))] [.ref (ys[i])] := H4
  have H5 : Hr x b_ntnm Z EL1 0 0 h0 [] 13 #[.val (.ref t), .val (.int (Int32.ofNat i))] [.ref (ys[i])] := H4.cast (w98 hw) (Ins.self Ey) d_ntnm_10
  exact H5.finA d_ntnm_13 ⟨rfl, rfl, rfl⟩ sub0
def b_nlz : Bx := (({ frames := 0, cells := 0, slots := 0, locals := 0 } : Room), (⟨"java/lang/Integer", "numberOfLeadingZeros", "(I)I"⟩ : MethodName), jdk_33_method_47_code, 2, (Option.some Jvm.ClassFile.FieldType.int))
theorem ef_nlz  (mI : MethodId) : entryFrame mI #[.int (63 : Int32)] 2 = mkF mI 0 #[.val (.int (63 : Int32)), .unset] [] := by first | (simp [entryFrame, mkF, argsToLocals, Value.category]; done) | rfl
theorem pn_java_lang_Integer : plainName "java/lang/Integer" = true := by first | (simp [plainName, overriddenIn]; done) | decide +kernel
theorem pd_nlz : parseMethodDescriptor "(I)I" = some ⟨[.int], some .int⟩ := by decide +kernel
set_option maxRecDepth 65536 in
set_option maxHeartbeats 4000000 in
theorem ct_nlz {a0 : Array Value} {Z : State} (hw : ∀ d ∈ tables_1, d.before a0 Z = true) (l : Launch) (nar kn : Bool) (hnr : nar = nar) (h0 : Heap)  :
    Ct l Z EL1 (⟨"java/lang/Integer", "numberOfLeadingZeros", "(I)I"⟩ : MethodName) jdk_33_method_47_code 2 (Option.some Jvm.ClassFile.FieldType.int) ({ frames := 0, cells := 0, slots := 0, locals := 0 } : Room) #[.int (63 : Int32)] h0 [] nar kn (fun v h sn => v = some (.int 26) ∧ sn = [] ∧ h = h0) := by
  refine Ct.intro (plainFor_of_name pn_java_lang_Integer) (ew hw) (ef_nlz ) ?_
  intro x hl hn0 hkn hsf hh H0
  have hnar : x.nar = x.nar := rfl
  have H0 : Hr x b_nlz Z EL1 0 0 h0 [] 0 #[.val (.int (63 : Int32)), .unset] [] := H0
  have H1 : Hr x b_nlz Z EL1 0 0 h0 [] 1 #[.val (.int (63 : Int32)), .unset] [.int (63 : Int32)] := H0.iloadN d_nlz_0
  have H2 : Hr x b_nlz Z EL1 0 0 h0 [] 15 #[.val (.int (63 : Int32)), .unset] [] := H1.ifT d_nlz_1 (XT.i0_gt_t (by decide))
  have H3 : Hr x b_nlz Z EL1 0 0 h0 [] 17 #[.val (.int (63 : Int32)), .unset] [.int (31 : Int32)] := H2.bipush d_nlz_15
  have H4 : Hr x b_nlz Z EL1 0 0 h0 [] 18 #[.val (.int (63 : Int32)), .val (.int (31 : Int32))] [] := H3.istoreN d_nlz_17
  have H5 : Hr x b_nlz Z EL1 0 0 h0 [] 19 #[.val (.int (63 : Int32)), .val (.int (31 : Int32))] [.int (63 : Int32)] := H4.iloadN d_nlz_18
  have H6 : Hr x b_nlz Z EL1 0 0 h0 [] 22 #[.val (.int (63 : Int32)), .val (.int (31 : Int32))] [.int (65536 : Int32), .int (63 : Int32)] := H5.ldcWI (w190 hw) d_nlz_19
  have H7 : Hr x b_nlz Z EL1 0 0 h0 [] 33 #[.val (.int (63 : Int32)), .val (.int (31 : Int32))] [] := H6.icmpT d_nlz_22 (XT.ii_lt_t (by decide))
  have H8 : Hr x b_nlz Z EL1 0 0 h0 [] 34 #[.val (.int (63 : Int32)), .val (.int (31 : Int32))] [.int (63 : Int32)] := H7.iloadN d_nlz_33
  have H9 : Hr x b_nlz Z EL1 0 0 h0 [] 37 #[.val (.int (63 : Int32)), .val (.int (31 : Int32))] [.int (256 : Int32), .int (63 : Int32)] := H8.sipush d_nlz_34
  have H10 : Hr x b_nlz Z EL1 0 0 h0 [] 48 #[.val (.int (63 : Int32)), .val (.int (31 : Int32))] [] := H9.icmpT d_nlz_37 (XT.ii_lt_t (by decide))
  have H11 : Hr x b_nlz Z EL1 0 0 h0 [] 49 #[.val (.int (63 : Int32)), .val (.int (31 : Int32))] [.int (63 : Int32)] := H10.iloadN d_nlz_48
  have H12 : Hr x b_nlz Z EL1 0 0 h0 [] 51 #[.val (.int (63 : Int32)), .val (.int (31 : Int32))] [.int (16 : Int32), .int (63 : Int32)] := H11.bipush d_nlz_49
  have H13 : Hr x b_nlz Z EL1 0 0 h0 [] 54 #[.val (.int (63 : Int32)), .val (.int (31 : Int32))] [] := H12.icmpF d_nlz_51 (XT.ii_lt_f (by decide))
  have H14 : Hr x b_nlz Z EL1 0 0 h0 [] 57 #[.val (.int (63 : Int32)), .val (.int (27 : Int32))] [] := H13.iinc d_nlz_54 (v := (27 : Int32)) (hv := (by decide))
  have H15 : Hr x b_nlz Z EL1 0 0 h0 [] 58 #[.val (.int (63 : Int32)), .val (.int (27 : Int32))] [.int (63 : Int32)] := H14.iloadN d_nlz_57
  have H16 : Hr x b_nlz Z EL1 0 0 h0 [] 59 #[.val (.int (63 : Int32)), .val (.int (27 : Int32))] [.int (4 : Int32), .int (63 : Int32)] := H15.iconst d_nlz_58
  have H17 : Hr x b_nlz Z EL1 0 0 h0 [] 60 #[.val (.int (63 : Int32)), .val (.int (27 : Int32))] [.int (3 : Int32)] := H16.iushr d_nlz_59 (hv := (by decide))
  have H18 : Hr x b_nlz Z EL1 0 0 h0 [] 61 #[.val (.int (3 : Int32)), .val (.int (27 : Int32))] [] := H17.istoreN d_nlz_60
  have H19 : Hr x b_nlz Z EL1 0 0 h0 [] 62 #[.val (.int (3 : Int32)), .val (.int (27 : Int32))] [.int (3 : Int32)] := H18.iloadN d_nlz_61
  have H20 : Hr x b_nlz Z EL1 0 0 h0 [] 63 #[.val (.int (3 : Int32)), .val (.int (27 : Int32))] [.int (4 : Int32), .int (3 : Int32)] := H19.iconst d_nlz_62
  have H21 : Hr x b_nlz Z EL1 0 0 h0 [] 73 #[.val (.int (3 : Int32)), .val (.int (27 : Int32))] [] := H20.icmpT d_nlz_63 (XT.ii_lt_t (by decide))
  have H22 : Hr x b_nlz Z EL1 0 0 h0 [] 74 #[.val (.int (3 : Int32)), .val (.int (27 : Int32))] [.int (27 : Int32)] := H21.iloadN d_nlz_73
  have H23 : Hr x b_nlz Z EL1 0 0 h0 [] 75 #[.val (.int (3 : Int32)), .val (.int (27 : Int32))] [.int (3 : Int32), .int (27 : Int32)] := H22.iloadN d_nlz_74
  have H24 : Hr x b_nlz Z EL1 0 0 h0 [] 76 #[.val (.int (3 : Int32)), .val (.int (27 : Int32))] [.int (1 : Int32), .int (3 : Int32), .int (27 : Int32)] := H23.iconst d_nlz_75
  have H25 : Hr x b_nlz Z EL1 0 0 h0 [] 77 #[.val (.int (3 : Int32)), .val (.int (27 : Int32))] [.int (1 : Int32), .int (27 : Int32)] := H24.iushr d_nlz_76 (hv := (by decide))
  have H26 : Hr x b_nlz Z EL1 0 0 h0 [] 78 #[.val (.int (3 : Int32)), .val (.int (27 : Int32))] [.int (26 : Int32)] := H25.isub d_nlz_77 (hv := (by decide))
  exact H26.finI d_nlz_78 ⟨rfl, rfl, rfl⟩ sub0
def b_ntsl : Bx := (({ frames := 1, cells := 0, slots := 0, locals := 14 } : Room), (⟨"com/example/afterscore/afterscore/io/NameTable", "slot", "(I)I"⟩ : MethodName), prog_4_method_9_code, 2, (Option.some Jvm.ClassFile.FieldType.int))
theorem ef_ntsl (t : Addr) (r : Int32) (mI : MethodId) : entryFrame mI #[.ref t, .int r] 2 = mkF mI 0 #[.val (.ref t), .val (.int r)] [] := by first | (simp [entryFrame, mkF, argsToLocals, Value.category]; done) | rfl
theorem pd_ntsl : parseMethodDescriptor "(I)I" = some ⟨[.int], some .int⟩ := by decide +kernel
set_option maxRecDepth 65536 in
set_option maxHeartbeats 4000000 in
theorem ct_ntsl {a0 : Array Value} {Z : State} (hw : ∀ d ∈ tables_1, d.before a0 Z = true) (l : Launch) (nar kn : Bool) (hnr : nar = nar) (h0 : Heap) (t L sl hs ix : Addr) (k : Nat) (ps : List Nat) (zs : List Addr) (N : NTS Z h0 t L sl hs ix k ps zs) (r : Int32) :
    Ct l Z EL1 (⟨"com/example/afterscore/afterscore/io/NameTable", "slot", "(I)I"⟩ : MethodName) prog_4_method_9_code 2 (Option.some Jvm.ClassFile.FieldType.int) ({ frames := 1, cells := 0, slots := 0, locals := 14 } : Room) #[.ref t, .int r] h0 [] nar kn (fun v h sn => ∃ p, p < 64 ∧ v = some (.int (Int32.ofNat p)) ∧ sn = [] ∧ h = h0) := by
  refine Ct.intro (plainFor_of_name pn_com_example_afterscore_afterscore_io_NameTable) (ew hw) (ef_ntsl t r) ?_
  intro x hl hn0 hkn hsf hh H0
  have hnar : x.nar = x.nar := rfl
  have H0 : Hr x b_ntsl Z EL1 0 0 h0 [] 0 #[.val (.ref t), .val (.int r)] [] := H0
  obtain ⟨vs, G, hv, -⟩ := N.2.1
  have H1 : Hr x b_ntsl Z EL1 0 0 h0 [] 1 #[.val (.ref t), .val (.int r)] [.int r] := H0.iloadN d_ntsl_0
  have H2 : Hr x b_ntsl Z EL1 0 0 h0 [] 3 #[.val (.ref t), .val (.int r)] [.int (-1640531527 : Int32), .int r] := H1.ldcI (w185 hw) d_ntsl_1
  have H3 : Hr x b_ntsl Z EL1 0 0 h0 [] 4 #[.val (.ref t), .val (.int r)] [.int (r * (-1640531527 : Int32))] := H2.imul d_ntsl_3
  have H4 : Hr x b_ntsl Z EL1 0 0 h0 [] 5 #[.val (.ref t), .val (.int r)] [.ref t, .int (r * (-1640531527 : Int32))] := H3.aloadN d_ntsl_4
  have H5 : Hr x b_ntsl Z EL1 0 0 h0 [] 8 #[.val (.ref t), .val (.int r)] [.ref sl, .int (r * (-1640531527 : Int32))] := H4.getF (w100 hw) N.1.2.2.1 d_ntsl_5
  have H6 : Hr x b_ntsl Z EL1 0 0 h0 [] 9 #[.val (.ref t), .val (.int r)] [.int (64 : Int32), .int (r * (-1640531527 : Int32))] := H5.arraylength G.ar d_ntsl_8 (hn := (by rw [hv]; rfl))
  have H7 : Hr x b_ntsl Z EL1 0 0 h0 [] 10 #[.val (.ref t), .val (.int r)] [.int (1 : Int32), .int (64 : Int32), .int (r * (-1640531527 : Int32))] := H6.iconst d_ntsl_9
  have H8 : Hr x b_ntsl Z EL1 0 0 h0 [] 11 #[.val (.ref t), .val (.int r)] [.int (63 : Int32), .int (r * (-1640531527 : Int32))] := H7.isub d_ntsl_10 (hv := (by decide))
  obtain ⟨_, h1, _, ⟨rfl, rfl, e1⟩, K1, H9⟩ := H8.callS (argsL := [.int (63 : Int32)]) (rest := [.int (r * (-1640531527 : Int32))]) (Wr := 1) (ct_nlz hw x.l x.nar x.kn hnar h0 ) sub0 (w186 hw) (w187 hw) (w188 hw) (w189 hw) d_ntsl_11 pd_nlz rfl (hf := by first | decide | (simp [b_ntsl, Bx.R]; done) | (simp [b_ntsl, Bx.R]; omega)) (hl := by first | decide | (simp [b_ntsl, Bx.R]; done) | (simp [b_ntsl, Bx.R]; omega)) (hc := by first | decide | (simp [b_ntsl, Bx.R]; done) | (simp [b_ntsl, Bx.R]; omega)) (hs := by first | decide | (simp [b_ntsl, Bx.R]; done) | (simp [b_ntsl, Bx.R]; omega))
  rw [e1] at H9
  have H9 : Hr x b_ntsl Z EL1 0 0 h0 [] 14 #[.val (.ref t), .val (.int r)] [.int (26 : Int32), .int (r * (-1640531527 : Int32))] := H9
  obtain ⟨p, hp, ep⟩ := slot64 (r * (-1640531527 : Int32))
  have H10 : Hr x b_ntsl Z EL1 0 0 h0 [] 15 #[.val (.ref t), .val (.int r)] [.int (Int32.ofNat p)] := H9.iushr d_ntsl_14 (hv := ep)
  exact H10.finI d_ntsl_15 ⟨p, hp, rfl, rfl, rfl⟩ sub0
def b_ntnx : Bx := (({ frames := 0, cells := 0, slots := 0, locals := 0 } : Room), (⟨"com/example/afterscore/afterscore/io/NameTable", "next", "(I)I"⟩ : MethodName), prog_4_method_10_code, 2, (Option.some Jvm.ClassFile.FieldType.int))
theorem ef_ntnx (t : Addr) (j : Nat) (mI : MethodId) : entryFrame mI #[.ref t, .int (Int32.ofNat j)] 2 = mkF mI 0 #[.val (.ref t), .val (.int (Int32.ofNat j))] [] := by first | (simp [entryFrame, mkF, argsToLocals, Value.category]; done) | rfl
theorem pd_ntnx : parseMethodDescriptor "(I)I" = some ⟨[.int], some .int⟩ := by decide +kernel
set_option maxRecDepth 65536 in
set_option maxHeartbeats 4000000 in
theorem ct_ntnx {a0 : Array Value} {Z : State} (hw : ∀ d ∈ tables_1, d.before a0 Z = true) (l : Launch) (nar kn : Bool) (hnr : nar = nar) (h0 : Heap) (t L sl hs ix : Addr) (k : Nat) (ps : List Nat) (zs : List Addr) (N : NTS Z h0 t L sl hs ix k ps zs) (j : Nat) (hj : j < 64) :
    Ct l Z EL1 (⟨"com/example/afterscore/afterscore/io/NameTable", "next", "(I)I"⟩ : MethodName) prog_4_method_10_code 2 (Option.some Jvm.ClassFile.FieldType.int) ({ frames := 0, cells := 0, slots := 0, locals := 0 } : Room) #[.ref t, .int (Int32.ofNat j)] h0 [] nar kn (fun v h sn => v = some (.int (Int32.ofNat ((j + 1) % 64))) ∧ sn = [] ∧ h = h0) := by
  refine Ct.intro (plainFor_of_name pn_com_example_afterscore_afterscore_io_NameTable) (ew hw) (ef_ntnx t j) ?_
  intro x hl hn0 hkn hsf hh H0
  have hnar : x.nar = x.nar := rfl
  have H0 : Hr x b_ntnx Z EL1 0 0 h0 [] 0 #[.val (.ref t), .val (.int (Int32.ofNat j))] [] := H0
  obtain ⟨vs, G, hv, -⟩ := N.2.1
  have H1 : Hr x b_ntnx Z EL1 0 0 h0 [] 1 #[.val (.ref t), .val (.int (Int32.ofNat j))] [.int (Int32.ofNat j)] := H0.iloadN d_ntnx_0
  have H2 : Hr x b_ntnx Z EL1 0 0 h0 [] 2 #[.val (.ref t), .val (.int (Int32.ofNat j))] [.int (1 : Int32), .int (Int32.ofNat j)] := H1.iconst d_ntnx_1
  have H3 : Hr x b_ntnx Z EL1 0 0 h0 [] 3 #[.val (.ref t), .val (.int (Int32.ofNat j))] [.int ((Int32.ofNat j) + (1 : Int32))] := H2.iadd d_ntnx_2
  have H4 : Hr x b_ntnx Z EL1 0 0 h0 [] 4 #[.val (.ref t), .val (.int (Int32.ofNat j))] [.ref t, .int ((Int32.ofNat j) + (1 : Int32))] := H3.aloadN d_ntnx_3
  have H5 : Hr x b_ntnx Z EL1 0 0 h0 [] 7 #[.val (.ref t), .val (.int (Int32.ofNat j))] [.ref sl, .int ((Int32.ofNat j) + (1 : Int32))] := H4.getF (w100 hw) N.1.2.2.1 d_ntnx_4
  have H6 : Hr x b_ntnx Z EL1 0 0 h0 [] 8 #[.val (.ref t), .val (.int (Int32.ofNat j))] [.int (64 : Int32), .int ((Int32.ofNat j) + (1 : Int32))] := H5.arraylength G.ar d_ntnx_7 (hn := (by rw [hv]; rfl))
  have H7 : Hr x b_ntnx Z EL1 0 0 h0 [] 9 #[.val (.ref t), .val (.int (Int32.ofNat j))] [.int (1 : Int32), .int (64 : Int32), .int ((Int32.ofNat j) + (1 : Int32))] := H6.iconst d_ntnx_8
  have H8 : Hr x b_ntnx Z EL1 0 0 h0 [] 10 #[.val (.ref t), .val (.int (Int32.ofNat j))] [.int (63 : Int32), .int ((Int32.ofNat j) + (1 : Int32))] := H7.isub d_ntnx_9 (hv := (by decide))
  have H9 : Hr x b_ntnx Z EL1 0 0 h0 [] 11 #[.val (.ref t), .val (.int (Int32.ofNat j))] [.int (Int32.ofNat ((j + 1) % 64))] := H8.iand d_ntnx_10 (hv := (nxt hj))
  exact H9.finI d_ntnx_11 ⟨rfl, rfl, rfl⟩ sub0
def b_ntpl : Bx := (({ frames := 4, cells := 0, slots := 0, locals := 61 } : Room), (⟨"com/example/afterscore/afterscore/io/NameTable", "place", "(Ljava/lang/String;I)V"⟩ : MethodName), prog_4_method_8_code, 5, (Option.none : Option Jvm.ClassFile.FieldType))
theorem ef_ntpl (t y : Addr) (c : Int32) (mI : MethodId) : entryFrame mI #[.ref t, .ref y, .int c] 5 = mkF mI 0 #[.val (.ref t), .val (.ref y), .val (.int c), .unset, .unset] [] := by first | (simp [entryFrame, mkF, argsToLocals, Value.category]; done) | rfl
theorem pd_ntpl : parseMethodDescriptor "(Ljava/lang/String;I)V" = some ⟨[(.object "java/lang/String"), .int], none⟩ := by decide +kernel
set_option maxRecDepth 65536 in
set_option maxHeartbeats 4000000 in
theorem ct_ntpl {a0 : Array Value} {Z : State} (hw : ∀ d ∈ tables_1, d.before a0 Z = true) (l : Launch) (nar kn : Bool) (hnr : nar = nar) (h0 : Heap) (t L sl hs ix : Addr) (k : Nat) (ps : List Nat) (zs : List Addr) (N : NTS Z h0 t L sl hs ix k ps zs) (y : Addr) (c : Int32) (Fy : SG Z h0 y) (hps : ps.length ≤ 2) (hk : k ≤ 2) (hhx : hs ≠ ix) (cz : Int32) (O : Sta Z Z.heap "java/lang/String" "COMPACT_STRINGS" "Z" (.int cz)) (hcz : ¬ cz = 0) :
    Ct l Z EL1 (⟨"com/example/afterscore/afterscore/io/NameTable", "place", "(Ljava/lang/String;I)V"⟩ : MethodName) prog_4_method_8_code 5 (Option.none : Option Jvm.ClassFile.FieldType) ({ frames := 4, cells := 0, slots := 0, locals := 61 } : Room) #[.ref t, .ref y, .int c] h0 [t, sl, hs, ix, y] nar kn (fun v h sn => v = none ∧ sn = [] ∧ (∃ p, NTS Z h t L sl hs ix (k + 1) (p :: ps) (y :: zs)) ∧ SG Z h y) := by
  refine Ct.intro (plainFor_of_name pn_com_example_afterscore_afterscore_io_NameTable) (ew hw) (ef_ntpl t y c) ?_
  intro x hl hn0 hkn hsf hh H0
  have hnar : x.nar = x.nar := rfl
  have H0 : Hr x b_ntpl Z EL1 0 0 h0 [t, sl, hs, ix, y] 0 #[.val (.ref t), .val (.ref y), .val (.int c), .unset, .unset] [] := H0
  have m01 := slot_ne (a0 := a0) (C := "com/example/afterscore/afterscore/io/NameTable") (O := "com/example/afterscore/afterscore/io/NameTable") (O' := "com/example/afterscore/afterscore/io/NameTable") (n := "names") (n' := "apart") (Or.inr (w76 hw)) (Or.inr (w97 hw)) (by decide) (t := .object "java/util/List") (t' := .object "java/util/TreeMap") (by decide) (by decide)
  have m02 := slot_ne (a0 := a0) (C := "com/example/afterscore/afterscore/io/NameTable") (O := "com/example/afterscore/afterscore/io/NameTable") (O' := "com/example/afterscore/afterscore/io/NameTable") (n := "names") (n' := "slots") (Or.inr (w76 hw)) (Or.inl (w101 hw)) (by decide) (t := .object "java/util/List") (t' := .array (.object "java/lang/String")) (by decide) (by decide)
  have m03 := slot_ne (a0 := a0) (C := "com/example/afterscore/afterscore/io/NameTable") (O := "com/example/afterscore/afterscore/io/NameTable") (O' := "com/example/afterscore/afterscore/io/NameTable") (n := "names") (n' := "hashes") (Or.inr (w76 hw)) (Or.inl (w104 hw)) (by decide) (t := .object "java/util/List") (t' := .array .int) (by decide) (by decide)
  have m04 := slot_ne (a0 := a0) (C := "com/example/afterscore/afterscore/io/NameTable") (O := "com/example/afterscore/afterscore/io/NameTable") (O' := "com/example/afterscore/afterscore/io/NameTable") (n := "names") (n' := "indexes") (Or.inr (w76 hw)) (Or.inl (w106 hw)) (by decide) (t := .object "java/util/List") (t' := .array .int) (by decide) (by decide)
  have m05 := slot_ne (a0 := a0) (C := "com/example/afterscore/afterscore/io/NameTable") (O := "com/example/afterscore/afterscore/io/NameTable") (O' := "com/example/afterscore/afterscore/io/NameTable") (n := "names") (n' := "taken") (Or.inr (w76 hw)) (Or.inl (w192 hw)) (by decide) (t := .object "java/util/List") (t' := .int) (by decide) (by decide)
  have m12 := slot_ne (a0 := a0) (C := "com/example/afterscore/afterscore/io/NameTable") (O := "com/example/afterscore/afterscore/io/NameTable") (O' := "com/example/afterscore/afterscore/io/NameTable") (n := "apart") (n' := "slots") (Or.inr (w97 hw)) (Or.inl (w101 hw)) (by decide) (t := .object "java/util/TreeMap") (t' := .array (.object "java/lang/String")) (by decide) (by decide)
  have m13 := slot_ne (a0 := a0) (C := "com/example/afterscore/afterscore/io/NameTable") (O := "com/example/afterscore/afterscore/io/NameTable") (O' := "com/example/afterscore/afterscore/io/NameTable") (n := "apart") (n' := "hashes") (Or.inr (w97 hw)) (Or.inl (w104 hw)) (by decide) (t := .object "java/util/TreeMap") (t' := .array .int) (by decide) (by decide)
  have m14 := slot_ne (a0 := a0) (C := "com/example/afterscore/afterscore/io/NameTable") (O := "com/example/afterscore/afterscore/io/NameTable") (O' := "com/example/afterscore/afterscore/io/NameTable") (n := "apart") (n' := "indexes") (Or.inr (w97 hw)) (Or.inl (w106 hw)) (by decide) (t := .object "java/util/TreeMap") (t' := .array .int) (by decide) (by decide)
  have m15 := slot_ne (a0 := a0) (C := "com/example/afterscore/afterscore/io/NameTable") (O := "com/example/afterscore/afterscore/io/NameTable") (O' := "com/example/afterscore/afterscore/io/NameTable") (n := "apart") (n' := "taken") (Or.inr (w97 hw)) (Or.inl (w192 hw)) (by decide) (t := .object "java/util/TreeMap") (t' := .int) (by decide) (by decide)
  have m23 := slot_ne (a0 := a0) (C := "com/example/afterscore/afterscore/io/NameTable") (O := "com/example/afterscore/afterscore/io/NameTable") (O' := "com/example/afterscore/afterscore/io/NameTable") (n := "slots") (n' := "hashes") (Or.inl (w101 hw)) (Or.inl (w104 hw)) (by decide) (t := .array (.object "java/lang/String")) (t' := .array .int) (by decide) (by decide)
  have m24 := slot_ne (a0 := a0) (C := "com/example/afterscore/afterscore/io/NameTable") (O := "com/example/afterscore/afterscore/io/NameTable") (O' := "com/example/afterscore/afterscore/io/NameTable") (n := "slots") (n' := "indexes") (Or.inl (w101 hw)) (Or.inl (w106 hw)) (by decide) (t := .array (.object "java/lang/String")) (t' := .array .int) (by decide) (by decide)
  have m25 := slot_ne (a0 := a0) (C := "com/example/afterscore/afterscore/io/NameTable") (O := "com/example/afterscore/afterscore/io/NameTable") (O' := "com/example/afterscore/afterscore/io/NameTable") (n := "slots") (n' := "taken") (Or.inl (w101 hw)) (Or.inl (w192 hw)) (by decide) (t := .array (.object "java/lang/String")) (t' := .int) (by decide) (by decide)
  have m34 := slot_ne (a0 := a0) (C := "com/example/afterscore/afterscore/io/NameTable") (O := "com/example/afterscore/afterscore/io/NameTable") (O' := "com/example/afterscore/afterscore/io/NameTable") (n := "hashes") (n' := "indexes") (Or.inl (w104 hw)) (Or.inl (w106 hw)) (by decide) (t := .array .int) (t' := .array .int) (by decide) (by decide)
  have m35 := slot_ne (a0 := a0) (C := "com/example/afterscore/afterscore/io/NameTable") (O := "com/example/afterscore/afterscore/io/NameTable") (O' := "com/example/afterscore/afterscore/io/NameTable") (n := "hashes") (n' := "taken") (Or.inl (w104 hw)) (Or.inl (w192 hw)) (by decide) (t := .array .int) (t' := .int) (by decide) (by decide)
  have m45 := slot_ne (a0 := a0) (C := "com/example/afterscore/afterscore/io/NameTable") (O := "com/example/afterscore/afterscore/io/NameTable") (O' := "com/example/afterscore/afterscore/io/NameTable") (n := "indexes") (n' := "taken") (Or.inl (w106 hw)) (Or.inl (w192 hw)) (by decide) (t := .array .int) (t' := .int) (by decide) (by decide)
  have d_ty : t ≠ y := N.1.1.ne Fy.exa (by decide)
  have d_tsl : t ≠ sl := exa_neAr N.1.1 (N.2.1.choose_spec.1.ar) (w45 hw)
  have d_ysl : y ≠ sl := exa_neAr Fy.exa (N.2.1.choose_spec.1.ar) (w10 hw)
  have d_ths : t ≠ hs := exa_neAr N.1.1 (N.2.2.1.choose_spec.1) (w45 hw)
  have d_yhs : y ≠ hs := exa_neAr Fy.exa (N.2.2.1.choose_spec.1) (w10 hw)
  have d_tix : t ≠ ix := exa_neAr N.1.1 (N.2.2.2.choose_spec.1) (w45 hw)
  have d_yix : y ≠ ix := exa_neAr Fy.exa (N.2.2.2.choose_spec.1) (w10 hw)
  have d_lh : sl ≠ hs := (N.2.1.choose_spec.1.ar).neTy (N.2.2.1.choose_spec.1) (by decide)
  have d_lx : sl ≠ ix := (N.2.1.choose_spec.1.ar).neTy (N.2.2.2.choose_spec.1) (by decide)
  have H1 : Hr x b_ntpl Z EL1 0 0 h0 [t, sl, hs, ix, y] 1 #[.val (.ref t), .val (.ref y), .val (.int c), .unset, .unset] [.ref t] := H0.aloadN d_ntpl_0
  have H2 : Hr x b_ntpl Z EL1 0 0 h0 [t, sl, hs, ix, y] 2 #[.val (.ref t), .val (.ref y), .val (.int c), .unset, .unset] [.ref y, .ref t] := H1.aloadN d_ntpl_1
  obtain ⟨_, h1, _, ⟨r, rfl, rfl, Fy1⟩, K1, H3⟩ := H2.callV (argsL := []) (rest := [.ref t]) (Wr := 1) (a := y) (ct_hash hw x.l x.nar x.kn hnar h0 y Fy cz O hcz) (sub1 (by simp)) Fy.exa (w164 hw) (w165 hw) (w167 hw) (w167 hw) (w166 hw) (w2 hw) (w168 hw) d_ntpl_2 pd_hash rfl (hf := by first | decide | (simp [b_ntpl, Bx.R]; done) | (simp [b_ntpl, Bx.R]; omega)) (hl := by first | decide | (simp [b_ntpl, Bx.R]; done) | (simp [b_ntpl, Bx.R]; omega)) (hc := by first | decide | (simp [b_ntpl, Bx.R]; done) | (simp [b_ntpl, Bx.R]; omega)) (hs := by first | decide | (simp [b_ntpl, Bx.R]; done) | (simp [b_ntpl, Bx.R]; omega))
  have H3 : Hr x b_ntpl Z EL1 0 0 h1 [t, sl, hs, ix, y] 5 #[.val (.ref t), .val (.ref y), .val (.int c), .unset, .unset] [.int r, .ref t] := H3
  have N1 := N.keep K1 (ninS d_ty nin0) (ninS (Ne.symm d_ysl) nin0) (ninS (Ne.symm d_yhs) nin0) (ninS (Ne.symm d_yix) nin0)
  obtain ⟨_, h2, _, ⟨p0, hp0, rfl, rfl, e2⟩, K2, H4⟩ := H3.callP (argsL := [.int r]) (rest := []) (Wr := 0) (a := t) (ct_ntsl hw x.l x.nar x.kn hnar h1 t L sl hs ix k ps zs N1 r) sub0 N1.1.1 (w181 hw) (w182 hw) (w110 hw) (w183 hw) (w46 hw) (w184 hw) d_ntpl_5 pd_ntsl rfl (hf := by first | decide | (simp [b_ntpl, Bx.R]; done) | (simp [b_ntpl, Bx.R]; omega)) (hl := by first | decide | (simp [b_ntpl, Bx.R]; done) | (simp [b_ntpl, Bx.R]; omega)) (hc := by first | decide | (simp [b_ntpl, Bx.R]; done) | (simp [b_ntpl, Bx.R]; omega)) (hs := by first | decide | (simp [b_ntpl, Bx.R]; done) | (simp [b_ntpl, Bx.R]; omega))
  rw [e2] at H4
  have H4 : Hr x b_ntpl Z EL1 0 0 h1 [t, sl, hs, ix, y] 8 #[.val (.ref t), .val (.ref y), .val (.int c), .unset, .unset] [.int (Int32.ofNat p0)] := H4
  have H5 : Hr x b_ntpl Z EL1 0 0 h1 [t, sl, hs, ix, y] 9 #[.val (.ref t), .val (.ref y), .val (.int c), .val (.int (Int32.ofNat p0)), .unset] [] := H4.istoreN d_ntpl_8
  have H6 : Hr x b_ntpl Z EL1 0 0 h1 [t, sl, hs, ix, y] 10 #[.val (.ref t), .val (.ref y), .val (.int c), .val (.int (Int32.ofNat p0)), .unset] [.int (0 : Int32)] := H5.iconst d_ntpl_9
  have H7 : Hr x b_ntpl Z EL1 0 0 h1 [t, sl, hs, ix, y] 12 #[.val (.ref t), .val (.ref y), .val (.int c), .val (.int (Int32.ofNat p0)), .val (.int (0 : Int32))] [] := H6.istore d_ntpl_10
  obtain ⟨⟨T1, T2, T3, T4, T5, T6⟩, ⟨vs, G, hv, hN⟩, ⟨is, J, hJ⟩, ⟨js, Ij, hI⟩⟩ := N1
  have N1 : NTS Z h1 t L sl hs ix k ps zs := ⟨⟨T1, T2, T3, T4, T5, T6⟩, ⟨vs, G, hv, hN⟩, ⟨is, J, hJ⟩, ⟨js, Ij, hI⟩⟩
  have loop : ∀ (m i : Nat) (qs : List Nat), qs.length ≤ m → i + qs.length ≤ 2 → (∀ j v, vs[j]? = some v → v = .null ∨ j ∈ qs ∨ ∃ i0, i0 < i ∧ j = (p0 + i0) % 64) → Hr x b_ntpl Z EL1 0 0 h1 [t, sl, hs, ix, y] 12 #[.val (.ref t), .val (.ref y), .val (.int c), .val (.int (Int32.ofNat ((p0 + i) % 64))), .val (.int (Int32.ofNat i))] [] → Ends x b_ntpl Z EL1 (fun v h sn => v = none ∧ sn = [] ∧ (∃ p, NTS Z h t L sl hs ix (k + 1) (p :: ps) (y :: zs)) ∧ SG Z h y) := by
    intro m
    induction m with
    | zero =>
      intro i qs hm hi hq H
      have hp : (p0 + i) % 64 < vs.length := by omega
      rcases hq _ _ (List.getElem?_eq_getElem hp) with hz | hz | ⟨i0, hz1, hz2⟩
      · have z74 := True.intro
        have hz2 : vs[(p0 + i) % 64]? = some .null := by rw [List.getElem?_eq_getElem hp, hz]
        have H75 : Hr x b_ntpl Z EL1 0 0 h1 [t, sl, hs, ix, y] 14 #[.val (.ref t), .val (.ref y), .val (.int c), .val (.int (Int32.ofNat ((p0 + i) % 64))), .val (.int (Int32.ofNat i))] [.int (Int32.ofNat i)] := H.iload d_ntpl_12
        have H76 : Hr x b_ntpl Z EL1 0 0 h1 [t, sl, hs, ix, y] 16 #[.val (.ref t), .val (.ref y), .val (.int c), .val (.int (Int32.ofNat ((p0 + i) % 64))), .val (.int (Int32.ofNat i))] [.int (8 : Int32), .int (Int32.ofNat i)] := H75.bipush d_ntpl_14
        have H77 : Hr x b_ntpl Z EL1 0 0 h1 [t, sl, hs, ix, y] 19 #[.val (.ref t), .val (.ref y), .val (.int c), .val (.int (Int32.ofNat ((p0 + i) % 64))), .val (.int (Int32.ofNat i))] [] := H76.icmpF d_ntpl_16 (XT.ii_ge_f (lt_ofNat (n := 8) (by omega) (by decide)))
        have H78 : Hr x b_ntpl Z EL1 0 0 h1 [t, sl, hs, ix, y] 20 #[.val (.ref t), .val (.ref y), .val (.int c), .val (.int (Int32.ofNat ((p0 + i) % 64))), .val (.int (Int32.ofNat i))] [.ref t] := H77.aloadN d_ntpl_19
        have H79 : Hr x b_ntpl Z EL1 0 0 h1 [t, sl, hs, ix, y] 23 #[.val (.ref t), .val (.ref y), .val (.int c), .val (.int (Int32.ofNat ((p0 + i) % 64))), .val (.int (Int32.ofNat i))] [.ref sl] := H78.getF (w100 hw) T3 d_ntpl_20
        have H80 : Hr x b_ntpl Z EL1 0 0 h1 [t, sl, hs, ix, y] 24 #[.val (.ref t), .val (.ref y), .val (.int c), .val (.int (Int32.ofNat ((p0 + i) % 64))), .val (.int (Int32.ofNat i))] [.int (Int32.ofNat ((p0 + i) % 64)), .ref sl] := H79.iloadN d_ntpl_23
        have H81 : Hr x b_ntpl Z EL1 0 0 h1 [t, sl, hs, ix, y] 25 #[.val (.ref t), .val (.ref y), .val (.int c), .val (.int (Int32.ofNat ((p0 + i) % 64))), .val (.int (Int32.ofNat i))] [.null] := H80.aaload G.ar d_ntpl_24 (i := ((p0 + i) % 64)) rfl hz2
        have H82 : Hr x b_ntpl Z EL1 0 0 h1 [t, sl, hs, ix, y] 28 #[.val (.ref t), .val (.ref y), .val (.int c), .val (.int (Int32.ofNat ((p0 + i) % 64))), .val (.int (Int32.ofNat i))] [] := H81.ifnonnullF d_ntpl_25
        have H83 : Hr x b_ntpl Z EL1 0 0 h1 [t, sl, hs, ix, y] 29 #[.val (.ref t), .val (.ref y), .val (.int c), .val (.int (Int32.ofNat ((p0 + i) % 64))), .val (.int (Int32.ofNat i))] [.ref t] := H82.aloadN d_ntpl_28
        have H84 : Hr x b_ntpl Z EL1 0 0 h1 [t, sl, hs, ix, y] 32 #[.val (.ref t), .val (.ref y), .val (.int c), .val (.int (Int32.ofNat ((p0 + i) % 64))), .val (.int (Int32.ofNat i))] [.ref sl] := H83.getF (w100 hw) T3 d_ntpl_29
        have H85 : Hr x b_ntpl Z EL1 0 0 h1 [t, sl, hs, ix, y] 33 #[.val (.ref t), .val (.ref y), .val (.int c), .val (.int (Int32.ofNat ((p0 + i) % 64))), .val (.int (Int32.ofNat i))] [.int (Int32.ofNat ((p0 + i) % 64)), .ref sl] := H84.iloadN d_ntpl_32
        have H86 : Hr x b_ntpl Z EL1 0 0 h1 [t, sl, hs, ix, y] 34 #[.val (.ref t), .val (.ref y), .val (.int c), .val (.int (Int32.ofNat ((p0 + i) % 64))), .val (.int (Int32.ofNat i))] [.ref y, .int (Int32.ofNat ((p0 + i) % 64)), .ref sl] := H85.aloadN d_ntpl_33
        obtain ⟨h3, W3, H87⟩ := H86.aastore (by simp) G (Ins.self Fy1.exa) d_ntpl_34 (i := ((p0 + i) % 64)) rfl (by rw [hv]; omega)
        have H87 : Hr x b_ntpl Z EL1 0 0 h3 [t, sl, hs, ix, y] 35 #[.val (.ref t), .val (.ref y), .val (.int c), .val (.int (Int32.ofNat ((p0 + i) % 64))), .val (.int (Int32.ofNat i))] [] := H87
        have Fy3 : SG Z h3 y := Fy1.keep (Keep.of_wr W3) (allS (apt_arr Fy1.exa G.ar (by decide) (w10 hw)) all0)
        have G3 := G.set W3
        have H88 : Hr x b_ntpl Z EL1 0 0 h3 [t, sl, hs, ix, y] 36 #[.val (.ref t), .val (.ref y), .val (.int c), .val (.int (Int32.ofNat ((p0 + i) % 64))), .val (.int (Int32.ofNat i))] [.ref t] := H87.aloadN d_ntpl_35
        have H89 : Hr x b_ntpl Z EL1 0 0 h3 [t, sl, hs, ix, y] 39 #[.val (.ref t), .val (.ref y), .val (.int c), .val (.int (Int32.ofNat ((p0 + i) % 64))), .val (.int (Int32.ofNat i))] [.ref hs] := H88.getF (w103 hw) (T4.other W3 (Or.inl d_tsl)) d_ntpl_36
        have H90 : Hr x b_ntpl Z EL1 0 0 h3 [t, sl, hs, ix, y] 40 #[.val (.ref t), .val (.ref y), .val (.int c), .val (.int (Int32.ofNat ((p0 + i) % 64))), .val (.int (Int32.ofNat i))] [.int (Int32.ofNat ((p0 + i) % 64)), .ref hs] := H89.iloadN d_ntpl_39
        have H91 : Hr x b_ntpl Z EL1 0 0 h3 [t, sl, hs, ix, y] 41 #[.val (.ref t), .val (.ref y), .val (.int c), .val (.int (Int32.ofNat ((p0 + i) % 64))), .val (.int (Int32.ofNat i))] [.ref y, .int (Int32.ofNat ((p0 + i) % 64)), .ref hs] := H90.aloadN d_ntpl_40
        obtain ⟨_, h4, _, ⟨r4, rfl, rfl, Fy4⟩, K4, H92⟩ := H91.callV (argsL := []) (rest := [.int (Int32.ofNat ((p0 + i) % 64)), .ref hs]) (Wr := 2) (a := y) (ct_hash hw x.l x.nar x.kn hnar h3 y Fy3 cz O hcz) (sub1 (by simp)) Fy3.exa (w164 hw) (w165 hw) (w167 hw) (w167 hw) (w166 hw) (w2 hw) (w168 hw) d_ntpl_41 pd_hash rfl (hf := by first | decide | (simp [b_ntpl, Bx.R]; done) | (simp [b_ntpl, Bx.R]; omega)) (hl := by first | decide | (simp [b_ntpl, Bx.R]; done) | (simp [b_ntpl, Bx.R]; omega)) (hc := by first | decide | (simp [b_ntpl, Bx.R]; done) | (simp [b_ntpl, Bx.R]; omega)) (hs := by first | decide | (simp [b_ntpl, Bx.R]; done) | (simp [b_ntpl, Bx.R]; omega))
        have H92 : Hr x b_ntpl Z EL1 0 0 h4 [t, sl, hs, ix, y] 44 #[.val (.ref t), .val (.ref y), .val (.int c), .val (.int (Int32.ofNat ((p0 + i) % 64))), .val (.int (Int32.ofNat i))] [.int r4, .int (Int32.ofNat ((p0 + i) % 64)), .ref hs] := H92
        have J4 := (J.other W3 (Ne.symm d_lh)).keep K4 (ninS (Ne.symm d_yhs) nin0)
        obtain ⟨h5, W5, H93⟩ := H92.iastore (by simp) J4 d_ntpl_44 (i := ((p0 + i) % 64)) rfl (by rw [List.length_map, hJ]; omega)
        have H93 : Hr x b_ntpl Z EL1 0 0 h5 [t, sl, hs, ix, y] 45 #[.val (.ref t), .val (.ref y), .val (.int c), .val (.int (Int32.ofNat ((p0 + i) % 64))), .val (.int (Int32.ofNat i))] [] := H93
        have T2a := ((T2.other W3 (Or.inl d_tsl)).keep K4 (ninS d_ty nin0)).other W5 (Or.inl d_ths)
        have T3a := ((T3.other W3 (Or.inl d_tsl)).keep K4 (ninS d_ty nin0)).other W5 (Or.inl d_ths)
        have T4a := ((T4.other W3 (Or.inl d_tsl)).keep K4 (ninS d_ty nin0)).other W5 (Or.inl d_ths)
        have T5a := ((T5.other W3 (Or.inl d_tsl)).keep K4 (ninS d_ty nin0)).other W5 (Or.inl d_ths)
        have T6a := ((T6.other W3 (Or.inl d_tsl)).keep K4 (ninS d_ty nin0)).other W5 (Or.inl d_ths)
        have T1a := ((T1.wr W3).keep K4).wr W5
        have I5 := ((Ij.other W3 (Ne.symm d_lx)).keep K4 (ninS (Ne.symm d_yix) nin0)).other W5 (Ne.symm hhx)
        have H94 : Hr x b_ntpl Z EL1 0 0 h5 [t, sl, hs, ix, y] 46 #[.val (.ref t), .val (.ref y), .val (.int c), .val (.int (Int32.ofNat ((p0 + i) % 64))), .val (.int (Int32.ofNat i))] [.ref t] := H93.aloadN d_ntpl_45
        have H95 : Hr x b_ntpl Z EL1 0 0 h5 [t, sl, hs, ix, y] 49 #[.val (.ref t), .val (.ref y), .val (.int c), .val (.int (Int32.ofNat ((p0 + i) % 64))), .val (.int (Int32.ofNat i))] [.ref ix] := H94.getF (w105 hw) T5a d_ntpl_46
        have H96 : Hr x b_ntpl Z EL1 0 0 h5 [t, sl, hs, ix, y] 50 #[.val (.ref t), .val (.ref y), .val (.int c), .val (.int (Int32.ofNat ((p0 + i) % 64))), .val (.int (Int32.ofNat i))] [.int (Int32.ofNat ((p0 + i) % 64)), .ref ix] := H95.iloadN d_ntpl_49
        have H97 : Hr x b_ntpl Z EL1 0 0 h5 [t, sl, hs, ix, y] 51 #[.val (.ref t), .val (.ref y), .val (.int c), .val (.int (Int32.ofNat ((p0 + i) % 64))), .val (.int (Int32.ofNat i))] [.int c, .int (Int32.ofNat ((p0 + i) % 64)), .ref ix] := H96.iloadN d_ntpl_50
        obtain ⟨h6, W6, H98⟩ := H97.iastore (by simp) I5 d_ntpl_51 (i := ((p0 + i) % 64)) rfl (by rw [List.length_map, hI]; omega)
        have H98 : Hr x b_ntpl Z EL1 0 0 h6 [t, sl, hs, ix, y] 52 #[.val (.ref t), .val (.ref y), .val (.int c), .val (.int (Int32.ofNat ((p0 + i) % 64))), .val (.int (Int32.ofNat i))] [] := H98
        have T2b := T2a.other W6 (Or.inl d_tix)
        have T3b := T3a.other W6 (Or.inl d_tix)
        have T4b := T4a.other W6 (Or.inl d_tix)
        have T5b := T5a.other W6 (Or.inl d_tix)
        have T6b := T6a.other W6 (Or.inl d_tix)
        have T1b := T1a.wr W6
        have H99 : Hr x b_ntpl Z EL1 0 0 h6 [t, sl, hs, ix, y] 53 #[.val (.ref t), .val (.ref y), .val (.int c), .val (.int (Int32.ofNat ((p0 + i) % 64))), .val (.int (Int32.ofNat i))] [.ref t] := H98.aloadN d_ntpl_52
        have H100 : Hr x b_ntpl Z EL1 0 0 h6 [t, sl, hs, ix, y] 54 #[.val (.ref t), .val (.ref y), .val (.int c), .val (.int (Int32.ofNat ((p0 + i) % 64))), .val (.int (Int32.ofNat i))] [.ref t, .ref t] := H99.dup d_ntpl_53
        have H101 : Hr x b_ntpl Z EL1 0 0 h6 [t, sl, hs, ix, y] 57 #[.val (.ref t), .val (.ref y), .val (.int c), .val (.int (Int32.ofNat ((p0 + i) % 64))), .val (.int (Int32.ofNat i))] [.int (Int32.ofNat k), .ref t] := H100.getF (w191 hw) T6b d_ntpl_54
        have H102 : Hr x b_ntpl Z EL1 0 0 h6 [t, sl, hs, ix, y] 58 #[.val (.ref t), .val (.ref y), .val (.int c), .val (.int (Int32.ofNat ((p0 + i) % 64))), .val (.int (Int32.ofNat i))] [.int (1 : Int32), .int (Int32.ofNat k), .ref t] := H101.iconst d_ntpl_57
        have H103 : Hr x b_ntpl Z EL1 0 0 h6 [t, sl, hs, ix, y] 59 #[.val (.ref t), .val (.ref y), .val (.int c), .val (.int (Int32.ofNat ((p0 + i) % 64))), .val (.int (Int32.ofNat i))] [.int (Int32.ofNat (k + 1)), .ref t] := H102.iadd d_ntpl_58 (hv := (inc_ofNat k).symm)
        obtain ⟨h7, W7, H104⟩ := H103.putF (by simp) (w191 hw) T6b T1b (Or.inl (w192 hw)) (w45 hw) d_ntpl_59 (ty := .int)
        have H104 : Hr x b_ntpl Z EL1 0 0 h7 [t, sl, hs, ix, y] 62 #[.val (.ref t), .val (.ref y), .val (.int c), .val (.int (Int32.ofNat ((p0 + i) % 64))), .val (.int (Int32.ofNat i))] [] := H104
        have Fy7 : SG Z h7 y := ((Fy4.keep (Keep.of_wr W5) (allS (apt_arr Fy4.exa J4 (by decide) (w10 hw)) all0)).keep (Keep.of_wr W6) (allS (apt_arr (Fy4.exa.wr W5) I5 (by decide) (w10 hw)) all0)).keep (Keep.of_wr W7) (allS (apt_obj ((Fy4.exa.wr W5).wr W6) T1b (by decide) (by decide)) all0)
        have G7 := (((G3.keep K4 (ninS (Ne.symm d_ysl) nin0)).other W5 d_lh).other W6 d_lx).other W7 (Ne.symm d_tsl)
        have J7 := ((J4.set W5).other W6 hhx).other W7 (Ne.symm d_ths)
        have I7 := (I5.set W6).other W7 (Ne.symm d_tix)
        rw [← List.map_set] at J7 I7
        refine H104.finN d_ntpl_62 rfl (by decide) (by decide) sub0 ⟨rfl, rfl, ⟨(p0 + i) % 64, ⟨T1b.wr W7, T2b.other W7 (Or.inr m05), T3b.other W7 (Or.inr m25), T4b.other W7 (Or.inr m35), T5b.other W7 (Or.inr m45), Fld.same W7 T6b⟩, ⟨_, G7, by simpa using hv, fun j v q => ?_⟩, ⟨_, J7, by simpa using hJ⟩, ⟨_, I7, by simpa using hI⟩⟩, Fy7⟩
        by_cases hj : (p0 + i) % 64 = j
        · subst hj; rw [List.getElem?_set_self (by omega)] at q; cases q; exact Or.inr ⟨by simp, y, by simp, rfl⟩
        · rw [List.getElem?_set_ne hj] at q; exact (hN j v q).imp id fun ⟨q1, z, q2, q3⟩ => ⟨List.mem_cons_of_mem _ q1, z, List.mem_cons_of_mem _ q2, q3⟩
      · have z104 := True.intro
        rw [List.length_eq_zero_iff.mp (Nat.le_zero.mp hm)] at hz; cases hz
      · have z104 := True.intro
        omega
    | succ m ih =>
      intro i qs hm hi hq H
      have hp : (p0 + i) % 64 < vs.length := by omega
      rcases hq _ _ (List.getElem?_eq_getElem hp) with hz | hz | ⟨i0, hz1, hz2⟩
      · have z104 := True.intro
        have hz2 : vs[(p0 + i) % 64]? = some .null := by rw [List.getElem?_eq_getElem hp, hz]
        have H105 : Hr x b_ntpl Z EL1 0 0 h1 [t, sl, hs, ix, y] 14 #[.val (.ref t), .val (.ref y), .val (.int c), .val (.int (Int32.ofNat ((p0 + i) % 64))), .val (.int (Int32.ofNat i))] [.int (Int32.ofNat i)] := H.iload d_ntpl_12
        have H106 : Hr x b_ntpl Z EL1 0 0 h1 [t, sl, hs, ix, y] 16 #[.val (.ref t), .val (.ref y), .val (.int c), .val (.int (Int32.ofNat ((p0 + i) % 64))), .val (.int (Int32.ofNat i))] [.int (8 : Int32), .int (Int32.ofNat i)] := H105.bipush d_ntpl_14
        have H107 : Hr x b_ntpl Z EL1 0 0 h1 [t, sl, hs, ix, y] 19 #[.val (.ref t), .val (.ref y), .val (.int c), .val (.int (Int32.ofNat ((p0 + i) % 64))), .val (.int (Int32.ofNat i))] [] := H106.icmpF d_ntpl_16 (XT.ii_ge_f (lt_ofNat (n := 8) (by omega) (by decide)))
        have H108 : Hr x b_ntpl Z EL1 0 0 h1 [t, sl, hs, ix, y] 20 #[.val (.ref t), .val (.ref y), .val (.int c), .val (.int (Int32.ofNat ((p0 + i) % 64))), .val (.int (Int32.ofNat i))] [.ref t] := H107.aloadN d_ntpl_19
        have H109 : Hr x b_ntpl Z EL1 0 0 h1 [t, sl, hs, ix, y] 23 #[.val (.ref t), .val (.ref y), .val (.int c), .val (.int (Int32.ofNat ((p0 + i) % 64))), .val (.int (Int32.ofNat i))] [.ref sl] := H108.getF (w100 hw) T3 d_ntpl_20
        have H110 : Hr x b_ntpl Z EL1 0 0 h1 [t, sl, hs, ix, y] 24 #[.val (.ref t), .val (.ref y), .val (.int c), .val (.int (Int32.ofNat ((p0 + i) % 64))), .val (.int (Int32.ofNat i))] [.int (Int32.ofNat ((p0 + i) % 64)), .ref sl] := H109.iloadN d_ntpl_23
        have H111 : Hr x b_ntpl Z EL1 0 0 h1 [t, sl, hs, ix, y] 25 #[.val (.ref t), .val (.ref y), .val (.int c), .val (.int (Int32.ofNat ((p0 + i) % 64))), .val (.int (Int32.ofNat i))] [.null] := H110.aaload G.ar d_ntpl_24 (i := ((p0 + i) % 64)) rfl hz2
        have H112 : Hr x b_ntpl Z EL1 0 0 h1 [t, sl, hs, ix, y] 28 #[.val (.ref t), .val (.ref y), .val (.int c), .val (.int (Int32.ofNat ((p0 + i) % 64))), .val (.int (Int32.ofNat i))] [] := H111.ifnonnullF d_ntpl_25
        have H113 : Hr x b_ntpl Z EL1 0 0 h1 [t, sl, hs, ix, y] 29 #[.val (.ref t), .val (.ref y), .val (.int c), .val (.int (Int32.ofNat ((p0 + i) % 64))), .val (.int (Int32.ofNat i))] [.ref t] := H112.aloadN d_ntpl_28
        have H114 : Hr x b_ntpl Z EL1 0 0 h1 [t, sl, hs, ix, y] 32 #[.val (.ref t), .val (.ref y), .val (.int c), .val (.int (Int32.ofNat ((p0 + i) % 64))), .val (.int (Int32.ofNat i))] [.ref sl] := H113.getF (w100 hw) T3 d_ntpl_29
        have H115 : Hr x b_ntpl Z EL1 0 0 h1 [t, sl, hs, ix, y] 33 #[.val (.ref t), .val (.ref y), .val (.int c), .val (.int (Int32.ofNat ((p0 + i) % 64))), .val (.int (Int32.ofNat i))] [.int (Int32.ofNat ((p0 + i) % 64)), .ref sl] := H114.iloadN d_ntpl_32
        have H116 : Hr x b_ntpl Z EL1 0 0 h1 [t, sl, hs, ix, y] 34 #[.val (.ref t), .val (.ref y), .val (.int c), .val (.int (Int32.ofNat ((p0 + i) % 64))), .val (.int (Int32.ofNat i))] [.ref y, .int (Int32.ofNat ((p0 + i) % 64)), .ref sl] := H115.aloadN d_ntpl_33
        obtain ⟨h3, W3, H117⟩ := H116.aastore (by simp) G (Ins.self Fy1.exa) d_ntpl_34 (i := ((p0 + i) % 64)) rfl (by rw [hv]; omega)
        have H117 : Hr x b_ntpl Z EL1 0 0 h3 [t, sl, hs, ix, y] 35 #[.val (.ref t), .val (.ref y), .val (.int c), .val (.int (Int32.ofNat ((p0 + i) % 64))), .val (.int (Int32.ofNat i))] [] := H117
        have Fy3 : SG Z h3 y := Fy1.keep (Keep.of_wr W3) (allS (apt_arr Fy1.exa G.ar (by decide) (w10 hw)) all0)
        have G3 := G.set W3
        have H118 : Hr x b_ntpl Z EL1 0 0 h3 [t, sl, hs, ix, y] 36 #[.val (.ref t), .val (.ref y), .val (.int c), .val (.int (Int32.ofNat ((p0 + i) % 64))), .val (.int (Int32.ofNat i))] [.ref t] := H117.aloadN d_ntpl_35
        have H119 : Hr x b_ntpl Z EL1 0 0 h3 [t, sl, hs, ix, y] 39 #[.val (.ref t), .val (.ref y), .val (.int c), .val (.int (Int32.ofNat ((p0 + i) % 64))), .val (.int (Int32.ofNat i))] [.ref hs] := H118.getF (w103 hw) (T4.other W3 (Or.inl d_tsl)) d_ntpl_36
        have H120 : Hr x b_ntpl Z EL1 0 0 h3 [t, sl, hs, ix, y] 40 #[.val (.ref t), .val (.ref y), .val (.int c), .val (.int (Int32.ofNat ((p0 + i) % 64))), .val (.int (Int32.ofNat i))] [.int (Int32.ofNat ((p0 + i) % 64)), .ref hs] := H119.iloadN d_ntpl_39
        have H121 : Hr x b_ntpl Z EL1 0 0 h3 [t, sl, hs, ix, y] 41 #[.val (.ref t), .val (.ref y), .val (.int c), .val (.int (Int32.ofNat ((p0 + i) % 64))), .val (.int (Int32.ofNat i))] [.ref y, .int (Int32.ofNat ((p0 + i) % 64)), .ref hs] := H120.aloadN d_ntpl_40
        obtain ⟨_, h4, _, ⟨r4, rfl, rfl, Fy4⟩, K4, H122⟩ := H121.callV (argsL := []) (rest := [.int (Int32.ofNat ((p0 + i) % 64)), .ref hs]) (Wr := 2) (a := y) (ct_hash hw x.l x.nar x.kn hnar h3 y Fy3 cz O hcz) (sub1 (by simp)) Fy3.exa (w164 hw) (w165 hw) (w167 hw) (w167 hw) (w166 hw) (w2 hw) (w168 hw) d_ntpl_41 pd_hash rfl (hf := by first | decide | (simp [b_ntpl, Bx.R]; done) | (simp [b_ntpl, Bx.R]; omega)) (hl := by first | decide | (simp [b_ntpl, Bx.R]; done) | (simp [b_ntpl, Bx.R]; omega)) (hc := by first | decide | (simp [b_ntpl, Bx.R]; done) | (simp [b_ntpl, Bx.R]; omega)) (hs := by first | decide | (simp [b_ntpl, Bx.R]; done) | (simp [b_ntpl, Bx.R]; omega))
        have H122 : Hr x b_ntpl Z EL1 0 0 h4 [t, sl, hs, ix, y] 44 #[.val (.ref t), .val (.ref y), .val (.int c), .val (.int (Int32.ofNat ((p0 + i) % 64))), .val (.int (Int32.ofNat i))] [.int r4, .int (Int32.ofNat ((p0 + i) % 64)), .ref hs] := H122
        have J4 := (J.other W3 (Ne.symm d_lh)).keep K4 (ninS (Ne.symm d_yhs) nin0)
        obtain ⟨h5, W5, H123⟩ := H122.iastore (by simp) J4 d_ntpl_44 (i := ((p0 + i) % 64)) rfl (by rw [List.length_map, hJ]; omega)
        have H123 : Hr x b_ntpl Z EL1 0 0 h5 [t, sl, hs, ix, y] 45 #[.val (.ref t), .val (.ref y), .val (.int c), .val (.int (Int32.ofNat ((p0 + i) % 64))), .val (.int (Int32.ofNat i))] [] := H123
        have T2a := ((T2.other W3 (Or.inl d_tsl)).keep K4 (ninS d_ty nin0)).other W5 (Or.inl d_ths)
        have T3a := ((T3.other W3 (Or.inl d_tsl)).keep K4 (ninS d_ty nin0)).other W5 (Or.inl d_ths)
        have T4a := ((T4.other W3 (Or.inl d_tsl)).keep K4 (ninS d_ty nin0)).other W5 (Or.inl d_ths)
        have T5a := ((T5.other W3 (Or.inl d_tsl)).keep K4 (ninS d_ty nin0)).other W5 (Or.inl d_ths)
        have T6a := ((T6.other W3 (Or.inl d_tsl)).keep K4 (ninS d_ty nin0)).other W5 (Or.inl d_ths)
        have T1a := ((T1.wr W3).keep K4).wr W5
        have I5 := ((Ij.other W3 (Ne.symm d_lx)).keep K4 (ninS (Ne.symm d_yix) nin0)).other W5 (Ne.symm hhx)
        have H124 : Hr x b_ntpl Z EL1 0 0 h5 [t, sl, hs, ix, y] 46 #[.val (.ref t), .val (.ref y), .val (.int c), .val (.int (Int32.ofNat ((p0 + i) % 64))), .val (.int (Int32.ofNat i))] [.ref t] := H123.aloadN d_ntpl_45
        have H125 : Hr x b_ntpl Z EL1 0 0 h5 [t, sl, hs, ix, y] 49 #[.val (.ref t), .val (.ref y), .val (.int c), .val (.int (Int32.ofNat ((p0 + i) % 64))), .val (.int (Int32.ofNat i))] [.ref ix] := H124.getF (w105 hw) T5a d_ntpl_46
        have H126 : Hr x b_ntpl Z EL1 0 0 h5 [t, sl, hs, ix, y] 50 #[.val (.ref t), .val (.ref y), .val (.int c), .val (.int (Int32.ofNat ((p0 + i) % 64))), .val (.int (Int32.ofNat i))] [.int (Int32.ofNat ((p0 + i) % 64)), .ref ix] := H125.iloadN d_ntpl_49
        have H127 : Hr x b_ntpl Z EL1 0 0 h5 [t, sl, hs, ix, y] 51 #[.val (.ref t), .val (.ref y), .val (.int c), .val (.int (Int32.ofNat ((p0 + i) % 64))), .val (.int (Int32.ofNat i))] [.int c, .int (Int32.ofNat ((p0 + i) % 64)), .ref ix] := H126.iloadN d_ntpl_50
        obtain ⟨h6, W6, H128⟩ := H127.iastore (by simp) I5 d_ntpl_51 (i := ((p0 + i) % 64)) rfl (by rw [List.length_map, hI]; omega)
        have H128 : Hr x b_ntpl Z EL1 0 0 h6 [t, sl, hs, ix, y] 52 #[.val (.ref t), .val (.ref y), .val (.int c), .val (.int (Int32.ofNat ((p0 + i) % 64))), .val (.int (Int32.ofNat i))] [] := H128
        have T2b := T2a.other W6 (Or.inl d_tix)
        have T3b := T3a.other W6 (Or.inl d_tix)
        have T4b := T4a.other W6 (Or.inl d_tix)
        have T5b := T5a.other W6 (Or.inl d_tix)
        have T6b := T6a.other W6 (Or.inl d_tix)
        have T1b := T1a.wr W6
        have H129 : Hr x b_ntpl Z EL1 0 0 h6 [t, sl, hs, ix, y] 53 #[.val (.ref t), .val (.ref y), .val (.int c), .val (.int (Int32.ofNat ((p0 + i) % 64))), .val (.int (Int32.ofNat i))] [.ref t] := H128.aloadN d_ntpl_52
        have H130 : Hr x b_ntpl Z EL1 0 0 h6 [t, sl, hs, ix, y] 54 #[.val (.ref t), .val (.ref y), .val (.int c), .val (.int (Int32.ofNat ((p0 + i) % 64))), .val (.int (Int32.ofNat i))] [.ref t, .ref t] := H129.dup d_ntpl_53
        have H131 : Hr x b_ntpl Z EL1 0 0 h6 [t, sl, hs, ix, y] 57 #[.val (.ref t), .val (.ref y), .val (.int c), .val (.int (Int32.ofNat ((p0 + i) % 64))), .val (.int (Int32.ofNat i))] [.int (Int32.ofNat k), .ref t] := H130.getF (w191 hw) T6b d_ntpl_54
        have H132 : Hr x b_ntpl Z EL1 0 0 h6 [t, sl, hs, ix, y] 58 #[.val (.ref t), .val (.ref y), .val (.int c), .val (.int (Int32.ofNat ((p0 + i) % 64))), .val (.int (Int32.ofNat i))] [.int (1 : Int32), .int (Int32.ofNat k), .ref t] := H131.iconst d_ntpl_57
        have H133 : Hr x b_ntpl Z EL1 0 0 h6 [t, sl, hs, ix, y] 59 #[.val (.ref t), .val (.ref y), .val (.int c), .val (.int (Int32.ofNat ((p0 + i) % 64))), .val (.int (Int32.ofNat i))] [.int (Int32.ofNat (k + 1)), .ref t] := H132.iadd d_ntpl_58 (hv := (inc_ofNat k).symm)
        obtain ⟨h7, W7, H134⟩ := H133.putF (by simp) (w191 hw) T6b T1b (Or.inl (w192 hw)) (w45 hw) d_ntpl_59 (ty := .int)
        have H134 : Hr x b_ntpl Z EL1 0 0 h7 [t, sl, hs, ix, y] 62 #[.val (.ref t), .val (.ref y), .val (.int c), .val (.int (Int32.ofNat ((p0 + i) % 64))), .val (.int (Int32.ofNat i))] [] := H134
        have Fy7 : SG Z h7 y := ((Fy4.keep (Keep.of_wr W5) (allS (apt_arr Fy4.exa J4 (by decide) (w10 hw)) all0)).keep (Keep.of_wr W6) (allS (apt_arr (Fy4.exa.wr W5) I5 (by decide) (w10 hw)) all0)).keep (Keep.of_wr W7) (allS (apt_obj ((Fy4.exa.wr W5).wr W6) T1b (by decide) (by decide)) all0)
        have G7 := (((G3.keep K4 (ninS (Ne.symm d_ysl) nin0)).other W5 d_lh).other W6 d_lx).other W7 (Ne.symm d_tsl)
        have J7 := ((J4.set W5).other W6 hhx).other W7 (Ne.symm d_ths)
        have I7 := (I5.set W6).other W7 (Ne.symm d_tix)
        rw [← List.map_set] at J7 I7
        refine H134.finN d_ntpl_62 rfl (by decide) (by decide) sub0 ⟨rfl, rfl, ⟨(p0 + i) % 64, ⟨T1b.wr W7, T2b.other W7 (Or.inr m05), T3b.other W7 (Or.inr m25), T4b.other W7 (Or.inr m35), T5b.other W7 (Or.inr m45), Fld.same W7 T6b⟩, ⟨_, G7, by simpa using hv, fun j v q => ?_⟩, ⟨_, J7, by simpa using hJ⟩, ⟨_, I7, by simpa using hI⟩⟩, Fy7⟩
        by_cases hj : (p0 + i) % 64 = j
        · subst hj; rw [List.getElem?_set_self (by omega)] at q; cases q; exact Or.inr ⟨by simp, y, by simp, rfl⟩
        · rw [List.getElem?_set_ne hj] at q; exact (hN j v q).imp id fun ⟨q1, z, q2, q3⟩ => ⟨List.mem_cons_of_mem _ q1, z, List.mem_cons_of_mem _ q2, q3⟩
      · have z134 := True.intro
        rcases hN _ _ (List.getElem?_eq_getElem hp) with h0 | ⟨-, z, hz3, hz4⟩
        · have z134 := True.intro
          have hz2 : vs[(p0 + i) % 64]? = some .null := by rw [List.getElem?_eq_getElem hp, h0]
          have H135 : Hr x b_ntpl Z EL1 0 0 h1 [t, sl, hs, ix, y] 14 #[.val (.ref t), .val (.ref y), .val (.int c), .val (.int (Int32.ofNat ((p0 + i) % 64))), .val (.int (Int32.ofNat i))] [.int (Int32.ofNat i)] := H.iload d_ntpl_12
          have H136 : Hr x b_ntpl Z EL1 0 0 h1 [t, sl, hs, ix, y] 16 #[.val (.ref t), .val (.ref y), .val (.int c), .val (.int (Int32.ofNat ((p0 + i) % 64))), .val (.int (Int32.ofNat i))] [.int (8 : Int32), .int (Int32.ofNat i)] := H135.bipush d_ntpl_14
          have H137 : Hr x b_ntpl Z EL1 0 0 h1 [t, sl, hs, ix, y] 19 #[.val (.ref t), .val (.ref y), .val (.int c), .val (.int (Int32.ofNat ((p0 + i) % 64))), .val (.int (Int32.ofNat i))] [] := H136.icmpF d_ntpl_16 (XT.ii_ge_f (lt_ofNat (n := 8) (by omega) (by decide)))
          have H138 : Hr x b_ntpl Z EL1 0 0 h1 [t, sl, hs, ix, y] 20 #[.val (.ref t), .val (.ref y), .val (.int c), .val (.int (Int32.ofNat ((p0 + i) % 64))), .val (.int (Int32.ofNat i))] [.ref t] := H137.aloadN d_ntpl_19
          have H139 : Hr x b_ntpl Z EL1 0 0 h1 [t, sl, hs, ix, y] 23 #[.val (.ref t), .val (.ref y), .val (.int c), .val (.int (Int32.ofNat ((p0 + i) % 64))), .val (.int (Int32.ofNat i))] [.ref sl] := H138.getF (w100 hw) T3 d_ntpl_20
          have H140 : Hr x b_ntpl Z EL1 0 0 h1 [t, sl, hs, ix, y] 24 #[.val (.ref t), .val (.ref y), .val (.int c), .val (.int (Int32.ofNat ((p0 + i) % 64))), .val (.int (Int32.ofNat i))] [.int (Int32.ofNat ((p0 + i) % 64)), .ref sl] := H139.iloadN d_ntpl_23
          have H141 : Hr x b_ntpl Z EL1 0 0 h1 [t, sl, hs, ix, y] 25 #[.val (.ref t), .val (.ref y), .val (.int c), .val (.int (Int32.ofNat ((p0 + i) % 64))), .val (.int (Int32.ofNat i))] [.null] := H140.aaload G.ar d_ntpl_24 (i := ((p0 + i) % 64)) rfl hz2
          have H142 : Hr x b_ntpl Z EL1 0 0 h1 [t, sl, hs, ix, y] 28 #[.val (.ref t), .val (.ref y), .val (.int c), .val (.int (Int32.ofNat ((p0 + i) % 64))), .val (.int (Int32.ofNat i))] [] := H141.ifnonnullF d_ntpl_25
          have H143 : Hr x b_ntpl Z EL1 0 0 h1 [t, sl, hs, ix, y] 29 #[.val (.ref t), .val (.ref y), .val (.int c), .val (.int (Int32.ofNat ((p0 + i) % 64))), .val (.int (Int32.ofNat i))] [.ref t] := H142.aloadN d_ntpl_28
          have H144 : Hr x b_ntpl Z EL1 0 0 h1 [t, sl, hs, ix, y] 32 #[.val (.ref t), .val (.ref y), .val (.int c), .val (.int (Int32.ofNat ((p0 + i) % 64))), .val (.int (Int32.ofNat i))] [.ref sl] := H143.getF (w100 hw) T3 d_ntpl_29
          have H145 : Hr x b_ntpl Z EL1 0 0 h1 [t, sl, hs, ix, y] 33 #[.val (.ref t), .val (.ref y), .val (.int c), .val (.int (Int32.ofNat ((p0 + i) % 64))), .val (.int (Int32.ofNat i))] [.int (Int32.ofNat ((p0 + i) % 64)), .ref sl] := H144.iloadN d_ntpl_32
          have H146 : Hr x b_ntpl Z EL1 0 0 h1 [t, sl, hs, ix, y] 34 #[.val (.ref t), .val (.ref y), .val (.int c), .val (.int (Int32.ofNat ((p0 + i) % 64))), .val (.int (Int32.ofNat i))] [.ref y, .int (Int32.ofNat ((p0 + i) % 64)), .ref sl] := H145.aloadN d_ntpl_33
          obtain ⟨h3, W3, H147⟩ := H146.aastore (by simp) G (Ins.self Fy1.exa) d_ntpl_34 (i := ((p0 + i) % 64)) rfl (by rw [hv]; omega)
          have H147 : Hr x b_ntpl Z EL1 0 0 h3 [t, sl, hs, ix, y] 35 #[.val (.ref t), .val (.ref y), .val (.int c), .val (.int (Int32.ofNat ((p0 + i) % 64))), .val (.int (Int32.ofNat i))] [] := H147
          have Fy3 : SG Z h3 y := Fy1.keep (Keep.of_wr W3) (allS (apt_arr Fy1.exa G.ar (by decide) (w10 hw)) all0)
          have G3 := G.set W3
          have H148 : Hr x b_ntpl Z EL1 0 0 h3 [t, sl, hs, ix, y] 36 #[.val (.ref t), .val (.ref y), .val (.int c), .val (.int (Int32.ofNat ((p0 + i) % 64))), .val (.int (Int32.ofNat i))] [.ref t] := H147.aloadN d_ntpl_35
          have H149 : Hr x b_ntpl Z EL1 0 0 h3 [t, sl, hs, ix, y] 39 #[.val (.ref t), .val (.ref y), .val (.int c), .val (.int (Int32.ofNat ((p0 + i) % 64))), .val (.int (Int32.ofNat i))] [.ref hs] := H148.getF (w103 hw) (T4.other W3 (Or.inl d_tsl)) d_ntpl_36
          have H150 : Hr x b_ntpl Z EL1 0 0 h3 [t, sl, hs, ix, y] 40 #[.val (.ref t), .val (.ref y), .val (.int c), .val (.int (Int32.ofNat ((p0 + i) % 64))), .val (.int (Int32.ofNat i))] [.int (Int32.ofNat ((p0 + i) % 64)), .ref hs] := H149.iloadN d_ntpl_39
          have H151 : Hr x b_ntpl Z EL1 0 0 h3 [t, sl, hs, ix, y] 41 #[.val (.ref t), .val (.ref y), .val (.int c), .val (.int (Int32.ofNat ((p0 + i) % 64))), .val (.int (Int32.ofNat i))] [.ref y, .int (Int32.ofNat ((p0 + i) % 64)), .ref hs] := H150.aloadN d_ntpl_40
          obtain ⟨_, h4, _, ⟨r4, rfl, rfl, Fy4⟩, K4, H152⟩ := H151.callV (argsL := []) (rest := [.int (Int32.ofNat ((p0 + i) % 64)), .ref hs]) (Wr := 2) (a := y) (ct_hash hw x.l x.nar x.kn hnar h3 y Fy3 cz O hcz) (sub1 (by simp)) Fy3.exa (w164 hw) (w165 hw) (w167 hw) (w167 hw) (w166 hw) (w2 hw) (w168 hw) d_ntpl_41 pd_hash rfl (hf := by first | decide | (simp [b_ntpl, Bx.R]; done) | (simp [b_ntpl, Bx.R]; omega)) (hl := by first | decide | (simp [b_ntpl, Bx.R]; done) | (simp [b_ntpl, Bx.R]; omega)) (hc := by first | decide | (simp [b_ntpl, Bx.R]; done) | (simp [b_ntpl, Bx.R]; omega)) (hs := by first | decide | (simp [b_ntpl, Bx.R]; done) | (simp [b_ntpl, Bx.R]; omega))
          have H152 : Hr x b_ntpl Z EL1 0 0 h4 [t, sl, hs, ix, y] 44 #[.val (.ref t), .val (.ref y), .val (.int c), .val (.int (Int32.ofNat ((p0 + i) % 64))), .val (.int (Int32.ofNat i))] [.int r4, .int (Int32.ofNat ((p0 + i) % 64)), .ref hs] := H152
          have J4 := (J.other W3 (Ne.symm d_lh)).keep K4 (ninS (Ne.symm d_yhs) nin0)
          obtain ⟨h5, W5, H153⟩ := H152.iastore (by simp) J4 d_ntpl_44 (i := ((p0 + i) % 64)) rfl (by rw [List.length_map, hJ]; omega)
          have H153 : Hr x b_ntpl Z EL1 0 0 h5 [t, sl, hs, ix, y] 45 #[.val (.ref t), .val (.ref y), .val (.int c), .val (.int (Int32.ofNat ((p0 + i) % 64))), .val (.int (Int32.ofNat i))] [] := H153
          have T2a := ((T2.other W3 (Or.inl d_tsl)).keep K4 (ninS d_ty nin0)).other W5 (Or.inl d_ths)
          have T3a := ((T3.other W3 (Or.inl d_tsl)).keep K4 (ninS d_ty nin0)).other W5 (Or.inl d_ths)
          have T4a := ((T4.other W3 (Or.inl d_tsl)).keep K4 (ninS d_ty nin0)).other W5 (Or.inl d_ths)
          have T5a := ((T5.other W3 (Or.inl d_tsl)).keep K4 (ninS d_ty nin0)).other W5 (Or.inl d_ths)
          have T6a := ((T6.other W3 (Or.inl d_tsl)).keep K4 (ninS d_ty nin0)).other W5 (Or.inl d_ths)
          have T1a := ((T1.wr W3).keep K4).wr W5
          have I5 := ((Ij.other W3 (Ne.symm d_lx)).keep K4 (ninS (Ne.symm d_yix) nin0)).other W5 (Ne.symm hhx)
          have H154 : Hr x b_ntpl Z EL1 0 0 h5 [t, sl, hs, ix, y] 46 #[.val (.ref t), .val (.ref y), .val (.int c), .val (.int (Int32.ofNat ((p0 + i) % 64))), .val (.int (Int32.ofNat i))] [.ref t] := H153.aloadN d_ntpl_45
          have H155 : Hr x b_ntpl Z EL1 0 0 h5 [t, sl, hs, ix, y] 49 #[.val (.ref t), .val (.ref y), .val (.int c), .val (.int (Int32.ofNat ((p0 + i) % 64))), .val (.int (Int32.ofNat i))] [.ref ix] := H154.getF (w105 hw) T5a d_ntpl_46
          have H156 : Hr x b_ntpl Z EL1 0 0 h5 [t, sl, hs, ix, y] 50 #[.val (.ref t), .val (.ref y), .val (.int c), .val (.int (Int32.ofNat ((p0 + i) % 64))), .val (.int (Int32.ofNat i))] [.int (Int32.ofNat ((p0 + i) % 64)), .ref ix] := H155.iloadN d_ntpl_49
          have H157 : Hr x b_ntpl Z EL1 0 0 h5 [t, sl, hs, ix, y] 51 #[.val (.ref t), .val (.ref y), .val (.int c), .val (.int (Int32.ofNat ((p0 + i) % 64))), .val (.int (Int32.ofNat i))] [.int c, .int (Int32.ofNat ((p0 + i) % 64)), .ref ix] := H156.iloadN d_ntpl_50
          obtain ⟨h6, W6, H158⟩ := H157.iastore (by simp) I5 d_ntpl_51 (i := ((p0 + i) % 64)) rfl (by rw [List.length_map, hI]; omega)
          have H158 : Hr x b_ntpl Z EL1 0 0 h6 [t, sl, hs, ix, y] 52 #[.val (.ref t), .val (.ref y), .val (.int c), .val (.int (Int32.ofNat ((p0 + i) % 64))), .val (.int (Int32.ofNat i))] [] := H158
          have T2b := T2a.other W6 (Or.inl d_tix)
          have T3b := T3a.other W6 (Or.inl d_tix)
          have T4b := T4a.other W6 (Or.inl d_tix)
          have T5b := T5a.other W6 (Or.inl d_tix)
          have T6b := T6a.other W6 (Or.inl d_tix)
          have T1b := T1a.wr W6
          have H159 : Hr x b_ntpl Z EL1 0 0 h6 [t, sl, hs, ix, y] 53 #[.val (.ref t), .val (.ref y), .val (.int c), .val (.int (Int32.ofNat ((p0 + i) % 64))), .val (.int (Int32.ofNat i))] [.ref t] := H158.aloadN d_ntpl_52
          have H160 : Hr x b_ntpl Z EL1 0 0 h6 [t, sl, hs, ix, y] 54 #[.val (.ref t), .val (.ref y), .val (.int c), .val (.int (Int32.ofNat ((p0 + i) % 64))), .val (.int (Int32.ofNat i))] [.ref t, .ref t] := H159.dup d_ntpl_53
          have H161 : Hr x b_ntpl Z EL1 0 0 h6 [t, sl, hs, ix, y] 57 #[.val (.ref t), .val (.ref y), .val (.int c), .val (.int (Int32.ofNat ((p0 + i) % 64))), .val (.int (Int32.ofNat i))] [.int (Int32.ofNat k), .ref t] := H160.getF (w191 hw) T6b d_ntpl_54
          have H162 : Hr x b_ntpl Z EL1 0 0 h6 [t, sl, hs, ix, y] 58 #[.val (.ref t), .val (.ref y), .val (.int c), .val (.int (Int32.ofNat ((p0 + i) % 64))), .val (.int (Int32.ofNat i))] [.int (1 : Int32), .int (Int32.ofNat k), .ref t] := H161.iconst d_ntpl_57
          have H163 : Hr x b_ntpl Z EL1 0 0 h6 [t, sl, hs, ix, y] 59 #[.val (.ref t), .val (.ref y), .val (.int c), .val (.int (Int32.ofNat ((p0 + i) % 64))), .val (.int (Int32.ofNat i))] [.int (Int32.ofNat (k + 1)), .ref t] := H162.iadd d_ntpl_58 (hv := (inc_ofNat k).symm)
          obtain ⟨h7, W7, H164⟩ := H163.putF (by simp) (w191 hw) T6b T1b (Or.inl (w192 hw)) (w45 hw) d_ntpl_59 (ty := .int)
          have H164 : Hr x b_ntpl Z EL1 0 0 h7 [t, sl, hs, ix, y] 62 #[.val (.ref t), .val (.ref y), .val (.int c), .val (.int (Int32.ofNat ((p0 + i) % 64))), .val (.int (Int32.ofNat i))] [] := H164
          have Fy7 : SG Z h7 y := ((Fy4.keep (Keep.of_wr W5) (allS (apt_arr Fy4.exa J4 (by decide) (w10 hw)) all0)).keep (Keep.of_wr W6) (allS (apt_arr (Fy4.exa.wr W5) I5 (by decide) (w10 hw)) all0)).keep (Keep.of_wr W7) (allS (apt_obj ((Fy4.exa.wr W5).wr W6) T1b (by decide) (by decide)) all0)
          have G7 := (((G3.keep K4 (ninS (Ne.symm d_ysl) nin0)).other W5 d_lh).other W6 d_lx).other W7 (Ne.symm d_tsl)
          have J7 := ((J4.set W5).other W6 hhx).other W7 (Ne.symm d_ths)
          have I7 := (I5.set W6).other W7 (Ne.symm d_tix)
          rw [← List.map_set] at J7 I7
          refine H164.finN d_ntpl_62 rfl (by decide) (by decide) sub0 ⟨rfl, rfl, ⟨(p0 + i) % 64, ⟨T1b.wr W7, T2b.other W7 (Or.inr m05), T3b.other W7 (Or.inr m25), T4b.other W7 (Or.inr m35), T5b.other W7 (Or.inr m45), Fld.same W7 T6b⟩, ⟨_, G7, by simpa using hv, fun j v q => ?_⟩, ⟨_, J7, by simpa using hJ⟩, ⟨_, I7, by simpa using hI⟩⟩, Fy7⟩
          by_cases hj : (p0 + i) % 64 = j
          · subst hj; rw [List.getElem?_set_self (by omega)] at q; cases q; exact Or.inr ⟨by simp, y, by simp, rfl⟩
          · rw [List.getElem?_set_ne hj] at q; exact (hN j v q).imp id fun ⟨q1, z, q2, q3⟩ => ⟨List.mem_cons_of_mem _ q1, z, List.mem_cons_of_mem _ q2, q3⟩
        · have z164 := True.intro
          have hz2 : vs[(p0 + i) % 64]? = some (.ref z) := by rw [List.getElem?_eq_getElem hp, hz4]
          have H165 : Hr x b_ntpl Z EL1 0 0 h1 [t, sl, hs, ix, y] 14 #[.val (.ref t), .val (.ref y), .val (.int c), .val (.int (Int32.ofNat ((p0 + i) % 64))), .val (.int (Int32.ofNat i))] [.int (Int32.ofNat i)] := H.iload d_ntpl_12
          have H166 : Hr x b_ntpl Z EL1 0 0 h1 [t, sl, hs, ix, y] 16 #[.val (.ref t), .val (.ref y), .val (.int c), .val (.int (Int32.ofNat ((p0 + i) % 64))), .val (.int (Int32.ofNat i))] [.int (8 : Int32), .int (Int32.ofNat i)] := H165.bipush d_ntpl_14
          have H167 : Hr x b_ntpl Z EL1 0 0 h1 [t, sl, hs, ix, y] 19 #[.val (.ref t), .val (.ref y), .val (.int c), .val (.int (Int32.ofNat ((p0 + i) % 64))), .val (.int (Int32.ofNat i))] [] := H166.icmpF d_ntpl_16 (XT.ii_ge_f (lt_ofNat (n := 8) (by omega) (by decide)))
          have H168 : Hr x b_ntpl Z EL1 0 0 h1 [t, sl, hs, ix, y] 20 #[.val (.ref t), .val (.ref y), .val (.int c), .val (.int (Int32.ofNat ((p0 + i) % 64))), .val (.int (Int32.ofNat i))] [.ref t] := H167.aloadN d_ntpl_19
          have H169 : Hr x b_ntpl Z EL1 0 0 h1 [t, sl, hs, ix, y] 23 #[.val (.ref t), .val (.ref y), .val (.int c), .val (.int (Int32.ofNat ((p0 + i) % 64))), .val (.int (Int32.ofNat i))] [.ref sl] := H168.getF (w100 hw) T3 d_ntpl_20
          have H170 : Hr x b_ntpl Z EL1 0 0 h1 [t, sl, hs, ix, y] 24 #[.val (.ref t), .val (.ref y), .val (.int c), .val (.int (Int32.ofNat ((p0 + i) % 64))), .val (.int (Int32.ofNat i))] [.int (Int32.ofNat ((p0 + i) % 64)), .ref sl] := H169.iloadN d_ntpl_23
          have H171 : Hr x b_ntpl Z EL1 0 0 h1 [t, sl, hs, ix, y] 25 #[.val (.ref t), .val (.ref y), .val (.int c), .val (.int (Int32.ofNat ((p0 + i) % 64))), .val (.int (Int32.ofNat i))] [.ref z] := H170.aaload G.ar d_ntpl_24 (i := ((p0 + i) % 64)) rfl hz2
          have H172 : Hr x b_ntpl Z EL1 0 0 h1 [t, sl, hs, ix, y] 63 #[.val (.ref t), .val (.ref y), .val (.int c), .val (.int (Int32.ofNat ((p0 + i) % 64))), .val (.int (Int32.ofNat i))] [] := H171.ifnonnullT d_ntpl_25
          have H173 : Hr x b_ntpl Z EL1 0 0 h1 [t, sl, hs, ix, y] 64 #[.val (.ref t), .val (.ref y), .val (.int c), .val (.int (Int32.ofNat ((p0 + i) % 64))), .val (.int (Int32.ofNat i))] [.ref t] := H172.aloadN d_ntpl_63
          have H174 : Hr x b_ntpl Z EL1 0 0 h1 [t, sl, hs, ix, y] 65 #[.val (.ref t), .val (.ref y), .val (.int c), .val (.int (Int32.ofNat ((p0 + i) % 64))), .val (.int (Int32.ofNat i))] [.int (Int32.ofNat ((p0 + i) % 64)), .ref t] := H173.iloadN d_ntpl_64
          obtain ⟨_, h3, _, ⟨rfl, rfl, e3⟩, K3, H175⟩ := H174.callP (argsL := [.int (Int32.ofNat ((p0 + i) % 64))]) (rest := []) (Wr := 0) (a := t) (ct_ntnx hw x.l x.nar x.kn hnar h1 t L sl hs ix k ps zs N1 ((p0 + i) % 64) (by omega)) sub0 T1 (w241 hw) (w242 hw) (w110 hw) (w243 hw) (w46 hw) (w244 hw) d_ntpl_65 pd_ntnx rfl (hf := by first | decide | (simp [b_ntpl, Bx.R]; done) | (simp [b_ntpl, Bx.R]; omega)) (hl := by first | decide | (simp [b_ntpl, Bx.R]; done) | (simp [b_ntpl, Bx.R]; omega)) (hc := by first | decide | (simp [b_ntpl, Bx.R]; done) | (simp [b_ntpl, Bx.R]; omega)) (hs := by first | decide | (simp [b_ntpl, Bx.R]; done) | (simp [b_ntpl, Bx.R]; omega))
          rw [e3] at H175
          have H175 : Hr x b_ntpl Z EL1 0 0 h1 [t, sl, hs, ix, y] 68 #[.val (.ref t), .val (.ref y), .val (.int c), .val (.int (Int32.ofNat ((p0 + i) % 64))), .val (.int (Int32.ofNat i))] [.int (Int32.ofNat (((p0 + i) % 64 + 1) % 64))] := H175
          have hmod : ((p0 + i) % 64 + 1) % 64 = (p0 + (i + 1)) % 64 := by omega
          have H175 : Hr x b_ntpl Z EL1 0 0 h1 [t, sl, hs, ix, y] 68 #[.val (.ref t), .val (.ref y), .val (.int c), .val (.int (Int32.ofNat ((p0 + i) % 64))), .val (.int (Int32.ofNat i))] [.int (Int32.ofNat ((p0 + (i + 1)) % 64))] := by rw [← hmod]; exact H175
          have H176 : Hr x b_ntpl Z EL1 0 0 h1 [t, sl, hs, ix, y] 69 #[.val (.ref t), .val (.ref y), .val (.int c), .val (.int (Int32.ofNat ((p0 + (i + 1)) % 64))), .val (.int (Int32.ofNat i))] [] := H175.istoreN d_ntpl_68
          have H177 : Hr x b_ntpl Z EL1 0 0 h1 [t, sl, hs, ix, y] 72 #[.val (.ref t), .val (.ref y), .val (.int c), .val (.int (Int32.ofNat ((p0 + (i + 1)) % 64))), .val (.int (Int32.ofNat (i + 1)))] [] := H176.iinc d_ntpl_69 (v := (Int32.ofNat (i + 1))) (hv := (inc_ofNat i).symm)
          have H178 : Hr x b_ntpl Z EL1 0 0 h1 [t, sl, hs, ix, y] 12 #[.val (.ref t), .val (.ref y), .val (.int c), .val (.int (Int32.ofNat ((p0 + (i + 1)) % 64))), .val (.int (Int32.ofNat (i + 1)))] [] := H177.goto d_ntpl_72
          have hle := List.length_erase_of_mem hz
          have hpos := List.length_pos_of_mem hz
          refine ih (i + 1) (qs.erase ((p0 + i) % 64)) (by omega) (by omega) (fun j v q => ?_) H178
          rcases hq j v q with u | u | ⟨i0, u1, u2⟩
          · exact Or.inl u
          · by_cases hj : j = (p0 + i) % 64
            · exact Or.inr (Or.inr ⟨i, by omega, hj⟩)
            · exact Or.inr (Or.inl ((List.mem_erase_of_ne hj).mpr u))
          · exact Or.inr (Or.inr ⟨i0, by omega, u2⟩)
      · have z178 := True.intro
        omega
  have hmod0 : p0 = (p0 + 0) % 64 := by omega
  have H7 : Hr x b_ntpl Z EL1 0 0 h1 [t, sl, hs, ix, y] 12 #[.val (.ref t), .val (.ref y), .val (.int c), .val (.int (Int32.ofNat ((p0 + 0) % 64))), .val (.int (Int32.ofNat 0))] [] := by rw [← hmod0]; exact H7
  exact loop 2 0 ps hps (by omega) (fun j v q => (hN j v q).imp id fun u => Or.inl u.1) H7
def b_ntad : Bx := (({ frames := 5, cells := 1, slots := 10, locals := 77 } : Room), (⟨"com/example/afterscore/afterscore/io/NameTable", "add", "(Ljava/lang/String;)I"⟩ : MethodName), prog_4_method_4_code, 2, (Option.some Jvm.ClassFile.FieldType.int))
theorem ef_ntad (t y : Addr) (mI : MethodId) : entryFrame mI #[.ref t, .ref y] 2 = mkF mI 0 #[.val (.ref t), .val (.ref y)] [] := by first | (simp [entryFrame, mkF, argsToLocals, Value.category]; done) | rfl
theorem pd_ntad : parseMethodDescriptor "(Ljava/lang/String;)I" = some ⟨[(.object "java/lang/String")], some .int⟩ := by decide +kernel
set_option maxRecDepth 65536 in
set_option maxHeartbeats 4000000 in
theorem ct_ntad {a0 : Array Value} {Z : State} (hw : ∀ d ∈ tables_1, d.before a0 Z = true) (l : Launch) (nar kn : Bool) (hnr : nar = nar) (h0 : Heap) (t L sl hs ix : Addr) (k : Nat) (ps : List Nat) (zs : List Addr) (N : NTS Z h0 t L sl hs ix k ps zs) (y : Addr) (Fy : SG Z h0 y) (hps : ps.length ≤ 2) (hk : k ≤ 2) (hhx : hs ≠ ix) (D : Addr) (SDf : Sta Z Z.heap "java/util/ArrayList" "DEFAULTCAPACITY_EMPTY_ELEMENTDATA" "[Ljava/lang/Object;" (.ref D)) (FD : Ar Z Z.heap D (.object "java/lang/Object") []) (e : Addr) (eds ys : List Addr) (F : ALP Z h0 D L e eds ys) (hy3 : ys.length < 3) (cz : Int32) (O : Sta Z Z.heap "java/lang/String" "COMPACT_STRINGS" "Z" (.int cz)) (hcz : ¬ cz = 0) :
    Ct l Z EL1 (⟨"com/example/afterscore/afterscore/io/NameTable", "add", "(Ljava/lang/String;)I"⟩ : MethodName) prog_4_method_4_code 2 (Option.some Jvm.ClassFile.FieldType.int) ({ frames := 5, cells := 1, slots := 10, locals := 77 } : Room) #[.ref t, .ref y] h0 (t :: sl :: hs :: ix :: y :: L :: eds) nar kn (fun v h sn => ∃ e' p r, v = some (.int r) ∧ sn = [e'] ∧ NTS Z h t L sl hs ix (k + 1) (p :: ps) (y :: zs) ∧ ALP Z h D L e' [e'] (ys ++ [y]) ∧ SG Z h y) := by
  refine Ct.intro (plainFor_of_name pn_com_example_afterscore_afterscore_io_NameTable) (ew hw) (ef_ntad t y) ?_
  intro x hl hn0 hkn hsf hh H0
  have hnar : x.nar = x.nar := rfl
  have H0 : Hr x b_ntad Z EL1 0 0 h0 (t :: sl :: hs :: ix :: y :: L :: eds) 0 #[.val (.ref t), .val (.ref y)] [] := H0
  have XL := F.1.choose_spec.1
  have d_ty : t ≠ y := N.1.1.ne Fy.exa (by decide)
  have d_tsl : t ≠ sl := exa_neAr N.1.1 (N.2.1.choose_spec.1.ar) (w45 hw)
  have d_ysl : y ≠ sl := exa_neAr Fy.exa (N.2.1.choose_spec.1.ar) (w10 hw)
  have d_ths : t ≠ hs := exa_neAr N.1.1 (N.2.2.1.choose_spec.1) (w45 hw)
  have d_yhs : y ≠ hs := exa_neAr Fy.exa (N.2.2.1.choose_spec.1) (w10 hw)
  have d_tix : t ≠ ix := exa_neAr N.1.1 (N.2.2.2.choose_spec.1) (w45 hw)
  have d_yix : y ≠ ix := exa_neAr Fy.exa (N.2.2.2.choose_spec.1) (w10 hw)
  have d_lh : sl ≠ hs := (N.2.1.choose_spec.1.ar).neTy (N.2.2.1.choose_spec.1) (by decide)
  have d_lx : sl ≠ ix := (N.2.1.choose_spec.1.ar).neTy (N.2.2.2.choose_spec.1) (by decide)
  have n_tL : t ≠ L := N.1.1.ne XL (by decide)
  have n_yL : y ≠ L := Fy.exa.ne XL (by decide)
  have n_Lsl : L ≠ sl := exa_neAr XL (N.2.1.choose_spec.1.ar) (w52 hw)
  have n_Lhs : L ≠ hs := exa_neAr XL (N.2.2.1.choose_spec.1) (w52 hw)
  have n_Lix : L ≠ ix := exa_neAr XL (N.2.2.2.choose_spec.1) (w52 hw)
  have hed : ∀ z ∈ eds, t ≠ z ∧ sl ≠ z ∧ hs ≠ z ∧ ix ≠ z ∧ Apt Z h0 y z := fun z hz => by
    obtain ⟨-, F5⟩ := F
    rcases F5 with ⟨_, _, q⟩ | ⟨q, _, G⟩
    · rw [q] at hz; cases hz
    · rw [q] at hz; cases List.mem_singleton.mp hz
      exact ⟨exa_neAr N.1.1 G.ar (w45 hw), (N.2.1.choose_spec.1.ar).neTy G.ar (by decide), (N.2.2.1.choose_spec.1).neTy G.ar (by decide), (N.2.2.2.choose_spec.1).neTy G.ar (by decide), apt_arr Fy.exa G.ar (by decide) (w10 hw)⟩
  have H1 : Hr x b_ntad Z EL1 0 0 h0 ((t :: sl :: hs :: ix :: y :: L :: eds)) 1 #[.val (.ref t), .val (.ref y)] [.ref t] := H0.aloadN d_ntad_0
  have H2 : Hr x b_ntad Z EL1 0 0 h0 ((t :: sl :: hs :: ix :: y :: L :: eds)) 4 #[.val (.ref t), .val (.ref y)] [.ref L] := H1.getF (w75 hw) N.1.2.1 d_ntad_1
  have H3 : Hr x b_ntad Z EL1 0 0 h0 ((t :: sl :: hs :: ix :: y :: L :: eds)) 5 #[.val (.ref t), .val (.ref y)] [.ref y, .ref L] := H2.aloadN d_ntad_4
  obtain ⟨_, h1, _, ⟨e', rfl, rfl, F1⟩, K1, H4⟩ := H3.callF (argsL := [.ref y]) (rest := []) (Wr := 0) (a := L) (ct_ald1 hw x.l x.nar x.kn hnar h0 D SDf FD L y e eds ys F hy3 Fy.exa) (fun z hz => List.mem_cons_of_mem _ (List.mem_cons_of_mem _ (List.mem_cons_of_mem _ (List.mem_cons_of_mem _ (List.mem_cons_of_mem _ hz))))) XL (w128 hw) (w129 hw) (w130 hw) (w131 hw) (w132 hw) (w133 hw) (w134 hw) (w119 hw) (w53 hw) (w135 hw) d_ntad_5 pd_ald1 rfl (hf := by first | decide | (simp [b_ntad, Bx.R]; done) | (simp [b_ntad, Bx.R]; omega)) (hl := by first | decide | (simp [b_ntad, Bx.R]; done) | (simp [b_ntad, Bx.R]; omega)) (hc := by first | decide | (simp [b_ntad, Bx.R]; done) | (simp [b_ntad, Bx.R]; omega)) (hs := by first | decide | (simp [b_ntad, Bx.R]; done) | (simp [b_ntad, Bx.R]; omega))
  have H4 : Hr x b_ntad Z EL1 1 10 h1 (e' :: (t :: sl :: hs :: ix :: y :: L :: eds)) 10 #[.val (.ref t), .val (.ref y)] [.int (1 : Int32)] := H4
  have N1 := N.keep K1 (fun m => (List.mem_cons.mp m).elim n_tL fun m => (hed _ m).1 rfl) (fun m => (List.mem_cons.mp m).elim (Ne.symm n_Lsl) fun m => (hed _ m).2.1 rfl) (fun m => (List.mem_cons.mp m).elim (Ne.symm n_Lhs) fun m => (hed _ m).2.2.1 rfl) (fun m => (List.mem_cons.mp m).elim (Ne.symm n_Lix) fun m => (hed _ m).2.2.2.1 rfl)
  have Fy1 := Fy.keep K1 (fun z hz => (List.mem_cons.mp hz).elim (fun q => q ▸ apt_obj Fy.exa XL (by decide) (by decide)) (fun q => (hed z q).2.2.2.2))
  have X1 := F1.1.choose_spec.1
  have H5 : Hr x b_ntad Z EL1 1 10 h1 ((e' :: t :: sl :: hs :: ix :: y :: L :: eds)) 11 #[.val (.ref t), .val (.ref y)] [] := H4.pop d_ntad_10
  have H6 : Hr x b_ntad Z EL1 1 10 h1 ((e' :: t :: sl :: hs :: ix :: y :: L :: eds)) 12 #[.val (.ref t), .val (.ref y)] [.ref t] := H5.aloadN d_ntad_11
  have H7 : Hr x b_ntad Z EL1 1 10 h1 ((e' :: t :: sl :: hs :: ix :: y :: L :: eds)) 13 #[.val (.ref t), .val (.ref y)] [.ref y, .ref t] := H6.aloadN d_ntad_12
  have H8 : Hr x b_ntad Z EL1 1 10 h1 ((e' :: t :: sl :: hs :: ix :: y :: L :: eds)) 14 #[.val (.ref t), .val (.ref y)] [.ref t, .ref y, .ref t] := H7.aloadN d_ntad_13
  have H9 : Hr x b_ntad Z EL1 1 10 h1 ((e' :: t :: sl :: hs :: ix :: y :: L :: eds)) 17 #[.val (.ref t), .val (.ref y)] [.ref L, .ref y, .ref t] := H8.getF (w75 hw) N1.1.2.1 d_ntad_14
  obtain ⟨_, h2, _, ⟨rfl, rfl, e2⟩, K2, H10⟩ := H9.callF (argsL := []) (rest := [.ref y, .ref t]) (Wr := 2) (a := L) (ct_alsz hw x.l x.nar x.kn hnar h1 D L e' [e'] (ys ++ [y]) F1) sub0 X1 (w112 hw) (w113 hw) (w114 hw) (w115 hw) (w116 hw) (w117 hw) (w118 hw) (w119 hw) (w53 hw) (w120 hw) d_ntad_17 pd_alsz rfl (hf := by first | decide | (simp [b_ntad, Bx.R]; done) | (simp [b_ntad, Bx.R]; omega)) (hl := by first | decide | (simp [b_ntad, Bx.R]; done) | (simp [b_ntad, Bx.R]; omega)) (hc := by first | decide | (simp [b_ntad, Bx.R]; done) | (simp [b_ntad, Bx.R]; omega)) (hs := by first | decide | (simp [b_ntad, Bx.R]; done) | (simp [b_ntad, Bx.R]; omega))
  rw [e2] at H10
  have H10 : Hr x b_ntad Z EL1 1 10 h1 ((e' :: t :: sl :: hs :: ix :: y :: L :: eds)) 22 #[.val (.ref t), .val (.ref y)] [.int (Int32.ofNat (ys ++ [y]).length), .ref y, .ref t] := H10
  have H11 : Hr x b_ntad Z EL1 1 10 h1 ((e' :: t :: sl :: hs :: ix :: y :: L :: eds)) 23 #[.val (.ref t), .val (.ref y)] [.int (1 : Int32), .int (Int32.ofNat (ys ++ [y]).length), .ref y, .ref t] := H10.iconst d_ntad_22
  have H12 : Hr x b_ntad Z EL1 1 10 h1 ((e' :: t :: sl :: hs :: ix :: y :: L :: eds)) 24 #[.val (.ref t), .val (.ref y)] [.int ((Int32.ofNat (ys ++ [y]).length) - (1 : Int32)), .ref y, .ref t] := H11.isub d_ntad_23
  obtain ⟨_, h3, _, ⟨rfl, rfl, ⟨p, N3⟩, Fy3⟩, K3, H13⟩ := H12.callP (argsL := [.ref y, .int ((Int32.ofNat (ys ++ [y]).length) - (1 : Int32))]) (rest := []) (Wr := 0) (a := t) (ct_ntpl hw x.l x.nar x.kn hnar h1 t L sl hs ix k ps zs N1 y ((Int32.ofNat (ys ++ [y]).length) - (1 : Int32)) Fy1 hps hk hhx cz O hcz) (by simp) N1.1.1 (w160 hw) (w161 hw) (w110 hw) (w162 hw) (w46 hw) (w163 hw) d_ntad_24 pd_ntpl rfl (hf := by first | decide | (simp [b_ntad, Bx.R]; done) | (simp [b_ntad, Bx.R]; omega)) (hl := by first | decide | (simp [b_ntad, Bx.R]; done) | (simp [b_ntad, Bx.R]; omega)) (hc := by first | decide | (simp [b_ntad, Bx.R]; done) | (simp [b_ntad, Bx.R]; omega)) (hs := by first | decide | (simp [b_ntad, Bx.R]; done) | (simp [b_ntad, Bx.R]; omega))
  have H13 : Hr x b_ntad Z EL1 1 10 h3 ((e' :: t :: sl :: hs :: ix :: y :: L :: eds)) 27 #[.val (.ref t), .val (.ref y)] [] := H13
  have d_e : ∀ z ∈ [e'], z ∉ [t, sl, hs, ix, y] := fun z hz => by
    cases List.mem_singleton.mp hz
    rcases F1.2 with ⟨_, _, q⟩ | ⟨_, _, G⟩
    · cases q
    · exact ninS (Ne.symm (exa_neAr N1.1.1 G.ar (w45 hw))) (ninS (Ne.symm ((N1.2.1.choose_spec.1.ar).neTy G.ar (by decide))) (ninS (Ne.symm ((N1.2.2.1.choose_spec.1).neTy G.ar (by decide))) (ninS (Ne.symm ((N1.2.2.2.choose_spec.1).neTy G.ar (by decide))) (ninS (Ne.symm (exa_neAr Fy1.exa G.ar (w10 hw))) nin0))))
  have F3 := F1.keep K3 (ninS (Ne.symm n_tL) (ninS n_Lsl (ninS n_Lhs (ninS n_Lix (ninS (Ne.symm n_yL) nin0))))) d_e
  have X3 := F3.1.choose_spec.1
  obtain ⟨vs3, G3, hv3, -⟩ := N3.2.1
  have H14 : Hr x b_ntad Z EL1 1 10 h3 ((e' :: t :: sl :: hs :: ix :: y :: L :: eds)) 28 #[.val (.ref t), .val (.ref y)] [.ref t] := H13.aloadN d_ntad_27
  have H15 : Hr x b_ntad Z EL1 1 10 h3 ((e' :: t :: sl :: hs :: ix :: y :: L :: eds)) 31 #[.val (.ref t), .val (.ref y)] [.int (Int32.ofNat (k + 1))] := H14.getF (w191 hw) N3.1.2.2.2.2.2 d_ntad_28
  have H16 : Hr x b_ntad Z EL1 1 10 h3 ((e' :: t :: sl :: hs :: ix :: y :: L :: eds)) 32 #[.val (.ref t), .val (.ref y)] [.int (2 : Int32), .int (Int32.ofNat (k + 1))] := H15.iconst d_ntad_31
  have H17 : Hr x b_ntad Z EL1 1 10 h3 ((e' :: t :: sl :: hs :: ix :: y :: L :: eds)) 33 #[.val (.ref t), .val (.ref y)] [.int ((Int32.ofNat (k + 1)) * (2 : Int32))] := H16.imul d_ntad_32
  have H18 : Hr x b_ntad Z EL1 1 10 h3 ((e' :: t :: sl :: hs :: ix :: y :: L :: eds)) 34 #[.val (.ref t), .val (.ref y)] [.ref t, .int ((Int32.ofNat (k + 1)) * (2 : Int32))] := H17.aloadN d_ntad_33
  have H19 : Hr x b_ntad Z EL1 1 10 h3 ((e' :: t :: sl :: hs :: ix :: y :: L :: eds)) 37 #[.val (.ref t), .val (.ref y)] [.ref sl, .int ((Int32.ofNat (k + 1)) * (2 : Int32))] := H18.getF (w100 hw) N3.1.2.2.1 d_ntad_34
  have H20 : Hr x b_ntad Z EL1 1 10 h3 ((e' :: t :: sl :: hs :: ix :: y :: L :: eds)) 38 #[.val (.ref t), .val (.ref y)] [.int (64 : Int32), .int ((Int32.ofNat (k + 1)) * (2 : Int32))] := H19.arraylength G3.ar d_ntad_37 (hn := (by rw [hv3]; rfl))
  have hle : ¬ (64 : Int32) < Int32.ofNat (k + 1) * 2 := by
    have hk3 : k = 0 ∨ k = 1 ∨ k = 2 := by omega
    rcases hk3 with rfl | rfl | rfl <;> decide
  have H21 : Hr x b_ntad Z EL1 1 10 h3 ((e' :: t :: sl :: hs :: ix :: y :: L :: eds)) 45 #[.val (.ref t), .val (.ref y)] [] := H20.icmpT d_ntad_38 (XT.ii_le_t hle)
  have H22 : Hr x b_ntad Z EL1 1 10 h3 ((e' :: t :: sl :: hs :: ix :: y :: L :: eds)) 46 #[.val (.ref t), .val (.ref y)] [.ref t] := H21.aloadN d_ntad_45
  have H23 : Hr x b_ntad Z EL1 1 10 h3 ((e' :: t :: sl :: hs :: ix :: y :: L :: eds)) 49 #[.val (.ref t), .val (.ref y)] [.ref L] := H22.getF (w75 hw) N3.1.2.1 d_ntad_46
  obtain ⟨_, h4, _, ⟨rfl, rfl, e4⟩, K4, H24⟩ := H23.callF (argsL := []) (rest := []) (Wr := 0) (a := L) (ct_alsz hw x.l x.nar x.kn hnar h3 D L e' [e'] (ys ++ [y]) F3) sub0 X3 (w112 hw) (w113 hw) (w114 hw) (w115 hw) (w116 hw) (w117 hw) (w118 hw) (w119 hw) (w53 hw) (w120 hw) d_ntad_49 pd_alsz rfl (hf := by first | decide | (simp [b_ntad, Bx.R]; done) | (simp [b_ntad, Bx.R]; omega)) (hl := by first | decide | (simp [b_ntad, Bx.R]; done) | (simp [b_ntad, Bx.R]; omega)) (hc := by first | decide | (simp [b_ntad, Bx.R]; done) | (simp [b_ntad, Bx.R]; omega)) (hs := by first | decide | (simp [b_ntad, Bx.R]; done) | (simp [b_ntad, Bx.R]; omega))
  rw [e4] at H24
  have H24 : Hr x b_ntad Z EL1 1 10 h3 ((e' :: t :: sl :: hs :: ix :: y :: L :: eds)) 54 #[.val (.ref t), .val (.ref y)] [.int (Int32.ofNat (ys ++ [y]).length)] := H24
  have H25 : Hr x b_ntad Z EL1 1 10 h3 ((e' :: t :: sl :: hs :: ix :: y :: L :: eds)) 55 #[.val (.ref t), .val (.ref y)] [.int (1 : Int32), .int (Int32.ofNat (ys ++ [y]).length)] := H24.iconst d_ntad_54
  have H26 : Hr x b_ntad Z EL1 1 10 h3 ((e' :: t :: sl :: hs :: ix :: y :: L :: eds)) 56 #[.val (.ref t), .val (.ref y)] [.int ((Int32.ofNat (ys ++ [y]).length) - (1 : Int32))] := H25.isub d_ntad_55
  exact H26.finI d_ntad_56 ⟨e', p, _, rfl, rfl, N3, F3, Fy3⟩ (sub1 (by simp))
def b_ntio : Bx := (({ frames := 4, cells := 0, slots := 0, locals := 60 } : Room), (⟨"com/example/afterscore/afterscore/io/NameTable", "indexOf", "(Ljava/lang/String;)I"⟩ : MethodName), prog_4_method_5_code, 6, (Option.some Jvm.ClassFile.FieldType.int))
theorem ef_ntio (t y : Addr) (mI : MethodId) : entryFrame mI #[.ref t, .ref y] 6 = mkF mI 0 #[.val (.ref t), .val (.ref y), .unset, .unset, .unset, .unset] [] := by first | (simp [entryFrame, mkF, argsToLocals, Value.category]; done) | rfl
theorem pd_ntio : parseMethodDescriptor "(Ljava/lang/String;)I" = some ⟨[(.object "java/lang/String")], some .int⟩ := by decide +kernel
set_option maxRecDepth 65536 in
set_option maxHeartbeats 4000000 in
theorem ct_ntio {a0 : Array Value} {Z : State} (hw : ∀ d ∈ tables_1, d.before a0 Z = true) (l : Launch) (nar kn : Bool) (hnr : nar = nar) (h0 : Heap) (t L sl hs ix : Addr) (k : Nat) (ps : List Nat) (zs : List Addr) (N : NTS Z h0 t L sl hs ix k ps zs) (y : Addr) (Fy : SG Z h0 y) (hps : ps.length ≤ 3) (hzs : ∀ z ∈ zs, SG Z h0 z ∧ z ≠ y) (cz : Int32) (O : Sta Z Z.heap "java/lang/String" "COMPACT_STRINGS" "Z" (.int cz)) (hcz : ¬ cz = 0) :
    Ct l Z EL1 (⟨"com/example/afterscore/afterscore/io/NameTable", "indexOf", "(Ljava/lang/String;)I"⟩ : MethodName) prog_4_method_5_code 6 (Option.some Jvm.ClassFile.FieldType.int) ({ frames := 4, cells := 0, slots := 0, locals := 60 } : Room) #[.ref t, .ref y] h0 [y, sl] nar kn (fun v h sn => ∃ r, v = some (.int r) ∧ sn = [] ∧ NTS Z h t L sl hs ix k ps (y :: zs) ∧ SG Z h y) := by
  refine Ct.intro (plainFor_of_name pn_com_example_afterscore_afterscore_io_NameTable) (ew hw) (ef_ntio t y) ?_
  intro x hl hn0 hkn hsf hh H0
  have hnar : x.nar = x.nar := rfl
  have H0 : Hr x b_ntio Z EL1 0 0 h0 [y, sl] 0 #[.val (.ref t), .val (.ref y), .unset, .unset, .unset, .unset] [] := H0
  have d_ty : t ≠ y := N.1.1.ne Fy.exa (by decide)
  have d_tsl : t ≠ sl := exa_neAr N.1.1 (N.2.1.choose_spec.1.ar) (w45 hw)
  have d_ysl : y ≠ sl := exa_neAr Fy.exa (N.2.1.choose_spec.1.ar) (w10 hw)
  have d_ths : t ≠ hs := exa_neAr N.1.1 (N.2.2.1.choose_spec.1) (w45 hw)
  have d_yhs : y ≠ hs := exa_neAr Fy.exa (N.2.2.1.choose_spec.1) (w10 hw)
  have d_tix : t ≠ ix := exa_neAr N.1.1 (N.2.2.2.choose_spec.1) (w45 hw)
  have d_yix : y ≠ ix := exa_neAr Fy.exa (N.2.2.2.choose_spec.1) (w10 hw)
  have d_lh : sl ≠ hs := (N.2.1.choose_spec.1.ar).neTy (N.2.2.1.choose_spec.1) (by decide)
  have d_lx : sl ≠ ix := (N.2.1.choose_spec.1.ar).neTy (N.2.2.2.choose_spec.1) (by decide)
  have H1 : Hr x b_ntio Z EL1 0 0 h0 [y, sl] 1 #[.val (.ref t), .val (.ref y), .unset, .unset, .unset, .unset] [.ref y] := H0.aloadN d_ntio_0
  obtain ⟨_, h1, _, ⟨r, rfl, rfl, Fy1⟩, K1, H2⟩ := H1.callV (argsL := []) (rest := []) (Wr := 0) (a := y) (ct_hash hw x.l x.nar x.kn hnar h0 y Fy cz O hcz) (sub1 (by simp)) Fy.exa (w164 hw) (w165 hw) (w167 hw) (w167 hw) (w166 hw) (w2 hw) (w168 hw) d_ntio_1 pd_hash rfl (hf := by first | decide | (simp [b_ntio, Bx.R]; done) | (simp [b_ntio, Bx.R]; omega)) (hl := by first | decide | (simp [b_ntio, Bx.R]; done) | (simp [b_ntio, Bx.R]; omega)) (hc := by first | decide | (simp [b_ntio, Bx.R]; done) | (simp [b_ntio, Bx.R]; omega)) (hs := by first | decide | (simp [b_ntio, Bx.R]; done) | (simp [b_ntio, Bx.R]; omega))
  have H2 : Hr x b_ntio Z EL1 0 0 h1 [y, sl] 4 #[.val (.ref t), .val (.ref y), .unset, .unset, .unset, .unset] [.int r] := H2
  have N1 := N.keep K1 (ninS d_ty nin0) (ninS (Ne.symm d_ysl) nin0) (ninS (Ne.symm d_yhs) nin0) (ninS (Ne.symm d_yix) nin0)
  have hz1 : ∀ z ∈ zs, SG Z h1 z ∧ z ≠ y := fun z hz => ⟨(hzs z hz).1.keep K1 (allS (apt_str (hzs z hz).2 Fy.exa) all0), (hzs z hz).2⟩
  have H3 : Hr x b_ntio Z EL1 0 0 h1 [y, sl] 5 #[.val (.ref t), .val (.ref y), .val (.int r), .unset, .unset, .unset] [] := H2.istoreN d_ntio_4
  have H4 : Hr x b_ntio Z EL1 0 0 h1 [y, sl] 6 #[.val (.ref t), .val (.ref y), .val (.int r), .unset, .unset, .unset] [.ref t] := H3.aloadN d_ntio_5
  have H5 : Hr x b_ntio Z EL1 0 0 h1 [y, sl] 7 #[.val (.ref t), .val (.ref y), .val (.int r), .unset, .unset, .unset] [.int r, .ref t] := H4.iloadN d_ntio_6
  obtain ⟨_, h2, _, ⟨p0, hp0, rfl, rfl, e2⟩, K2, H6⟩ := H5.callP (argsL := [.int r]) (rest := []) (Wr := 0) (a := t) (ct_ntsl hw x.l x.nar x.kn hnar h1 t L sl hs ix k ps zs N1 r) sub0 N1.1.1 (w181 hw) (w182 hw) (w110 hw) (w183 hw) (w46 hw) (w184 hw) d_ntio_7 pd_ntsl rfl (hf := by first | decide | (simp [b_ntio, Bx.R]; done) | (simp [b_ntio, Bx.R]; omega)) (hl := by first | decide | (simp [b_ntio, Bx.R]; done) | (simp [b_ntio, Bx.R]; omega)) (hc := by first | decide | (simp [b_ntio, Bx.R]; done) | (simp [b_ntio, Bx.R]; omega)) (hs := by first | decide | (simp [b_ntio, Bx.R]; done) | (simp [b_ntio, Bx.R]; omega))
  rw [e2] at H6
  have H6 : Hr x b_ntio Z EL1 0 0 h1 [y, sl] 10 #[.val (.ref t), .val (.ref y), .val (.int r), .unset, .unset, .unset] [.int (Int32.ofNat p0)] := H6
  have H7 : Hr x b_ntio Z EL1 0 0 h1 [y, sl] 11 #[.val (.ref t), .val (.ref y), .val (.int r), .val (.int (Int32.ofNat p0)), .unset, .unset] [] := H6.istoreN d_ntio_10
  have H8 : Hr x b_ntio Z EL1 0 0 h1 [y, sl] 12 #[.val (.ref t), .val (.ref y), .val (.int r), .val (.int (Int32.ofNat p0)), .unset, .unset] [.int (0 : Int32)] := H7.iconst d_ntio_11
  have H9 : Hr x b_ntio Z EL1 0 0 h1 [y, sl] 14 #[.val (.ref t), .val (.ref y), .val (.int r), .val (.int (Int32.ofNat p0)), .val (.int (0 : Int32)), .unset] [] := H8.istore d_ntio_12
  obtain ⟨⟨T1, T2, T3, T4, T5, T6⟩, ⟨vs, G, hv, hN⟩, ⟨is, J, hJ⟩, ⟨js, Ij, hI⟩⟩ := N1
  have N1 : NTS Z h1 t L sl hs ix k ps zs := ⟨⟨T1, T2, T3, T4, T5, T6⟩, ⟨vs, G, hv, hN⟩, ⟨is, J, hJ⟩, ⟨js, Ij, hI⟩⟩
  have N2 : NTS Z h1 t L sl hs ix k ps (y :: zs) := ⟨⟨T1, T2, T3, T4, T5, T6⟩, ⟨vs, G, hv, fun j v q => (hN j v q).imp id fun ⟨q1, z, q2, q3⟩ => ⟨q1, z, List.mem_cons_of_mem _ q2, q3⟩⟩, ⟨is, J, hJ⟩, ⟨js, Ij, hI⟩⟩
  have loop : ∀ (m i : Nat) (qs : List Nat) (o : Slot), qs.length ≤ m → i + qs.length ≤ 3 → (o = .unset ∨ ∃ w, o = .val w ∧ w.category = 1) → (∀ j v, vs[j]? = some v → v = .null ∨ j ∈ qs ∨ ∃ i0, i0 < i ∧ j = (p0 + i0) % 64) → Hr x b_ntio Z EL1 0 0 h1 [y, sl] 14 #[.val (.ref t), .val (.ref y), .val (.int r), .val (.int (Int32.ofNat ((p0 + i) % 64))), .val (.int (Int32.ofNat i)), o] [] → Ends x b_ntio Z EL1 (fun v h sn => ∃ r, v = some (.int r) ∧ sn = [] ∧ NTS Z h t L sl hs ix k ps (y :: zs) ∧ SG Z h y) := by
    intro m
    induction m with
    | zero =>
      intro i qs o hm hi ho hq H
      have hp : (p0 + i) % 64 < vs.length := by omega
      rcases hq _ _ (List.getElem?_eq_getElem hp) with hz | hz | ⟨i0, hz1, hz2⟩
      · have z178 := True.intro
        have hz2 : vs[(p0 + i) % 64]? = some .null := by rw [List.getElem?_eq_getElem hp, hz]
        have H179 : Hr x b_ntio Z EL1 0 0 h1 [y, sl] 16 #[.val (.ref t), .val (.ref y), .val (.int r), .val (.int (Int32.ofNat ((p0 + i) % 64))), .val (.int (Int32.ofNat i)), o] [.int (Int32.ofNat i)] := H.iload d_ntio_14
        have H180 : Hr x b_ntio Z EL1 0 0 h1 [y, sl] 18 #[.val (.ref t), .val (.ref y), .val (.int r), .val (.int (Int32.ofNat ((p0 + i) % 64))), .val (.int (Int32.ofNat i)), o] [.int (8 : Int32), .int (Int32.ofNat i)] := H179.bipush d_ntio_16
        have H181 : Hr x b_ntio Z EL1 0 0 h1 [y, sl] 21 #[.val (.ref t), .val (.ref y), .val (.int r), .val (.int (Int32.ofNat ((p0 + i) % 64))), .val (.int (Int32.ofNat i)), o] [] := H180.icmpF d_ntio_18 (XT.ii_ge_f (lt_ofNat (n := 8) (by omega) (by decide)))
        have H182 : Hr x b_ntio Z EL1 0 0 h1 [y, sl] 22 #[.val (.ref t), .val (.ref y), .val (.int r), .val (.int (Int32.ofNat ((p0 + i) % 64))), .val (.int (Int32.ofNat i)), o] [.ref t] := H181.aloadN d_ntio_21
        have H183 : Hr x b_ntio Z EL1 0 0 h1 [y, sl] 25 #[.val (.ref t), .val (.ref y), .val (.int r), .val (.int (Int32.ofNat ((p0 + i) % 64))), .val (.int (Int32.ofNat i)), o] [.ref sl] := H182.getF (w100 hw) T3 d_ntio_22
        have H184 : Hr x b_ntio Z EL1 0 0 h1 [y, sl] 26 #[.val (.ref t), .val (.ref y), .val (.int r), .val (.int (Int32.ofNat ((p0 + i) % 64))), .val (.int (Int32.ofNat i)), o] [.int (Int32.ofNat ((p0 + i) % 64)), .ref sl] := H183.iloadN d_ntio_25
        have H185 : Hr x b_ntio Z EL1 0 0 h1 [y, sl] 27 #[.val (.ref t), .val (.ref y), .val (.int r), .val (.int (Int32.ofNat ((p0 + i) % 64))), .val (.int (Int32.ofNat i)), o] [.null] := H184.aaload G.ar d_ntio_26 (i := ((p0 + i) % 64)) rfl hz2
        have H186 : Hr x b_ntio Z EL1 0 0 h1 [y, sl] 29 #[.val (.ref t), .val (.ref y), .val (.int r), .val (.int (Int32.ofNat ((p0 + i) % 64))), .val (.int (Int32.ofNat i)), .val (.null)] [] := H185.astore d_ntio_27 (hl := XS.store1 (o := o) rfl ho rfl)
        have H187 : Hr x b_ntio Z EL1 0 0 h1 [y, sl] 31 #[.val (.ref t), .val (.ref y), .val (.int r), .val (.int (Int32.ofNat ((p0 + i) % 64))), .val (.int (Int32.ofNat i)), .val (.null)] [.null] := H186.aload d_ntio_29
        have H188 : Hr x b_ntio Z EL1 0 0 h1 [y, sl] 34 #[.val (.ref t), .val (.ref y), .val (.int r), .val (.int (Int32.ofNat ((p0 + i) % 64))), .val (.int (Int32.ofNat i)), .val (.null)] [] := H187.ifnonnullF d_ntio_31
        have H189 : Hr x b_ntio Z EL1 0 0 h1 [y, sl] 35 #[.val (.ref t), .val (.ref y), .val (.int r), .val (.int (Int32.ofNat ((p0 + i) % 64))), .val (.int (Int32.ofNat i)), .val (.null)] [.int (-1 : Int32)] := H188.iconst d_ntio_34
        exact H189.finI d_ntio_35 ⟨_, rfl, rfl, N2, Fy1⟩ sub0
      · have z189 := True.intro
        rw [List.length_eq_zero_iff.mp (Nat.le_zero.mp hm)] at hz; cases hz
      · have z189 := True.intro
        omega
    | succ m ih =>
      intro i qs o hm hi ho hq H
      have hp : (p0 + i) % 64 < vs.length := by omega
      rcases hq _ _ (List.getElem?_eq_getElem hp) with hz | hz | ⟨i0, hz1, hz2⟩
      · have z189 := True.intro
        have hz2 : vs[(p0 + i) % 64]? = some .null := by rw [List.getElem?_eq_getElem hp, hz]
        have H190 : Hr x b_ntio Z EL1 0 0 h1 [y, sl] 16 #[.val (.ref t), .val (.ref y), .val (.int r), .val (.int (Int32.ofNat ((p0 + i) % 64))), .val (.int (Int32.ofNat i)), o] [.int (Int32.ofNat i)] := H.iload d_ntio_14
        have H191 : Hr x b_ntio Z EL1 0 0 h1 [y, sl] 18 #[.val (.ref t), .val (.ref y), .val (.int r), .val (.int (Int32.ofNat ((p0 + i) % 64))), .val (.int (Int32.ofNat i)), o] [.int (8 : Int32), .int (Int32.ofNat i)] := H190.bipush d_ntio_16
        have H192 : Hr x b_ntio Z EL1 0 0 h1 [y, sl] 21 #[.val (.ref t), .val (.ref y), .val (.int r), .val (.int (Int32.ofNat ((p0 + i) % 64))), .val (.int (Int32.ofNat i)), o] [] := H191.icmpF d_ntio_18 (XT.ii_ge_f (lt_ofNat (n := 8) (by omega) (by decide)))
        have H193 : Hr x b_ntio Z EL1 0 0 h1 [y, sl] 22 #[.val (.ref t), .val (.ref y), .val (.int r), .val (.int (Int32.ofNat ((p0 + i) % 64))), .val (.int (Int32.ofNat i)), o] [.ref t] := H192.aloadN d_ntio_21
        have H194 : Hr x b_ntio Z EL1 0 0 h1 [y, sl] 25 #[.val (.ref t), .val (.ref y), .val (.int r), .val (.int (Int32.ofNat ((p0 + i) % 64))), .val (.int (Int32.ofNat i)), o] [.ref sl] := H193.getF (w100 hw) T3 d_ntio_22
        have H195 : Hr x b_ntio Z EL1 0 0 h1 [y, sl] 26 #[.val (.ref t), .val (.ref y), .val (.int r), .val (.int (Int32.ofNat ((p0 + i) % 64))), .val (.int (Int32.ofNat i)), o] [.int (Int32.ofNat ((p0 + i) % 64)), .ref sl] := H194.iloadN d_ntio_25
        have H196 : Hr x b_ntio Z EL1 0 0 h1 [y, sl] 27 #[.val (.ref t), .val (.ref y), .val (.int r), .val (.int (Int32.ofNat ((p0 + i) % 64))), .val (.int (Int32.ofNat i)), o] [.null] := H195.aaload G.ar d_ntio_26 (i := ((p0 + i) % 64)) rfl hz2
        have H197 : Hr x b_ntio Z EL1 0 0 h1 [y, sl] 29 #[.val (.ref t), .val (.ref y), .val (.int r), .val (.int (Int32.ofNat ((p0 + i) % 64))), .val (.int (Int32.ofNat i)), .val (.null)] [] := H196.astore d_ntio_27 (hl := XS.store1 (o := o) rfl ho rfl)
        have H198 : Hr x b_ntio Z EL1 0 0 h1 [y, sl] 31 #[.val (.ref t), .val (.ref y), .val (.int r), .val (.int (Int32.ofNat ((p0 + i) % 64))), .val (.int (Int32.ofNat i)), .val (.null)] [.null] := H197.aload d_ntio_29
        have H199 : Hr x b_ntio Z EL1 0 0 h1 [y, sl] 34 #[.val (.ref t), .val (.ref y), .val (.int r), .val (.int (Int32.ofNat ((p0 + i) % 64))), .val (.int (Int32.ofNat i)), .val (.null)] [] := H198.ifnonnullF d_ntio_31
        have H200 : Hr x b_ntio Z EL1 0 0 h1 [y, sl] 35 #[.val (.ref t), .val (.ref y), .val (.int r), .val (.int (Int32.ofNat ((p0 + i) % 64))), .val (.int (Int32.ofNat i)), .val (.null)] [.int (-1 : Int32)] := H199.iconst d_ntio_34
        exact H200.finI d_ntio_35 ⟨_, rfl, rfl, N2, Fy1⟩ sub0
      · have z200 := True.intro
        rcases hN _ _ (List.getElem?_eq_getElem hp) with h0 | ⟨-, z, hz3, hz4⟩
        · have z200 := True.intro
          have hz2 : vs[(p0 + i) % 64]? = some .null := by rw [List.getElem?_eq_getElem hp, h0]
          have H201 : Hr x b_ntio Z EL1 0 0 h1 [y, sl] 16 #[.val (.ref t), .val (.ref y), .val (.int r), .val (.int (Int32.ofNat ((p0 + i) % 64))), .val (.int (Int32.ofNat i)), o] [.int (Int32.ofNat i)] := H.iload d_ntio_14
          have H202 : Hr x b_ntio Z EL1 0 0 h1 [y, sl] 18 #[.val (.ref t), .val (.ref y), .val (.int r), .val (.int (Int32.ofNat ((p0 + i) % 64))), .val (.int (Int32.ofNat i)), o] [.int (8 : Int32), .int (Int32.ofNat i)] := H201.bipush d_ntio_16
          have H203 : Hr x b_ntio Z EL1 0 0 h1 [y, sl] 21 #[.val (.ref t), .val (.ref y), .val (.int r), .val (.int (Int32.ofNat ((p0 + i) % 64))), .val (.int (Int32.ofNat i)), o] [] := H202.icmpF d_ntio_18 (XT.ii_ge_f (lt_ofNat (n := 8) (by omega) (by decide)))
          have H204 : Hr x b_ntio Z EL1 0 0 h1 [y, sl] 22 #[.val (.ref t), .val (.ref y), .val (.int r), .val (.int (Int32.ofNat ((p0 + i) % 64))), .val (.int (Int32.ofNat i)), o] [.ref t] := H203.aloadN d_ntio_21
          have H205 : Hr x b_ntio Z EL1 0 0 h1 [y, sl] 25 #[.val (.ref t), .val (.ref y), .val (.int r), .val (.int (Int32.ofNat ((p0 + i) % 64))), .val (.int (Int32.ofNat i)), o] [.ref sl] := H204.getF (w100 hw) T3 d_ntio_22
          have H206 : Hr x b_ntio Z EL1 0 0 h1 [y, sl] 26 #[.val (.ref t), .val (.ref y), .val (.int r), .val (.int (Int32.ofNat ((p0 + i) % 64))), .val (.int (Int32.ofNat i)), o] [.int (Int32.ofNat ((p0 + i) % 64)), .ref sl] := H205.iloadN d_ntio_25
          have H207 : Hr x b_ntio Z EL1 0 0 h1 [y, sl] 27 #[.val (.ref t), .val (.ref y), .val (.int r), .val (.int (Int32.ofNat ((p0 + i) % 64))), .val (.int (Int32.ofNat i)), o] [.null] := H206.aaload G.ar d_ntio_26 (i := ((p0 + i) % 64)) rfl hz2
          have H208 : Hr x b_ntio Z EL1 0 0 h1 [y, sl] 29 #[.val (.ref t), .val (.ref y), .val (.int r), .val (.int (Int32.ofNat ((p0 + i) % 64))), .val (.int (Int32.ofNat i)), .val (.null)] [] := H207.astore d_ntio_27 (hl := XS.store1 (o := o) rfl ho rfl)
          have H209 : Hr x b_ntio Z EL1 0 0 h1 [y, sl] 31 #[.val (.ref t), .val (.ref y), .val (.int r), .val (.int (Int32.ofNat ((p0 + i) % 64))), .val (.int (Int32.ofNat i)), .val (.null)] [.null] := H208.aload d_ntio_29
          have H210 : Hr x b_ntio Z EL1 0 0 h1 [y, sl] 34 #[.val (.ref t), .val (.ref y), .val (.int r), .val (.int (Int32.ofNat ((p0 + i) % 64))), .val (.int (Int32.ofNat i)), .val (.null)] [] := H209.ifnonnullF d_ntio_31
          have H211 : Hr x b_ntio Z EL1 0 0 h1 [y, sl] 35 #[.val (.ref t), .val (.ref y), .val (.int r), .val (.int (Int32.ofNat ((p0 + i) % 64))), .val (.int (Int32.ofNat i)), .val (.null)] [.int (-1 : Int32)] := H210.iconst d_ntio_34
          exact H211.finI d_ntio_35 ⟨_, rfl, rfl, N2, Fy1⟩ sub0
        · have z211 := True.intro
          have hz2 : vs[(p0 + i) % 64]? = some (.ref z) := by rw [List.getElem?_eq_getElem hp, hz4]
          obtain ⟨Fz, hzy⟩ := hz1 z hz3
          have hji : (p0 + i) % 64 < is.length := by omega
          have hji2 : (p0 + i) % 64 < js.length := by omega
          have H212 : Hr x b_ntio Z EL1 0 0 h1 [y, sl] 16 #[.val (.ref t), .val (.ref y), .val (.int r), .val (.int (Int32.ofNat ((p0 + i) % 64))), .val (.int (Int32.ofNat i)), o] [.int (Int32.ofNat i)] := H.iload d_ntio_14
          have H213 : Hr x b_ntio Z EL1 0 0 h1 [y, sl] 18 #[.val (.ref t), .val (.ref y), .val (.int r), .val (.int (Int32.ofNat ((p0 + i) % 64))), .val (.int (Int32.ofNat i)), o] [.int (8 : Int32), .int (Int32.ofNat i)] := H212.bipush d_ntio_16
          have H214 : Hr x b_ntio Z EL1 0 0 h1 [y, sl] 21 #[.val (.ref t), .val (.ref y), .val (.int r), .val (.int (Int32.ofNat ((p0 + i) % 64))), .val (.int (Int32.ofNat i)), o] [] := H213.icmpF d_ntio_18 (XT.ii_ge_f (lt_ofNat (n := 8) (by omega) (by decide)))
          have H215 : Hr x b_ntio Z EL1 0 0 h1 [y, sl] 22 #[.val (.ref t), .val (.ref y), .val (.int r), .val (.int (Int32.ofNat ((p0 + i) % 64))), .val (.int (Int32.ofNat i)), o] [.ref t] := H214.aloadN d_ntio_21
          have H216 : Hr x b_ntio Z EL1 0 0 h1 [y, sl] 25 #[.val (.ref t), .val (.ref y), .val (.int r), .val (.int (Int32.ofNat ((p0 + i) % 64))), .val (.int (Int32.ofNat i)), o] [.ref sl] := H215.getF (w100 hw) T3 d_ntio_22
          have H217 : Hr x b_ntio Z EL1 0 0 h1 [y, sl] 26 #[.val (.ref t), .val (.ref y), .val (.int r), .val (.int (Int32.ofNat ((p0 + i) % 64))), .val (.int (Int32.ofNat i)), o] [.int (Int32.ofNat ((p0 + i) % 64)), .ref sl] := H216.iloadN d_ntio_25
          have H218 : Hr x b_ntio Z EL1 0 0 h1 [y, sl] 27 #[.val (.ref t), .val (.ref y), .val (.int r), .val (.int (Int32.ofNat ((p0 + i) % 64))), .val (.int (Int32.ofNat i)), o] [.ref z] := H217.aaload G.ar d_ntio_26 (i := ((p0 + i) % 64)) rfl hz2
          have H219 : Hr x b_ntio Z EL1 0 0 h1 [y, sl] 29 #[.val (.ref t), .val (.ref y), .val (.int r), .val (.int (Int32.ofNat ((p0 + i) % 64))), .val (.int (Int32.ofNat i)), .val (.ref z)] [] := H218.astore d_ntio_27 (hl := XS.store1 (o := o) rfl ho rfl)
          have H220 : Hr x b_ntio Z EL1 0 0 h1 [y, sl] 31 #[.val (.ref t), .val (.ref y), .val (.int r), .val (.int (Int32.ofNat ((p0 + i) % 64))), .val (.int (Int32.ofNat i)), .val (.ref z)] [.ref z] := H219.aload d_ntio_29
          have H221 : Hr x b_ntio Z EL1 0 0 h1 [y, sl] 36 #[.val (.ref t), .val (.ref y), .val (.int r), .val (.int (Int32.ofNat ((p0 + i) % 64))), .val (.int (Int32.ofNat i)), .val (.ref z)] [] := H220.ifnonnullT d_ntio_31
          have H222 : Hr x b_ntio Z EL1 0 0 h1 [y, sl] 38 #[.val (.ref t), .val (.ref y), .val (.int r), .val (.int (Int32.ofNat ((p0 + i) % 64))), .val (.int (Int32.ofNat i)), .val (.ref z)] [.ref z] := H221.aload d_ntio_36
          have H223 : Hr x b_ntio Z EL1 0 0 h1 [y, sl] 39 #[.val (.ref t), .val (.ref y), .val (.int r), .val (.int (Int32.ofNat ((p0 + i) % 64))), .val (.int (Int32.ofNat i)), .val (.ref z)] [.ref y, .ref z] := H222.aloadN d_ntio_38
          have H224 : Hr x b_ntio Z EL1 0 0 h1 [y, sl] 49 #[.val (.ref t), .val (.ref y), .val (.int r), .val (.int (Int32.ofNat ((p0 + i) % 64))), .val (.int (Int32.ofNat i)), .val (.ref z)] [] := H223.acmpT d_ntio_39 (by simp [XT.acmp, hzy])
          have H225 : Hr x b_ntio Z EL1 0 0 h1 [y, sl] 50 #[.val (.ref t), .val (.ref y), .val (.int r), .val (.int (Int32.ofNat ((p0 + i) % 64))), .val (.int (Int32.ofNat i)), .val (.ref z)] [.ref t] := H224.aloadN d_ntio_49
          have H226 : Hr x b_ntio Z EL1 0 0 h1 [y, sl] 53 #[.val (.ref t), .val (.ref y), .val (.int r), .val (.int (Int32.ofNat ((p0 + i) % 64))), .val (.int (Int32.ofNat i)), .val (.ref z)] [.ref hs] := H225.getF (w103 hw) T4 d_ntio_50
          have H227 : Hr x b_ntio Z EL1 0 0 h1 [y, sl] 54 #[.val (.ref t), .val (.ref y), .val (.int r), .val (.int (Int32.ofNat ((p0 + i) % 64))), .val (.int (Int32.ofNat i)), .val (.ref z)] [.int (Int32.ofNat ((p0 + i) % 64)), .ref hs] := H226.iloadN d_ntio_53
          have H228 : Hr x b_ntio Z EL1 0 0 h1 [y, sl] 55 #[.val (.ref t), .val (.ref y), .val (.int r), .val (.int (Int32.ofNat ((p0 + i) % 64))), .val (.int (Int32.ofNat i)), .val (.ref z)] [.int (is[(p0 + i) % 64])] := H227.iaload J d_ntio_54 (i := ((p0 + i) % 64)) rfl (by simp [hji])
          have H229 : Hr x b_ntio Z EL1 0 0 h1 [y, sl] 56 #[.val (.ref t), .val (.ref y), .val (.int r), .val (.int (Int32.ofNat ((p0 + i) % 64))), .val (.int (Int32.ofNat i)), .val (.ref z)] [.int r, .int (is[(p0 + i) % 64])] := H228.iloadN d_ntio_55
          by_cases qh : ¬ is[(p0 + i) % 64] = r
          · have z229 := qh
            have H230 : Hr x b_ntio Z EL1 0 0 h1 [y, sl] 82 #[.val (.ref t), .val (.ref y), .val (.int r), .val (.int (Int32.ofNat ((p0 + i) % 64))), .val (.int (Int32.ofNat i)), .val (.ref z)] [] := H229.icmpT d_ntio_56 (XT.ii_ne_t qh)
            have H231 : Hr x b_ntio Z EL1 0 0 h1 [y, sl] 83 #[.val (.ref t), .val (.ref y), .val (.int r), .val (.int (Int32.ofNat ((p0 + i) % 64))), .val (.int (Int32.ofNat i)), .val (.ref z)] [.ref t] := H230.aloadN d_ntio_82
            have H232 : Hr x b_ntio Z EL1 0 0 h1 [y, sl] 84 #[.val (.ref t), .val (.ref y), .val (.int r), .val (.int (Int32.ofNat ((p0 + i) % 64))), .val (.int (Int32.ofNat i)), .val (.ref z)] [.int (Int32.ofNat ((p0 + i) % 64)), .ref t] := H231.iloadN d_ntio_83
            obtain ⟨_, h9, _, ⟨rfl, rfl, e9⟩, K9, H233⟩ := H232.callP (argsL := [.int (Int32.ofNat ((p0 + i) % 64))]) (rest := []) (Wr := 0) (a := t) (ct_ntnx hw x.l x.nar x.kn hnar h1 t L sl hs ix k ps zs N1 ((p0 + i) % 64) (by omega)) sub0 T1 (w241 hw) (w242 hw) (w110 hw) (w243 hw) (w46 hw) (w244 hw) d_ntio_84 pd_ntnx rfl (hf := by first | decide | (simp [b_ntio, Bx.R]; done) | (simp [b_ntio, Bx.R]; omega)) (hl := by first | decide | (simp [b_ntio, Bx.R]; done) | (simp [b_ntio, Bx.R]; omega)) (hc := by first | decide | (simp [b_ntio, Bx.R]; done) | (simp [b_ntio, Bx.R]; omega)) (hs := by first | decide | (simp [b_ntio, Bx.R]; done) | (simp [b_ntio, Bx.R]; omega))
            rw [e9] at H233
            have H233 : Hr x b_ntio Z EL1 0 0 h1 [y, sl] 87 #[.val (.ref t), .val (.ref y), .val (.int r), .val (.int (Int32.ofNat ((p0 + i) % 64))), .val (.int (Int32.ofNat i)), .val (.ref z)] [.int (Int32.ofNat (((p0 + i) % 64 + 1) % 64))] := H233
            have hmod : ((p0 + i) % 64 + 1) % 64 = (p0 + (i + 1)) % 64 := by omega
            have H233 : Hr x b_ntio Z EL1 0 0 h1 [y, sl] 87 #[.val (.ref t), .val (.ref y), .val (.int r), .val (.int (Int32.ofNat ((p0 + i) % 64))), .val (.int (Int32.ofNat i)), .val (.ref z)] [.int (Int32.ofNat ((p0 + (i + 1)) % 64))] := by rw [← hmod]; exact H233
            have H234 : Hr x b_ntio Z EL1 0 0 h1 [y, sl] 88 #[.val (.ref t), .val (.ref y), .val (.int r), .val (.int (Int32.ofNat ((p0 + (i + 1)) % 64))), .val (.int (Int32.ofNat i)), .val (.ref z)] [] := H233.istoreN d_ntio_87
            have H235 : Hr x b_ntio Z EL1 0 0 h1 [y, sl] 91 #[.val (.ref t), .val (.ref y), .val (.int r), .val (.int (Int32.ofNat ((p0 + (i + 1)) % 64))), .val (.int (Int32.ofNat (i + 1))), .val (.ref z)] [] := H234.iinc d_ntio_88 (v := (Int32.ofNat (i + 1))) (hv := (inc_ofNat i).symm)
            have H236 : Hr x b_ntio Z EL1 0 0 h1 [y, sl] 14 #[.val (.ref t), .val (.ref y), .val (.int r), .val (.int (Int32.ofNat ((p0 + (i + 1)) % 64))), .val (.int (Int32.ofNat (i + 1))), .val (.ref z)] [] := H235.goto d_ntio_91
            have hle := List.length_erase_of_mem hz
            have hpos := List.length_pos_of_mem hz
            refine ih (i + 1) (qs.erase ((p0 + i) % 64)) _ (by omega) (by omega) (Or.inr ⟨_, rfl, rfl⟩) (fun j v q => ?_) H236
            rcases hq j v q with u | u | ⟨i0, u1, u2⟩
            · exact Or.inl u
            · by_cases hj : j = (p0 + i) % 64
              · exact Or.inr (Or.inr ⟨i, by omega, hj⟩)
              · exact Or.inr (Or.inl ((List.mem_erase_of_ne hj).mpr u))
            · exact Or.inr (Or.inr ⟨i0, by omega, u2⟩)
          · have z236 := qh
            have H237 : Hr x b_ntio Z EL1 0 0 h1 [y, sl] 59 #[.val (.ref t), .val (.ref y), .val (.int r), .val (.int (Int32.ofNat ((p0 + i) % 64))), .val (.int (Int32.ofNat i)), .val (.ref z)] [] := H229.icmpF d_ntio_56 (XT.ii_ne_f (Decidable.not_not.mp qh))
            have H238 : Hr x b_ntio Z EL1 0 0 h1 [y, sl] 61 #[.val (.ref t), .val (.ref y), .val (.int r), .val (.int (Int32.ofNat ((p0 + i) % 64))), .val (.int (Int32.ofNat i)), .val (.ref z)] [.ref z] := H237.aload d_ntio_59
            have H239 : Hr x b_ntio Z EL1 0 0 h1 [y, sl] 62 #[.val (.ref t), .val (.ref y), .val (.int r), .val (.int (Int32.ofNat ((p0 + i) % 64))), .val (.int (Int32.ofNat i)), .val (.ref z)] [.ref y, .ref z] := H238.aloadN d_ntio_61
            obtain ⟨tz, bz, _, _, Sz, -⟩ := Fz
            obtain ⟨ty_, by_, _, _, Sy, -⟩ := id Fy1
            obtain ⟨_, h3, _, ⟨rfl, rfl, e3⟩, K3, H240⟩ := H239.callV (argsL := [.ref y]) (rest := []) (Wr := 0) (a := z) (ct_seq hw x.l x.nar x.kn hnar h1 z tz y ty_ bz by_ Sz Sy cz O hcz) sub0 Sz.1 (w207 hw) (w208 hw) (w210 hw) (w210 hw) (w209 hw) (w2 hw) (w211 hw) d_ntio_62 pd_seq rfl (hf := by first | decide | (simp [b_ntio, Bx.R]; done) | (simp [b_ntio, Bx.R]; omega)) (hl := by first | decide | (simp [b_ntio, Bx.R]; done) | (simp [b_ntio, Bx.R]; omega)) (hc := by first | decide | (simp [b_ntio, Bx.R]; done) | (simp [b_ntio, Bx.R]; omega)) (hs := by first | decide | (simp [b_ntio, Bx.R]; done) | (simp [b_ntio, Bx.R]; omega))
            rw [e3] at H240
            have H240 : Hr x b_ntio Z EL1 0 0 h1 [y, sl] 65 #[.val (.ref t), .val (.ref y), .val (.int r), .val (.int (Int32.ofNat ((p0 + i) % 64))), .val (.int (Int32.ofNat i)), .val (.ref z)] [.int (if bz = by_ then 1 else 0)] := H240
            by_cases qe : bz = by_
            · have z240 := qe
              have H241 : Hr x b_ntio Z EL1 0 0 h1 [y, sl] 68 #[.val (.ref t), .val (.ref y), .val (.int r), .val (.int (Int32.ofNat ((p0 + i) % 64))), .val (.int (Int32.ofNat i)), .val (.ref z)] [] := H240.ifF d_ntio_65 (XT.i0_eq_f (by rw [if_pos qe]; decide))
              have H242 : Hr x b_ntio Z EL1 0 0 h1 [y, sl] 69 #[.val (.ref t), .val (.ref y), .val (.int r), .val (.int (Int32.ofNat ((p0 + i) % 64))), .val (.int (Int32.ofNat i)), .val (.ref z)] [.ref t] := H241.aloadN d_ntio_68
              have H243 : Hr x b_ntio Z EL1 0 0 h1 [y, sl] 72 #[.val (.ref t), .val (.ref y), .val (.int r), .val (.int (Int32.ofNat ((p0 + i) % 64))), .val (.int (Int32.ofNat i)), .val (.ref z)] [.ref sl] := H242.getF (w100 hw) T3 d_ntio_69
              have H244 : Hr x b_ntio Z EL1 0 0 h1 [y, sl] 73 #[.val (.ref t), .val (.ref y), .val (.int r), .val (.int (Int32.ofNat ((p0 + i) % 64))), .val (.int (Int32.ofNat i)), .val (.ref z)] [.int (Int32.ofNat ((p0 + i) % 64)), .ref sl] := H243.iloadN d_ntio_72
              have H245 : Hr x b_ntio Z EL1 0 0 h1 [y, sl] 74 #[.val (.ref t), .val (.ref y), .val (.int r), .val (.int (Int32.ofNat ((p0 + i) % 64))), .val (.int (Int32.ofNat i)), .val (.ref z)] [.ref y, .int (Int32.ofNat ((p0 + i) % 64)), .ref sl] := H244.aloadN d_ntio_73
              obtain ⟨h4, W4, H246⟩ := H245.aastore (by simp) G (Ins.self Fy1.exa) d_ntio_74 (i := ((p0 + i) % 64)) rfl (by omega)
              have H246 : Hr x b_ntio Z EL1 0 0 h4 [y, sl] 75 #[.val (.ref t), .val (.ref y), .val (.int r), .val (.int (Int32.ofNat ((p0 + i) % 64))), .val (.int (Int32.ofNat i)), .val (.ref z)] [] := H246
              have H247 : Hr x b_ntio Z EL1 0 0 h4 [y, sl] 76 #[.val (.ref t), .val (.ref y), .val (.int r), .val (.int (Int32.ofNat ((p0 + i) % 64))), .val (.int (Int32.ofNat i)), .val (.ref z)] [.ref t] := H246.aloadN d_ntio_75
              have H248 : Hr x b_ntio Z EL1 0 0 h4 [y, sl] 79 #[.val (.ref t), .val (.ref y), .val (.int r), .val (.int (Int32.ofNat ((p0 + i) % 64))), .val (.int (Int32.ofNat i)), .val (.ref z)] [.ref ix] := H247.getF (w105 hw) (T5.other W4 (Or.inl d_tsl)) d_ntio_76
              have H249 : Hr x b_ntio Z EL1 0 0 h4 [y, sl] 80 #[.val (.ref t), .val (.ref y), .val (.int r), .val (.int (Int32.ofNat ((p0 + i) % 64))), .val (.int (Int32.ofNat i)), .val (.ref z)] [.int (Int32.ofNat ((p0 + i) % 64)), .ref ix] := H248.iloadN d_ntio_79
              have H250 : Hr x b_ntio Z EL1 0 0 h4 [y, sl] 81 #[.val (.ref t), .val (.ref y), .val (.int r), .val (.int (Int32.ofNat ((p0 + i) % 64))), .val (.int (Int32.ofNat i)), .val (.ref z)] [.int (js[(p0 + i) % 64])] := H249.iaload (Ij.other W4 (Ne.symm d_lx)) d_ntio_80 (i := ((p0 + i) % 64)) rfl (by simp [hji2])
              refine H250.finI d_ntio_81 ⟨_, rfl, rfl, ⟨⟨T1.wr W4, T2.other W4 (Or.inl d_tsl), T3.other W4 (Or.inl d_tsl), T4.other W4 (Or.inl d_tsl), T5.other W4 (Or.inl d_tsl), T6.other W4 (Or.inl d_tsl)⟩, ⟨_, G.set W4, by simpa using hv, fun j v q => ?_⟩, ⟨is, J.other W4 (Ne.symm d_lh), hJ⟩, ⟨js, Ij.other W4 (Ne.symm d_lx), hI⟩⟩, Fy1.keep (Keep.of_wr W4) (allS (apt_arr Fy1.exa G.ar (by decide) (w10 hw)) all0)⟩ sub0
              by_cases hj : (p0 + i) % 64 = j
              · subst hj; rw [List.getElem?_set_self (by omega)] at q; cases q
                rcases hN _ _ hz2 with h0 | ⟨q1, -⟩
                · cases h0
                · exact Or.inr ⟨q1, y, by simp, rfl⟩
              · rw [List.getElem?_set_ne hj] at q; exact (hN j v q).imp id fun ⟨q1, z, q2, q3⟩ => ⟨q1, z, List.mem_cons_of_mem _ q2, q3⟩
            · have z250 := qe
              have H251 : Hr x b_ntio Z EL1 0 0 h1 [y, sl] 82 #[.val (.ref t), .val (.ref y), .val (.int r), .val (.int (Int32.ofNat ((p0 + i) % 64))), .val (.int (Int32.ofNat i)), .val (.ref z)] [] := H240.ifT d_ntio_65 (XT.i0_eq_t (if_neg qe))
              have H252 : Hr x b_ntio Z EL1 0 0 h1 [y, sl] 83 #[.val (.ref t), .val (.ref y), .val (.int r), .val (.int (Int32.ofNat ((p0 + i) % 64))), .val (.int (Int32.ofNat i)), .val (.ref z)] [.ref t] := H251.aloadN d_ntio_82
              have H253 : Hr x b_ntio Z EL1 0 0 h1 [y, sl] 84 #[.val (.ref t), .val (.ref y), .val (.int r), .val (.int (Int32.ofNat ((p0 + i) % 64))), .val (.int (Int32.ofNat i)), .val (.ref z)] [.int (Int32.ofNat ((p0 + i) % 64)), .ref t] := H252.iloadN d_ntio_83
              obtain ⟨_, h9, _, ⟨rfl, rfl, e9⟩, K9, H254⟩ := H253.callP (argsL := [.int (Int32.ofNat ((p0 + i) % 64))]) (rest := []) (Wr := 0) (a := t) (ct_ntnx hw x.l x.nar x.kn hnar h1 t L sl hs ix k ps zs N1 ((p0 + i) % 64) (by omega)) sub0 T1 (w241 hw) (w242 hw) (w110 hw) (w243 hw) (w46 hw) (w244 hw) d_ntio_84 pd_ntnx rfl (hf := by first | decide | (simp [b_ntio, Bx.R]; done) | (simp [b_ntio, Bx.R]; omega)) (hl := by first | decide | (simp [b_ntio, Bx.R]; done) | (simp [b_ntio, Bx.R]; omega)) (hc := by first | decide | (simp [b_ntio, Bx.R]; done) | (simp [b_ntio, Bx.R]; omega)) (hs := by first | decide | (simp [b_ntio, Bx.R]; done) | (simp [b_ntio, Bx.R]; omega))
              rw [e9] at H254
              have H254 : Hr x b_ntio Z EL1 0 0 h1 [y, sl] 87 #[.val (.ref t), .val (.ref y), .val (.int r), .val (.int (Int32.ofNat ((p0 + i) % 64))), .val (.int (Int32.ofNat i)), .val (.ref z)] [.int (Int32.ofNat (((p0 + i) % 64 + 1) % 64))] := H254
              have hmod : ((p0 + i) % 64 + 1) % 64 = (p0 + (i + 1)) % 64 := by omega
              have H254 : Hr x b_ntio Z EL1 0 0 h1 [y, sl] 87 #[.val (.ref t), .val (.ref y), .val (.int r), .val (.int (Int32.ofNat ((p0 + i) % 64))), .val (.int (Int32.ofNat i)), .val (.ref z)] [.int (Int32.ofNat ((p0 + (i + 1)) % 64))] := by rw [← hmod]; exact H254
              have H255 : Hr x b_ntio Z EL1 0 0 h1 [y, sl] 88 #[.val (.ref t), .val (.ref y), .val (.int r), .val (.int (Int32.ofNat ((p0 + (i + 1)) % 64))), .val (.int (Int32.ofNat i)), .val (.ref z)] [] := H254.istoreN d_ntio_87
              have H256 : Hr x b_ntio Z EL1 0 0 h1 [y, sl] 91 #[.val (.ref t), .val (.ref y), .val (.int r), .val (.int (Int32.ofNat ((p0 + (i + 1)) % 64))), .val (.int (Int32.ofNat (i + 1))), .val (.ref z)] [] := H255.iinc d_ntio_88 (v := (Int32.ofNat (i + 1))) (hv := (inc_ofNat i).symm)
              have H257 : Hr x b_ntio Z EL1 0 0 h1 [y, sl] 14 #[.val (.ref t), .val (.ref y), .val (.int r), .val (.int (Int32.ofNat ((p0 + (i + 1)) % 64))), .val (.int (Int32.ofNat (i + 1))), .val (.ref z)] [] := H256.goto d_ntio_91
              have hle := List.length_erase_of_mem hz
              have hpos := List.length_pos_of_mem hz
              refine ih (i + 1) (qs.erase ((p0 + i) % 64)) _ (by omega) (by omega) (Or.inr ⟨_, rfl, rfl⟩) (fun j v q => ?_) H257
              rcases hq j v q with u | u | ⟨i0, u1, u2⟩
              · exact Or.inl u
              · by_cases hj : j = (p0 + i) % 64
                · exact Or.inr (Or.inr ⟨i, by omega, hj⟩)
                · exact Or.inr (Or.inl ((List.mem_erase_of_ne hj).mpr u))
              · exact Or.inr (Or.inr ⟨i0, by omega, u2⟩)
      · have z257 := True.intro
        omega
  have hmod0 : p0 = (p0 + 0) % 64 := by omega
  have H9 : Hr x b_ntio Z EL1 0 0 h1 [y, sl] 14 #[.val (.ref t), .val (.ref y), .val (.int r), .val (.int (Int32.ofNat ((p0 + 0) % 64))), .val (.int (Int32.ofNat 0)), .unset] [] := by rw [← hmod0]; exact H9
  exact loop 3 0 ps .unset hps (by omega) (Or.inl rfl) (fun j v q => (hN j v q).imp id fun u => Or.inl u.1) H9
def b_at : Bx := (({ frames := 9, cells := 48, slots := 576, locals := 192 } : Room), (⟨"com/example/afterscore/afterscore/io/NameTableNamePinLaw", "law", "(IIII)Z"⟩ : MethodName), code, 14, ret)
theorem ef_at (p0 : Int32) (p1 : Int32) (p2 : Int32) (p3 : Int32) (mI : MethodId) : entryFrame mI #[.int p0, .int p1, .int p2, .int p3] 14 = mkF mI 0 #[.val (.int p0), .val (.int p1), .val (.int p2), .val (.int p3), .unset, .unset, .unset, .unset, .unset, .unset, .unset, .unset, .unset, .unset] [] := by first | (simp [entryFrame, mkF, argsToLocals, Value.category]; done) | rfl
theorem pn_com_example_afterscore_afterscore_io_NameTableNamePinLaw : plainName "com/example/afterscore/afterscore/io/NameTableNamePinLaw" = true := by first | (simp [plainName, overriddenIn]; done) | decide +kernel
theorem pd_at : parseMethodDescriptor "(IIII)Z" = some ⟨[.int, .int, .int, .int], some .boolean⟩ := by decide +kernel
set_option maxRecDepth 65536 in
set_option maxHeartbeats 4000000 in
theorem ct_law {a0 : Array Value} {Z : State} (hw : ∀ d ∈ tables_1, d.before a0 Z = true) (l : Launch) (nar kn : Bool) (hnr : nar = nar) (h0 : Heap) (p0 : Int32) (p1 : Int32) (p2 : Int32) (p3 : Int32) (cz : Int32) (O : Sta Z Z.heap "java/lang/String" "COMPACT_STRINGS" "Z" (.int cz)) (hcz : ¬ cz = 0) (D : Addr) (SDf : Sta Z Z.heap "java/util/ArrayList" "DEFAULTCAPACITY_EMPTY_ELEMENTDATA" "[Ljava/lang/Object;" (.ref D)) (FD : Ar Z Z.heap D (.object "java/lang/Object") []) :
    Ct l Z EL1 (⟨"com/example/afterscore/afterscore/io/NameTableNamePinLaw", "law", "(IIII)Z"⟩ : MethodName) code 14 ret ({ frames := 9, cells := 48, slots := 576, locals := 192 } : Room) #[.int p0, .int p1, .int p2, .int p3] h0 [] nar kn (fun v h sn => v = some (.int 1) ∧ sn = []) := by
  refine Ct.intro (plainFor_of_name pn_com_example_afterscore_afterscore_io_NameTableNamePinLaw) (ew hw) (ef_at p0 p1 p2 p3) ?_
  intro x hl hn0 hkn hsf hh H0
  have hnar : x.nar = x.nar := rfl
  have H0 : Hr x b_at Z EL1 0 0 h0 [] 0 #[.val (.int p0), .val (.int p1), .val (.int p2), .val (.int p3), .unset, .unset, .unset, .unset, .unset, .unset, .unset, .unset, .unset, .unset] [] := H0
  have H1 : Hr x b_at Z EL1 0 0 h0 [] 1 #[.val (.int p0), .val (.int p1), .val (.int p2), .val (.int p3), .unset, .unset, .unset, .unset, .unset, .unset, .unset, .unset, .unset, .unset] [.int p0] := H0.iloadN at_0
  have H2 : Hr x b_at Z EL1 0 0 h0 [] 2 #[.val (.int p0), .val (.int p1), .val (.int p2), .val (.int p3), .unset, .unset, .unset, .unset, .unset, .unset, .unset, .unset, .unset, .unset] [.int (3 : Int32), .int p0] := H1.iconst at_1
  have H3 : Hr x b_at Z EL1 0 0 h0 [] 3 #[.val (.int p0), .val (.int p1), .val (.int p2), .val (.int p3), .unset, .unset, .unset, .unset, .unset, .unset, .unset, .unset, .unset, .unset] [.int (p0 &&& (3 : Int32))] := H2.iand at_2
  have H4 : Hr x b_at Z EL1 0 0 h0 [] 5 #[.val (.int p0), .val (.int p1), .val (.int p2), .val (.int p3), .val (.int (p0 &&& (3 : Int32))), .unset, .unset, .unset, .unset, .unset, .unset, .unset, .unset, .unset] [] := H3.istore at_3
  have H5 : Hr x b_at Z EL1 0 0 h0 [] 6 #[.val (.int p0), .val (.int p1), .val (.int p2), .val (.int p3), .val (.int (p0 &&& (3 : Int32))), .unset, .unset, .unset, .unset, .unset, .unset, .unset, .unset, .unset] [.int p1] := H4.iloadN at_5
  have H6 : Hr x b_at Z EL1 0 0 h0 [] 9 #[.val (.int p0), .val (.int p1), .val (.int p2), .val (.int p3), .val (.int (p0 &&& (3 : Int32))), .unset, .unset, .unset, .unset, .unset, .unset, .unset, .unset, .unset] [.int (255 : Int32), .int p1] := H5.sipush at_6
  have H7 : Hr x b_at Z EL1 0 0 h0 [] 10 #[.val (.int p0), .val (.int p1), .val (.int p2), .val (.int p3), .val (.int (p0 &&& (3 : Int32))), .unset, .unset, .unset, .unset, .unset, .unset, .unset, .unset, .unset] [.int (p1 &&& (255 : Int32))] := H6.iand at_9
  have H8 : Hr x b_at Z EL1 0 0 h0 [] 11 #[.val (.int p0), .val (.int p1), .val (.int p2), .val (.int p3), .val (.int (p0 &&& (3 : Int32))), .unset, .unset, .unset, .unset, .unset, .unset, .unset, .unset, .unset] [.int ((p1 &&& (255 : Int32)).toUInt32.toUInt16.toUInt32.toInt32)] := H7.i2c at_10
  obtain ⟨c0, ec0⟩ : ∃ c, c = (p1 &&& (255 : Int32)).toUInt32.toUInt16.toUInt32.toInt32 := ⟨_, rfl⟩
  have rc0 := chr_rng p1
  rw [← ec0] at rc0
  have H8 : Hr x b_at Z EL1 0 0 h0 [] 11 #[.val (.int p0), .val (.int p1), .val (.int p2), .val (.int p3), .val (.int (p0 &&& (3 : Int32))), .unset, .unset, .unset, .unset, .unset, .unset, .unset, .unset, .unset] [.int c0] := by rw [ec0]; exact H8
  obtain ⟨_, h1, _, ⟨s0, rfl, rfl, hs0, F0⟩, K1, H9⟩ := H8.callS (argsL := [.int c0]) (rest := []) (Wr := 0) (ct_vof hw x.l x.nar x.kn hnar h0 c0 rc0 cz O hcz) sub0 (w0 hw) (w1 hw) (w2 hw) (w3 hw) at_11 pd_vof rfl (hf := by first | decide | (simp [b_at, Bx.R]; done) | (simp [b_at, Bx.R]; omega)) (hl := by first | decide | (simp [b_at, Bx.R]; done) | (simp [b_at, Bx.R]; omega)) (hc := by first | decide | (simp [b_at, Bx.R]; done) | (simp [b_at, Bx.R]; omega)) (hs := by first | decide | (simp [b_at, Bx.R]; done) | (simp [b_at, Bx.R]; omega))
  have H9 : Hr x b_at Z EL1 2 5 h1 [s0] 14 #[.val (.int p0), .val (.int p1), .val (.int p2), .val (.int p3), .val (.int (p0 &&& (3 : Int32))), .unset, .unset, .unset, .unset, .unset, .unset, .unset, .unset, .unset] [.ref s0] := H9
  have H10 : Hr x b_at Z EL1 2 5 h1 [s0] 16 #[.val (.int p0), .val (.int p1), .val (.int p2), .val (.int p3), .val (.int (p0 &&& (3 : Int32))), .val (.ref s0), .unset, .unset, .unset, .unset, .unset, .unset, .unset, .unset] [] := H9.astore at_14
  have H11 : Hr x b_at Z EL1 2 5 h1 [s0] 17 #[.val (.int p0), .val (.int p1), .val (.int p2), .val (.int p3), .val (.int (p0 &&& (3 : Int32))), .val (.ref s0), .unset, .unset, .unset, .unset, .unset, .unset, .unset, .unset] [.int (2 : Int32)] := H10.iconst at_16
  obtain ⟨ha1, Ea1, A1, H12⟩ := H11.newarray (aty := .char) (cap := 2) (w26 hw) at_17 (by decide) (by decide) (by decide) (by first | decide | (simp [b_at, Bx.R]; done) | (simp [b_at, Bx.R]; omega)) (by first | decide | (simp [b_at, Bx.R]; done) | (simp [b_at, Bx.R]; omega))
  obtain ⟨a1, g_a1⟩ : ∃ z, z = h1.size := ⟨_, rfl⟩
  rw [← g_a1] at A1 H12
  have A1 : Ar Z ha1 a1 .char (List.replicate 2 (.int 0)) := A1
  have H12 : Hr x b_at Z EL1 3 7 ha1 [a1, s0] 19 #[.val (.int p0), .val (.int p1), .val (.int p2), .val (.int p3), .val (.int (p0 &&& (3 : Int32))), .val (.ref s0), .unset, .unset, .unset, .unset, .unset, .unset, .unset, .unset] [.ref a1] := H12
  have ls01 := exa_lt F0.exa
  have Gs01 := F0.ext Ea1
  have la1 := Ea1.1
  have H13 : Hr x b_at Z EL1 3 7 ha1 [a1, s0] 21 #[.val (.int p0), .val (.int p1), .val (.int p2), .val (.int p3), .val (.int (p0 &&& (3 : Int32))), .val (.ref s0), .val (.ref a1), .unset, .unset, .unset, .unset, .unset, .unset, .unset] [] := H12.astore at_19
  have H14 : Hr x b_at Z EL1 3 7 ha1 [a1, s0] 23 #[.val (.int p0), .val (.int p1), .val (.int p2), .val (.int p3), .val (.int (p0 &&& (3 : Int32))), .val (.ref s0), .val (.ref a1), .unset, .unset, .unset, .unset, .unset, .unset, .unset] [.ref a1] := H13.aload at_21
  have H15 : Hr x b_at Z EL1 3 7 ha1 [a1, s0] 24 #[.val (.int p0), .val (.int p1), .val (.int p2), .val (.int p3), .val (.int (p0 &&& (3 : Int32))), .val (.ref s0), .val (.ref a1), .unset, .unset, .unset, .unset, .unset, .unset, .unset] [.int (0 : Int32), .ref a1] := H14.iconst at_23
  have H16 : Hr x b_at Z EL1 3 7 ha1 [a1, s0] 25 #[.val (.int p0), .val (.int p1), .val (.int p2), .val (.int p3), .val (.int (p0 &&& (3 : Int32))), .val (.ref s0), .val (.ref a1), .unset, .unset, .unset, .unset, .unset, .unset, .unset] [.int p2, .int (0 : Int32), .ref a1] := H15.iloadN at_24
  have H17 : Hr x b_at Z EL1 3 7 ha1 [a1, s0] 28 #[.val (.int p0), .val (.int p1), .val (.int p2), .val (.int p3), .val (.int (p0 &&& (3 : Int32))), .val (.ref s0), .val (.ref a1), .unset, .unset, .unset, .unset, .unset, .unset, .unset] [.int (255 : Int32), .int p2, .int (0 : Int32), .ref a1] := H16.sipush at_25
  have H18 : Hr x b_at Z EL1 3 7 ha1 [a1, s0] 29 #[.val (.int p0), .val (.int p1), .val (.int p2), .val (.int p3), .val (.int (p0 &&& (3 : Int32))), .val (.ref s0), .val (.ref a1), .unset, .unset, .unset, .unset, .unset, .unset, .unset] [.int (p2 &&& (255 : Int32)), .int (0 : Int32), .ref a1] := H17.iand at_28
  have H19 : Hr x b_at Z EL1 3 7 ha1 [a1, s0] 30 #[.val (.int p0), .val (.int p1), .val (.int p2), .val (.int p3), .val (.int (p0 &&& (3 : Int32))), .val (.ref s0), .val (.ref a1), .unset, .unset, .unset, .unset, .unset, .unset, .unset] [.int ((p2 &&& (255 : Int32)).toUInt32.toUInt16.toUInt32.toInt32), .int (0 : Int32), .ref a1] := H18.i2c at_29
  obtain ⟨c10, ec10⟩ : ∃ c, c = (p2 &&& (255 : Int32)).toUInt32.toUInt16.toUInt32.toInt32 := ⟨_, rfl⟩
  have rc10 := chr_rng p2
  rw [← ec10] at rc10
  have H19 : Hr x b_at Z EL1 3 7 ha1 [a1, s0] 30 #[.val (.int p0), .val (.int p1), .val (.int p2), .val (.int p3), .val (.int (p0 &&& (3 : Int32))), .val (.ref s0), .val (.ref a1), .unset, .unset, .unset, .unset, .unset, .unset, .unset] [.int c10, .int (0 : Int32), .ref a1] := by rw [ec10]; exact H19
  obtain ⟨hb10, Wb10, H20⟩ := H19.castore (by simp) A1 at_30 (i := 0) rfl (by simp) (hw := (nar_c rc10.1 rc10.2))
  have H20 : Hr x b_at Z EL1 3 7 hb10 [a1, s0] 31 #[.val (.int p0), .val (.int p1), .val (.int p2), .val (.int p3), .val (.int (p0 &&& (3 : Int32))), .val (.ref s0), .val (.ref a1), .unset, .unset, .unset, .unset, .unset, .unset, .unset] [] := H20
  have Gs010 := Gs01.keep (Keep.of_wr Wb10) (allS (apt_arr Gs01.exa A1 (by decide) (w10 hw)) all0)
  have lw10 : hb10.size = ha1.size := Wb10.size
  have A1 : Ar Z hb10 a1 .char [.int c10, .int 0] := A1.set Wb10
  have H21 : Hr x b_at Z EL1 3 7 hb10 [a1, s0] 33 #[.val (.int p0), .val (.int p1), .val (.int p2), .val (.int p3), .val (.int (p0 &&& (3 : Int32))), .val (.ref s0), .val (.ref a1), .unset, .unset, .unset, .unset, .unset, .unset, .unset] [.ref a1] := H20.aload at_31
  have H22 : Hr x b_at Z EL1 3 7 hb10 [a1, s0] 34 #[.val (.int p0), .val (.int p1), .val (.int p2), .val (.int p3), .val (.int (p0 &&& (3 : Int32))), .val (.ref s0), .val (.ref a1), .unset, .unset, .unset, .unset, .unset, .unset, .unset] [.int (1 : Int32), .ref a1] := H21.iconst at_33
  have H23 : Hr x b_at Z EL1 3 7 hb10 [a1, s0] 35 #[.val (.int p0), .val (.int p1), .val (.int p2), .val (.int p3), .val (.int (p0 &&& (3 : Int32))), .val (.ref s0), .val (.ref a1), .unset, .unset, .unset, .unset, .unset, .unset, .unset] [.int p2, .int (1 : Int32), .ref a1] := H22.iloadN at_34
  have H24 : Hr x b_at Z EL1 3 7 hb10 [a1, s0] 37 #[.val (.int p0), .val (.int p1), .val (.int p2), .val (.int p3), .val (.int (p0 &&& (3 : Int32))), .val (.ref s0), .val (.ref a1), .unset, .unset, .unset, .unset, .unset, .unset, .unset] [.int (8 : Int32), .int p2, .int (1 : Int32), .ref a1] := H23.bipush at_35
  have H25 : Hr x b_at Z EL1 3 7 hb10 [a1, s0] 38 #[.val (.int p0), .val (.int p1), .val (.int p2), .val (.int p3), .val (.int (p0 &&& (3 : Int32))), .val (.ref s0), .val (.ref a1), .unset, .unset, .unset, .unset, .unset, .unset, .unset] [.int (XT.ushr p2 (8 : Int32)), .int (1 : Int32), .ref a1] := H24.iushr at_37
  have H26 : Hr x b_at Z EL1 3 7 hb10 [a1, s0] 41 #[.val (.int p0), .val (.int p1), .val (.int p2), .val (.int p3), .val (.int (p0 &&& (3 : Int32))), .val (.ref s0), .val (.ref a1), .unset, .unset, .unset, .unset, .unset, .unset, .unset] [.int (255 : Int32), .int (XT.ushr p2 (8 : Int32)), .int (1 : Int32), .ref a1] := H25.sipush at_38
  have H27 : Hr x b_at Z EL1 3 7 hb10 [a1, s0] 42 #[.val (.int p0), .val (.int p1), .val (.int p2), .val (.int p3), .val (.int (p0 &&& (3 : Int32))), .val (.ref s0), .val (.ref a1), .unset, .unset, .unset, .unset, .unset, .unset, .unset] [.int ((XT.ushr p2 (8 : Int32)) &&& (255 : Int32)), .int (1 : Int32), .ref a1] := H26.iand at_41
  have H28 : Hr x b_at Z EL1 3 7 hb10 [a1, s0] 43 #[.val (.int p0), .val (.int p1), .val (.int p2), .val (.int p3), .val (.int (p0 &&& (3 : Int32))), .val (.ref s0), .val (.ref a1), .unset, .unset, .unset, .unset, .unset, .unset, .unset] [.int (((XT.ushr p2 (8 : Int32)) &&& (255 : Int32)).toUInt32.toUInt16.toUInt32.toInt32), .int (1 : Int32), .ref a1] := H27.i2c at_42
  obtain ⟨c11, ec11⟩ : ∃ c, c = ((XT.ushr p2 (8 : Int32)) &&& (255 : Int32)).toUInt32.toUInt16.toUInt32.toInt32 := ⟨_, rfl⟩
  have rc11 := chr_rng (XT.ushr p2 8)
  rw [← ec11] at rc11
  have H28 : Hr x b_at Z EL1 3 7 hb10 [a1, s0] 43 #[.val (.int p0), .val (.int p1), .val (.int p2), .val (.int p3), .val (.int (p0 &&& (3 : Int32))), .val (.ref s0), .val (.ref a1), .unset, .unset, .unset, .unset, .unset, .unset, .unset] [.int c11, .int (1 : Int32), .ref a1] := by rw [ec11]; exact H28
  obtain ⟨hb11, Wb11, H29⟩ := H28.castore (by simp) A1 at_43 (i := 1) rfl (by simp) (hw := (nar_c rc11.1 rc11.2))
  have H29 : Hr x b_at Z EL1 3 7 hb11 [a1, s0] 44 #[.val (.int p0), .val (.int p1), .val (.int p2), .val (.int p3), .val (.int (p0 &&& (3 : Int32))), .val (.ref s0), .val (.ref a1), .unset, .unset, .unset, .unset, .unset, .unset, .unset] [] := H29
  have Gs011 := Gs010.keep (Keep.of_wr Wb11) (allS (apt_arr Gs010.exa A1 (by decide) (w10 hw)) all0)
  have lw11 : hb11.size = hb10.size := Wb11.size
  have A1 : Ar Z hb11 a1 .char [.int c10, .int c11] := A1.set Wb11
  obtain ⟨hc1, Ec1, ⟨Xc1, Dc1, Uc1⟩, H30⟩ := H29.new (w27 hw) (w10 hw) (w2 hw) at_44 (by first | decide | (simp [b_at, Bx.R]; done) | (simp [b_at, Bx.R]; omega)) (by first | decide | (simp [b_at, Bx.R]; done) | (simp [b_at, Bx.R]; omega))
  obtain ⟨s1, g_s1⟩ : ∃ z, z = hb11.size := ⟨_, rfl⟩
  rw [← g_s1] at Xc1 Dc1 Uc1 H30
  have H30 : Hr x b_at Z EL1 4 11 hc1 [s1, a1, s0] 47 #[.val (.int p0), .val (.int p1), .val (.int p2), .val (.int p3), .val (.int (p0 &&& (3 : Int32))), .val (.ref s0), .val (.ref a1), .unset, .unset, .unset, .unset, .unset, .unset, .unset] [.ref s1] := H30
  have H31 : Hr x b_at Z EL1 4 11 hc1 [s1, a1, s0] 48 #[.val (.int p0), .val (.int p1), .val (.int p2), .val (.int p3), .val (.int (p0 &&& (3 : Int32))), .val (.ref s0), .val (.ref a1), .unset, .unset, .unset, .unset, .unset, .unset, .unset] [.ref s1, .ref s1] := H30.dup at_47
  have H32 : Hr x b_at Z EL1 4 11 hc1 [s1, a1, s0] 50 #[.val (.int p0), .val (.int p1), .val (.int p2), .val (.int p3), .val (.int (p0 &&& (3 : Int32))), .val (.ref s0), .val (.ref a1), .unset, .unset, .unset, .unset, .unset, .unset, .unset] [.ref a1, .ref s1, .ref s1] := H31.aload at_48
  have Fcs1 : Fld Z hc1 s1 "java/lang/String" "coder" "B" (.int 0) := Dc1 (Or.inr (w25 hw)) (ty := .byte) (by decide)
  have Fvs1 : Fld Z hc1 s1 "java/lang/String" "value" "[B" (.null) := Dc1 (Or.inr (w23 hw)) (ty := .array .byte) (by decide)
  have Fhs1 : Fld Z hc1 s1 "java/lang/String" "hash" "I" (.int 0) := Dc1 (Or.inl (w170 hw)) (ty := .int) (by decide)
  have Fzs1 : Fld Z hc1 s1 "java/lang/String" "hashIsZero" "Z" (.int 0) := Dc1 (Or.inl (w172 hw)) (ty := .boolean) (by decide)
  obtain ⟨_, hd1, _, ⟨rfl, rfl, F1⟩, Kd1, H33⟩ := H32.callI (argsL := [.ref a1]) (rest := [.ref s1]) (Wr := 1) (a := s1) (ct_sini1 hw x.l x.nar x.kn hnar hc1 s1 a1 [c10, c11] Xc1 Fcs1 Fvs1 Fhs1 Fzs1 (A1.ext Ec1) (by simp) (by simp) (fun c hc => by simp only [List.mem_cons, List.not_mem_nil, or_false] at hc; rcases hc with rfl | rfl; exact rc10; exact rc11) cz O hcz) (sub1 (by simp)) (w28 hw) (w29 hw) (w2 hw) (w30 hw) at_50 pd_sini1 rfl (hf := by first | decide | (simp [b_at, Bx.R]; done) | (simp [b_at, Bx.R]; omega)) (hl := by first | decide | (simp [b_at, Bx.R]; done) | (simp [b_at, Bx.R]; omega)) (hc := by first | decide | (simp [b_at, Bx.R]; done) | (simp [b_at, Bx.R]; omega)) (hs := by first | decide | (simp [b_at, Bx.R]; done) | (simp [b_at, Bx.R]; omega))
  have H33 : Hr x b_at Z EL1 5 14 hd1 [s1, a1, s0] 53 #[.val (.int p0), .val (.int p1), .val (.int p2), .val (.int p3), .val (.int (p0 &&& (3 : Int32))), .val (.ref s0), .val (.ref a1), .unset, .unset, .unset, .unset, .unset, .unset, .unset] [.ref s1] := H33
  have nes0s1 : @Ne Nat s0 s1 := by omega
  have Gs01x := (Gs011.ext Ec1).keep Kd1 (allS (apt_str nes0s1 Xc1) all0)
  have H34 : Hr x b_at Z EL1 5 14 hd1 [s1, a1, s0] 55 #[.val (.int p0), .val (.int p1), .val (.int p2), .val (.int p3), .val (.int (p0 &&& (3 : Int32))), .val (.ref s0), .val (.ref a1), .val (.ref s1), .unset, .unset, .unset, .unset, .unset, .unset] [] := H33.astore at_53
  have H35 : Hr x b_at Z EL1 5 14 hd1 [s1, a1, s0] 56 #[.val (.int p0), .val (.int p1), .val (.int p2), .val (.int p3), .val (.int (p0 &&& (3 : Int32))), .val (.ref s0), .val (.ref a1), .val (.ref s1), .unset, .unset, .unset, .unset, .unset, .unset] [.int (3 : Int32)] := H34.iconst at_55
  obtain ⟨ha2, Ea2, A2, H36⟩ := H35.newarray (aty := .char) (cap := 3) (w26 hw) at_56 (by decide) (by decide) (by decide) (by first | decide | (simp [b_at, Bx.R]; done) | (simp [b_at, Bx.R]; omega)) (by first | decide | (simp [b_at, Bx.R]; done) | (simp [b_at, Bx.R]; omega))
  obtain ⟨a2, g_a2⟩ : ∃ z, z = hd1.size := ⟨_, rfl⟩
  rw [← g_a2] at A2 H36
  have A2 : Ar Z ha2 a2 .char (List.replicate 3 (.int 0)) := A2
  have H36 : Hr x b_at Z EL1 6 17 ha2 [a2, s1, a1, s0] 58 #[.val (.int p0), .val (.int p1), .val (.int p2), .val (.int p3), .val (.int (p0 &&& (3 : Int32))), .val (.ref s0), .val (.ref a1), .val (.ref s1), .unset, .unset, .unset, .unset, .unset, .unset] [.ref a2] := H36
  have ls02 := exa_lt Gs01x.exa
  have Gs02 := Gs01x.ext Ea2
  have ls12 := exa_lt F1.exa
  have Gs12 := F1.ext Ea2
  have la2 := Ea2.1
  have H37 : Hr x b_at Z EL1 6 17 ha2 [a2, s1, a1, s0] 60 #[.val (.int p0), .val (.int p1), .val (.int p2), .val (.int p3), .val (.int (p0 &&& (3 : Int32))), .val (.ref s0), .val (.ref a1), .val (.ref s1), .val (.ref a2), .unset, .unset, .unset, .unset, .unset] [] := H36.astore at_58
  have H38 : Hr x b_at Z EL1 6 17 ha2 [a2, s1, a1, s0] 62 #[.val (.int p0), .val (.int p1), .val (.int p2), .val (.int p3), .val (.int (p0 &&& (3 : Int32))), .val (.ref s0), .val (.ref a1), .val (.ref s1), .val (.ref a2), .unset, .unset, .unset, .unset, .unset] [.ref a2] := H37.aload at_60
  have H39 : Hr x b_at Z EL1 6 17 ha2 [a2, s1, a1, s0] 63 #[.val (.int p0), .val (.int p1), .val (.int p2), .val (.int p3), .val (.int (p0 &&& (3 : Int32))), .val (.ref s0), .val (.ref a1), .val (.ref s1), .val (.ref a2), .unset, .unset, .unset, .unset, .unset] [.int (0 : Int32), .ref a2] := H38.iconst at_62
  have H40 : Hr x b_at Z EL1 6 17 ha2 [a2, s1, a1, s0] 64 #[.val (.int p0), .val (.int p1), .val (.int p2), .val (.int p3), .val (.int (p0 &&& (3 : Int32))), .val (.ref s0), .val (.ref a1), .val (.ref s1), .val (.ref a2), .unset, .unset, .unset, .unset, .unset] [.int p3, .int (0 : Int32), .ref a2] := H39.iloadN at_63
  have H41 : Hr x b_at Z EL1 6 17 ha2 [a2, s1, a1, s0] 67 #[.val (.int p0), .val (.int p1), .val (.int p2), .val (.int p3), .val (.int (p0 &&& (3 : Int32))), .val (.ref s0), .val (.ref a1), .val (.ref s1), .val (.ref a2), .unset, .unset, .unset, .unset, .unset] [.int (255 : Int32), .int p3, .int (0 : Int32), .ref a2] := H40.sipush at_64
  have H42 : Hr x b_at Z EL1 6 17 ha2 [a2, s1, a1, s0] 68 #[.val (.int p0), .val (.int p1), .val (.int p2), .val (.int p3), .val (.int (p0 &&& (3 : Int32))), .val (.ref s0), .val (.ref a1), .val (.ref s1), .val (.ref a2), .unset, .unset, .unset, .unset, .unset] [.int (p3 &&& (255 : Int32)), .int (0 : Int32), .ref a2] := H41.iand at_67
  have H43 : Hr x b_at Z EL1 6 17 ha2 [a2, s1, a1, s0] 69 #[.val (.int p0), .val (.int p1), .val (.int p2), .val (.int p3), .val (.int (p0 &&& (3 : Int32))), .val (.ref s0), .val (.ref a1), .val (.ref s1), .val (.ref a2), .unset, .unset, .unset, .unset, .unset] [.int ((p3 &&& (255 : Int32)).toUInt32.toUInt16.toUInt32.toInt32), .int (0 : Int32), .ref a2] := H42.i2c at_68
  obtain ⟨c20, ec20⟩ : ∃ c, c = (p3 &&& (255 : Int32)).toUInt32.toUInt16.toUInt32.toInt32 := ⟨_, rfl⟩
  have rc20 := chr_rng p3
  rw [← ec20] at rc20
  have H43 : Hr x b_at Z EL1 6 17 ha2 [a2, s1, a1, s0] 69 #[.val (.int p0), .val (.int p1), .val (.int p2), .val (.int p3), .val (.int (p0 &&& (3 : Int32))), .val (.ref s0), .val (.ref a1), .val (.ref s1), .val (.ref a2), .unset, .unset, .unset, .unset, .unset] [.int c20, .int (0 : Int32), .ref a2] := by rw [ec20]; exact H43
  obtain ⟨hb20, Wb20, H44⟩ := H43.castore (by simp) A2 at_69 (i := 0) rfl (by simp) (hw := (nar_c rc20.1 rc20.2))
  have H44 : Hr x b_at Z EL1 6 17 hb20 [a2, s1, a1, s0] 70 #[.val (.int p0), .val (.int p1), .val (.int p2), .val (.int p3), .val (.int (p0 &&& (3 : Int32))), .val (.ref s0), .val (.ref a1), .val (.ref s1), .val (.ref a2), .unset, .unset, .unset, .unset, .unset] [] := H44
  have Gs020 := Gs02.keep (Keep.of_wr Wb20) (allS (apt_arr Gs02.exa A2 (by decide) (w10 hw)) all0)
  have Gs120 := Gs12.keep (Keep.of_wr Wb20) (allS (apt_arr Gs12.exa A2 (by decide) (w10 hw)) all0)
  have lw20 : hb20.size = ha2.size := Wb20.size
  have A2 : Ar Z hb20 a2 .char [.int c20, .int 0, .int 0] := A2.set Wb20
  have H45 : Hr x b_at Z EL1 6 17 hb20 [a2, s1, a1, s0] 72 #[.val (.int p0), .val (.int p1), .val (.int p2), .val (.int p3), .val (.int (p0 &&& (3 : Int32))), .val (.ref s0), .val (.ref a1), .val (.ref s1), .val (.ref a2), .unset, .unset, .unset, .unset, .unset] [.ref a2] := H44.aload at_70
  have H46 : Hr x b_at Z EL1 6 17 hb20 [a2, s1, a1, s0] 73 #[.val (.int p0), .val (.int p1), .val (.int p2), .val (.int p3), .val (.int (p0 &&& (3 : Int32))), .val (.ref s0), .val (.ref a1), .val (.ref s1), .val (.ref a2), .unset, .unset, .unset, .unset, .unset] [.int (1 : Int32), .ref a2] := H45.iconst at_72
  have H47 : Hr x b_at Z EL1 6 17 hb20 [a2, s1, a1, s0] 74 #[.val (.int p0), .val (.int p1), .val (.int p2), .val (.int p3), .val (.int (p0 &&& (3 : Int32))), .val (.ref s0), .val (.ref a1), .val (.ref s1), .val (.ref a2), .unset, .unset, .unset, .unset, .unset] [.int p3, .int (1 : Int32), .ref a2] := H46.iloadN at_73
  have H48 : Hr x b_at Z EL1 6 17 hb20 [a2, s1, a1, s0] 76 #[.val (.int p0), .val (.int p1), .val (.int p2), .val (.int p3), .val (.int (p0 &&& (3 : Int32))), .val (.ref s0), .val (.ref a1), .val (.ref s1), .val (.ref a2), .unset, .unset, .unset, .unset, .unset] [.int (8 : Int32), .int p3, .int (1 : Int32), .ref a2] := H47.bipush at_74
  have H49 : Hr x b_at Z EL1 6 17 hb20 [a2, s1, a1, s0] 77 #[.val (.int p0), .val (.int p1), .val (.int p2), .val (.int p3), .val (.int (p0 &&& (3 : Int32))), .val (.ref s0), .val (.ref a1), .val (.ref s1), .val (.ref a2), .unset, .unset, .unset, .unset, .unset] [.int (XT.ushr p3 (8 : Int32)), .int (1 : Int32), .ref a2] := H48.iushr at_76
  have H50 : Hr x b_at Z EL1 6 17 hb20 [a2, s1, a1, s0] 80 #[.val (.int p0), .val (.int p1), .val (.int p2), .val (.int p3), .val (.int (p0 &&& (3 : Int32))), .val (.ref s0), .val (.ref a1), .val (.ref s1), .val (.ref a2), .unset, .unset, .unset, .unset, .unset] [.int (255 : Int32), .int (XT.ushr p3 (8 : Int32)), .int (1 : Int32), .ref a2] := H49.sipush at_77
  have H51 : Hr x b_at Z EL1 6 17 hb20 [a2, s1, a1, s0] 81 #[.val (.int p0), .val (.int p1), .val (.int p2), .val (.int p3), .val (.int (p0 &&& (3 : Int32))), .val (.ref s0), .val (.ref a1), .val (.ref s1), .val (.ref a2), .unset, .unset, .unset, .unset, .unset] [.int ((XT.ushr p3 (8 : Int32)) &&& (255 : Int32)), .int (1 : Int32), .ref a2] := H50.iand at_80
  have H52 : Hr x b_at Z EL1 6 17 hb20 [a2, s1, a1, s0] 82 #[.val (.int p0), .val (.int p1), .val (.int p2), .val (.int p3), .val (.int (p0 &&& (3 : Int32))), .val (.ref s0), .val (.ref a1), .val (.ref s1), .val (.ref a2), .unset, .unset, .unset, .unset, .unset] [.int (((XT.ushr p3 (8 : Int32)) &&& (255 : Int32)).toUInt32.toUInt16.toUInt32.toInt32), .int (1 : Int32), .ref a2] := H51.i2c at_81
  obtain ⟨c21, ec21⟩ : ∃ c, c = ((XT.ushr p3 (8 : Int32)) &&& (255 : Int32)).toUInt32.toUInt16.toUInt32.toInt32 := ⟨_, rfl⟩
  have rc21 := chr_rng (XT.ushr p3 8)
  rw [← ec21] at rc21
  have H52 : Hr x b_at Z EL1 6 17 hb20 [a2, s1, a1, s0] 82 #[.val (.int p0), .val (.int p1), .val (.int p2), .val (.int p3), .val (.int (p0 &&& (3 : Int32))), .val (.ref s0), .val (.ref a1), .val (.ref s1), .val (.ref a2), .unset, .unset, .unset, .unset, .unset] [.int c21, .int (1 : Int32), .ref a2] := by rw [ec21]; exact H52
  obtain ⟨hb21, Wb21, H53⟩ := H52.castore (by simp) A2 at_82 (i := 1) rfl (by simp) (hw := (nar_c rc21.1 rc21.2))
  have H53 : Hr x b_at Z EL1 6 17 hb21 [a2, s1, a1, s0] 83 #[.val (.int p0), .val (.int p1), .val (.int p2), .val (.int p3), .val (.int (p0 &&& (3 : Int32))), .val (.ref s0), .val (.ref a1), .val (.ref s1), .val (.ref a2), .unset, .unset, .unset, .unset, .unset] [] := H53
  have Gs021 := Gs020.keep (Keep.of_wr Wb21) (allS (apt_arr Gs020.exa A2 (by decide) (w10 hw)) all0)
  have Gs121 := Gs120.keep (Keep.of_wr Wb21) (allS (apt_arr Gs120.exa A2 (by decide) (w10 hw)) all0)
  have lw21 : hb21.size = hb20.size := Wb21.size
  have A2 : Ar Z hb21 a2 .char [.int c20, .int c21, .int 0] := A2.set Wb21
  have H54 : Hr x b_at Z EL1 6 17 hb21 [a2, s1, a1, s0] 85 #[.val (.int p0), .val (.int p1), .val (.int p2), .val (.int p3), .val (.int (p0 &&& (3 : Int32))), .val (.ref s0), .val (.ref a1), .val (.ref s1), .val (.ref a2), .unset, .unset, .unset, .unset, .unset] [.ref a2] := H53.aload at_83
  have H55 : Hr x b_at Z EL1 6 17 hb21 [a2, s1, a1, s0] 86 #[.val (.int p0), .val (.int p1), .val (.int p2), .val (.int p3), .val (.int (p0 &&& (3 : Int32))), .val (.ref s0), .val (.ref a1), .val (.ref s1), .val (.ref a2), .unset, .unset, .unset, .unset, .unset] [.int (2 : Int32), .ref a2] := H54.iconst at_85
  have H56 : Hr x b_at Z EL1 6 17 hb21 [a2, s1, a1, s0] 87 #[.val (.int p0), .val (.int p1), .val (.int p2), .val (.int p3), .val (.int (p0 &&& (3 : Int32))), .val (.ref s0), .val (.ref a1), .val (.ref s1), .val (.ref a2), .unset, .unset, .unset, .unset, .unset] [.int p3, .int (2 : Int32), .ref a2] := H55.iloadN at_86
  have H57 : Hr x b_at Z EL1 6 17 hb21 [a2, s1, a1, s0] 89 #[.val (.int p0), .val (.int p1), .val (.int p2), .val (.int p3), .val (.int (p0 &&& (3 : Int32))), .val (.ref s0), .val (.ref a1), .val (.ref s1), .val (.ref a2), .unset, .unset, .unset, .unset, .unset] [.int (16 : Int32), .int p3, .int (2 : Int32), .ref a2] := H56.bipush at_87
  have H58 : Hr x b_at Z EL1 6 17 hb21 [a2, s1, a1, s0] 90 #[.val (.int p0), .val (.int p1), .val (.int p2), .val (.int p3), .val (.int (p0 &&& (3 : Int32))), .val (.ref s0), .val (.ref a1), .val (.ref s1), .val (.ref a2), .unset, .unset, .unset, .unset, .unset] [.int (XT.ushr p3 (16 : Int32)), .int (2 : Int32), .ref a2] := H57.iushr at_89
  have H59 : Hr x b_at Z EL1 6 17 hb21 [a2, s1, a1, s0] 93 #[.val (.int p0), .val (.int p1), .val (.int p2), .val (.int p3), .val (.int (p0 &&& (3 : Int32))), .val (.ref s0), .val (.ref a1), .val (.ref s1), .val (.ref a2), .unset, .unset, .unset, .unset, .unset] [.int (255 : Int32), .int (XT.ushr p3 (16 : Int32)), .int (2 : Int32), .ref a2] := H58.sipush at_90
  have H60 : Hr x b_at Z EL1 6 17 hb21 [a2, s1, a1, s0] 94 #[.val (.int p0), .val (.int p1), .val (.int p2), .val (.int p3), .val (.int (p0 &&& (3 : Int32))), .val (.ref s0), .val (.ref a1), .val (.ref s1), .val (.ref a2), .unset, .unset, .unset, .unset, .unset] [.int ((XT.ushr p3 (16 : Int32)) &&& (255 : Int32)), .int (2 : Int32), .ref a2] := H59.iand at_93
  have H61 : Hr x b_at Z EL1 6 17 hb21 [a2, s1, a1, s0] 95 #[.val (.int p0), .val (.int p1), .val (.int p2), .val (.int p3), .val (.int (p0 &&& (3 : Int32))), .val (.ref s0), .val (.ref a1), .val (.ref s1), .val (.ref a2), .unset, .unset, .unset, .unset, .unset] [.int (((XT.ushr p3 (16 : Int32)) &&& (255 : Int32)).toUInt32.toUInt16.toUInt32.toInt32), .int (2 : Int32), .ref a2] := H60.i2c at_94
  obtain ⟨c22, ec22⟩ : ∃ c, c = ((XT.ushr p3 (16 : Int32)) &&& (255 : Int32)).toUInt32.toUInt16.toUInt32.toInt32 := ⟨_, rfl⟩
  have rc22 := chr_rng (XT.ushr p3 16)
  rw [← ec22] at rc22
  have H61 : Hr x b_at Z EL1 6 17 hb21 [a2, s1, a1, s0] 95 #[.val (.int p0), .val (.int p1), .val (.int p2), .val (.int p3), .val (.int (p0 &&& (3 : Int32))), .val (.ref s0), .val (.ref a1), .val (.ref s1), .val (.ref a2), .unset, .unset, .unset, .unset, .unset] [.int c22, .int (2 : Int32), .ref a2] := by rw [ec22]; exact H61
  obtain ⟨hb22, Wb22, H62⟩ := H61.castore (by simp) A2 at_95 (i := 2) rfl (by simp) (hw := (nar_c rc22.1 rc22.2))
  have H62 : Hr x b_at Z EL1 6 17 hb22 [a2, s1, a1, s0] 96 #[.val (.int p0), .val (.int p1), .val (.int p2), .val (.int p3), .val (.int (p0 &&& (3 : Int32))), .val (.ref s0), .val (.ref a1), .val (.ref s1), .val (.ref a2), .unset, .unset, .unset, .unset, .unset] [] := H62
  have Gs022 := Gs021.keep (Keep.of_wr Wb22) (allS (apt_arr Gs021.exa A2 (by decide) (w10 hw)) all0)
  have Gs122 := Gs121.keep (Keep.of_wr Wb22) (allS (apt_arr Gs121.exa A2 (by decide) (w10 hw)) all0)
  have lw22 : hb22.size = hb21.size := Wb22.size
  have A2 : Ar Z hb22 a2 .char [.int c20, .int c21, .int c22] := A2.set Wb22
  obtain ⟨hc2, Ec2, ⟨Xc2, Dc2, Uc2⟩, H63⟩ := H62.new (w27 hw) (w10 hw) (w2 hw) at_96 (by first | decide | (simp [b_at, Bx.R]; done) | (simp [b_at, Bx.R]; omega)) (by first | decide | (simp [b_at, Bx.R]; done) | (simp [b_at, Bx.R]; omega))
  obtain ⟨s2, g_s2⟩ : ∃ z, z = hb22.size := ⟨_, rfl⟩
  rw [← g_s2] at Xc2 Dc2 Uc2 H63
  have H63 : Hr x b_at Z EL1 7 21 hc2 [s2, a2, s1, a1, s0] 99 #[.val (.int p0), .val (.int p1), .val (.int p2), .val (.int p3), .val (.int (p0 &&& (3 : Int32))), .val (.ref s0), .val (.ref a1), .val (.ref s1), .val (.ref a2), .unset, .unset, .unset, .unset, .unset] [.ref s2] := H63
  have H64 : Hr x b_at Z EL1 7 21 hc2 [s2, a2, s1, a1, s0] 100 #[.val (.int p0), .val (.int p1), .val (.int p2), .val (.int p3), .val (.int (p0 &&& (3 : Int32))), .val (.ref s0), .val (.ref a1), .val (.ref s1), .val (.ref a2), .unset, .unset, .unset, .unset, .unset] [.ref s2, .ref s2] := H63.dup at_99
  have H65 : Hr x b_at Z EL1 7 21 hc2 [s2, a2, s1, a1, s0] 102 #[.val (.int p0), .val (.int p1), .val (.int p2), .val (.int p3), .val (.int (p0 &&& (3 : Int32))), .val (.ref s0), .val (.ref a1), .val (.ref s1), .val (.ref a2), .unset, .unset, .unset, .unset, .unset] [.ref a2, .ref s2, .ref s2] := H64.aload at_100
  have Fcs2 : Fld Z hc2 s2 "java/lang/String" "coder" "B" (.int 0) := Dc2 (Or.inr (w25 hw)) (ty := .byte) (by decide)
  have Fvs2 : Fld Z hc2 s2 "java/lang/String" "value" "[B" (.null) := Dc2 (Or.inr (w23 hw)) (ty := .array .byte) (by decide)
  have Fhs2 : Fld Z hc2 s2 "java/lang/String" "hash" "I" (.int 0) := Dc2 (Or.inl (w170 hw)) (ty := .int) (by decide)
  have Fzs2 : Fld Z hc2 s2 "java/lang/String" "hashIsZero" "Z" (.int 0) := Dc2 (Or.inl (w172 hw)) (ty := .boolean) (by decide)
  obtain ⟨_, hd2, _, ⟨rfl, rfl, F2⟩, Kd2, H66⟩ := H65.callI (argsL := [.ref a2]) (rest := [.ref s2]) (Wr := 1) (a := s2) (ct_sini1 hw x.l x.nar x.kn hnar hc2 s2 a2 [c20, c21, c22] Xc2 Fcs2 Fvs2 Fhs2 Fzs2 (A2.ext Ec2) (by simp) (by simp) (fun c hc => by simp only [List.mem_cons, List.not_mem_nil, or_false] at hc; rcases hc with rfl | rfl | rfl; exact rc20; exact rc21; exact rc22) cz O hcz) (sub1 (by simp)) (w28 hw) (w29 hw) (w2 hw) (w30 hw) at_102 pd_sini1 rfl (hf := by first | decide | (simp [b_at, Bx.R]; done) | (simp [b_at, Bx.R]; omega)) (hl := by first | decide | (simp [b_at, Bx.R]; done) | (simp [b_at, Bx.R]; omega)) (hc := by first | decide | (simp [b_at, Bx.R]; done) | (simp [b_at, Bx.R]; omega)) (hs := by first | decide | (simp [b_at, Bx.R]; done) | (simp [b_at, Bx.R]; omega))
  have H66 : Hr x b_at Z EL1 8 24 hd2 [s2, a2, s1, a1, s0] 105 #[.val (.int p0), .val (.int p1), .val (.int p2), .val (.int p3), .val (.int (p0 &&& (3 : Int32))), .val (.ref s0), .val (.ref a1), .val (.ref s1), .val (.ref a2), .unset, .unset, .unset, .unset, .unset] [.ref s2] := H66
  have nes0s2 : @Ne Nat s0 s2 := by omega
  have Gs02x := (Gs022.ext Ec2).keep Kd2 (allS (apt_str nes0s2 Xc2) all0)
  have nes1s2 : @Ne Nat s1 s2 := by omega
  have Gs12x := (Gs122.ext Ec2).keep Kd2 (allS (apt_str nes1s2 Xc2) all0)
  have H67 : Hr x b_at Z EL1 8 24 hd2 [s2, a2, s1, a1, s0] 107 #[.val (.int p0), .val (.int p1), .val (.int p2), .val (.int p3), .val (.int (p0 &&& (3 : Int32))), .val (.ref s0), .val (.ref a1), .val (.ref s1), .val (.ref a2), .val (.ref s2), .unset, .unset, .unset, .unset] [] := H66.astore at_105
  have H68 : Hr x b_at Z EL1 8 24 hd2 [s2, a2, s1, a1, s0] 108 #[.val (.int p0), .val (.int p1), .val (.int p2), .val (.int p3), .val (.int (p0 &&& (3 : Int32))), .val (.ref s0), .val (.ref a1), .val (.ref s1), .val (.ref a2), .val (.ref s2), .unset, .unset, .unset, .unset] [.int (1 : Int32)] := H67.iconst at_107
  obtain ⟨hac, Eac, Ac, H69⟩ := H68.newarray (aty := .char) (cap := 1) (w26 hw) at_108 (by decide) (by decide) (by decide) (by first | decide | (simp [b_at, Bx.R]; done) | (simp [b_at, Bx.R]; omega)) (by first | decide | (simp [b_at, Bx.R]; done) | (simp [b_at, Bx.R]; omega))
  obtain ⟨ac, g_ac⟩ : ∃ z, z = hd2.size := ⟨_, rfl⟩
  rw [← g_ac] at Ac H69
  have Ac : Ar Z hac ac .char (List.replicate 1 (.int 0)) := Ac
  have H69 : Hr x b_at Z EL1 9 25 hac [ac, s2, a2, s1, a1, s0] 110 #[.val (.int p0), .val (.int p1), .val (.int p2), .val (.int p3), .val (.int (p0 &&& (3 : Int32))), .val (.ref s0), .val (.ref a1), .val (.ref s1), .val (.ref a2), .val (.ref s2), .unset, .unset, .unset, .unset] [.ref ac] := H69
  have ls0c := exa_lt Gs02x.exa
  have Gs0c := Gs02x.ext Eac
  have ls1c := exa_lt Gs12x.exa
  have Gs1c := Gs12x.ext Eac
  have ls2c := exa_lt F2.exa
  have Gs2c := F2.ext Eac
  have lac := Eac.1
  have H70 : Hr x b_at Z EL1 9 25 hac [ac, s2, a2, s1, a1, s0] 112 #[.val (.int p0), .val (.int p1), .val (.int p2), .val (.int p3), .val (.int (p0 &&& (3 : Int32))), .val (.ref s0), .val (.ref a1), .val (.ref s1), .val (.ref a2), .val (.ref s2), .val (.ref ac), .unset, .unset, .unset] [] := H69.astore at_110
  have H71 : Hr x b_at Z EL1 9 25 hac [ac, s2, a2, s1, a1, s0] 114 #[.val (.int p0), .val (.int p1), .val (.int p2), .val (.int p3), .val (.int (p0 &&& (3 : Int32))), .val (.ref s0), .val (.ref a1), .val (.ref s1), .val (.ref a2), .val (.ref s2), .val (.ref ac), .unset, .unset, .unset] [.ref ac] := H70.aload at_112
  have H72 : Hr x b_at Z EL1 9 25 hac [ac, s2, a2, s1, a1, s0] 115 #[.val (.int p0), .val (.int p1), .val (.int p2), .val (.int p3), .val (.int (p0 &&& (3 : Int32))), .val (.ref s0), .val (.ref a1), .val (.ref s1), .val (.ref a2), .val (.ref s2), .val (.ref ac), .unset, .unset, .unset] [.int (0 : Int32), .ref ac] := H71.iconst at_114
  have H73 : Hr x b_at Z EL1 9 25 hac [ac, s2, a2, s1, a1, s0] 116 #[.val (.int p0), .val (.int p1), .val (.int p2), .val (.int p3), .val (.int (p0 &&& (3 : Int32))), .val (.ref s0), .val (.ref a1), .val (.ref s1), .val (.ref a2), .val (.ref s2), .val (.ref ac), .unset, .unset, .unset] [.int p1, .int (0 : Int32), .ref ac] := H72.iloadN at_115
  have H74 : Hr x b_at Z EL1 9 25 hac [ac, s2, a2, s1, a1, s0] 119 #[.val (.int p0), .val (.int p1), .val (.int p2), .val (.int p3), .val (.int (p0 &&& (3 : Int32))), .val (.ref s0), .val (.ref a1), .val (.ref s1), .val (.ref a2), .val (.ref s2), .val (.ref ac), .unset, .unset, .unset] [.int (255 : Int32), .int p1, .int (0 : Int32), .ref ac] := H73.sipush at_116
  have H75 : Hr x b_at Z EL1 9 25 hac [ac, s2, a2, s1, a1, s0] 120 #[.val (.int p0), .val (.int p1), .val (.int p2), .val (.int p3), .val (.int (p0 &&& (3 : Int32))), .val (.ref s0), .val (.ref a1), .val (.ref s1), .val (.ref a2), .val (.ref s2), .val (.ref ac), .unset, .unset, .unset] [.int (p1 &&& (255 : Int32)), .int (0 : Int32), .ref ac] := H74.iand at_119
  have H76 : Hr x b_at Z EL1 9 25 hac [ac, s2, a2, s1, a1, s0] 121 #[.val (.int p0), .val (.int p1), .val (.int p2), .val (.int p3), .val (.int (p0 &&& (3 : Int32))), .val (.ref s0), .val (.ref a1), .val (.ref s1), .val (.ref a2), .val (.ref s2), .val (.ref ac), .unset, .unset, .unset] [.int ((p1 &&& (255 : Int32)).toUInt32.toUInt16.toUInt32.toInt32), .int (0 : Int32), .ref ac] := H75.i2c at_120
  obtain ⟨cc0, ecc0⟩ : ∃ c, c = (p1 &&& (255 : Int32)).toUInt32.toUInt16.toUInt32.toInt32 := ⟨_, rfl⟩
  have rcc0 := chr_rng p1
  rw [← ecc0] at rcc0
  have H76 : Hr x b_at Z EL1 9 25 hac [ac, s2, a2, s1, a1, s0] 121 #[.val (.int p0), .val (.int p1), .val (.int p2), .val (.int p3), .val (.int (p0 &&& (3 : Int32))), .val (.ref s0), .val (.ref a1), .val (.ref s1), .val (.ref a2), .val (.ref s2), .val (.ref ac), .unset, .unset, .unset] [.int cc0, .int (0 : Int32), .ref ac] := by rw [ecc0]; exact H76
  obtain ⟨hbc0, Wbc0, H77⟩ := H76.castore (by simp) Ac at_121 (i := 0) rfl (by simp) (hw := (nar_c rcc0.1 rcc0.2))
  have H77 : Hr x b_at Z EL1 9 25 hbc0 [ac, s2, a2, s1, a1, s0] 122 #[.val (.int p0), .val (.int p1), .val (.int p2), .val (.int p3), .val (.int (p0 &&& (3 : Int32))), .val (.ref s0), .val (.ref a1), .val (.ref s1), .val (.ref a2), .val (.ref s2), .val (.ref ac), .unset, .unset, .unset] [] := H77
  have Gs0c0 := Gs0c.keep (Keep.of_wr Wbc0) (allS (apt_arr Gs0c.exa Ac (by decide) (w10 hw)) all0)
  have Gs1c0 := Gs1c.keep (Keep.of_wr Wbc0) (allS (apt_arr Gs1c.exa Ac (by decide) (w10 hw)) all0)
  have Gs2c0 := Gs2c.keep (Keep.of_wr Wbc0) (allS (apt_arr Gs2c.exa Ac (by decide) (w10 hw)) all0)
  have lwc0 : hbc0.size = hac.size := Wbc0.size
  have Ac : Ar Z hbc0 ac .char [.int cc0] := Ac.set Wbc0
  obtain ⟨hcc, Ecc, ⟨Xcc, Dcc, Ucc⟩, H78⟩ := H77.new (w27 hw) (w10 hw) (w2 hw) at_122 (by first | decide | (simp [b_at, Bx.R]; done) | (simp [b_at, Bx.R]; omega)) (by first | decide | (simp [b_at, Bx.R]; done) | (simp [b_at, Bx.R]; omega))
  obtain ⟨sc, g_sc⟩ : ∃ z, z = hbc0.size := ⟨_, rfl⟩
  rw [← g_sc] at Xcc Dcc Ucc H78
  have H78 : Hr x b_at Z EL1 10 29 hcc [sc, ac, s2, a2, s1, a1, s0] 125 #[.val (.int p0), .val (.int p1), .val (.int p2), .val (.int p3), .val (.int (p0 &&& (3 : Int32))), .val (.ref s0), .val (.ref a1), .val (.ref s1), .val (.ref a2), .val (.ref s2), .val (.ref ac), .unset, .unset, .unset] [.ref sc] := H78
  have H79 : Hr x b_at Z EL1 10 29 hcc [sc, ac, s2, a2, s1, a1, s0] 126 #[.val (.int p0), .val (.int p1), .val (.int p2), .val (.int p3), .val (.int (p0 &&& (3 : Int32))), .val (.ref s0), .val (.ref a1), .val (.ref s1), .val (.ref a2), .val (.ref s2), .val (.ref ac), .unset, .unset, .unset] [.ref sc, .ref sc] := H78.dup at_125
  have H80 : Hr x b_at Z EL1 10 29 hcc [sc, ac, s2, a2, s1, a1, s0] 128 #[.val (.int p0), .val (.int p1), .val (.int p2), .val (.int p3), .val (.int (p0 &&& (3 : Int32))), .val (.ref s0), .val (.ref a1), .val (.ref s1), .val (.ref a2), .val (.ref s2), .val (.ref ac), .unset, .unset, .unset] [.ref ac, .ref sc, .ref sc] := H79.aload at_126
  have Fcsc : Fld Z hcc sc "java/lang/String" "coder" "B" (.int 0) := Dcc (Or.inr (w25 hw)) (ty := .byte) (by decide)
  have Fvsc : Fld Z hcc sc "java/lang/String" "value" "[B" (.null) := Dcc (Or.inr (w23 hw)) (ty := .array .byte) (by decide)
  have Fhsc : Fld Z hcc sc "java/lang/String" "hash" "I" (.int 0) := Dcc (Or.inl (w170 hw)) (ty := .int) (by decide)
  have Fzsc : Fld Z hcc sc "java/lang/String" "hashIsZero" "Z" (.int 0) := Dcc (Or.inl (w172 hw)) (ty := .boolean) (by decide)
  obtain ⟨_, hdc, _, ⟨rfl, rfl, Fc⟩, Kdc, H81⟩ := H80.callI (argsL := [.ref ac]) (rest := [.ref sc]) (Wr := 1) (a := sc) (ct_sini1 hw x.l x.nar x.kn hnar hcc sc ac [cc0] Xcc Fcsc Fvsc Fhsc Fzsc (Ac.ext Ecc) (by simp) (by simp) (fun c hc => by simp only [List.mem_cons, List.not_mem_nil, or_false] at hc; rcases hc with rfl; exact rcc0) cz O hcz) (sub1 (by simp)) (w28 hw) (w29 hw) (w2 hw) (w30 hw) at_128 pd_sini1 rfl (hf := by first | decide | (simp [b_at, Bx.R]; done) | (simp [b_at, Bx.R]; omega)) (hl := by first | decide | (simp [b_at, Bx.R]; done) | (simp [b_at, Bx.R]; omega)) (hc := by first | decide | (simp [b_at, Bx.R]; done) | (simp [b_at, Bx.R]; omega)) (hs := by first | decide | (simp [b_at, Bx.R]; done) | (simp [b_at, Bx.R]; omega))
  have H81 : Hr x b_at Z EL1 11 32 hdc [sc, ac, s2, a2, s1, a1, s0] 131 #[.val (.int p0), .val (.int p1), .val (.int p2), .val (.int p3), .val (.int (p0 &&& (3 : Int32))), .val (.ref s0), .val (.ref a1), .val (.ref s1), .val (.ref a2), .val (.ref s2), .val (.ref ac), .unset, .unset, .unset] [.ref sc] := H81
  have nes0sc : @Ne Nat s0 sc := by omega
  have Gs0cx := (Gs0c0.ext Ecc).keep Kdc (allS (apt_str nes0sc Xcc) all0)
  have nes1sc : @Ne Nat s1 sc := by omega
  have Gs1cx := (Gs1c0.ext Ecc).keep Kdc (allS (apt_str nes1sc Xcc) all0)
  have nes2sc : @Ne Nat s2 sc := by omega
  have Gs2cx := (Gs2c0.ext Ecc).keep Kdc (allS (apt_str nes2sc Xcc) all0)
  have H82 : Hr x b_at Z EL1 11 32 hdc [sc, ac, s2, a2, s1, a1, s0] 133 #[.val (.int p0), .val (.int p1), .val (.int p2), .val (.int p3), .val (.int (p0 &&& (3 : Int32))), .val (.ref s0), .val (.ref a1), .val (.ref s1), .val (.ref a2), .val (.ref s2), .val (.ref ac), .val (.ref sc), .unset, .unset] [] := H81.astore at_131
  obtain ⟨hn, En, ⟨Xn, Dn, Un⟩, H83⟩ := H82.new (w44 hw) (w45 hw) (w46 hw) at_133 (by first | decide | (simp [b_at, Bx.R]; done) | (simp [b_at, Bx.R]; omega)) (by first | decide | (simp [b_at, Bx.R]; done) | (simp [b_at, Bx.R]; omega))
  obtain ⟨t, g_t⟩ : ∃ z, z = hdc.size := ⟨_, rfl⟩
  rw [← g_t] at Xn Dn Un H83
  have H83 : Hr x b_at Z EL1 12 38 hn [t, sc, ac, s2, a2, s1, a1, s0] 136 #[.val (.int p0), .val (.int p1), .val (.int p2), .val (.int p3), .val (.int (p0 &&& (3 : Int32))), .val (.ref s0), .val (.ref a1), .val (.ref s1), .val (.ref a2), .val (.ref s2), .val (.ref ac), .val (.ref sc), .unset, .unset] [.ref t] := H83
  have H84 : Hr x b_at Z EL1 12 38 hn [t, sc, ac, s2, a2, s1, a1, s0] 137 #[.val (.int p0), .val (.int p1), .val (.int p2), .val (.int p3), .val (.int (p0 &&& (3 : Int32))), .val (.ref s0), .val (.ref a1), .val (.ref s1), .val (.ref a2), .val (.ref s2), .val (.ref ac), .val (.ref sc), .unset, .unset] [.ref t, .ref t] := H83.dup at_136
  have N0 : Fld Z hn t "com/example/afterscore/afterscore/io/NameTable" "names" "Ljava/util/List;" (.null) := Dn (Or.inr (w76 hw)) (ty := .object "java/util/List") (by decide)
  have N1 : Fld Z hn t "com/example/afterscore/afterscore/io/NameTable" "apart" "Ljava/util/TreeMap;" (.null) := Dn (Or.inr (w97 hw)) (ty := .object "java/util/TreeMap") (by decide)
  have N2 : Fld Z hn t "com/example/afterscore/afterscore/io/NameTable" "slots" "[Ljava/lang/String;" (.null) := Dn (Or.inl (w101 hw)) (ty := .array (.object "java/lang/String")) (by decide)
  have N3 : Fld Z hn t "com/example/afterscore/afterscore/io/NameTable" "hashes" "[I" (.null) := Dn (Or.inl (w104 hw)) (ty := .array .int) (by decide)
  have N4 : Fld Z hn t "com/example/afterscore/afterscore/io/NameTable" "indexes" "[I" (.null) := Dn (Or.inl (w106 hw)) (ty := .array .int) (by decide)
  have N5 : Fld Z hn t "com/example/afterscore/afterscore/io/NameTable" "taken" "I" (.int 0) := Dn (Or.inl (w192 hw)) (ty := .int) (by decide)
  obtain ⟨_, hk, _, ⟨L, sl, hs, ix, rfl, rfl, -, -, -, -, hhx, T0, P0⟩, Kk, H85⟩ := H84.callI (argsL := []) (rest := [.ref t]) (Wr := 1) (a := t) (ct_ntin hw x.l x.nar x.kn hnar hn t Xn N0 N1 N2 N3 N4 N5 D SDf FD) (sub1 (by simp)) (w47 hw) (w48 hw) (w46 hw) (w49 hw) at_137 pd_ntin rfl (hf := by first | decide | (simp [b_at, Bx.R]; done) | (simp [b_at, Bx.R]; omega)) (hl := by first | decide | (simp [b_at, Bx.R]; done) | (simp [b_at, Bx.R]; omega)) (hc := by first | decide | (simp [b_at, Bx.R]; done) | (simp [b_at, Bx.R]; omega)) (hs := by first | decide | (simp [b_at, Bx.R]; done) | (simp [b_at, Bx.R]; omega))
  have H85 : Hr x b_at Z EL1 17 242 hk [L, sl, hs, ix, t, sc, ac, s2, a2, s1, a1, s0] 140 #[.val (.int p0), .val (.int p1), .val (.int p2), .val (.int p3), .val (.int (p0 &&& (3 : Int32))), .val (.ref s0), .val (.ref a1), .val (.ref s1), .val (.ref a2), .val (.ref s2), .val (.ref ac), .val (.ref sc), .unset, .unset] [.ref t] := H85
  have Bs0 := (Gs0cx.ext En).keep Kk (allS (apt_obj (Gs0cx.ext En).exa Xn (by decide) (by decide)) all0)
  have Bs1 := (Gs1cx.ext En).keep Kk (allS (apt_obj (Gs1cx.ext En).exa Xn (by decide) (by decide)) all0)
  have Bs2 := (Gs2cx.ext En).keep Kk (allS (apt_obj (Gs2cx.ext En).exa Xn (by decide) (by decide)) all0)
  have Bsc := (Fc.ext En).keep Kk (allS (apt_obj (Fc.ext En).exa Xn (by decide) (by decide)) all0)
  have H86 : Hr x b_at Z EL1 17 242 hk [L, sl, hs, ix, t, sc, ac, s2, a2, s1, a1, s0] 142 #[.val (.int p0), .val (.int p1), .val (.int p2), .val (.int p3), .val (.int (p0 &&& (3 : Int32))), .val (.ref s0), .val (.ref a1), .val (.ref s1), .val (.ref a2), .val (.ref s2), .val (.ref ac), .val (.ref sc), .val (.ref t), .unset] [] := H85.astore at_140
  rcases (and3 p0) with hm | hm | hm | hm
  · have z257 := True.intro
    have H86 : Hr x b_at Z EL1 17 242 hk [L, sl, hs, ix, t, sc, ac, s2, a2, s1, a1, s0] 142 #[.val (.int p0), .val (.int p1), .val (.int p2), .val (.int p3), .val (.int (0 : Int32)), .val (.ref s0), .val (.ref a1), .val (.ref s1), .val (.ref a2), .val (.ref s2), .val (.ref ac), .val (.ref sc), .val (.ref t), .unset] [] := by rw [← hm]; exact H86
    have H258 : Hr x b_at Z EL1 17 242 hk [L, sl, hs, ix, t, sc, ac, s2, a2, s1, a1, s0] 144 #[.val (.int p0), .val (.int p1), .val (.int p2), .val (.int p3), .val (.int (0 : Int32)), .val (.ref s0), .val (.ref a1), .val (.ref s1), .val (.ref a2), .val (.ref s2), .val (.ref ac), .val (.ref sc), .val (.ref t), .unset] [.int (0 : Int32)] := H86.iload at_142
    have H259 : Hr x b_at Z EL1 17 242 hk [L, sl, hs, ix, t, sc, ac, s2, a2, s1, a1, s0] 145 #[.val (.int p0), .val (.int p1), .val (.int p2), .val (.int p3), .val (.int (0 : Int32)), .val (.ref s0), .val (.ref a1), .val (.ref s1), .val (.ref a2), .val (.ref s2), .val (.ref ac), .val (.ref sc), .val (.ref t), .unset] [.int (1 : Int32), .int (0 : Int32)] := H258.iconst at_144
    have H260 : Hr x b_at Z EL1 17 242 hk [L, sl, hs, ix, t, sc, ac, s2, a2, s1, a1, s0] 156 #[.val (.int p0), .val (.int p1), .val (.int p2), .val (.int p3), .val (.int (0 : Int32)), .val (.ref s0), .val (.ref a1), .val (.ref s1), .val (.ref a2), .val (.ref s2), .val (.ref ac), .val (.ref sc), .val (.ref t), .unset] [] := H259.icmpT at_145 (XT.ii_lt_t (by decide))
    have H261 : Hr x b_at Z EL1 17 242 hk [L, sl, hs, ix, t, sc, ac, s2, a2, s1, a1, s0] 158 #[.val (.int p0), .val (.int p1), .val (.int p2), .val (.int p3), .val (.int (0 : Int32)), .val (.ref s0), .val (.ref a1), .val (.ref s1), .val (.ref a2), .val (.ref s2), .val (.ref ac), .val (.ref sc), .val (.ref t), .unset] [.int (0 : Int32)] := H260.iload at_156
    have H262 : Hr x b_at Z EL1 17 242 hk [L, sl, hs, ix, t, sc, ac, s2, a2, s1, a1, s0] 159 #[.val (.int p0), .val (.int p1), .val (.int p2), .val (.int p3), .val (.int (0 : Int32)), .val (.ref s0), .val (.ref a1), .val (.ref s1), .val (.ref a2), .val (.ref s2), .val (.ref ac), .val (.ref sc), .val (.ref t), .unset] [.int (2 : Int32), .int (0 : Int32)] := H261.iconst at_158
    have H263 : Hr x b_at Z EL1 17 242 hk [L, sl, hs, ix, t, sc, ac, s2, a2, s1, a1, s0] 170 #[.val (.int p0), .val (.int p1), .val (.int p2), .val (.int p3), .val (.int (0 : Int32)), .val (.ref s0), .val (.ref a1), .val (.ref s1), .val (.ref a2), .val (.ref s2), .val (.ref ac), .val (.ref sc), .val (.ref t), .unset] [] := H262.icmpT at_159 (XT.ii_lt_t (by decide))
    have H264 : Hr x b_at Z EL1 17 242 hk [L, sl, hs, ix, t, sc, ac, s2, a2, s1, a1, s0] 172 #[.val (.int p0), .val (.int p1), .val (.int p2), .val (.int p3), .val (.int (0 : Int32)), .val (.ref s0), .val (.ref a1), .val (.ref s1), .val (.ref a2), .val (.ref s2), .val (.ref ac), .val (.ref sc), .val (.ref t), .unset] [.int (0 : Int32)] := H263.iload at_170
    have H265 : Hr x b_at Z EL1 17 242 hk [L, sl, hs, ix, t, sc, ac, s2, a2, s1, a1, s0] 173 #[.val (.int p0), .val (.int p1), .val (.int p2), .val (.int p3), .val (.int (0 : Int32)), .val (.ref s0), .val (.ref a1), .val (.ref s1), .val (.ref a2), .val (.ref s2), .val (.ref ac), .val (.ref sc), .val (.ref t), .unset] [.int (3 : Int32), .int (0 : Int32)] := H264.iconst at_172
    have H266 : Hr x b_at Z EL1 17 242 hk [L, sl, hs, ix, t, sc, ac, s2, a2, s1, a1, s0] 184 #[.val (.int p0), .val (.int p1), .val (.int p2), .val (.int p3), .val (.int (0 : Int32)), .val (.ref s0), .val (.ref a1), .val (.ref s1), .val (.ref a2), .val (.ref s2), .val (.ref ac), .val (.ref sc), .val (.ref t), .unset] [] := H265.icmpT at_173 (XT.ii_lt_t (by decide))
    have H267 : Hr x b_at Z EL1 17 242 hk [L, sl, hs, ix, t, sc, ac, s2, a2, s1, a1, s0] 186 #[.val (.int p0), .val (.int p1), .val (.int p2), .val (.int p3), .val (.int (0 : Int32)), .val (.ref s0), .val (.ref a1), .val (.ref s1), .val (.ref a2), .val (.ref s2), .val (.ref ac), .val (.ref sc), .val (.ref t), .unset] [.ref t] := H266.aload at_184
    obtain ⟨_, hz, _, ⟨rfl, rfl, ez⟩, Kz, H268⟩ := H267.callV (argsL := []) (rest := []) (Wr := 0) (a := t) (ct_ntsz hw x.l x.nar x.kn hnar hk t L sl hs ix 0 [] [] T0 D D [] ([] : List Addr) P0) sub0 T0.1.1 (w107 hw) (w108 hw) (w110 hw) (w110 hw) (w109 hw) (w46 hw) (w111 hw) at_186 pd_ntsz rfl (hf := by first | decide | (simp [b_at, Bx.R]; done) | (simp [b_at, Bx.R]; omega)) (hl := by first | decide | (simp [b_at, Bx.R]; done) | (simp [b_at, Bx.R]; omega)) (hc := by first | decide | (simp [b_at, Bx.R]; done) | (simp [b_at, Bx.R]; omega)) (hs := by first | decide | (simp [b_at, Bx.R]; done) | (simp [b_at, Bx.R]; omega))
    rw [ez] at H268
    have H268 : Hr x b_at Z EL1 17 242 hk [L, sl, hs, ix, t, sc, ac, s2, a2, s1, a1, s0] 189 #[.val (.int p0), .val (.int p1), .val (.int p2), .val (.int p3), .val (.int (0 : Int32)), .val (.ref s0), .val (.ref a1), .val (.ref s1), .val (.ref a2), .val (.ref s2), .val (.ref ac), .val (.ref sc), .val (.ref t), .unset] [.int (0 : Int32)] := H268
    have H269 : Hr x b_at Z EL1 17 242 hk [L, sl, hs, ix, t, sc, ac, s2, a2, s1, a1, s0] 191 #[.val (.int p0), .val (.int p1), .val (.int p2), .val (.int p3), .val (.int (0 : Int32)), .val (.ref s0), .val (.ref a1), .val (.ref s1), .val (.ref a2), .val (.ref s2), .val (.ref ac), .val (.ref sc), .val (.ref t), .unset] [.int (0 : Int32), .int (0 : Int32)] := H268.iload at_189
    have H270 : Hr x b_at Z EL1 17 242 hk [L, sl, hs, ix, t, sc, ac, s2, a2, s1, a1, s0] 194 #[.val (.int p0), .val (.int p1), .val (.int p2), .val (.int p3), .val (.int (0 : Int32)), .val (.ref s0), .val (.ref a1), .val (.ref s1), .val (.ref a2), .val (.ref s2), .val (.ref ac), .val (.ref sc), .val (.ref t), .unset] [] := H269.icmpF at_191 (XT.ii_ne_f rfl)
    have H271 : Hr x b_at Z EL1 17 242 hk [L, sl, hs, ix, t, sc, ac, s2, a2, s1, a1, s0] 195 #[.val (.int p0), .val (.int p1), .val (.int p2), .val (.int p3), .val (.int (0 : Int32)), .val (.ref s0), .val (.ref a1), .val (.ref s1), .val (.ref a2), .val (.ref s2), .val (.ref ac), .val (.ref sc), .val (.ref t), .unset] [.int (1 : Int32)] := H270.iconst at_194
    have H272 : Hr x b_at Z EL1 17 242 hk [L, sl, hs, ix, t, sc, ac, s2, a2, s1, a1, s0] 199 #[.val (.int p0), .val (.int p1), .val (.int p2), .val (.int p3), .val (.int (0 : Int32)), .val (.ref s0), .val (.ref a1), .val (.ref s1), .val (.ref a2), .val (.ref s2), .val (.ref ac), .val (.ref sc), .val (.ref t), .unset] [.int (1 : Int32)] := H271.goto at_195
    have H273 : Hr x b_at Z EL1 17 242 hk [L, sl, hs, ix, t, sc, ac, s2, a2, s1, a1, s0] 201 #[.val (.int p0), .val (.int p1), .val (.int p2), .val (.int p3), .val (.int (0 : Int32)), .val (.ref s0), .val (.ref a1), .val (.ref s1), .val (.ref a2), .val (.ref s2), .val (.ref ac), .val (.ref sc), .val (.ref t), .val (.int (1 : Int32))] [] := H272.istore at_199
    have H274 : Hr x b_at Z EL1 17 242 hk [L, sl, hs, ix, t, sc, ac, s2, a2, s1, a1, s0] 203 #[.val (.int p0), .val (.int p1), .val (.int p2), .val (.int p3), .val (.int (0 : Int32)), .val (.ref s0), .val (.ref a1), .val (.ref s1), .val (.ref a2), .val (.ref s2), .val (.ref ac), .val (.ref sc), .val (.ref t), .val (.int (1 : Int32))] [.int (0 : Int32)] := H273.iload at_201
    have H275 : Hr x b_at Z EL1 17 242 hk [L, sl, hs, ix, t, sc, ac, s2, a2, s1, a1, s0] 204 #[.val (.int p0), .val (.int p1), .val (.int p2), .val (.int p3), .val (.int (0 : Int32)), .val (.ref s0), .val (.ref a1), .val (.ref s1), .val (.ref a2), .val (.ref s2), .val (.ref ac), .val (.ref sc), .val (.ref t), .val (.int (1 : Int32))] [.int (1 : Int32), .int (0 : Int32)] := H274.iconst at_203
    have H276 : Hr x b_at Z EL1 17 242 hk [L, sl, hs, ix, t, sc, ac, s2, a2, s1, a1, s0] 223 #[.val (.int p0), .val (.int p1), .val (.int p2), .val (.int p3), .val (.int (0 : Int32)), .val (.ref s0), .val (.ref a1), .val (.ref s1), .val (.ref a2), .val (.ref s2), .val (.ref ac), .val (.ref sc), .val (.ref t), .val (.int (1 : Int32))] [] := H275.icmpT at_204 (XT.ii_lt_t (by decide))
    have H277 : Hr x b_at Z EL1 17 242 hk [L, sl, hs, ix, t, sc, ac, s2, a2, s1, a1, s0] 225 #[.val (.int p0), .val (.int p1), .val (.int p2), .val (.int p3), .val (.int (0 : Int32)), .val (.ref s0), .val (.ref a1), .val (.ref s1), .val (.ref a2), .val (.ref s2), .val (.ref ac), .val (.ref sc), .val (.ref t), .val (.int (1 : Int32))] [.int (0 : Int32)] := H276.iload at_223
    have H278 : Hr x b_at Z EL1 17 242 hk [L, sl, hs, ix, t, sc, ac, s2, a2, s1, a1, s0] 226 #[.val (.int p0), .val (.int p1), .val (.int p2), .val (.int p3), .val (.int (0 : Int32)), .val (.ref s0), .val (.ref a1), .val (.ref s1), .val (.ref a2), .val (.ref s2), .val (.ref ac), .val (.ref sc), .val (.ref t), .val (.int (1 : Int32))] [.int (1 : Int32), .int (0 : Int32)] := H277.iconst at_225
    have H279 : Hr x b_at Z EL1 17 242 hk [L, sl, hs, ix, t, sc, ac, s2, a2, s1, a1, s0] 252 #[.val (.int p0), .val (.int p1), .val (.int p2), .val (.int p3), .val (.int (0 : Int32)), .val (.ref s0), .val (.ref a1), .val (.ref s1), .val (.ref a2), .val (.ref s2), .val (.ref ac), .val (.ref sc), .val (.ref t), .val (.int (1 : Int32))] [] := H278.icmpT at_226 (XT.ii_lt_t (by decide))
    have H280 : Hr x b_at Z EL1 17 242 hk [L, sl, hs, ix, t, sc, ac, s2, a2, s1, a1, s0] 254 #[.val (.int p0), .val (.int p1), .val (.int p2), .val (.int p3), .val (.int (0 : Int32)), .val (.ref s0), .val (.ref a1), .val (.ref s1), .val (.ref a2), .val (.ref s2), .val (.ref ac), .val (.ref sc), .val (.ref t), .val (.int (1 : Int32))] [.int (0 : Int32)] := H279.iload at_252
    have H281 : Hr x b_at Z EL1 17 242 hk [L, sl, hs, ix, t, sc, ac, s2, a2, s1, a1, s0] 255 #[.val (.int p0), .val (.int p1), .val (.int p2), .val (.int p3), .val (.int (0 : Int32)), .val (.ref s0), .val (.ref a1), .val (.ref s1), .val (.ref a2), .val (.ref s2), .val (.ref ac), .val (.ref sc), .val (.ref t), .val (.int (1 : Int32))] [.int (2 : Int32), .int (0 : Int32)] := H280.iconst at_254
    have H282 : Hr x b_at Z EL1 17 242 hk [L, sl, hs, ix, t, sc, ac, s2, a2, s1, a1, s0] 281 #[.val (.int p0), .val (.int p1), .val (.int p2), .val (.int p3), .val (.int (0 : Int32)), .val (.ref s0), .val (.ref a1), .val (.ref s1), .val (.ref a2), .val (.ref s2), .val (.ref ac), .val (.ref sc), .val (.ref t), .val (.int (1 : Int32))] [] := H281.icmpT at_255 (XT.ii_lt_t (by decide))
    have H283 : Hr x b_at Z EL1 17 242 hk [L, sl, hs, ix, t, sc, ac, s2, a2, s1, a1, s0] 283 #[.val (.int p0), .val (.int p1), .val (.int p2), .val (.int p3), .val (.int (0 : Int32)), .val (.ref s0), .val (.ref a1), .val (.ref s1), .val (.ref a2), .val (.ref s2), .val (.ref ac), .val (.ref sc), .val (.ref t), .val (.int (1 : Int32))] [.int (0 : Int32)] := H282.iload at_281
    have H284 : Hr x b_at Z EL1 17 242 hk [L, sl, hs, ix, t, sc, ac, s2, a2, s1, a1, s0] 284 #[.val (.int p0), .val (.int p1), .val (.int p2), .val (.int p3), .val (.int (0 : Int32)), .val (.ref s0), .val (.ref a1), .val (.ref s1), .val (.ref a2), .val (.ref s2), .val (.ref ac), .val (.ref sc), .val (.ref t), .val (.int (1 : Int32))] [.int (3 : Int32), .int (0 : Int32)] := H283.iconst at_283
    have H285 : Hr x b_at Z EL1 17 242 hk [L, sl, hs, ix, t, sc, ac, s2, a2, s1, a1, s0] 310 #[.val (.int p0), .val (.int p1), .val (.int p2), .val (.int p3), .val (.int (0 : Int32)), .val (.ref s0), .val (.ref a1), .val (.ref s1), .val (.ref a2), .val (.ref s2), .val (.ref ac), .val (.ref sc), .val (.ref t), .val (.int (1 : Int32))] [] := H284.icmpT at_284 (XT.ii_lt_t (by decide))
    have H286 : Hr x b_at Z EL1 17 242 hk [L, sl, hs, ix, t, sc, ac, s2, a2, s1, a1, s0] 312 #[.val (.int p0), .val (.int p1), .val (.int p2), .val (.int p3), .val (.int (0 : Int32)), .val (.ref s0), .val (.ref a1), .val (.ref s1), .val (.ref a2), .val (.ref s2), .val (.ref ac), .val (.ref sc), .val (.ref t), .val (.int (1 : Int32))] [.int (1 : Int32)] := H285.iload at_310
    exact H286.finZ at_312 (t := .boolean) (by first | rfl | decide) ⟨rfl, rfl⟩ sub0
  · have z286 := True.intro
    have H86 : Hr x b_at Z EL1 17 242 hk [L, sl, hs, ix, t, sc, ac, s2, a2, s1, a1, s0] 142 #[.val (.int p0), .val (.int p1), .val (.int p2), .val (.int p3), .val (.int (1 : Int32)), .val (.ref s0), .val (.ref a1), .val (.ref s1), .val (.ref a2), .val (.ref s2), .val (.ref ac), .val (.ref sc), .val (.ref t), .unset] [] := by rw [← hm]; exact H86
    have H287 : Hr x b_at Z EL1 17 242 hk [L, sl, hs, ix, t, sc, ac, s2, a2, s1, a1, s0] 144 #[.val (.int p0), .val (.int p1), .val (.int p2), .val (.int p3), .val (.int (1 : Int32)), .val (.ref s0), .val (.ref a1), .val (.ref s1), .val (.ref a2), .val (.ref s2), .val (.ref ac), .val (.ref sc), .val (.ref t), .unset] [.int (1 : Int32)] := H86.iload at_142
    have H288 : Hr x b_at Z EL1 17 242 hk [L, sl, hs, ix, t, sc, ac, s2, a2, s1, a1, s0] 145 #[.val (.int p0), .val (.int p1), .val (.int p2), .val (.int p3), .val (.int (1 : Int32)), .val (.ref s0), .val (.ref a1), .val (.ref s1), .val (.ref a2), .val (.ref s2), .val (.ref ac), .val (.ref sc), .val (.ref t), .unset] [.int (1 : Int32), .int (1 : Int32)] := H287.iconst at_144
    have H289 : Hr x b_at Z EL1 17 242 hk [L, sl, hs, ix, t, sc, ac, s2, a2, s1, a1, s0] 148 #[.val (.int p0), .val (.int p1), .val (.int p2), .val (.int p3), .val (.int (1 : Int32)), .val (.ref s0), .val (.ref a1), .val (.ref s1), .val (.ref a2), .val (.ref s2), .val (.ref ac), .val (.ref sc), .val (.ref t), .unset] [] := H288.icmpF at_145 (XT.ii_lt_f (by decide))
    have H290 : Hr x b_at Z EL1 17 242 hk [L, sl, hs, ix, t, sc, ac, s2, a2, s1, a1, s0] 150 #[.val (.int p0), .val (.int p1), .val (.int p2), .val (.int p3), .val (.int (1 : Int32)), .val (.ref s0), .val (.ref a1), .val (.ref s1), .val (.ref a2), .val (.ref s2), .val (.ref ac), .val (.ref sc), .val (.ref t), .unset] [.ref t] := H289.aload at_148
    have H291 : Hr x b_at Z EL1 17 242 hk [L, sl, hs, ix, t, sc, ac, s2, a2, s1, a1, s0] 152 #[.val (.int p0), .val (.int p1), .val (.int p2), .val (.int p3), .val (.int (1 : Int32)), .val (.ref s0), .val (.ref a1), .val (.ref s1), .val (.ref a2), .val (.ref s2), .val (.ref ac), .val (.ref sc), .val (.ref t), .unset] [.ref s0, .ref t] := H290.aload at_150
    obtain ⟨_, hq0, _, ⟨e0, q0, r0, rfl, rfl, T1, P1, S0⟩, Kq0, H292⟩ := H291.callV (argsL := [.ref s0]) (rest := []) (Wr := 0) (a := t) (ct_ntad hw x.l x.nar x.kn hnar hk t L sl hs ix 0 [] [] T0 s0 Bs0 (by simp) (by decide) hhx D SDf FD D [] ([] : List Addr) P0 (by simp) cz O hcz) (by simp) T0.1.1 (w123 hw) (w124 hw) (w126 hw) (w126 hw) (w125 hw) (w46 hw) (w127 hw) at_152 pd_ntad rfl (hf := by first | decide | (simp [b_at, Bx.R]; done) | (simp [b_at, Bx.R]; omega)) (hl := by first | decide | (simp [b_at, Bx.R]; done) | (simp [b_at, Bx.R]; omega)) (hc := by first | decide | (simp [b_at, Bx.R]; done) | (simp [b_at, Bx.R]; omega)) (hs := by first | decide | (simp [b_at, Bx.R]; done) | (simp [b_at, Bx.R]; omega))
    have H292 : Hr x b_at Z EL1 18 252 hq0 [e0, L, sl, hs, ix, t, sc, ac, s2, a2, s1, a1, s0] 155 #[.val (.int p0), .val (.int p1), .val (.int p2), .val (.int p3), .val (.int (1 : Int32)), .val (.ref s0), .val (.ref a1), .val (.ref s1), .val (.ref a2), .val (.ref s2), .val (.ref ac), .val (.ref sc), .val (.ref t), .unset] [.int r0] := H292
    have Vs10 := Bs1.keepA Kq0 T0 P0 Bs0.exa (Ne.symm nes0s1) (w10 hw)
    have Vs20 := Bs2.keepA Kq0 T0 P0 Bs0.exa (Ne.symm nes0s2) (w10 hw)
    have Vsc0 := Bsc.keepA Kq0 T0 P0 Bs0.exa (Ne.symm nes0sc) (w10 hw)
    have H293 : Hr x b_at Z EL1 18 252 hq0 [e0, L, sl, hs, ix, t, sc, ac, s2, a2, s1, a1, s0] 156 #[.val (.int p0), .val (.int p1), .val (.int p2), .val (.int p3), .val (.int (1 : Int32)), .val (.ref s0), .val (.ref a1), .val (.ref s1), .val (.ref a2), .val (.ref s2), .val (.ref ac), .val (.ref sc), .val (.ref t), .unset] [] := H292.pop at_155
    have H294 : Hr x b_at Z EL1 18 252 hq0 [e0, L, sl, hs, ix, t, sc, ac, s2, a2, s1, a1, s0] 158 #[.val (.int p0), .val (.int p1), .val (.int p2), .val (.int p3), .val (.int (1 : Int32)), .val (.ref s0), .val (.ref a1), .val (.ref s1), .val (.ref a2), .val (.ref s2), .val (.ref ac), .val (.ref sc), .val (.ref t), .unset] [.int (1 : Int32)] := H293.iload at_156
    have H295 : Hr x b_at Z EL1 18 252 hq0 [e0, L, sl, hs, ix, t, sc, ac, s2, a2, s1, a1, s0] 159 #[.val (.int p0), .val (.int p1), .val (.int p2), .val (.int p3), .val (.int (1 : Int32)), .val (.ref s0), .val (.ref a1), .val (.ref s1), .val (.ref a2), .val (.ref s2), .val (.ref ac), .val (.ref sc), .val (.ref t), .unset] [.int (2 : Int32), .int (1 : Int32)] := H294.iconst at_158
    have H296 : Hr x b_at Z EL1 18 252 hq0 [e0, L, sl, hs, ix, t, sc, ac, s2, a2, s1, a1, s0] 170 #[.val (.int p0), .val (.int p1), .val (.int p2), .val (.int p3), .val (.int (1 : Int32)), .val (.ref s0), .val (.ref a1), .val (.ref s1), .val (.ref a2), .val (.ref s2), .val (.ref ac), .val (.ref sc), .val (.ref t), .unset] [] := H295.icmpT at_159 (XT.ii_lt_t (by decide))
    have H297 : Hr x b_at Z EL1 18 252 hq0 [e0, L, sl, hs, ix, t, sc, ac, s2, a2, s1, a1, s0] 172 #[.val (.int p0), .val (.int p1), .val (.int p2), .val (.int p3), .val (.int (1 : Int32)), .val (.ref s0), .val (.ref a1), .val (.ref s1), .val (.ref a2), .val (.ref s2), .val (.ref ac), .val (.ref sc), .val (.ref t), .unset] [.int (1 : Int32)] := H296.iload at_170
    have H298 : Hr x b_at Z EL1 18 252 hq0 [e0, L, sl, hs, ix, t, sc, ac, s2, a2, s1, a1, s0] 173 #[.val (.int p0), .val (.int p1), .val (.int p2), .val (.int p3), .val (.int (1 : Int32)), .val (.ref s0), .val (.ref a1), .val (.ref s1), .val (.ref a2), .val (.ref s2), .val (.ref ac), .val (.ref sc), .val (.ref t), .unset] [.int (3 : Int32), .int (1 : Int32)] := H297.iconst at_172
    have H299 : Hr x b_at Z EL1 18 252 hq0 [e0, L, sl, hs, ix, t, sc, ac, s2, a2, s1, a1, s0] 184 #[.val (.int p0), .val (.int p1), .val (.int p2), .val (.int p3), .val (.int (1 : Int32)), .val (.ref s0), .val (.ref a1), .val (.ref s1), .val (.ref a2), .val (.ref s2), .val (.ref ac), .val (.ref sc), .val (.ref t), .unset] [] := H298.icmpT at_173 (XT.ii_lt_t (by decide))
    have H300 : Hr x b_at Z EL1 18 252 hq0 [e0, L, sl, hs, ix, t, sc, ac, s2, a2, s1, a1, s0] 186 #[.val (.int p0), .val (.int p1), .val (.int p2), .val (.int p3), .val (.int (1 : Int32)), .val (.ref s0), .val (.ref a1), .val (.ref s1), .val (.ref a2), .val (.ref s2), .val (.ref ac), .val (.ref sc), .val (.ref t), .unset] [.ref t] := H299.aload at_184
    obtain ⟨_, hz, _, ⟨rfl, rfl, ez⟩, Kz, H301⟩ := H300.callV (argsL := []) (rest := []) (Wr := 0) (a := t) (ct_ntsz hw x.l x.nar x.kn hnar hq0 t L sl hs ix 1 (q0 :: []) (s0 :: []) T1 D e0 [e0] (([] : List Addr) ++ [s0]) P1) sub0 T1.1.1 (w107 hw) (w108 hw) (w110 hw) (w110 hw) (w109 hw) (w46 hw) (w111 hw) at_186 pd_ntsz rfl (hf := by first | decide | (simp [b_at, Bx.R]; done) | (simp [b_at, Bx.R]; omega)) (hl := by first | decide | (simp [b_at, Bx.R]; done) | (simp [b_at, Bx.R]; omega)) (hc := by first | decide | (simp [b_at, Bx.R]; done) | (simp [b_at, Bx.R]; omega)) (hs := by first | decide | (simp [b_at, Bx.R]; done) | (simp [b_at, Bx.R]; omega))
    rw [ez] at H301
    have H301 : Hr x b_at Z EL1 18 252 hq0 [e0, L, sl, hs, ix, t, sc, ac, s2, a2, s1, a1, s0] 189 #[.val (.int p0), .val (.int p1), .val (.int p2), .val (.int p3), .val (.int (1 : Int32)), .val (.ref s0), .val (.ref a1), .val (.ref s1), .val (.ref a2), .val (.ref s2), .val (.ref ac), .val (.ref sc), .val (.ref t), .unset] [.int (1 : Int32)] := H301
    have H302 : Hr x b_at Z EL1 18 252 hq0 [e0, L, sl, hs, ix, t, sc, ac, s2, a2, s1, a1, s0] 191 #[.val (.int p0), .val (.int p1), .val (.int p2), .val (.int p3), .val (.int (1 : Int32)), .val (.ref s0), .val (.ref a1), .val (.ref s1), .val (.ref a2), .val (.ref s2), .val (.ref ac), .val (.ref sc), .val (.ref t), .unset] [.int (1 : Int32), .int (1 : Int32)] := H301.iload at_189
    have H303 : Hr x b_at Z EL1 18 252 hq0 [e0, L, sl, hs, ix, t, sc, ac, s2, a2, s1, a1, s0] 194 #[.val (.int p0), .val (.int p1), .val (.int p2), .val (.int p3), .val (.int (1 : Int32)), .val (.ref s0), .val (.ref a1), .val (.ref s1), .val (.ref a2), .val (.ref s2), .val (.ref ac), .val (.ref sc), .val (.ref t), .unset] [] := H302.icmpF at_191 (XT.ii_ne_f rfl)
    have H304 : Hr x b_at Z EL1 18 252 hq0 [e0, L, sl, hs, ix, t, sc, ac, s2, a2, s1, a1, s0] 195 #[.val (.int p0), .val (.int p1), .val (.int p2), .val (.int p3), .val (.int (1 : Int32)), .val (.ref s0), .val (.ref a1), .val (.ref s1), .val (.ref a2), .val (.ref s2), .val (.ref ac), .val (.ref sc), .val (.ref t), .unset] [.int (1 : Int32)] := H303.iconst at_194
    have H305 : Hr x b_at Z EL1 18 252 hq0 [e0, L, sl, hs, ix, t, sc, ac, s2, a2, s1, a1, s0] 199 #[.val (.int p0), .val (.int p1), .val (.int p2), .val (.int p3), .val (.int (1 : Int32)), .val (.ref s0), .val (.ref a1), .val (.ref s1), .val (.ref a2), .val (.ref s2), .val (.ref ac), .val (.ref sc), .val (.ref t), .unset] [.int (1 : Int32)] := H304.goto at_195
    have H306 : Hr x b_at Z EL1 18 252 hq0 [e0, L, sl, hs, ix, t, sc, ac, s2, a2, s1, a1, s0] 201 #[.val (.int p0), .val (.int p1), .val (.int p2), .val (.int p3), .val (.int (1 : Int32)), .val (.ref s0), .val (.ref a1), .val (.ref s1), .val (.ref a2), .val (.ref s2), .val (.ref ac), .val (.ref sc), .val (.ref t), .val (.int (1 : Int32))] [] := H305.istore at_199
    have H307 : Hr x b_at Z EL1 18 252 hq0 [e0, L, sl, hs, ix, t, sc, ac, s2, a2, s1, a1, s0] 203 #[.val (.int p0), .val (.int p1), .val (.int p2), .val (.int p3), .val (.int (1 : Int32)), .val (.ref s0), .val (.ref a1), .val (.ref s1), .val (.ref a2), .val (.ref s2), .val (.ref ac), .val (.ref sc), .val (.ref t), .val (.int (1 : Int32))] [.int (1 : Int32)] := H306.iload at_201
    have H308 : Hr x b_at Z EL1 18 252 hq0 [e0, L, sl, hs, ix, t, sc, ac, s2, a2, s1, a1, s0] 204 #[.val (.int p0), .val (.int p1), .val (.int p2), .val (.int p3), .val (.int (1 : Int32)), .val (.ref s0), .val (.ref a1), .val (.ref s1), .val (.ref a2), .val (.ref s2), .val (.ref ac), .val (.ref sc), .val (.ref t), .val (.int (1 : Int32))] [.int (1 : Int32), .int (1 : Int32)] := H307.iconst at_203
    have H309 : Hr x b_at Z EL1 18 252 hq0 [e0, L, sl, hs, ix, t, sc, ac, s2, a2, s1, a1, s0] 207 #[.val (.int p0), .val (.int p1), .val (.int p2), .val (.int p3), .val (.int (1 : Int32)), .val (.ref s0), .val (.ref a1), .val (.ref s1), .val (.ref a2), .val (.ref s2), .val (.ref ac), .val (.ref sc), .val (.ref t), .val (.int (1 : Int32))] [] := H308.icmpF at_204 (XT.ii_lt_f (by decide))
    have H310 : Hr x b_at Z EL1 18 252 hq0 [e0, L, sl, hs, ix, t, sc, ac, s2, a2, s1, a1, s0] 208 #[.val (.int p0), .val (.int p1), .val (.int p2), .val (.int p3), .val (.int (1 : Int32)), .val (.ref s0), .val (.ref a1), .val (.ref s1), .val (.ref a2), .val (.ref s2), .val (.ref ac), .val (.ref sc), .val (.ref t), .val (.int (1 : Int32))] [.int p0] := H309.iloadN at_207
    have H311 : Hr x b_at Z EL1 18 252 hq0 [e0, L, sl, hs, ix, t, sc, ac, s2, a2, s1, a1, s0] 209 #[.val (.int p0), .val (.int p1), .val (.int p2), .val (.int p3), .val (.int (1 : Int32)), .val (.ref s0), .val (.ref a1), .val (.ref s1), .val (.ref a2), .val (.ref s2), .val (.ref ac), .val (.ref sc), .val (.ref t), .val (.int (1 : Int32))] [.int (2 : Int32), .int p0] := H310.iconst at_208
    have H312 : Hr x b_at Z EL1 18 252 hq0 [e0, L, sl, hs, ix, t, sc, ac, s2, a2, s1, a1, s0] 210 #[.val (.int p0), .val (.int p1), .val (.int p2), .val (.int p3), .val (.int (1 : Int32)), .val (.ref s0), .val (.ref a1), .val (.ref s1), .val (.ref a2), .val (.ref s2), .val (.ref ac), .val (.ref sc), .val (.ref t), .val (.int (1 : Int32))] [.int (XT.ushr p0 (2 : Int32))] := H311.iushr at_209
    have H313 : Hr x b_at Z EL1 18 252 hq0 [e0, L, sl, hs, ix, t, sc, ac, s2, a2, s1, a1, s0] 211 #[.val (.int p0), .val (.int p1), .val (.int p2), .val (.int p3), .val (.int (1 : Int32)), .val (.ref s0), .val (.ref a1), .val (.ref s1), .val (.ref a2), .val (.ref s2), .val (.ref ac), .val (.ref sc), .val (.ref t), .val (.int (1 : Int32))] [.int (1 : Int32), .int (XT.ushr p0 (2 : Int32))] := H312.iconst at_210
    have H314 : Hr x b_at Z EL1 18 252 hq0 [e0, L, sl, hs, ix, t, sc, ac, s2, a2, s1, a1, s0] 212 #[.val (.int p0), .val (.int p1), .val (.int p2), .val (.int p3), .val (.int (1 : Int32)), .val (.ref s0), .val (.ref a1), .val (.ref s1), .val (.ref a2), .val (.ref s2), .val (.ref ac), .val (.ref sc), .val (.ref t), .val (.int (1 : Int32))] [.int ((XT.ushr p0 (2 : Int32)) &&& (1 : Int32))] := H313.iand at_211
    by_cases qi : (XT.ushr p0 (2 : Int32)) &&& (1 : Int32) = 0
    · have z314 := qi
      have H315 : Hr x b_at Z EL1 18 252 hq0 [e0, L, sl, hs, ix, t, sc, ac, s2, a2, s1, a1, s0] 223 #[.val (.int p0), .val (.int p1), .val (.int p2), .val (.int p3), .val (.int (1 : Int32)), .val (.ref s0), .val (.ref a1), .val (.ref s1), .val (.ref a2), .val (.ref s2), .val (.ref ac), .val (.ref sc), .val (.ref t), .val (.int (1 : Int32))] [] := H314.ifT at_212 (XT.i0_eq_t qi)
      have Ws0 := S0.exa
      have Ws1 := Vs10.exa
      have Ws2 := Vs20.exa
      have Wsc := Vsc0.exa
      have H316 : Hr x b_at Z EL1 18 252 hq0 [e0, L, sl, hs, ix, t, sc, ac, s2, a2, s1, a1, s0] 225 #[.val (.int p0), .val (.int p1), .val (.int p2), .val (.int p3), .val (.int (1 : Int32)), .val (.ref s0), .val (.ref a1), .val (.ref s1), .val (.ref a2), .val (.ref s2), .val (.ref ac), .val (.ref sc), .val (.ref t), .val (.int (1 : Int32))] [.int (1 : Int32)] := H315.iload at_223
      have H317 : Hr x b_at Z EL1 18 252 hq0 [e0, L, sl, hs, ix, t, sc, ac, s2, a2, s1, a1, s0] 226 #[.val (.int p0), .val (.int p1), .val (.int p2), .val (.int p3), .val (.int (1 : Int32)), .val (.ref s0), .val (.ref a1), .val (.ref s1), .val (.ref a2), .val (.ref s2), .val (.ref ac), .val (.ref sc), .val (.ref t), .val (.int (1 : Int32))] [.int (1 : Int32), .int (1 : Int32)] := H316.iconst at_225
      have H318 : Hr x b_at Z EL1 18 252 hq0 [e0, L, sl, hs, ix, t, sc, ac, s2, a2, s1, a1, s0] 229 #[.val (.int p0), .val (.int p1), .val (.int p2), .val (.int p3), .val (.int (1 : Int32)), .val (.ref s0), .val (.ref a1), .val (.ref s1), .val (.ref a2), .val (.ref s2), .val (.ref ac), .val (.ref sc), .val (.ref t), .val (.int (1 : Int32))] [] := H317.icmpF at_226 (XT.ii_lt_f (by decide))
      have H319 : Hr x b_at Z EL1 18 252 hq0 [e0, L, sl, hs, ix, t, sc, ac, s2, a2, s1, a1, s0] 231 #[.val (.int p0), .val (.int p1), .val (.int p2), .val (.int p3), .val (.int (1 : Int32)), .val (.ref s0), .val (.ref a1), .val (.ref s1), .val (.ref a2), .val (.ref s2), .val (.ref ac), .val (.ref sc), .val (.ref t), .val (.int (1 : Int32))] [.int (1 : Int32)] := H318.iload at_229
      have H320 : Hr x b_at Z EL1 18 252 hq0 [e0, L, sl, hs, ix, t, sc, ac, s2, a2, s1, a1, s0] 234 #[.val (.int p0), .val (.int p1), .val (.int p2), .val (.int p3), .val (.int (1 : Int32)), .val (.ref s0), .val (.ref a1), .val (.ref s1), .val (.ref a2), .val (.ref s2), .val (.ref ac), .val (.ref sc), .val (.ref t), .val (.int (1 : Int32))] [] := H319.ifF at_231 (XT.i0_eq_f (by decide))
      have H321 : Hr x b_at Z EL1 18 252 hq0 [e0, L, sl, hs, ix, t, sc, ac, s2, a2, s1, a1, s0] 236 #[.val (.int p0), .val (.int p1), .val (.int p2), .val (.int p3), .val (.int (1 : Int32)), .val (.ref s0), .val (.ref a1), .val (.ref s1), .val (.ref a2), .val (.ref s2), .val (.ref ac), .val (.ref sc), .val (.ref t), .val (.int (1 : Int32))] [.ref t] := H320.aload at_234
      have H322 : Hr x b_at Z EL1 18 252 hq0 [e0, L, sl, hs, ix, t, sc, ac, s2, a2, s1, a1, s0] 237 #[.val (.int p0), .val (.int p1), .val (.int p2), .val (.int p3), .val (.int (1 : Int32)), .val (.ref s0), .val (.ref a1), .val (.ref s1), .val (.ref a2), .val (.ref s2), .val (.ref ac), .val (.ref sc), .val (.ref t), .val (.int (1 : Int32))] [.int (0 : Int32), .ref t] := H321.iconst at_236
      obtain ⟨_, hy0, _, ⟨rfl, rfl, ey0⟩, Ky0, H323⟩ := H322.callV (argsL := [.int (0 : Int32)]) (rest := []) (Wr := 0) (a := t) (ct_ntnm hw x.l x.nar x.kn hnar hq0 t L sl hs ix 1 (q0 :: []) (s0 :: []) T1 D e0 [e0] (([] : List Addr) ++ [s0]) P1 0 (by simp) (by simp) Ws0) sub0 T1.1.1 (w215 hw) (w216 hw) (w218 hw) (w218 hw) (w217 hw) (w46 hw) (w219 hw) at_237 pd_ntnm rfl (hf := by first | decide | (simp [b_at, Bx.R]; done) | (simp [b_at, Bx.R]; omega)) (hl := by first | decide | (simp [b_at, Bx.R]; done) | (simp [b_at, Bx.R]; omega)) (hc := by first | decide | (simp [b_at, Bx.R]; done) | (simp [b_at, Bx.R]; omega)) (hs := by first | decide | (simp [b_at, Bx.R]; done) | (simp [b_at, Bx.R]; omega))
      rw [ey0] at H323
      have H323 : Hr x b_at Z EL1 18 252 hq0 [e0, L, sl, hs, ix, t, sc, ac, s2, a2, s1, a1, s0] 240 #[.val (.int p0), .val (.int p1), .val (.int p2), .val (.int p3), .val (.int (1 : Int32)), .val (.ref s0), .val (.ref a1), .val (.ref s1), .val (.ref a2), .val (.ref s2), .val (.ref ac), .val (.ref sc), .val (.ref t), .val (.int (1 : Int32))] [.ref s0] := H323
      have H324 : Hr x b_at Z EL1 18 252 hq0 [e0, L, sl, hs, ix, t, sc, ac, s2, a2, s1, a1, s0] 242 #[.val (.int p0), .val (.int p1), .val (.int p2), .val (.int p3), .val (.int (1 : Int32)), .val (.ref s0), .val (.ref a1), .val (.ref s1), .val (.ref a2), .val (.ref s2), .val (.ref ac), .val (.ref sc), .val (.ref t), .val (.int (1 : Int32))] [.ref s0, .ref s0] := H323.aload at_240
      have H325 : Hr x b_at Z EL1 18 252 hq0 [e0, L, sl, hs, ix, t, sc, ac, s2, a2, s1, a1, s0] 245 #[.val (.int p0), .val (.int p1), .val (.int p2), .val (.int p3), .val (.int (1 : Int32)), .val (.ref s0), .val (.ref a1), .val (.ref s1), .val (.ref a2), .val (.ref s2), .val (.ref ac), .val (.ref sc), .val (.ref t), .val (.int (1 : Int32))] [] := H324.acmpF at_242 (by simp [XT.acmp])
      have H326 : Hr x b_at Z EL1 18 252 hq0 [e0, L, sl, hs, ix, t, sc, ac, s2, a2, s1, a1, s0] 246 #[.val (.int p0), .val (.int p1), .val (.int p2), .val (.int p3), .val (.int (1 : Int32)), .val (.ref s0), .val (.ref a1), .val (.ref s1), .val (.ref a2), .val (.ref s2), .val (.ref ac), .val (.ref sc), .val (.ref t), .val (.int (1 : Int32))] [.int (1 : Int32)] := H325.iconst at_245
      have H327 : Hr x b_at Z EL1 18 252 hq0 [e0, L, sl, hs, ix, t, sc, ac, s2, a2, s1, a1, s0] 250 #[.val (.int p0), .val (.int p1), .val (.int p2), .val (.int p3), .val (.int (1 : Int32)), .val (.ref s0), .val (.ref a1), .val (.ref s1), .val (.ref a2), .val (.ref s2), .val (.ref ac), .val (.ref sc), .val (.ref t), .val (.int (1 : Int32))] [.int (1 : Int32)] := H326.goto at_246
      have H328 : Hr x b_at Z EL1 18 252 hq0 [e0, L, sl, hs, ix, t, sc, ac, s2, a2, s1, a1, s0] 252 #[.val (.int p0), .val (.int p1), .val (.int p2), .val (.int p3), .val (.int (1 : Int32)), .val (.ref s0), .val (.ref a1), .val (.ref s1), .val (.ref a2), .val (.ref s2), .val (.ref ac), .val (.ref sc), .val (.ref t), .val (.int (1 : Int32))] [] := H327.istore at_250
      have H329 : Hr x b_at Z EL1 18 252 hq0 [e0, L, sl, hs, ix, t, sc, ac, s2, a2, s1, a1, s0] 254 #[.val (.int p0), .val (.int p1), .val (.int p2), .val (.int p3), .val (.int (1 : Int32)), .val (.ref s0), .val (.ref a1), .val (.ref s1), .val (.ref a2), .val (.ref s2), .val (.ref ac), .val (.ref sc), .val (.ref t), .val (.int (1 : Int32))] [.int (1 : Int32)] := H328.iload at_252
      have H330 : Hr x b_at Z EL1 18 252 hq0 [e0, L, sl, hs, ix, t, sc, ac, s2, a2, s1, a1, s0] 255 #[.val (.int p0), .val (.int p1), .val (.int p2), .val (.int p3), .val (.int (1 : Int32)), .val (.ref s0), .val (.ref a1), .val (.ref s1), .val (.ref a2), .val (.ref s2), .val (.ref ac), .val (.ref sc), .val (.ref t), .val (.int (1 : Int32))] [.int (2 : Int32), .int (1 : Int32)] := H329.iconst at_254
      have H331 : Hr x b_at Z EL1 18 252 hq0 [e0, L, sl, hs, ix, t, sc, ac, s2, a2, s1, a1, s0] 281 #[.val (.int p0), .val (.int p1), .val (.int p2), .val (.int p3), .val (.int (1 : Int32)), .val (.ref s0), .val (.ref a1), .val (.ref s1), .val (.ref a2), .val (.ref s2), .val (.ref ac), .val (.ref sc), .val (.ref t), .val (.int (1 : Int32))] [] := H330.icmpT at_255 (XT.ii_lt_t (by decide))
      have H332 : Hr x b_at Z EL1 18 252 hq0 [e0, L, sl, hs, ix, t, sc, ac, s2, a2, s1, a1, s0] 283 #[.val (.int p0), .val (.int p1), .val (.int p2), .val (.int p3), .val (.int (1 : Int32)), .val (.ref s0), .val (.ref a1), .val (.ref s1), .val (.ref a2), .val (.ref s2), .val (.ref ac), .val (.ref sc), .val (.ref t), .val (.int (1 : Int32))] [.int (1 : Int32)] := H331.iload at_281
      have H333 : Hr x b_at Z EL1 18 252 hq0 [e0, L, sl, hs, ix, t, sc, ac, s2, a2, s1, a1, s0] 284 #[.val (.int p0), .val (.int p1), .val (.int p2), .val (.int p3), .val (.int (1 : Int32)), .val (.ref s0), .val (.ref a1), .val (.ref s1), .val (.ref a2), .val (.ref s2), .val (.ref ac), .val (.ref sc), .val (.ref t), .val (.int (1 : Int32))] [.int (3 : Int32), .int (1 : Int32)] := H332.iconst at_283
      have H334 : Hr x b_at Z EL1 18 252 hq0 [e0, L, sl, hs, ix, t, sc, ac, s2, a2, s1, a1, s0] 310 #[.val (.int p0), .val (.int p1), .val (.int p2), .val (.int p3), .val (.int (1 : Int32)), .val (.ref s0), .val (.ref a1), .val (.ref s1), .val (.ref a2), .val (.ref s2), .val (.ref ac), .val (.ref sc), .val (.ref t), .val (.int (1 : Int32))] [] := H333.icmpT at_284 (XT.ii_lt_t (by decide))
      have H335 : Hr x b_at Z EL1 18 252 hq0 [e0, L, sl, hs, ix, t, sc, ac, s2, a2, s1, a1, s0] 312 #[.val (.int p0), .val (.int p1), .val (.int p2), .val (.int p3), .val (.int (1 : Int32)), .val (.ref s0), .val (.ref a1), .val (.ref s1), .val (.ref a2), .val (.ref s2), .val (.ref ac), .val (.ref sc), .val (.ref t), .val (.int (1 : Int32))] [.int (1 : Int32)] := H334.iload at_310
      exact H335.finZ at_312 (t := .boolean) (by first | rfl | decide) ⟨rfl, rfl⟩ sub0
    · have z335 := qi
      have H336 : Hr x b_at Z EL1 18 252 hq0 [e0, L, sl, hs, ix, t, sc, ac, s2, a2, s1, a1, s0] 215 #[.val (.int p0), .val (.int p1), .val (.int p2), .val (.int p3), .val (.int (1 : Int32)), .val (.ref s0), .val (.ref a1), .val (.ref s1), .val (.ref a2), .val (.ref s2), .val (.ref ac), .val (.ref sc), .val (.ref t), .val (.int (1 : Int32))] [] := H314.ifF at_212 (XT.i0_eq_f qi)
      have H337 : Hr x b_at Z EL1 18 252 hq0 [e0, L, sl, hs, ix, t, sc, ac, s2, a2, s1, a1, s0] 217 #[.val (.int p0), .val (.int p1), .val (.int p2), .val (.int p3), .val (.int (1 : Int32)), .val (.ref s0), .val (.ref a1), .val (.ref s1), .val (.ref a2), .val (.ref s2), .val (.ref ac), .val (.ref sc), .val (.ref t), .val (.int (1 : Int32))] [.ref t] := H336.aload at_215
      have H338 : Hr x b_at Z EL1 18 252 hq0 [e0, L, sl, hs, ix, t, sc, ac, s2, a2, s1, a1, s0] 219 #[.val (.int p0), .val (.int p1), .val (.int p2), .val (.int p3), .val (.int (1 : Int32)), .val (.ref s0), .val (.ref a1), .val (.ref s1), .val (.ref a2), .val (.ref s2), .val (.ref ac), .val (.ref sc), .val (.ref t), .val (.int (1 : Int32))] [.ref sc, .ref t] := H337.aload at_217
      have hzs : ∀ z ∈ (s0 :: []), SG Z hq0 z ∧ z ≠ sc := fun z hz => by simp only [List.mem_cons, List.not_mem_nil, or_false] at hz; rcases hz with rfl; exact ⟨S0, nes0sc⟩
      obtain ⟨_, hi, _, ⟨ri, rfl, rfl, Ti, Si⟩, Ki, H339⟩ := H338.callV (argsL := [.ref sc]) (rest := []) (Wr := 0) (a := t) (ct_ntio hw x.l x.nar x.kn hnar hq0 t L sl hs ix 1 (q0 :: []) (s0 :: []) T1 sc Vsc0 (by simp) hzs cz O hcz) (by simp) T1.1.1 (w202 hw) (w203 hw) (w205 hw) (w205 hw) (w204 hw) (w46 hw) (w206 hw) at_219 pd_ntio rfl (hf := by first | decide | (simp [b_at, Bx.R]; done) | (simp [b_at, Bx.R]; omega)) (hl := by first | decide | (simp [b_at, Bx.R]; done) | (simp [b_at, Bx.R]; omega)) (hc := by first | decide | (simp [b_at, Bx.R]; done) | (simp [b_at, Bx.R]; omega)) (hs := by first | decide | (simp [b_at, Bx.R]; done) | (simp [b_at, Bx.R]; omega))
      have H339 : Hr x b_at Z EL1 18 252 hi [e0, L, sl, hs, ix, t, sc, ac, s2, a2, s1, a1, s0] 222 #[.val (.int p0), .val (.int p1), .val (.int p2), .val (.int p3), .val (.int (1 : Int32)), .val (.ref s0), .val (.ref a1), .val (.ref s1), .val (.ref a2), .val (.ref s2), .val (.ref ac), .val (.ref sc), .val (.ref t), .val (.int (1 : Int32))] [.int ri] := H339
      have nLc : L ≠ sc := Ne.symm (Vsc0.exa.ne P1.1.choose_spec.1 (by decide))
      have nLs : L ≠ sl := exa_neAr P1.1.choose_spec.1 T1.2.1.choose_spec.1.ar (w52 hw)
      have ned : ∀ z ∈ [e0], z ∉ [sc, sl] := fun z hz => by
        cases List.mem_singleton.mp hz
        rcases P1.2 with ⟨q, _⟩ | ⟨_, _, G⟩
        · simp at q
        · exact ninS (Ne.symm (exa_neAr Vsc0.exa G.ar (w10 hw))) (ninS (Ne.symm ((T1.2.1.choose_spec.1.ar).neTy G.ar (by decide))) nin0)
      have Pi := P1.keep Ki (ninS nLc (ninS nLs nin0)) ned
      have Ws0 := S0.exa.keep Ki
      have Ws1 := Vs10.exa.keep Ki
      have Ws2 := Vs20.exa.keep Ki
      have Wsc := Vsc0.exa.keep Ki
      have H340 : Hr x b_at Z EL1 18 252 hi [e0, L, sl, hs, ix, t, sc, ac, s2, a2, s1, a1, s0] 223 #[.val (.int p0), .val (.int p1), .val (.int p2), .val (.int p3), .val (.int (1 : Int32)), .val (.ref s0), .val (.ref a1), .val (.ref s1), .val (.ref a2), .val (.ref s2), .val (.ref ac), .val (.ref sc), .val (.ref t), .val (.int (1 : Int32))] [] := H339.pop at_222
      have H341 : Hr x b_at Z EL1 18 252 hi [e0, L, sl, hs, ix, t, sc, ac, s2, a2, s1, a1, s0] 225 #[.val (.int p0), .val (.int p1), .val (.int p2), .val (.int p3), .val (.int (1 : Int32)), .val (.ref s0), .val (.ref a1), .val (.ref s1), .val (.ref a2), .val (.ref s2), .val (.ref ac), .val (.ref sc), .val (.ref t), .val (.int (1 : Int32))] [.int (1 : Int32)] := H340.iload at_223
      have H342 : Hr x b_at Z EL1 18 252 hi [e0, L, sl, hs, ix, t, sc, ac, s2, a2, s1, a1, s0] 226 #[.val (.int p0), .val (.int p1), .val (.int p2), .val (.int p3), .val (.int (1 : Int32)), .val (.ref s0), .val (.ref a1), .val (.ref s1), .val (.ref a2), .val (.ref s2), .val (.ref ac), .val (.ref sc), .val (.ref t), .val (.int (1 : Int32))] [.int (1 : Int32), .int (1 : Int32)] := H341.iconst at_225
      have H343 : Hr x b_at Z EL1 18 252 hi [e0, L, sl, hs, ix, t, sc, ac, s2, a2, s1, a1, s0] 229 #[.val (.int p0), .val (.int p1), .val (.int p2), .val (.int p3), .val (.int (1 : Int32)), .val (.ref s0), .val (.ref a1), .val (.ref s1), .val (.ref a2), .val (.ref s2), .val (.ref ac), .val (.ref sc), .val (.ref t), .val (.int (1 : Int32))] [] := H342.icmpF at_226 (XT.ii_lt_f (by decide))
      have H344 : Hr x b_at Z EL1 18 252 hi [e0, L, sl, hs, ix, t, sc, ac, s2, a2, s1, a1, s0] 231 #[.val (.int p0), .val (.int p1), .val (.int p2), .val (.int p3), .val (.int (1 : Int32)), .val (.ref s0), .val (.ref a1), .val (.ref s1), .val (.ref a2), .val (.ref s2), .val (.ref ac), .val (.ref sc), .val (.ref t), .val (.int (1 : Int32))] [.int (1 : Int32)] := H343.iload at_229
      have H345 : Hr x b_at Z EL1 18 252 hi [e0, L, sl, hs, ix, t, sc, ac, s2, a2, s1, a1, s0] 234 #[.val (.int p0), .val (.int p1), .val (.int p2), .val (.int p3), .val (.int (1 : Int32)), .val (.ref s0), .val (.ref a1), .val (.ref s1), .val (.ref a2), .val (.ref s2), .val (.ref ac), .val (.ref sc), .val (.ref t), .val (.int (1 : Int32))] [] := H344.ifF at_231 (XT.i0_eq_f (by decide))
      have H346 : Hr x b_at Z EL1 18 252 hi [e0, L, sl, hs, ix, t, sc, ac, s2, a2, s1, a1, s0] 236 #[.val (.int p0), .val (.int p1), .val (.int p2), .val (.int p3), .val (.int (1 : Int32)), .val (.ref s0), .val (.ref a1), .val (.ref s1), .val (.ref a2), .val (.ref s2), .val (.ref ac), .val (.ref sc), .val (.ref t), .val (.int (1 : Int32))] [.ref t] := H345.aload at_234
      have H347 : Hr x b_at Z EL1 18 252 hi [e0, L, sl, hs, ix, t, sc, ac, s2, a2, s1, a1, s0] 237 #[.val (.int p0), .val (.int p1), .val (.int p2), .val (.int p3), .val (.int (1 : Int32)), .val (.ref s0), .val (.ref a1), .val (.ref s1), .val (.ref a2), .val (.ref s2), .val (.ref ac), .val (.ref sc), .val (.ref t), .val (.int (1 : Int32))] [.int (0 : Int32), .ref t] := H346.iconst at_236
      obtain ⟨_, hy0, _, ⟨rfl, rfl, ey0⟩, Ky0, H348⟩ := H347.callV (argsL := [.int (0 : Int32)]) (rest := []) (Wr := 0) (a := t) (ct_ntnm hw x.l x.nar x.kn hnar hi t L sl hs ix 1 (q0 :: []) (sc :: (s0 :: [])) Ti D e0 [e0] (([] : List Addr) ++ [s0]) Pi 0 (by simp) (by simp) Ws0) sub0 Ti.1.1 (w215 hw) (w216 hw) (w218 hw) (w218 hw) (w217 hw) (w46 hw) (w219 hw) at_237 pd_ntnm rfl (hf := by first | decide | (simp [b_at, Bx.R]; done) | (simp [b_at, Bx.R]; omega)) (hl := by first | decide | (simp [b_at, Bx.R]; done) | (simp [b_at, Bx.R]; omega)) (hc := by first | decide | (simp [b_at, Bx.R]; done) | (simp [b_at, Bx.R]; omega)) (hs := by first | decide | (simp [b_at, Bx.R]; done) | (simp [b_at, Bx.R]; omega))
      rw [ey0] at H348
      have H348 : Hr x b_at Z EL1 18 252 hi [e0, L, sl, hs, ix, t, sc, ac, s2, a2, s1, a1, s0] 240 #[.val (.int p0), .val (.int p1), .val (.int p2), .val (.int p3), .val (.int (1 : Int32)), .val (.ref s0), .val (.ref a1), .val (.ref s1), .val (.ref a2), .val (.ref s2), .val (.ref ac), .val (.ref sc), .val (.ref t), .val (.int (1 : Int32))] [.ref s0] := H348
      have H349 : Hr x b_at Z EL1 18 252 hi [e0, L, sl, hs, ix, t, sc, ac, s2, a2, s1, a1, s0] 242 #[.val (.int p0), .val (.int p1), .val (.int p2), .val (.int p3), .val (.int (1 : Int32)), .val (.ref s0), .val (.ref a1), .val (.ref s1), .val (.ref a2), .val (.ref s2), .val (.ref ac), .val (.ref sc), .val (.ref t), .val (.int (1 : Int32))] [.ref s0, .ref s0] := H348.aload at_240
      have H350 : Hr x b_at Z EL1 18 252 hi [e0, L, sl, hs, ix, t, sc, ac, s2, a2, s1, a1, s0] 245 #[.val (.int p0), .val (.int p1), .val (.int p2), .val (.int p3), .val (.int (1 : Int32)), .val (.ref s0), .val (.ref a1), .val (.ref s1), .val (.ref a2), .val (.ref s2), .val (.ref ac), .val (.ref sc), .val (.ref t), .val (.int (1 : Int32))] [] := H349.acmpF at_242 (by simp [XT.acmp])
      have H351 : Hr x b_at Z EL1 18 252 hi [e0, L, sl, hs, ix, t, sc, ac, s2, a2, s1, a1, s0] 246 #[.val (.int p0), .val (.int p1), .val (.int p2), .val (.int p3), .val (.int (1 : Int32)), .val (.ref s0), .val (.ref a1), .val (.ref s1), .val (.ref a2), .val (.ref s2), .val (.ref ac), .val (.ref sc), .val (.ref t), .val (.int (1 : Int32))] [.int (1 : Int32)] := H350.iconst at_245
      have H352 : Hr x b_at Z EL1 18 252 hi [e0, L, sl, hs, ix, t, sc, ac, s2, a2, s1, a1, s0] 250 #[.val (.int p0), .val (.int p1), .val (.int p2), .val (.int p3), .val (.int (1 : Int32)), .val (.ref s0), .val (.ref a1), .val (.ref s1), .val (.ref a2), .val (.ref s2), .val (.ref ac), .val (.ref sc), .val (.ref t), .val (.int (1 : Int32))] [.int (1 : Int32)] := H351.goto at_246
      have H353 : Hr x b_at Z EL1 18 252 hi [e0, L, sl, hs, ix, t, sc, ac, s2, a2, s1, a1, s0] 252 #[.val (.int p0), .val (.int p1), .val (.int p2), .val (.int p3), .val (.int (1 : Int32)), .val (.ref s0), .val (.ref a1), .val (.ref s1), .val (.ref a2), .val (.ref s2), .val (.ref ac), .val (.ref sc), .val (.ref t), .val (.int (1 : Int32))] [] := H352.istore at_250
      have H354 : Hr x b_at Z EL1 18 252 hi [e0, L, sl, hs, ix, t, sc, ac, s2, a2, s1, a1, s0] 254 #[.val (.int p0), .val (.int p1), .val (.int p2), .val (.int p3), .val (.int (1 : Int32)), .val (.ref s0), .val (.ref a1), .val (.ref s1), .val (.ref a2), .val (.ref s2), .val (.ref ac), .val (.ref sc), .val (.ref t), .val (.int (1 : Int32))] [.int (1 : Int32)] := H353.iload at_252
      have H355 : Hr x b_at Z EL1 18 252 hi [e0, L, sl, hs, ix, t, sc, ac, s2, a2, s1, a1, s0] 255 #[.val (.int p0), .val (.int p1), .val (.int p2), .val (.int p3), .val (.int (1 : Int32)), .val (.ref s0), .val (.ref a1), .val (.ref s1), .val (.ref a2), .val (.ref s2), .val (.ref ac), .val (.ref sc), .val (.ref t), .val (.int (1 : Int32))] [.int (2 : Int32), .int (1 : Int32)] := H354.iconst at_254
      have H356 : Hr x b_at Z EL1 18 252 hi [e0, L, sl, hs, ix, t, sc, ac, s2, a2, s1, a1, s0] 281 #[.val (.int p0), .val (.int p1), .val (.int p2), .val (.int p3), .val (.int (1 : Int32)), .val (.ref s0), .val (.ref a1), .val (.ref s1), .val (.ref a2), .val (.ref s2), .val (.ref ac), .val (.ref sc), .val (.ref t), .val (.int (1 : Int32))] [] := H355.icmpT at_255 (XT.ii_lt_t (by decide))
      have H357 : Hr x b_at Z EL1 18 252 hi [e0, L, sl, hs, ix, t, sc, ac, s2, a2, s1, a1, s0] 283 #[.val (.int p0), .val (.int p1), .val (.int p2), .val (.int p3), .val (.int (1 : Int32)), .val (.ref s0), .val (.ref a1), .val (.ref s1), .val (.ref a2), .val (.ref s2), .val (.ref ac), .val (.ref sc), .val (.ref t), .val (.int (1 : Int32))] [.int (1 : Int32)] := H356.iload at_281
      have H358 : Hr x b_at Z EL1 18 252 hi [e0, L, sl, hs, ix, t, sc, ac, s2, a2, s1, a1, s0] 284 #[.val (.int p0), .val (.int p1), .val (.int p2), .val (.int p3), .val (.int (1 : Int32)), .val (.ref s0), .val (.ref a1), .val (.ref s1), .val (.ref a2), .val (.ref s2), .val (.ref ac), .val (.ref sc), .val (.ref t), .val (.int (1 : Int32))] [.int (3 : Int32), .int (1 : Int32)] := H357.iconst at_283
      have H359 : Hr x b_at Z EL1 18 252 hi [e0, L, sl, hs, ix, t, sc, ac, s2, a2, s1, a1, s0] 310 #[.val (.int p0), .val (.int p1), .val (.int p2), .val (.int p3), .val (.int (1 : Int32)), .val (.ref s0), .val (.ref a1), .val (.ref s1), .val (.ref a2), .val (.ref s2), .val (.ref ac), .val (.ref sc), .val (.ref t), .val (.int (1 : Int32))] [] := H358.icmpT at_284 (XT.ii_lt_t (by decide))
      have H360 : Hr x b_at Z EL1 18 252 hi [e0, L, sl, hs, ix, t, sc, ac, s2, a2, s1, a1, s0] 312 #[.val (.int p0), .val (.int p1), .val (.int p2), .val (.int p3), .val (.int (1 : Int32)), .val (.ref s0), .val (.ref a1), .val (.ref s1), .val (.ref a2), .val (.ref s2), .val (.ref ac), .val (.ref sc), .val (.ref t), .val (.int (1 : Int32))] [.int (1 : Int32)] := H359.iload at_310
      exact H360.finZ at_312 (t := .boolean) (by first | rfl | decide) ⟨rfl, rfl⟩ sub0
  · have z360 := True.intro
    have H86 : Hr x b_at Z EL1 17 242 hk [L, sl, hs, ix, t, sc, ac, s2, a2, s1, a1, s0] 142 #[.val (.int p0), .val (.int p1), .val (.int p2), .val (.int p3), .val (.int (2 : Int32)), .val (.ref s0), .val (.ref a1), .val (.ref s1), .val (.ref a2), .val (.ref s2), .val (.ref ac), .val (.ref sc), .val (.ref t), .unset] [] := by rw [← hm]; exact H86
    have H361 : Hr x b_at Z EL1 17 242 hk [L, sl, hs, ix, t, sc, ac, s2, a2, s1, a1, s0] 144 #[.val (.int p0), .val (.int p1), .val (.int p2), .val (.int p3), .val (.int (2 : Int32)), .val (.ref s0), .val (.ref a1), .val (.ref s1), .val (.ref a2), .val (.ref s2), .val (.ref ac), .val (.ref sc), .val (.ref t), .unset] [.int (2 : Int32)] := H86.iload at_142
    have H362 : Hr x b_at Z EL1 17 242 hk [L, sl, hs, ix, t, sc, ac, s2, a2, s1, a1, s0] 145 #[.val (.int p0), .val (.int p1), .val (.int p2), .val (.int p3), .val (.int (2 : Int32)), .val (.ref s0), .val (.ref a1), .val (.ref s1), .val (.ref a2), .val (.ref s2), .val (.ref ac), .val (.ref sc), .val (.ref t), .unset] [.int (1 : Int32), .int (2 : Int32)] := H361.iconst at_144
    have H363 : Hr x b_at Z EL1 17 242 hk [L, sl, hs, ix, t, sc, ac, s2, a2, s1, a1, s0] 148 #[.val (.int p0), .val (.int p1), .val (.int p2), .val (.int p3), .val (.int (2 : Int32)), .val (.ref s0), .val (.ref a1), .val (.ref s1), .val (.ref a2), .val (.ref s2), .val (.ref ac), .val (.ref sc), .val (.ref t), .unset] [] := H362.icmpF at_145 (XT.ii_lt_f (by decide))
    have H364 : Hr x b_at Z EL1 17 242 hk [L, sl, hs, ix, t, sc, ac, s2, a2, s1, a1, s0] 150 #[.val (.int p0), .val (.int p1), .val (.int p2), .val (.int p3), .val (.int (2 : Int32)), .val (.ref s0), .val (.ref a1), .val (.ref s1), .val (.ref a2), .val (.ref s2), .val (.ref ac), .val (.ref sc), .val (.ref t), .unset] [.ref t] := H363.aload at_148
    have H365 : Hr x b_at Z EL1 17 242 hk [L, sl, hs, ix, t, sc, ac, s2, a2, s1, a1, s0] 152 #[.val (.int p0), .val (.int p1), .val (.int p2), .val (.int p3), .val (.int (2 : Int32)), .val (.ref s0), .val (.ref a1), .val (.ref s1), .val (.ref a2), .val (.ref s2), .val (.ref ac), .val (.ref sc), .val (.ref t), .unset] [.ref s0, .ref t] := H364.aload at_150
    obtain ⟨_, hq0, _, ⟨e0, q0, r0, rfl, rfl, T1, P1, S0⟩, Kq0, H366⟩ := H365.callV (argsL := [.ref s0]) (rest := []) (Wr := 0) (a := t) (ct_ntad hw x.l x.nar x.kn hnar hk t L sl hs ix 0 [] [] T0 s0 Bs0 (by simp) (by decide) hhx D SDf FD D [] ([] : List Addr) P0 (by simp) cz O hcz) (by simp) T0.1.1 (w123 hw) (w124 hw) (w126 hw) (w126 hw) (w125 hw) (w46 hw) (w127 hw) at_152 pd_ntad rfl (hf := by first | decide | (simp [b_at, Bx.R]; done) | (simp [b_at, Bx.R]; omega)) (hl := by first | decide | (simp [b_at, Bx.R]; done) | (simp [b_at, Bx.R]; omega)) (hc := by first | decide | (simp [b_at, Bx.R]; done) | (simp [b_at, Bx.R]; omega)) (hs := by first | decide | (simp [b_at, Bx.R]; done) | (simp [b_at, Bx.R]; omega))
    have H366 : Hr x b_at Z EL1 18 252 hq0 [e0, L, sl, hs, ix, t, sc, ac, s2, a2, s1, a1, s0] 155 #[.val (.int p0), .val (.int p1), .val (.int p2), .val (.int p3), .val (.int (2 : Int32)), .val (.ref s0), .val (.ref a1), .val (.ref s1), .val (.ref a2), .val (.ref s2), .val (.ref ac), .val (.ref sc), .val (.ref t), .unset] [.int r0] := H366
    have Vs10 := Bs1.keepA Kq0 T0 P0 Bs0.exa (Ne.symm nes0s1) (w10 hw)
    have Vs20 := Bs2.keepA Kq0 T0 P0 Bs0.exa (Ne.symm nes0s2) (w10 hw)
    have Vsc0 := Bsc.keepA Kq0 T0 P0 Bs0.exa (Ne.symm nes0sc) (w10 hw)
    have H367 : Hr x b_at Z EL1 18 252 hq0 [e0, L, sl, hs, ix, t, sc, ac, s2, a2, s1, a1, s0] 156 #[.val (.int p0), .val (.int p1), .val (.int p2), .val (.int p3), .val (.int (2 : Int32)), .val (.ref s0), .val (.ref a1), .val (.ref s1), .val (.ref a2), .val (.ref s2), .val (.ref ac), .val (.ref sc), .val (.ref t), .unset] [] := H366.pop at_155
    have H368 : Hr x b_at Z EL1 18 252 hq0 [e0, L, sl, hs, ix, t, sc, ac, s2, a2, s1, a1, s0] 158 #[.val (.int p0), .val (.int p1), .val (.int p2), .val (.int p3), .val (.int (2 : Int32)), .val (.ref s0), .val (.ref a1), .val (.ref s1), .val (.ref a2), .val (.ref s2), .val (.ref ac), .val (.ref sc), .val (.ref t), .unset] [.int (2 : Int32)] := H367.iload at_156
    have H369 : Hr x b_at Z EL1 18 252 hq0 [e0, L, sl, hs, ix, t, sc, ac, s2, a2, s1, a1, s0] 159 #[.val (.int p0), .val (.int p1), .val (.int p2), .val (.int p3), .val (.int (2 : Int32)), .val (.ref s0), .val (.ref a1), .val (.ref s1), .val (.ref a2), .val (.ref s2), .val (.ref ac), .val (.ref sc), .val (.ref t), .unset] [.int (2 : Int32), .int (2 : Int32)] := H368.iconst at_158
    have H370 : Hr x b_at Z EL1 18 252 hq0 [e0, L, sl, hs, ix, t, sc, ac, s2, a2, s1, a1, s0] 162 #[.val (.int p0), .val (.int p1), .val (.int p2), .val (.int p3), .val (.int (2 : Int32)), .val (.ref s0), .val (.ref a1), .val (.ref s1), .val (.ref a2), .val (.ref s2), .val (.ref ac), .val (.ref sc), .val (.ref t), .unset] [] := H369.icmpF at_159 (XT.ii_lt_f (by decide))
    have H371 : Hr x b_at Z EL1 18 252 hq0 [e0, L, sl, hs, ix, t, sc, ac, s2, a2, s1, a1, s0] 164 #[.val (.int p0), .val (.int p1), .val (.int p2), .val (.int p3), .val (.int (2 : Int32)), .val (.ref s0), .val (.ref a1), .val (.ref s1), .val (.ref a2), .val (.ref s2), .val (.ref ac), .val (.ref sc), .val (.ref t), .unset] [.ref t] := H370.aload at_162
    have H372 : Hr x b_at Z EL1 18 252 hq0 [e0, L, sl, hs, ix, t, sc, ac, s2, a2, s1, a1, s0] 166 #[.val (.int p0), .val (.int p1), .val (.int p2), .val (.int p3), .val (.int (2 : Int32)), .val (.ref s0), .val (.ref a1), .val (.ref s1), .val (.ref a2), .val (.ref s2), .val (.ref ac), .val (.ref sc), .val (.ref t), .unset] [.ref s1, .ref t] := H371.aload at_164
    obtain ⟨_, hq1, _, ⟨e1, q1, r1, rfl, rfl, T2, P2, S1⟩, Kq1, H373⟩ := H372.callV (argsL := [.ref s1]) (rest := []) (Wr := 0) (a := t) (ct_ntad hw x.l x.nar x.kn hnar hq0 t L sl hs ix 1 (q0 :: []) (s0 :: []) T1 s1 Vs10 (by simp) (by decide) hhx D SDf FD e0 [e0] (([] : List Addr) ++ [s0]) P1 (by simp) cz O hcz) (by simp) T1.1.1 (w123 hw) (w124 hw) (w126 hw) (w126 hw) (w125 hw) (w46 hw) (w127 hw) at_166 pd_ntad rfl (hf := by first | decide | (simp [b_at, Bx.R]; done) | (simp [b_at, Bx.R]; omega)) (hl := by first | decide | (simp [b_at, Bx.R]; done) | (simp [b_at, Bx.R]; omega)) (hc := by first | decide | (simp [b_at, Bx.R]; done) | (simp [b_at, Bx.R]; omega)) (hs := by first | decide | (simp [b_at, Bx.R]; done) | (simp [b_at, Bx.R]; omega))
    have H373 : Hr x b_at Z EL1 19 262 hq1 [e1, e0, L, sl, hs, ix, t, sc, ac, s2, a2, s1, a1, s0] 169 #[.val (.int p0), .val (.int p1), .val (.int p2), .val (.int p3), .val (.int (2 : Int32)), .val (.ref s0), .val (.ref a1), .val (.ref s1), .val (.ref a2), .val (.ref s2), .val (.ref ac), .val (.ref sc), .val (.ref t), .unset] [.int r1] := H373
    have Vs01 := S0.keepA Kq1 T1 P1 Vs10.exa nes0s1 (w10 hw)
    have Vs21 := Vs20.keepA Kq1 T1 P1 Vs10.exa (Ne.symm nes1s2) (w10 hw)
    have Vsc1 := Vsc0.keepA Kq1 T1 P1 Vs10.exa (Ne.symm nes1sc) (w10 hw)
    have H374 : Hr x b_at Z EL1 19 262 hq1 [e1, e0, L, sl, hs, ix, t, sc, ac, s2, a2, s1, a1, s0] 170 #[.val (.int p0), .val (.int p1), .val (.int p2), .val (.int p3), .val (.int (2 : Int32)), .val (.ref s0), .val (.ref a1), .val (.ref s1), .val (.ref a2), .val (.ref s2), .val (.ref ac), .val (.ref sc), .val (.ref t), .unset] [] := H373.pop at_169
    have H375 : Hr x b_at Z EL1 19 262 hq1 [e1, e0, L, sl, hs, ix, t, sc, ac, s2, a2, s1, a1, s0] 172 #[.val (.int p0), .val (.int p1), .val (.int p2), .val (.int p3), .val (.int (2 : Int32)), .val (.ref s0), .val (.ref a1), .val (.ref s1), .val (.ref a2), .val (.ref s2), .val (.ref ac), .val (.ref sc), .val (.ref t), .unset] [.int (2 : Int32)] := H374.iload at_170
    have H376 : Hr x b_at Z EL1 19 262 hq1 [e1, e0, L, sl, hs, ix, t, sc, ac, s2, a2, s1, a1, s0] 173 #[.val (.int p0), .val (.int p1), .val (.int p2), .val (.int p3), .val (.int (2 : Int32)), .val (.ref s0), .val (.ref a1), .val (.ref s1), .val (.ref a2), .val (.ref s2), .val (.ref ac), .val (.ref sc), .val (.ref t), .unset] [.int (3 : Int32), .int (2 : Int32)] := H375.iconst at_172
    have H377 : Hr x b_at Z EL1 19 262 hq1 [e1, e0, L, sl, hs, ix, t, sc, ac, s2, a2, s1, a1, s0] 184 #[.val (.int p0), .val (.int p1), .val (.int p2), .val (.int p3), .val (.int (2 : Int32)), .val (.ref s0), .val (.ref a1), .val (.ref s1), .val (.ref a2), .val (.ref s2), .val (.ref ac), .val (.ref sc), .val (.ref t), .unset] [] := H376.icmpT at_173 (XT.ii_lt_t (by decide))
    have H378 : Hr x b_at Z EL1 19 262 hq1 [e1, e0, L, sl, hs, ix, t, sc, ac, s2, a2, s1, a1, s0] 186 #[.val (.int p0), .val (.int p1), .val (.int p2), .val (.int p3), .val (.int (2 : Int32)), .val (.ref s0), .val (.ref a1), .val (.ref s1), .val (.ref a2), .val (.ref s2), .val (.ref ac), .val (.ref sc), .val (.ref t), .unset] [.ref t] := H377.aload at_184
    obtain ⟨_, hz, _, ⟨rfl, rfl, ez⟩, Kz, H379⟩ := H378.callV (argsL := []) (rest := []) (Wr := 0) (a := t) (ct_ntsz hw x.l x.nar x.kn hnar hq1 t L sl hs ix 2 (q1 :: (q0 :: [])) (s1 :: (s0 :: [])) T2 D e1 [e1] ((([] : List Addr) ++ [s0]) ++ [s1]) P2) sub0 T2.1.1 (w107 hw) (w108 hw) (w110 hw) (w110 hw) (w109 hw) (w46 hw) (w111 hw) at_186 pd_ntsz rfl (hf := by first | decide | (simp [b_at, Bx.R]; done) | (simp [b_at, Bx.R]; omega)) (hl := by first | decide | (simp [b_at, Bx.R]; done) | (simp [b_at, Bx.R]; omega)) (hc := by first | decide | (simp [b_at, Bx.R]; done) | (simp [b_at, Bx.R]; omega)) (hs := by first | decide | (simp [b_at, Bx.R]; done) | (simp [b_at, Bx.R]; omega))
    rw [ez] at H379
    have H379 : Hr x b_at Z EL1 19 262 hq1 [e1, e0, L, sl, hs, ix, t, sc, ac, s2, a2, s1, a1, s0] 189 #[.val (.int p0), .val (.int p1), .val (.int p2), .val (.int p3), .val (.int (2 : Int32)), .val (.ref s0), .val (.ref a1), .val (.ref s1), .val (.ref a2), .val (.ref s2), .val (.ref ac), .val (.ref sc), .val (.ref t), .unset] [.int (2 : Int32)] := H379
    have H380 : Hr x b_at Z EL1 19 262 hq1 [e1, e0, L, sl, hs, ix, t, sc, ac, s2, a2, s1, a1, s0] 191 #[.val (.int p0), .val (.int p1), .val (.int p2), .val (.int p3), .val (.int (2 : Int32)), .val (.ref s0), .val (.ref a1), .val (.ref s1), .val (.ref a2), .val (.ref s2), .val (.ref ac), .val (.ref sc), .val (.ref t), .unset] [.int (2 : Int32), .int (2 : Int32)] := H379.iload at_189
    have H381 : Hr x b_at Z EL1 19 262 hq1 [e1, e0, L, sl, hs, ix, t, sc, ac, s2, a2, s1, a1, s0] 194 #[.val (.int p0), .val (.int p1), .val (.int p2), .val (.int p3), .val (.int (2 : Int32)), .val (.ref s0), .val (.ref a1), .val (.ref s1), .val (.ref a2), .val (.ref s2), .val (.ref ac), .val (.ref sc), .val (.ref t), .unset] [] := H380.icmpF at_191 (XT.ii_ne_f rfl)
    have H382 : Hr x b_at Z EL1 19 262 hq1 [e1, e0, L, sl, hs, ix, t, sc, ac, s2, a2, s1, a1, s0] 195 #[.val (.int p0), .val (.int p1), .val (.int p2), .val (.int p3), .val (.int (2 : Int32)), .val (.ref s0), .val (.ref a1), .val (.ref s1), .val (.ref a2), .val (.ref s2), .val (.ref ac), .val (.ref sc), .val (.ref t), .unset] [.int (1 : Int32)] := H381.iconst at_194
    have H383 : Hr x b_at Z EL1 19 262 hq1 [e1, e0, L, sl, hs, ix, t, sc, ac, s2, a2, s1, a1, s0] 199 #[.val (.int p0), .val (.int p1), .val (.int p2), .val (.int p3), .val (.int (2 : Int32)), .val (.ref s0), .val (.ref a1), .val (.ref s1), .val (.ref a2), .val (.ref s2), .val (.ref ac), .val (.ref sc), .val (.ref t), .unset] [.int (1 : Int32)] := H382.goto at_195
    have H384 : Hr x b_at Z EL1 19 262 hq1 [e1, e0, L, sl, hs, ix, t, sc, ac, s2, a2, s1, a1, s0] 201 #[.val (.int p0), .val (.int p1), .val (.int p2), .val (.int p3), .val (.int (2 : Int32)), .val (.ref s0), .val (.ref a1), .val (.ref s1), .val (.ref a2), .val (.ref s2), .val (.ref ac), .val (.ref sc), .val (.ref t), .val (.int (1 : Int32))] [] := H383.istore at_199
    have H385 : Hr x b_at Z EL1 19 262 hq1 [e1, e0, L, sl, hs, ix, t, sc, ac, s2, a2, s1, a1, s0] 203 #[.val (.int p0), .val (.int p1), .val (.int p2), .val (.int p3), .val (.int (2 : Int32)), .val (.ref s0), .val (.ref a1), .val (.ref s1), .val (.ref a2), .val (.ref s2), .val (.ref ac), .val (.ref sc), .val (.ref t), .val (.int (1 : Int32))] [.int (2 : Int32)] := H384.iload at_201
    have H386 : Hr x b_at Z EL1 19 262 hq1 [e1, e0, L, sl, hs, ix, t, sc, ac, s2, a2, s1, a1, s0] 204 #[.val (.int p0), .val (.int p1), .val (.int p2), .val (.int p3), .val (.int (2 : Int32)), .val (.ref s0), .val (.ref a1), .val (.ref s1), .val (.ref a2), .val (.ref s2), .val (.ref ac), .val (.ref sc), .val (.ref t), .val (.int (1 : Int32))] [.int (1 : Int32), .int (2 : Int32)] := H385.iconst at_203
    have H387 : Hr x b_at Z EL1 19 262 hq1 [e1, e0, L, sl, hs, ix, t, sc, ac, s2, a2, s1, a1, s0] 207 #[.val (.int p0), .val (.int p1), .val (.int p2), .val (.int p3), .val (.int (2 : Int32)), .val (.ref s0), .val (.ref a1), .val (.ref s1), .val (.ref a2), .val (.ref s2), .val (.ref ac), .val (.ref sc), .val (.ref t), .val (.int (1 : Int32))] [] := H386.icmpF at_204 (XT.ii_lt_f (by decide))
    have H388 : Hr x b_at Z EL1 19 262 hq1 [e1, e0, L, sl, hs, ix, t, sc, ac, s2, a2, s1, a1, s0] 208 #[.val (.int p0), .val (.int p1), .val (.int p2), .val (.int p3), .val (.int (2 : Int32)), .val (.ref s0), .val (.ref a1), .val (.ref s1), .val (.ref a2), .val (.ref s2), .val (.ref ac), .val (.ref sc), .val (.ref t), .val (.int (1 : Int32))] [.int p0] := H387.iloadN at_207
    have H389 : Hr x b_at Z EL1 19 262 hq1 [e1, e0, L, sl, hs, ix, t, sc, ac, s2, a2, s1, a1, s0] 209 #[.val (.int p0), .val (.int p1), .val (.int p2), .val (.int p3), .val (.int (2 : Int32)), .val (.ref s0), .val (.ref a1), .val (.ref s1), .val (.ref a2), .val (.ref s2), .val (.ref ac), .val (.ref sc), .val (.ref t), .val (.int (1 : Int32))] [.int (2 : Int32), .int p0] := H388.iconst at_208
    have H390 : Hr x b_at Z EL1 19 262 hq1 [e1, e0, L, sl, hs, ix, t, sc, ac, s2, a2, s1, a1, s0] 210 #[.val (.int p0), .val (.int p1), .val (.int p2), .val (.int p3), .val (.int (2 : Int32)), .val (.ref s0), .val (.ref a1), .val (.ref s1), .val (.ref a2), .val (.ref s2), .val (.ref ac), .val (.ref sc), .val (.ref t), .val (.int (1 : Int32))] [.int (XT.ushr p0 (2 : Int32))] := H389.iushr at_209
    have H391 : Hr x b_at Z EL1 19 262 hq1 [e1, e0, L, sl, hs, ix, t, sc, ac, s2, a2, s1, a1, s0] 211 #[.val (.int p0), .val (.int p1), .val (.int p2), .val (.int p3), .val (.int (2 : Int32)), .val (.ref s0), .val (.ref a1), .val (.ref s1), .val (.ref a2), .val (.ref s2), .val (.ref ac), .val (.ref sc), .val (.ref t), .val (.int (1 : Int32))] [.int (1 : Int32), .int (XT.ushr p0 (2 : Int32))] := H390.iconst at_210
    have H392 : Hr x b_at Z EL1 19 262 hq1 [e1, e0, L, sl, hs, ix, t, sc, ac, s2, a2, s1, a1, s0] 212 #[.val (.int p0), .val (.int p1), .val (.int p2), .val (.int p3), .val (.int (2 : Int32)), .val (.ref s0), .val (.ref a1), .val (.ref s1), .val (.ref a2), .val (.ref s2), .val (.ref ac), .val (.ref sc), .val (.ref t), .val (.int (1 : Int32))] [.int ((XT.ushr p0 (2 : Int32)) &&& (1 : Int32))] := H391.iand at_211
    by_cases qi : (XT.ushr p0 (2 : Int32)) &&& (1 : Int32) = 0
    · have z392 := qi
      have H393 : Hr x b_at Z EL1 19 262 hq1 [e1, e0, L, sl, hs, ix, t, sc, ac, s2, a2, s1, a1, s0] 223 #[.val (.int p0), .val (.int p1), .val (.int p2), .val (.int p3), .val (.int (2 : Int32)), .val (.ref s0), .val (.ref a1), .val (.ref s1), .val (.ref a2), .val (.ref s2), .val (.ref ac), .val (.ref sc), .val (.ref t), .val (.int (1 : Int32))] [] := H392.ifT at_212 (XT.i0_eq_t qi)
      have Ws0 := Vs01.exa
      have Ws1 := S1.exa
      have Ws2 := Vs21.exa
      have Wsc := Vsc1.exa
      have H394 : Hr x b_at Z EL1 19 262 hq1 [e1, e0, L, sl, hs, ix, t, sc, ac, s2, a2, s1, a1, s0] 225 #[.val (.int p0), .val (.int p1), .val (.int p2), .val (.int p3), .val (.int (2 : Int32)), .val (.ref s0), .val (.ref a1), .val (.ref s1), .val (.ref a2), .val (.ref s2), .val (.ref ac), .val (.ref sc), .val (.ref t), .val (.int (1 : Int32))] [.int (2 : Int32)] := H393.iload at_223
      have H395 : Hr x b_at Z EL1 19 262 hq1 [e1, e0, L, sl, hs, ix, t, sc, ac, s2, a2, s1, a1, s0] 226 #[.val (.int p0), .val (.int p1), .val (.int p2), .val (.int p3), .val (.int (2 : Int32)), .val (.ref s0), .val (.ref a1), .val (.ref s1), .val (.ref a2), .val (.ref s2), .val (.ref ac), .val (.ref sc), .val (.ref t), .val (.int (1 : Int32))] [.int (1 : Int32), .int (2 : Int32)] := H394.iconst at_225
      have H396 : Hr x b_at Z EL1 19 262 hq1 [e1, e0, L, sl, hs, ix, t, sc, ac, s2, a2, s1, a1, s0] 229 #[.val (.int p0), .val (.int p1), .val (.int p2), .val (.int p3), .val (.int (2 : Int32)), .val (.ref s0), .val (.ref a1), .val (.ref s1), .val (.ref a2), .val (.ref s2), .val (.ref ac), .val (.ref sc), .val (.ref t), .val (.int (1 : Int32))] [] := H395.icmpF at_226 (XT.ii_lt_f (by decide))
      have H397 : Hr x b_at Z EL1 19 262 hq1 [e1, e0, L, sl, hs, ix, t, sc, ac, s2, a2, s1, a1, s0] 231 #[.val (.int p0), .val (.int p1), .val (.int p2), .val (.int p3), .val (.int (2 : Int32)), .val (.ref s0), .val (.ref a1), .val (.ref s1), .val (.ref a2), .val (.ref s2), .val (.ref ac), .val (.ref sc), .val (.ref t), .val (.int (1 : Int32))] [.int (1 : Int32)] := H396.iload at_229
      have H398 : Hr x b_at Z EL1 19 262 hq1 [e1, e0, L, sl, hs, ix, t, sc, ac, s2, a2, s1, a1, s0] 234 #[.val (.int p0), .val (.int p1), .val (.int p2), .val (.int p3), .val (.int (2 : Int32)), .val (.ref s0), .val (.ref a1), .val (.ref s1), .val (.ref a2), .val (.ref s2), .val (.ref ac), .val (.ref sc), .val (.ref t), .val (.int (1 : Int32))] [] := H397.ifF at_231 (XT.i0_eq_f (by decide))
      have H399 : Hr x b_at Z EL1 19 262 hq1 [e1, e0, L, sl, hs, ix, t, sc, ac, s2, a2, s1, a1, s0] 236 #[.val (.int p0), .val (.int p1), .val (.int p2), .val (.int p3), .val (.int (2 : Int32)), .val (.ref s0), .val (.ref a1), .val (.ref s1), .val (.ref a2), .val (.ref s2), .val (.ref ac), .val (.ref sc), .val (.ref t), .val (.int (1 : Int32))] [.ref t] := H398.aload at_234
      have H400 : Hr x b_at Z EL1 19 262 hq1 [e1, e0, L, sl, hs, ix, t, sc, ac, s2, a2, s1, a1, s0] 237 #[.val (.int p0), .val (.int p1), .val (.int p2), .val (.int p3), .val (.int (2 : Int32)), .val (.ref s0), .val (.ref a1), .val (.ref s1), .val (.ref a2), .val (.ref s2), .val (.ref ac), .val (.ref sc), .val (.ref t), .val (.int (1 : Int32))] [.int (0 : Int32), .ref t] := H399.iconst at_236
      obtain ⟨_, hy0, _, ⟨rfl, rfl, ey0⟩, Ky0, H401⟩ := H400.callV (argsL := [.int (0 : Int32)]) (rest := []) (Wr := 0) (a := t) (ct_ntnm hw x.l x.nar x.kn hnar hq1 t L sl hs ix 2 (q1 :: (q0 :: [])) (s1 :: (s0 :: [])) T2 D e1 [e1] ((([] : List Addr) ++ [s0]) ++ [s1]) P2 0 (by simp) (by simp) Ws0) sub0 T2.1.1 (w215 hw) (w216 hw) (w218 hw) (w218 hw) (w217 hw) (w46 hw) (w219 hw) at_237 pd_ntnm rfl (hf := by first | decide | (simp [b_at, Bx.R]; done) | (simp [b_at, Bx.R]; omega)) (hl := by first | decide | (simp [b_at, Bx.R]; done) | (simp [b_at, Bx.R]; omega)) (hc := by first | decide | (simp [b_at, Bx.R]; done) | (simp [b_at, Bx.R]; omega)) (hs := by first | decide | (simp [b_at, Bx.R]; done) | (simp [b_at, Bx.R]; omega))
      rw [ey0] at H401
      have H401 : Hr x b_at Z EL1 19 262 hq1 [e1, e0, L, sl, hs, ix, t, sc, ac, s2, a2, s1, a1, s0] 240 #[.val (.int p0), .val (.int p1), .val (.int p2), .val (.int p3), .val (.int (2 : Int32)), .val (.ref s0), .val (.ref a1), .val (.ref s1), .val (.ref a2), .val (.ref s2), .val (.ref ac), .val (.ref sc), .val (.ref t), .val (.int (1 : Int32))] [.ref s0] := H401
      have H402 : Hr x b_at Z EL1 19 262 hq1 [e1, e0, L, sl, hs, ix, t, sc, ac, s2, a2, s1, a1, s0] 242 #[.val (.int p0), .val (.int p1), .val (.int p2), .val (.int p3), .val (.int (2 : Int32)), .val (.ref s0), .val (.ref a1), .val (.ref s1), .val (.ref a2), .val (.ref s2), .val (.ref ac), .val (.ref sc), .val (.ref t), .val (.int (1 : Int32))] [.ref s0, .ref s0] := H401.aload at_240
      have H403 : Hr x b_at Z EL1 19 262 hq1 [e1, e0, L, sl, hs, ix, t, sc, ac, s2, a2, s1, a1, s0] 245 #[.val (.int p0), .val (.int p1), .val (.int p2), .val (.int p3), .val (.int (2 : Int32)), .val (.ref s0), .val (.ref a1), .val (.ref s1), .val (.ref a2), .val (.ref s2), .val (.ref ac), .val (.ref sc), .val (.ref t), .val (.int (1 : Int32))] [] := H402.acmpF at_242 (by simp [XT.acmp])
      have H404 : Hr x b_at Z EL1 19 262 hq1 [e1, e0, L, sl, hs, ix, t, sc, ac, s2, a2, s1, a1, s0] 246 #[.val (.int p0), .val (.int p1), .val (.int p2), .val (.int p3), .val (.int (2 : Int32)), .val (.ref s0), .val (.ref a1), .val (.ref s1), .val (.ref a2), .val (.ref s2), .val (.ref ac), .val (.ref sc), .val (.ref t), .val (.int (1 : Int32))] [.int (1 : Int32)] := H403.iconst at_245
      have H405 : Hr x b_at Z EL1 19 262 hq1 [e1, e0, L, sl, hs, ix, t, sc, ac, s2, a2, s1, a1, s0] 250 #[.val (.int p0), .val (.int p1), .val (.int p2), .val (.int p3), .val (.int (2 : Int32)), .val (.ref s0), .val (.ref a1), .val (.ref s1), .val (.ref a2), .val (.ref s2), .val (.ref ac), .val (.ref sc), .val (.ref t), .val (.int (1 : Int32))] [.int (1 : Int32)] := H404.goto at_246
      have H406 : Hr x b_at Z EL1 19 262 hq1 [e1, e0, L, sl, hs, ix, t, sc, ac, s2, a2, s1, a1, s0] 252 #[.val (.int p0), .val (.int p1), .val (.int p2), .val (.int p3), .val (.int (2 : Int32)), .val (.ref s0), .val (.ref a1), .val (.ref s1), .val (.ref a2), .val (.ref s2), .val (.ref ac), .val (.ref sc), .val (.ref t), .val (.int (1 : Int32))] [] := H405.istore at_250
      have H407 : Hr x b_at Z EL1 19 262 hq1 [e1, e0, L, sl, hs, ix, t, sc, ac, s2, a2, s1, a1, s0] 254 #[.val (.int p0), .val (.int p1), .val (.int p2), .val (.int p3), .val (.int (2 : Int32)), .val (.ref s0), .val (.ref a1), .val (.ref s1), .val (.ref a2), .val (.ref s2), .val (.ref ac), .val (.ref sc), .val (.ref t), .val (.int (1 : Int32))] [.int (2 : Int32)] := H406.iload at_252
      have H408 : Hr x b_at Z EL1 19 262 hq1 [e1, e0, L, sl, hs, ix, t, sc, ac, s2, a2, s1, a1, s0] 255 #[.val (.int p0), .val (.int p1), .val (.int p2), .val (.int p3), .val (.int (2 : Int32)), .val (.ref s0), .val (.ref a1), .val (.ref s1), .val (.ref a2), .val (.ref s2), .val (.ref ac), .val (.ref sc), .val (.ref t), .val (.int (1 : Int32))] [.int (2 : Int32), .int (2 : Int32)] := H407.iconst at_254
      have H409 : Hr x b_at Z EL1 19 262 hq1 [e1, e0, L, sl, hs, ix, t, sc, ac, s2, a2, s1, a1, s0] 258 #[.val (.int p0), .val (.int p1), .val (.int p2), .val (.int p3), .val (.int (2 : Int32)), .val (.ref s0), .val (.ref a1), .val (.ref s1), .val (.ref a2), .val (.ref s2), .val (.ref ac), .val (.ref sc), .val (.ref t), .val (.int (1 : Int32))] [] := H408.icmpF at_255 (XT.ii_lt_f (by decide))
      have H410 : Hr x b_at Z EL1 19 262 hq1 [e1, e0, L, sl, hs, ix, t, sc, ac, s2, a2, s1, a1, s0] 260 #[.val (.int p0), .val (.int p1), .val (.int p2), .val (.int p3), .val (.int (2 : Int32)), .val (.ref s0), .val (.ref a1), .val (.ref s1), .val (.ref a2), .val (.ref s2), .val (.ref ac), .val (.ref sc), .val (.ref t), .val (.int (1 : Int32))] [.int (1 : Int32)] := H409.iload at_258
      have H411 : Hr x b_at Z EL1 19 262 hq1 [e1, e0, L, sl, hs, ix, t, sc, ac, s2, a2, s1, a1, s0] 263 #[.val (.int p0), .val (.int p1), .val (.int p2), .val (.int p3), .val (.int (2 : Int32)), .val (.ref s0), .val (.ref a1), .val (.ref s1), .val (.ref a2), .val (.ref s2), .val (.ref ac), .val (.ref sc), .val (.ref t), .val (.int (1 : Int32))] [] := H410.ifF at_260 (XT.i0_eq_f (by decide))
      have H412 : Hr x b_at Z EL1 19 262 hq1 [e1, e0, L, sl, hs, ix, t, sc, ac, s2, a2, s1, a1, s0] 265 #[.val (.int p0), .val (.int p1), .val (.int p2), .val (.int p3), .val (.int (2 : Int32)), .val (.ref s0), .val (.ref a1), .val (.ref s1), .val (.ref a2), .val (.ref s2), .val (.ref ac), .val (.ref sc), .val (.ref t), .val (.int (1 : Int32))] [.ref t] := H411.aload at_263
      have H413 : Hr x b_at Z EL1 19 262 hq1 [e1, e0, L, sl, hs, ix, t, sc, ac, s2, a2, s1, a1, s0] 266 #[.val (.int p0), .val (.int p1), .val (.int p2), .val (.int p3), .val (.int (2 : Int32)), .val (.ref s0), .val (.ref a1), .val (.ref s1), .val (.ref a2), .val (.ref s2), .val (.ref ac), .val (.ref sc), .val (.ref t), .val (.int (1 : Int32))] [.int (1 : Int32), .ref t] := H412.iconst at_265
      obtain ⟨_, hy1, _, ⟨rfl, rfl, ey1⟩, Ky1, H414⟩ := H413.callV (argsL := [.int (1 : Int32)]) (rest := []) (Wr := 0) (a := t) (ct_ntnm hw x.l x.nar x.kn hnar hq1 t L sl hs ix 2 (q1 :: (q0 :: [])) (s1 :: (s0 :: [])) T2 D e1 [e1] ((([] : List Addr) ++ [s0]) ++ [s1]) P2 1 (by simp) (by simp) Ws1) sub0 T2.1.1 (w215 hw) (w216 hw) (w218 hw) (w218 hw) (w217 hw) (w46 hw) (w219 hw) at_266 pd_ntnm rfl (hf := by first | decide | (simp [b_at, Bx.R]; done) | (simp [b_at, Bx.R]; omega)) (hl := by first | decide | (simp [b_at, Bx.R]; done) | (simp [b_at, Bx.R]; omega)) (hc := by first | decide | (simp [b_at, Bx.R]; done) | (simp [b_at, Bx.R]; omega)) (hs := by first | decide | (simp [b_at, Bx.R]; done) | (simp [b_at, Bx.R]; omega))
      rw [ey1] at H414
      have H414 : Hr x b_at Z EL1 19 262 hq1 [e1, e0, L, sl, hs, ix, t, sc, ac, s2, a2, s1, a1, s0] 269 #[.val (.int p0), .val (.int p1), .val (.int p2), .val (.int p3), .val (.int (2 : Int32)), .val (.ref s0), .val (.ref a1), .val (.ref s1), .val (.ref a2), .val (.ref s2), .val (.ref ac), .val (.ref sc), .val (.ref t), .val (.int (1 : Int32))] [.ref s1] := H414
      have H415 : Hr x b_at Z EL1 19 262 hq1 [e1, e0, L, sl, hs, ix, t, sc, ac, s2, a2, s1, a1, s0] 271 #[.val (.int p0), .val (.int p1), .val (.int p2), .val (.int p3), .val (.int (2 : Int32)), .val (.ref s0), .val (.ref a1), .val (.ref s1), .val (.ref a2), .val (.ref s2), .val (.ref ac), .val (.ref sc), .val (.ref t), .val (.int (1 : Int32))] [.ref s1, .ref s1] := H414.aload at_269
      have H416 : Hr x b_at Z EL1 19 262 hq1 [e1, e0, L, sl, hs, ix, t, sc, ac, s2, a2, s1, a1, s0] 274 #[.val (.int p0), .val (.int p1), .val (.int p2), .val (.int p3), .val (.int (2 : Int32)), .val (.ref s0), .val (.ref a1), .val (.ref s1), .val (.ref a2), .val (.ref s2), .val (.ref ac), .val (.ref sc), .val (.ref t), .val (.int (1 : Int32))] [] := H415.acmpF at_271 (by simp [XT.acmp])
      have H417 : Hr x b_at Z EL1 19 262 hq1 [e1, e0, L, sl, hs, ix, t, sc, ac, s2, a2, s1, a1, s0] 275 #[.val (.int p0), .val (.int p1), .val (.int p2), .val (.int p3), .val (.int (2 : Int32)), .val (.ref s0), .val (.ref a1), .val (.ref s1), .val (.ref a2), .val (.ref s2), .val (.ref ac), .val (.ref sc), .val (.ref t), .val (.int (1 : Int32))] [.int (1 : Int32)] := H416.iconst at_274
      have H418 : Hr x b_at Z EL1 19 262 hq1 [e1, e0, L, sl, hs, ix, t, sc, ac, s2, a2, s1, a1, s0] 279 #[.val (.int p0), .val (.int p1), .val (.int p2), .val (.int p3), .val (.int (2 : Int32)), .val (.ref s0), .val (.ref a1), .val (.ref s1), .val (.ref a2), .val (.ref s2), .val (.ref ac), .val (.ref sc), .val (.ref t), .val (.int (1 : Int32))] [.int (1 : Int32)] := H417.goto at_275
      have H419 : Hr x b_at Z EL1 19 262 hq1 [e1, e0, L, sl, hs, ix, t, sc, ac, s2, a2, s1, a1, s0] 281 #[.val (.int p0), .val (.int p1), .val (.int p2), .val (.int p3), .val (.int (2 : Int32)), .val (.ref s0), .val (.ref a1), .val (.ref s1), .val (.ref a2), .val (.ref s2), .val (.ref ac), .val (.ref sc), .val (.ref t), .val (.int (1 : Int32))] [] := H418.istore at_279
      have H420 : Hr x b_at Z EL1 19 262 hq1 [e1, e0, L, sl, hs, ix, t, sc, ac, s2, a2, s1, a1, s0] 283 #[.val (.int p0), .val (.int p1), .val (.int p2), .val (.int p3), .val (.int (2 : Int32)), .val (.ref s0), .val (.ref a1), .val (.ref s1), .val (.ref a2), .val (.ref s2), .val (.ref ac), .val (.ref sc), .val (.ref t), .val (.int (1 : Int32))] [.int (2 : Int32)] := H419.iload at_281
      have H421 : Hr x b_at Z EL1 19 262 hq1 [e1, e0, L, sl, hs, ix, t, sc, ac, s2, a2, s1, a1, s0] 284 #[.val (.int p0), .val (.int p1), .val (.int p2), .val (.int p3), .val (.int (2 : Int32)), .val (.ref s0), .val (.ref a1), .val (.ref s1), .val (.ref a2), .val (.ref s2), .val (.ref ac), .val (.ref sc), .val (.ref t), .val (.int (1 : Int32))] [.int (3 : Int32), .int (2 : Int32)] := H420.iconst at_283
      have H422 : Hr x b_at Z EL1 19 262 hq1 [e1, e0, L, sl, hs, ix, t, sc, ac, s2, a2, s1, a1, s0] 310 #[.val (.int p0), .val (.int p1), .val (.int p2), .val (.int p3), .val (.int (2 : Int32)), .val (.ref s0), .val (.ref a1), .val (.ref s1), .val (.ref a2), .val (.ref s2), .val (.ref ac), .val (.ref sc), .val (.ref t), .val (.int (1 : Int32))] [] := H421.icmpT at_284 (XT.ii_lt_t (by decide))
      have H423 : Hr x b_at Z EL1 19 262 hq1 [e1, e0, L, sl, hs, ix, t, sc, ac, s2, a2, s1, a1, s0] 312 #[.val (.int p0), .val (.int p1), .val (.int p2), .val (.int p3), .val (.int (2 : Int32)), .val (.ref s0), .val (.ref a1), .val (.ref s1), .val (.ref a2), .val (.ref s2), .val (.ref ac), .val (.ref sc), .val (.ref t), .val (.int (1 : Int32))] [.int (1 : Int32)] := H422.iload at_310
      exact H423.finZ at_312 (t := .boolean) (by first | rfl | decide) ⟨rfl, rfl⟩ sub0
    · have z423 := qi
      have H424 : Hr x b_at Z EL1 19 262 hq1 [e1, e0, L, sl, hs, ix, t, sc, ac, s2, a2, s1, a1, s0] 215 #[.val (.int p0), .val (.int p1), .val (.int p2), .val (.int p3), .val (.int (2 : Int32)), .val (.ref s0), .val (.ref a1), .val (.ref s1), .val (.ref a2), .val (.ref s2), .val (.ref ac), .val (.ref sc), .val (.ref t), .val (.int (1 : Int32))] [] := H392.ifF at_212 (XT.i0_eq_f qi)
      have H425 : Hr x b_at Z EL1 19 262 hq1 [e1, e0, L, sl, hs, ix, t, sc, ac, s2, a2, s1, a1, s0] 217 #[.val (.int p0), .val (.int p1), .val (.int p2), .val (.int p3), .val (.int (2 : Int32)), .val (.ref s0), .val (.ref a1), .val (.ref s1), .val (.ref a2), .val (.ref s2), .val (.ref ac), .val (.ref sc), .val (.ref t), .val (.int (1 : Int32))] [.ref t] := H424.aload at_215
      have H426 : Hr x b_at Z EL1 19 262 hq1 [e1, e0, L, sl, hs, ix, t, sc, ac, s2, a2, s1, a1, s0] 219 #[.val (.int p0), .val (.int p1), .val (.int p2), .val (.int p3), .val (.int (2 : Int32)), .val (.ref s0), .val (.ref a1), .val (.ref s1), .val (.ref a2), .val (.ref s2), .val (.ref ac), .val (.ref sc), .val (.ref t), .val (.int (1 : Int32))] [.ref sc, .ref t] := H425.aload at_217
      have hzs : ∀ z ∈ (s1 :: (s0 :: [])), SG Z hq1 z ∧ z ≠ sc := fun z hz => by simp only [List.mem_cons, List.not_mem_nil, or_false] at hz; rcases hz with rfl | rfl; exact ⟨S1, nes1sc⟩; exact ⟨Vs01, nes0sc⟩
      obtain ⟨_, hi, _, ⟨ri, rfl, rfl, Ti, Si⟩, Ki, H427⟩ := H426.callV (argsL := [.ref sc]) (rest := []) (Wr := 0) (a := t) (ct_ntio hw x.l x.nar x.kn hnar hq1 t L sl hs ix 2 (q1 :: (q0 :: [])) (s1 :: (s0 :: [])) T2 sc Vsc1 (by simp) hzs cz O hcz) (by simp) T2.1.1 (w202 hw) (w203 hw) (w205 hw) (w205 hw) (w204 hw) (w46 hw) (w206 hw) at_219 pd_ntio rfl (hf := by first | decide | (simp [b_at, Bx.R]; done) | (simp [b_at, Bx.R]; omega)) (hl := by first | decide | (simp [b_at, Bx.R]; done) | (simp [b_at, Bx.R]; omega)) (hc := by first | decide | (simp [b_at, Bx.R]; done) | (simp [b_at, Bx.R]; omega)) (hs := by first | decide | (simp [b_at, Bx.R]; done) | (simp [b_at, Bx.R]; omega))
      have H427 : Hr x b_at Z EL1 19 262 hi [e1, e0, L, sl, hs, ix, t, sc, ac, s2, a2, s1, a1, s0] 222 #[.val (.int p0), .val (.int p1), .val (.int p2), .val (.int p3), .val (.int (2 : Int32)), .val (.ref s0), .val (.ref a1), .val (.ref s1), .val (.ref a2), .val (.ref s2), .val (.ref ac), .val (.ref sc), .val (.ref t), .val (.int (1 : Int32))] [.int ri] := H427
      have nLc : L ≠ sc := Ne.symm (Vsc1.exa.ne P2.1.choose_spec.1 (by decide))
      have nLs : L ≠ sl := exa_neAr P2.1.choose_spec.1 T2.2.1.choose_spec.1.ar (w52 hw)
      have ned : ∀ z ∈ [e1], z ∉ [sc, sl] := fun z hz => by
        cases List.mem_singleton.mp hz
        rcases P2.2 with ⟨q, _⟩ | ⟨_, _, G⟩
        · simp at q
        · exact ninS (Ne.symm (exa_neAr Vsc1.exa G.ar (w10 hw))) (ninS (Ne.symm ((T2.2.1.choose_spec.1.ar).neTy G.ar (by decide))) nin0)
      have Pi := P2.keep Ki (ninS nLc (ninS nLs nin0)) ned
      have Ws0 := Vs01.exa.keep Ki
      have Ws1 := S1.exa.keep Ki
      have Ws2 := Vs21.exa.keep Ki
      have Wsc := Vsc1.exa.keep Ki
      have H428 : Hr x b_at Z EL1 19 262 hi [e1, e0, L, sl, hs, ix, t, sc, ac, s2, a2, s1, a1, s0] 223 #[.val (.int p0), .val (.int p1), .val (.int p2), .val (.int p3), .val (.int (2 : Int32)), .val (.ref s0), .val (.ref a1), .val (.ref s1), .val (.ref a2), .val (.ref s2), .val (.ref ac), .val (.ref sc), .val (.ref t), .val (.int (1 : Int32))] [] := H427.pop at_222
      have H429 : Hr x b_at Z EL1 19 262 hi [e1, e0, L, sl, hs, ix, t, sc, ac, s2, a2, s1, a1, s0] 225 #[.val (.int p0), .val (.int p1), .val (.int p2), .val (.int p3), .val (.int (2 : Int32)), .val (.ref s0), .val (.ref a1), .val (.ref s1), .val (.ref a2), .val (.ref s2), .val (.ref ac), .val (.ref sc), .val (.ref t), .val (.int (1 : Int32))] [.int (2 : Int32)] := H428.iload at_223
      have H430 : Hr x b_at Z EL1 19 262 hi [e1, e0, L, sl, hs, ix, t, sc, ac, s2, a2, s1, a1, s0] 226 #[.val (.int p0), .val (.int p1), .val (.int p2), .val (.int p3), .val (.int (2 : Int32)), .val (.ref s0), .val (.ref a1), .val (.ref s1), .val (.ref a2), .val (.ref s2), .val (.ref ac), .val (.ref sc), .val (.ref t), .val (.int (1 : Int32))] [.int (1 : Int32), .int (2 : Int32)] := H429.iconst at_225
      have H431 : Hr x b_at Z EL1 19 262 hi [e1, e0, L, sl, hs, ix, t, sc, ac, s2, a2, s1, a1, s0] 229 #[.val (.int p0), .val (.int p1), .val (.int p2), .val (.int p3), .val (.int (2 : Int32)), .val (.ref s0), .val (.ref a1), .val (.ref s1), .val (.ref a2), .val (.ref s2), .val (.ref ac), .val (.ref sc), .val (.ref t), .val (.int (1 : Int32))] [] := H430.icmpF at_226 (XT.ii_lt_f (by decide))
      have H432 : Hr x b_at Z EL1 19 262 hi [e1, e0, L, sl, hs, ix, t, sc, ac, s2, a2, s1, a1, s0] 231 #[.val (.int p0), .val (.int p1), .val (.int p2), .val (.int p3), .val (.int (2 : Int32)), .val (.ref s0), .val (.ref a1), .val (.ref s1), .val (.ref a2), .val (.ref s2), .val (.ref ac), .val (.ref sc), .val (.ref t), .val (.int (1 : Int32))] [.int (1 : Int32)] := H431.iload at_229
      have H433 : Hr x b_at Z EL1 19 262 hi [e1, e0, L, sl, hs, ix, t, sc, ac, s2, a2, s1, a1, s0] 234 #[.val (.int p0), .val (.int p1), .val (.int p2), .val (.int p3), .val (.int (2 : Int32)), .val (.ref s0), .val (.ref a1), .val (.ref s1), .val (.ref a2), .val (.ref s2), .val (.ref ac), .val (.ref sc), .val (.ref t), .val (.int (1 : Int32))] [] := H432.ifF at_231 (XT.i0_eq_f (by decide))
      have H434 : Hr x b_at Z EL1 19 262 hi [e1, e0, L, sl, hs, ix, t, sc, ac, s2, a2, s1, a1, s0] 236 #[.val (.int p0), .val (.int p1), .val (.int p2), .val (.int p3), .val (.int (2 : Int32)), .val (.ref s0), .val (.ref a1), .val (.ref s1), .val (.ref a2), .val (.ref s2), .val (.ref ac), .val (.ref sc), .val (.ref t), .val (.int (1 : Int32))] [.ref t] := H433.aload at_234
      have H435 : Hr x b_at Z EL1 19 262 hi [e1, e0, L, sl, hs, ix, t, sc, ac, s2, a2, s1, a1, s0] 237 #[.val (.int p0), .val (.int p1), .val (.int p2), .val (.int p3), .val (.int (2 : Int32)), .val (.ref s0), .val (.ref a1), .val (.ref s1), .val (.ref a2), .val (.ref s2), .val (.ref ac), .val (.ref sc), .val (.ref t), .val (.int (1 : Int32))] [.int (0 : Int32), .ref t] := H434.iconst at_236
      obtain ⟨_, hy0, _, ⟨rfl, rfl, ey0⟩, Ky0, H436⟩ := H435.callV (argsL := [.int (0 : Int32)]) (rest := []) (Wr := 0) (a := t) (ct_ntnm hw x.l x.nar x.kn hnar hi t L sl hs ix 2 (q1 :: (q0 :: [])) (sc :: (s1 :: (s0 :: []))) Ti D e1 [e1] ((([] : List Addr) ++ [s0]) ++ [s1]) Pi 0 (by simp) (by simp) Ws0) sub0 Ti.1.1 (w215 hw) (w216 hw) (w218 hw) (w218 hw) (w217 hw) (w46 hw) (w219 hw) at_237 pd_ntnm rfl (hf := by first | decide | (simp [b_at, Bx.R]; done) | (simp [b_at, Bx.R]; omega)) (hl := by first | decide | (simp [b_at, Bx.R]; done) | (simp [b_at, Bx.R]; omega)) (hc := by first | decide | (simp [b_at, Bx.R]; done) | (simp [b_at, Bx.R]; omega)) (hs := by first | decide | (simp [b_at, Bx.R]; done) | (simp [b_at, Bx.R]; omega))
      rw [ey0] at H436
      have H436 : Hr x b_at Z EL1 19 262 hi [e1, e0, L, sl, hs, ix, t, sc, ac, s2, a2, s1, a1, s0] 240 #[.val (.int p0), .val (.int p1), .val (.int p2), .val (.int p3), .val (.int (2 : Int32)), .val (.ref s0), .val (.ref a1), .val (.ref s1), .val (.ref a2), .val (.ref s2), .val (.ref ac), .val (.ref sc), .val (.ref t), .val (.int (1 : Int32))] [.ref s0] := H436
      have H437 : Hr x b_at Z EL1 19 262 hi [e1, e0, L, sl, hs, ix, t, sc, ac, s2, a2, s1, a1, s0] 242 #[.val (.int p0), .val (.int p1), .val (.int p2), .val (.int p3), .val (.int (2 : Int32)), .val (.ref s0), .val (.ref a1), .val (.ref s1), .val (.ref a2), .val (.ref s2), .val (.ref ac), .val (.ref sc), .val (.ref t), .val (.int (1 : Int32))] [.ref s0, .ref s0] := H436.aload at_240
      have H438 : Hr x b_at Z EL1 19 262 hi [e1, e0, L, sl, hs, ix, t, sc, ac, s2, a2, s1, a1, s0] 245 #[.val (.int p0), .val (.int p1), .val (.int p2), .val (.int p3), .val (.int (2 : Int32)), .val (.ref s0), .val (.ref a1), .val (.ref s1), .val (.ref a2), .val (.ref s2), .val (.ref ac), .val (.ref sc), .val (.ref t), .val (.int (1 : Int32))] [] := H437.acmpF at_242 (by simp [XT.acmp])
      have H439 : Hr x b_at Z EL1 19 262 hi [e1, e0, L, sl, hs, ix, t, sc, ac, s2, a2, s1, a1, s0] 246 #[.val (.int p0), .val (.int p1), .val (.int p2), .val (.int p3), .val (.int (2 : Int32)), .val (.ref s0), .val (.ref a1), .val (.ref s1), .val (.ref a2), .val (.ref s2), .val (.ref ac), .val (.ref sc), .val (.ref t), .val (.int (1 : Int32))] [.int (1 : Int32)] := H438.iconst at_245
      have H440 : Hr x b_at Z EL1 19 262 hi [e1, e0, L, sl, hs, ix, t, sc, ac, s2, a2, s1, a1, s0] 250 #[.val (.int p0), .val (.int p1), .val (.int p2), .val (.int p3), .val (.int (2 : Int32)), .val (.ref s0), .val (.ref a1), .val (.ref s1), .val (.ref a2), .val (.ref s2), .val (.ref ac), .val (.ref sc), .val (.ref t), .val (.int (1 : Int32))] [.int (1 : Int32)] := H439.goto at_246
      have H441 : Hr x b_at Z EL1 19 262 hi [e1, e0, L, sl, hs, ix, t, sc, ac, s2, a2, s1, a1, s0] 252 #[.val (.int p0), .val (.int p1), .val (.int p2), .val (.int p3), .val (.int (2 : Int32)), .val (.ref s0), .val (.ref a1), .val (.ref s1), .val (.ref a2), .val (.ref s2), .val (.ref ac), .val (.ref sc), .val (.ref t), .val (.int (1 : Int32))] [] := H440.istore at_250
      have H442 : Hr x b_at Z EL1 19 262 hi [e1, e0, L, sl, hs, ix, t, sc, ac, s2, a2, s1, a1, s0] 254 #[.val (.int p0), .val (.int p1), .val (.int p2), .val (.int p3), .val (.int (2 : Int32)), .val (.ref s0), .val (.ref a1), .val (.ref s1), .val (.ref a2), .val (.ref s2), .val (.ref ac), .val (.ref sc), .val (.ref t), .val (.int (1 : Int32))] [.int (2 : Int32)] := H441.iload at_252
      have H443 : Hr x b_at Z EL1 19 262 hi [e1, e0, L, sl, hs, ix, t, sc, ac, s2, a2, s1, a1, s0] 255 #[.val (.int p0), .val (.int p1), .val (.int p2), .val (.int p3), .val (.int (2 : Int32)), .val (.ref s0), .val (.ref a1), .val (.ref s1), .val (.ref a2), .val (.ref s2), .val (.ref ac), .val (.ref sc), .val (.ref t), .val (.int (1 : Int32))] [.int (2 : Int32), .int (2 : Int32)] := H442.iconst at_254
      have H444 : Hr x b_at Z EL1 19 262 hi [e1, e0, L, sl, hs, ix, t, sc, ac, s2, a2, s1, a1, s0] 258 #[.val (.int p0), .val (.int p1), .val (.int p2), .val (.int p3), .val (.int (2 : Int32)), .val (.ref s0), .val (.ref a1), .val (.ref s1), .val (.ref a2), .val (.ref s2), .val (.ref ac), .val (.ref sc), .val (.ref t), .val (.int (1 : Int32))] [] := H443.icmpF at_255 (XT.ii_lt_f (by decide))
      have H445 : Hr x b_at Z EL1 19 262 hi [e1, e0, L, sl, hs, ix, t, sc, ac, s2, a2, s1, a1, s0] 260 #[.val (.int p0), .val (.int p1), .val (.int p2), .val (.int p3), .val (.int (2 : Int32)), .val (.ref s0), .val (.ref a1), .val (.ref s1), .val (.ref a2), .val (.ref s2), .val (.ref ac), .val (.ref sc), .val (.ref t), .val (.int (1 : Int32))] [.int (1 : Int32)] := H444.iload at_258
      have H446 : Hr x b_at Z EL1 19 262 hi [e1, e0, L, sl, hs, ix, t, sc, ac, s2, a2, s1, a1, s0] 263 #[.val (.int p0), .val (.int p1), .val (.int p2), .val (.int p3), .val (.int (2 : Int32)), .val (.ref s0), .val (.ref a1), .val (.ref s1), .val (.ref a2), .val (.ref s2), .val (.ref ac), .val (.ref sc), .val (.ref t), .val (.int (1 : Int32))] [] := H445.ifF at_260 (XT.i0_eq_f (by decide))
      have H447 : Hr x b_at Z EL1 19 262 hi [e1, e0, L, sl, hs, ix, t, sc, ac, s2, a2, s1, a1, s0] 265 #[.val (.int p0), .val (.int p1), .val (.int p2), .val (.int p3), .val (.int (2 : Int32)), .val (.ref s0), .val (.ref a1), .val (.ref s1), .val (.ref a2), .val (.ref s2), .val (.ref ac), .val (.ref sc), .val (.ref t), .val (.int (1 : Int32))] [.ref t] := H446.aload at_263
      have H448 : Hr x b_at Z EL1 19 262 hi [e1, e0, L, sl, hs, ix, t, sc, ac, s2, a2, s1, a1, s0] 266 #[.val (.int p0), .val (.int p1), .val (.int p2), .val (.int p3), .val (.int (2 : Int32)), .val (.ref s0), .val (.ref a1), .val (.ref s1), .val (.ref a2), .val (.ref s2), .val (.ref ac), .val (.ref sc), .val (.ref t), .val (.int (1 : Int32))] [.int (1 : Int32), .ref t] := H447.iconst at_265
      obtain ⟨_, hy1, _, ⟨rfl, rfl, ey1⟩, Ky1, H449⟩ := H448.callV (argsL := [.int (1 : Int32)]) (rest := []) (Wr := 0) (a := t) (ct_ntnm hw x.l x.nar x.kn hnar hi t L sl hs ix 2 (q1 :: (q0 :: [])) (sc :: (s1 :: (s0 :: []))) Ti D e1 [e1] ((([] : List Addr) ++ [s0]) ++ [s1]) Pi 1 (by simp) (by simp) Ws1) sub0 Ti.1.1 (w215 hw) (w216 hw) (w218 hw) (w218 hw) (w217 hw) (w46 hw) (w219 hw) at_266 pd_ntnm rfl (hf := by first | decide | (simp [b_at, Bx.R]; done) | (simp [b_at, Bx.R]; omega)) (hl := by first | decide | (simp [b_at, Bx.R]; done) | (simp [b_at, Bx.R]; omega)) (hc := by first | decide | (simp [b_at, Bx.R]; done) | (simp [b_at, Bx.R]; omega)) (hs := by first | decide | (simp [b_at, Bx.R]; done) | (simp [b_at, Bx.R]; omega))
      rw [ey1] at H449
      have H449 : Hr x b_at Z EL1 19 262 hi [e1, e0, L, sl, hs, ix, t, sc, ac, s2, a2, s1, a1, s0] 269 #[.val (.int p0), .val (.int p1), .val (.int p2), .val (.int p3), .val (.int (2 : Int32)), .val (.ref s0), .val (.ref a1), .val (.ref s1), .val (.ref a2), .val (.ref s2), .val (.ref ac), .val (.ref sc), .val (.ref t), .val (.int (1 : Int32))] [.ref s1] := H449
      have H450 : Hr x b_at Z EL1 19 262 hi [e1, e0, L, sl, hs, ix, t, sc, ac, s2, a2, s1, a1, s0] 271 #[.val (.int p0), .val (.int p1), .val (.int p2), .val (.int p3), .val (.int (2 : Int32)), .val (.ref s0), .val (.ref a1), .val (.ref s1), .val (.ref a2), .val (.ref s2), .val (.ref ac), .val (.ref sc), .val (.ref t), .val (.int (1 : Int32))] [.ref s1, .ref s1] := H449.aload at_269
      have H451 : Hr x b_at Z EL1 19 262 hi [e1, e0, L, sl, hs, ix, t, sc, ac, s2, a2, s1, a1, s0] 274 #[.val (.int p0), .val (.int p1), .val (.int p2), .val (.int p3), .val (.int (2 : Int32)), .val (.ref s0), .val (.ref a1), .val (.ref s1), .val (.ref a2), .val (.ref s2), .val (.ref ac), .val (.ref sc), .val (.ref t), .val (.int (1 : Int32))] [] := H450.acmpF at_271 (by simp [XT.acmp])
      have H452 : Hr x b_at Z EL1 19 262 hi [e1, e0, L, sl, hs, ix, t, sc, ac, s2, a2, s1, a1, s0] 275 #[.val (.int p0), .val (.int p1), .val (.int p2), .val (.int p3), .val (.int (2 : Int32)), .val (.ref s0), .val (.ref a1), .val (.ref s1), .val (.ref a2), .val (.ref s2), .val (.ref ac), .val (.ref sc), .val (.ref t), .val (.int (1 : Int32))] [.int (1 : Int32)] := H451.iconst at_274
      have H453 : Hr x b_at Z EL1 19 262 hi [e1, e0, L, sl, hs, ix, t, sc, ac, s2, a2, s1, a1, s0] 279 #[.val (.int p0), .val (.int p1), .val (.int p2), .val (.int p3), .val (.int (2 : Int32)), .val (.ref s0), .val (.ref a1), .val (.ref s1), .val (.ref a2), .val (.ref s2), .val (.ref ac), .val (.ref sc), .val (.ref t), .val (.int (1 : Int32))] [.int (1 : Int32)] := H452.goto at_275
      have H454 : Hr x b_at Z EL1 19 262 hi [e1, e0, L, sl, hs, ix, t, sc, ac, s2, a2, s1, a1, s0] 281 #[.val (.int p0), .val (.int p1), .val (.int p2), .val (.int p3), .val (.int (2 : Int32)), .val (.ref s0), .val (.ref a1), .val (.ref s1), .val (.ref a2), .val (.ref s2), .val (.ref ac), .val (.ref sc), .val (.ref t), .val (.int (1 : Int32))] [] := H453.istore at_279
      have H455 : Hr x b_at Z EL1 19 262 hi [e1, e0, L, sl, hs, ix, t, sc, ac, s2, a2, s1, a1, s0] 283 #[.val (.int p0), .val (.int p1), .val (.int p2), .val (.int p3), .val (.int (2 : Int32)), .val (.ref s0), .val (.ref a1), .val (.ref s1), .val (.ref a2), .val (.ref s2), .val (.ref ac), .val (.ref sc), .val (.ref t), .val (.int (1 : Int32))] [.int (2 : Int32)] := H454.iload at_281
      have H456 : Hr x b_at Z EL1 19 262 hi [e1, e0, L, sl, hs, ix, t, sc, ac, s2, a2, s1, a1, s0] 284 #[.val (.int p0), .val (.int p1), .val (.int p2), .val (.int p3), .val (.int (2 : Int32)), .val (.ref s0), .val (.ref a1), .val (.ref s1), .val (.ref a2), .val (.ref s2), .val (.ref ac), .val (.ref sc), .val (.ref t), .val (.int (1 : Int32))] [.int (3 : Int32), .int (2 : Int32)] := H455.iconst at_283
      have H457 : Hr x b_at Z EL1 19 262 hi [e1, e0, L, sl, hs, ix, t, sc, ac, s2, a2, s1, a1, s0] 310 #[.val (.int p0), .val (.int p1), .val (.int p2), .val (.int p3), .val (.int (2 : Int32)), .val (.ref s0), .val (.ref a1), .val (.ref s1), .val (.ref a2), .val (.ref s2), .val (.ref ac), .val (.ref sc), .val (.ref t), .val (.int (1 : Int32))] [] := H456.icmpT at_284 (XT.ii_lt_t (by decide))
      have H458 : Hr x b_at Z EL1 19 262 hi [e1, e0, L, sl, hs, ix, t, sc, ac, s2, a2, s1, a1, s0] 312 #[.val (.int p0), .val (.int p1), .val (.int p2), .val (.int p3), .val (.int (2 : Int32)), .val (.ref s0), .val (.ref a1), .val (.ref s1), .val (.ref a2), .val (.ref s2), .val (.ref ac), .val (.ref sc), .val (.ref t), .val (.int (1 : Int32))] [.int (1 : Int32)] := H457.iload at_310
      exact H458.finZ at_312 (t := .boolean) (by first | rfl | decide) ⟨rfl, rfl⟩ sub0
  · have z458 := True.intro
    have H86 : Hr x b_at Z EL1 17 242 hk [L, sl, hs, ix, t, sc, ac, s2, a2, s1, a1, s0] 142 #[.val (.int p0), .val (.int p1), .val (.int p2), .val (.int p3), .val (.int (3 : Int32)), .val (.ref s0), .val (.ref a1), .val (.ref s1), .val (.ref a2), .val (.ref s2), .val (.ref ac), .val (.ref sc), .val (.ref t), .unset] [] := by rw [← hm]; exact H86
    have H459 : Hr x b_at Z EL1 17 242 hk [L, sl, hs, ix, t, sc, ac, s2, a2, s1, a1, s0] 144 #[.val (.int p0), .val (.int p1), .val (.int p2), .val (.int p3), .val (.int (3 : Int32)), .val (.ref s0), .val (.ref a1), .val (.ref s1), .val (.ref a2), .val (.ref s2), .val (.ref ac), .val (.ref sc), .val (.ref t), .unset] [.int (3 : Int32)] := H86.iload at_142
    have H460 : Hr x b_at Z EL1 17 242 hk [L, sl, hs, ix, t, sc, ac, s2, a2, s1, a1, s0] 145 #[.val (.int p0), .val (.int p1), .val (.int p2), .val (.int p3), .val (.int (3 : Int32)), .val (.ref s0), .val (.ref a1), .val (.ref s1), .val (.ref a2), .val (.ref s2), .val (.ref ac), .val (.ref sc), .val (.ref t), .unset] [.int (1 : Int32), .int (3 : Int32)] := H459.iconst at_144
    have H461 : Hr x b_at Z EL1 17 242 hk [L, sl, hs, ix, t, sc, ac, s2, a2, s1, a1, s0] 148 #[.val (.int p0), .val (.int p1), .val (.int p2), .val (.int p3), .val (.int (3 : Int32)), .val (.ref s0), .val (.ref a1), .val (.ref s1), .val (.ref a2), .val (.ref s2), .val (.ref ac), .val (.ref sc), .val (.ref t), .unset] [] := H460.icmpF at_145 (XT.ii_lt_f (by decide))
    have H462 : Hr x b_at Z EL1 17 242 hk [L, sl, hs, ix, t, sc, ac, s2, a2, s1, a1, s0] 150 #[.val (.int p0), .val (.int p1), .val (.int p2), .val (.int p3), .val (.int (3 : Int32)), .val (.ref s0), .val (.ref a1), .val (.ref s1), .val (.ref a2), .val (.ref s2), .val (.ref ac), .val (.ref sc), .val (.ref t), .unset] [.ref t] := H461.aload at_148
    have H463 : Hr x b_at Z EL1 17 242 hk [L, sl, hs, ix, t, sc, ac, s2, a2, s1, a1, s0] 152 #[.val (.int p0), .val (.int p1), .val (.int p2), .val (.int p3), .val (.int (3 : Int32)), .val (.ref s0), .val (.ref a1), .val (.ref s1), .val (.ref a2), .val (.ref s2), .val (.ref ac), .val (.ref sc), .val (.ref t), .unset] [.ref s0, .ref t] := H462.aload at_150
    obtain ⟨_, hq0, _, ⟨e0, q0, r0, rfl, rfl, T1, P1, S0⟩, Kq0, H464⟩ := H463.callV (argsL := [.ref s0]) (rest := []) (Wr := 0) (a := t) (ct_ntad hw x.l x.nar x.kn hnar hk t L sl hs ix 0 [] [] T0 s0 Bs0 (by simp) (by decide) hhx D SDf FD D [] ([] : List Addr) P0 (by simp) cz O hcz) (by simp) T0.1.1 (w123 hw) (w124 hw) (w126 hw) (w126 hw) (w125 hw) (w46 hw) (w127 hw) at_152 pd_ntad rfl (hf := by first | decide | (simp [b_at, Bx.R]; done) | (simp [b_at, Bx.R]; omega)) (hl := by first | decide | (simp [b_at, Bx.R]; done) | (simp [b_at, Bx.R]; omega)) (hc := by first | decide | (simp [b_at, Bx.R]; done) | (simp [b_at, Bx.R]; omega)) (hs := by first | decide | (simp [b_at, Bx.R]; done) | (simp [b_at, Bx.R]; omega))
    have H464 : Hr x b_at Z EL1 18 252 hq0 [e0, L, sl, hs, ix, t, sc, ac, s2, a2, s1, a1, s0] 155 #[.val (.int p0), .val (.int p1), .val (.int p2), .val (.int p3), .val (.int (3 : Int32)), .val (.ref s0), .val (.ref a1), .val (.ref s1), .val (.ref a2), .val (.ref s2), .val (.ref ac), .val (.ref sc), .val (.ref t), .unset] [.int r0] := H464
    have Vs10 := Bs1.keepA Kq0 T0 P0 Bs0.exa (Ne.symm nes0s1) (w10 hw)
    have Vs20 := Bs2.keepA Kq0 T0 P0 Bs0.exa (Ne.symm nes0s2) (w10 hw)
    have Vsc0 := Bsc.keepA Kq0 T0 P0 Bs0.exa (Ne.symm nes0sc) (w10 hw)
    have H465 : Hr x b_at Z EL1 18 252 hq0 [e0, L, sl, hs, ix, t, sc, ac, s2, a2, s1, a1, s0] 156 #[.val (.int p0), .val (.int p1), .val (.int p2), .val (.int p3), .val (.int (3 : Int32)), .val (.ref s0), .val (.ref a1), .val (.ref s1), .val (.ref a2), .val (.ref s2), .val (.ref ac), .val (.ref sc), .val (.ref t), .unset] [] := H464.pop at_155
    have H466 : Hr x b_at Z EL1 18 252 hq0 [e0, L, sl, hs, ix, t, sc, ac, s2, a2, s1, a1, s0] 158 #[.val (.int p0), .val (.int p1), .val (.int p2), .val (.int p3), .val (.int (3 : Int32)), .val (.ref s0), .val (.ref a1), .val (.ref s1), .val (.ref a2), .val (.ref s2), .val (.ref ac), .val (.ref sc), .val (.ref t), .unset] [.int (3 : Int32)] := H465.iload at_156
    have H467 : Hr x b_at Z EL1 18 252 hq0 [e0, L, sl, hs, ix, t, sc, ac, s2, a2, s1, a1, s0] 159 #[.val (.int p0), .val (.int p1), .val (.int p2), .val (.int p3), .val (.int (3 : Int32)), .val (.ref s0), .val (.ref a1), .val (.ref s1), .val (.ref a2), .val (.ref s2), .val (.ref ac), .val (.ref sc), .val (.ref t), .unset] [.int (2 : Int32), .int (3 : Int32)] := H466.iconst at_158
    have H468 : Hr x b_at Z EL1 18 252 hq0 [e0, L, sl, hs, ix, t, sc, ac, s2, a2, s1, a1, s0] 162 #[.val (.int p0), .val (.int p1), .val (.int p2), .val (.int p3), .val (.int (3 : Int32)), .val (.ref s0), .val (.ref a1), .val (.ref s1), .val (.ref a2), .val (.ref s2), .val (.ref ac), .val (.ref sc), .val (.ref t), .unset] [] := H467.icmpF at_159 (XT.ii_lt_f (by decide))
    have H469 : Hr x b_at Z EL1 18 252 hq0 [e0, L, sl, hs, ix, t, sc, ac, s2, a2, s1, a1, s0] 164 #[.val (.int p0), .val (.int p1), .val (.int p2), .val (.int p3), .val (.int (3 : Int32)), .val (.ref s0), .val (.ref a1), .val (.ref s1), .val (.ref a2), .val (.ref s2), .val (.ref ac), .val (.ref sc), .val (.ref t), .unset] [.ref t] := H468.aload at_162
    have H470 : Hr x b_at Z EL1 18 252 hq0 [e0, L, sl, hs, ix, t, sc, ac, s2, a2, s1, a1, s0] 166 #[.val (.int p0), .val (.int p1), .val (.int p2), .val (.int p3), .val (.int (3 : Int32)), .val (.ref s0), .val (.ref a1), .val (.ref s1), .val (.ref a2), .val (.ref s2), .val (.ref ac), .val (.ref sc), .val (.ref t), .unset] [.ref s1, .ref t] := H469.aload at_164
    obtain ⟨_, hq1, _, ⟨e1, q1, r1, rfl, rfl, T2, P2, S1⟩, Kq1, H471⟩ := H470.callV (argsL := [.ref s1]) (rest := []) (Wr := 0) (a := t) (ct_ntad hw x.l x.nar x.kn hnar hq0 t L sl hs ix 1 (q0 :: []) (s0 :: []) T1 s1 Vs10 (by simp) (by decide) hhx D SDf FD e0 [e0] (([] : List Addr) ++ [s0]) P1 (by simp) cz O hcz) (by simp) T1.1.1 (w123 hw) (w124 hw) (w126 hw) (w126 hw) (w125 hw) (w46 hw) (w127 hw) at_166 pd_ntad rfl (hf := by first | decide | (simp [b_at, Bx.R]; done) | (simp [b_at, Bx.R]; omega)) (hl := by first | decide | (simp [b_at, Bx.R]; done) | (simp [b_at, Bx.R]; omega)) (hc := by first | decide | (simp [b_at, Bx.R]; done) | (simp [b_at, Bx.R]; omega)) (hs := by first | decide | (simp [b_at, Bx.R]; done) | (simp [b_at, Bx.R]; omega))
    have H471 : Hr x b_at Z EL1 19 262 hq1 [e1, e0, L, sl, hs, ix, t, sc, ac, s2, a2, s1, a1, s0] 169 #[.val (.int p0), .val (.int p1), .val (.int p2), .val (.int p3), .val (.int (3 : Int32)), .val (.ref s0), .val (.ref a1), .val (.ref s1), .val (.ref a2), .val (.ref s2), .val (.ref ac), .val (.ref sc), .val (.ref t), .unset] [.int r1] := H471
    have Vs01 := S0.keepA Kq1 T1 P1 Vs10.exa nes0s1 (w10 hw)
    have Vs21 := Vs20.keepA Kq1 T1 P1 Vs10.exa (Ne.symm nes1s2) (w10 hw)
    have Vsc1 := Vsc0.keepA Kq1 T1 P1 Vs10.exa (Ne.symm nes1sc) (w10 hw)
    have H472 : Hr x b_at Z EL1 19 262 hq1 [e1, e0, L, sl, hs, ix, t, sc, ac, s2, a2, s1, a1, s0] 170 #[.val (.int p0), .val (.int p1), .val (.int p2), .val (.int p3), .val (.int (3 : Int32)), .val (.ref s0), .val (.ref a1), .val (.ref s1), .val (.ref a2), .val (.ref s2), .val (.ref ac), .val (.ref sc), .val (.ref t), .unset] [] := H471.pop at_169
    have H473 : Hr x b_at Z EL1 19 262 hq1 [e1, e0, L, sl, hs, ix, t, sc, ac, s2, a2, s1, a1, s0] 172 #[.val (.int p0), .val (.int p1), .val (.int p2), .val (.int p3), .val (.int (3 : Int32)), .val (.ref s0), .val (.ref a1), .val (.ref s1), .val (.ref a2), .val (.ref s2), .val (.ref ac), .val (.ref sc), .val (.ref t), .unset] [.int (3 : Int32)] := H472.iload at_170
    have H474 : Hr x b_at Z EL1 19 262 hq1 [e1, e0, L, sl, hs, ix, t, sc, ac, s2, a2, s1, a1, s0] 173 #[.val (.int p0), .val (.int p1), .val (.int p2), .val (.int p3), .val (.int (3 : Int32)), .val (.ref s0), .val (.ref a1), .val (.ref s1), .val (.ref a2), .val (.ref s2), .val (.ref ac), .val (.ref sc), .val (.ref t), .unset] [.int (3 : Int32), .int (3 : Int32)] := H473.iconst at_172
    have H475 : Hr x b_at Z EL1 19 262 hq1 [e1, e0, L, sl, hs, ix, t, sc, ac, s2, a2, s1, a1, s0] 176 #[.val (.int p0), .val (.int p1), .val (.int p2), .val (.int p3), .val (.int (3 : Int32)), .val (.ref s0), .val (.ref a1), .val (.ref s1), .val (.ref a2), .val (.ref s2), .val (.ref ac), .val (.ref sc), .val (.ref t), .unset] [] := H474.icmpF at_173 (XT.ii_lt_f (by decide))
    have H476 : Hr x b_at Z EL1 19 262 hq1 [e1, e0, L, sl, hs, ix, t, sc, ac, s2, a2, s1, a1, s0] 178 #[.val (.int p0), .val (.int p1), .val (.int p2), .val (.int p3), .val (.int (3 : Int32)), .val (.ref s0), .val (.ref a1), .val (.ref s1), .val (.ref a2), .val (.ref s2), .val (.ref ac), .val (.ref sc), .val (.ref t), .unset] [.ref t] := H475.aload at_176
    have H477 : Hr x b_at Z EL1 19 262 hq1 [e1, e0, L, sl, hs, ix, t, sc, ac, s2, a2, s1, a1, s0] 180 #[.val (.int p0), .val (.int p1), .val (.int p2), .val (.int p3), .val (.int (3 : Int32)), .val (.ref s0), .val (.ref a1), .val (.ref s1), .val (.ref a2), .val (.ref s2), .val (.ref ac), .val (.ref sc), .val (.ref t), .unset] [.ref s2, .ref t] := H476.aload at_178
    obtain ⟨_, hq2, _, ⟨e2, q2, r2, rfl, rfl, T3, P3, S2⟩, Kq2, H478⟩ := H477.callV (argsL := [.ref s2]) (rest := []) (Wr := 0) (a := t) (ct_ntad hw x.l x.nar x.kn hnar hq1 t L sl hs ix 2 (q1 :: (q0 :: [])) (s1 :: (s0 :: [])) T2 s2 Vs21 (by simp) (by decide) hhx D SDf FD e1 [e1] ((([] : List Addr) ++ [s0]) ++ [s1]) P2 (by simp) cz O hcz) (by simp) T2.1.1 (w123 hw) (w124 hw) (w126 hw) (w126 hw) (w125 hw) (w46 hw) (w127 hw) at_180 pd_ntad rfl (hf := by first | decide | (simp [b_at, Bx.R]; done) | (simp [b_at, Bx.R]; omega)) (hl := by first | decide | (simp [b_at, Bx.R]; done) | (simp [b_at, Bx.R]; omega)) (hc := by first | decide | (simp [b_at, Bx.R]; done) | (simp [b_at, Bx.R]; omega)) (hs := by first | decide | (simp [b_at, Bx.R]; done) | (simp [b_at, Bx.R]; omega))
    have H478 : Hr x b_at Z EL1 20 272 hq2 [e2, e1, e0, L, sl, hs, ix, t, sc, ac, s2, a2, s1, a1, s0] 183 #[.val (.int p0), .val (.int p1), .val (.int p2), .val (.int p3), .val (.int (3 : Int32)), .val (.ref s0), .val (.ref a1), .val (.ref s1), .val (.ref a2), .val (.ref s2), .val (.ref ac), .val (.ref sc), .val (.ref t), .unset] [.int r2] := H478
    have Vs02 := Vs01.keepA Kq2 T2 P2 Vs21.exa nes0s2 (w10 hw)
    have Vs12 := S1.keepA Kq2 T2 P2 Vs21.exa nes1s2 (w10 hw)
    have Vsc2 := Vsc1.keepA Kq2 T2 P2 Vs21.exa (Ne.symm nes2sc) (w10 hw)
    have H479 : Hr x b_at Z EL1 20 272 hq2 [e2, e1, e0, L, sl, hs, ix, t, sc, ac, s2, a2, s1, a1, s0] 184 #[.val (.int p0), .val (.int p1), .val (.int p2), .val (.int p3), .val (.int (3 : Int32)), .val (.ref s0), .val (.ref a1), .val (.ref s1), .val (.ref a2), .val (.ref s2), .val (.ref ac), .val (.ref sc), .val (.ref t), .unset] [] := H478.pop at_183
    have H480 : Hr x b_at Z EL1 20 272 hq2 [e2, e1, e0, L, sl, hs, ix, t, sc, ac, s2, a2, s1, a1, s0] 186 #[.val (.int p0), .val (.int p1), .val (.int p2), .val (.int p3), .val (.int (3 : Int32)), .val (.ref s0), .val (.ref a1), .val (.ref s1), .val (.ref a2), .val (.ref s2), .val (.ref ac), .val (.ref sc), .val (.ref t), .unset] [.ref t] := H479.aload at_184
    obtain ⟨_, hz, _, ⟨rfl, rfl, ez⟩, Kz, H481⟩ := H480.callV (argsL := []) (rest := []) (Wr := 0) (a := t) (ct_ntsz hw x.l x.nar x.kn hnar hq2 t L sl hs ix 3 (q2 :: (q1 :: (q0 :: []))) (s2 :: (s1 :: (s0 :: []))) T3 D e2 [e2] (((([] : List Addr) ++ [s0]) ++ [s1]) ++ [s2]) P3) sub0 T3.1.1 (w107 hw) (w108 hw) (w110 hw) (w110 hw) (w109 hw) (w46 hw) (w111 hw) at_186 pd_ntsz rfl (hf := by first | decide | (simp [b_at, Bx.R]; done) | (simp [b_at, Bx.R]; omega)) (hl := by first | decide | (simp [b_at, Bx.R]; done) | (simp [b_at, Bx.R]; omega)) (hc := by first | decide | (simp [b_at, Bx.R]; done) | (simp [b_at, Bx.R]; omega)) (hs := by first | decide | (simp [b_at, Bx.R]; done) | (simp [b_at, Bx.R]; omega))
    rw [ez] at H481
    have H481 : Hr x b_at Z EL1 20 272 hq2 [e2, e1, e0, L, sl, hs, ix, t, sc, ac, s2, a2, s1, a1, s0] 189 #[.val (.int p0), .val (.int p1), .val (.int p2), .val (.int p3), .val (.int (3 : Int32)), .val (.ref s0), .val (.ref a1), .val (.ref s1), .val (.ref a2), .val (.ref s2), .val (.ref ac), .val (.ref sc), .val (.ref t), .unset] [.int (3 : Int32)] := H481
    have H482 : Hr x b_at Z EL1 20 272 hq2 [e2, e1, e0, L, sl, hs, ix, t, sc, ac, s2, a2, s1, a1, s0] 191 #[.val (.int p0), .val (.int p1), .val (.int p2), .val (.int p3), .val (.int (3 : Int32)), .val (.ref s0), .val (.ref a1), .val (.ref s1), .val (.ref a2), .val (.ref s2), .val (.ref ac), .val (.ref sc), .val (.ref t), .unset] [.int (3 : Int32), .int (3 : Int32)] := H481.iload at_189
    have H483 : Hr x b_at Z EL1 20 272 hq2 [e2, e1, e0, L, sl, hs, ix, t, sc, ac, s2, a2, s1, a1, s0] 194 #[.val (.int p0), .val (.int p1), .val (.int p2), .val (.int p3), .val (.int (3 : Int32)), .val (.ref s0), .val (.ref a1), .val (.ref s1), .val (.ref a2), .val (.ref s2), .val (.ref ac), .val (.ref sc), .val (.ref t), .unset] [] := H482.icmpF at_191 (XT.ii_ne_f rfl)
    have H484 : Hr x b_at Z EL1 20 272 hq2 [e2, e1, e0, L, sl, hs, ix, t, sc, ac, s2, a2, s1, a1, s0] 195 #[.val (.int p0), .val (.int p1), .val (.int p2), .val (.int p3), .val (.int (3 : Int32)), .val (.ref s0), .val (.ref a1), .val (.ref s1), .val (.ref a2), .val (.ref s2), .val (.ref ac), .val (.ref sc), .val (.ref t), .unset] [.int (1 : Int32)] := H483.iconst at_194
    have H485 : Hr x b_at Z EL1 20 272 hq2 [e2, e1, e0, L, sl, hs, ix, t, sc, ac, s2, a2, s1, a1, s0] 199 #[.val (.int p0), .val (.int p1), .val (.int p2), .val (.int p3), .val (.int (3 : Int32)), .val (.ref s0), .val (.ref a1), .val (.ref s1), .val (.ref a2), .val (.ref s2), .val (.ref ac), .val (.ref sc), .val (.ref t), .unset] [.int (1 : Int32)] := H484.goto at_195
    have H486 : Hr x b_at Z EL1 20 272 hq2 [e2, e1, e0, L, sl, hs, ix, t, sc, ac, s2, a2, s1, a1, s0] 201 #[.val (.int p0), .val (.int p1), .val (.int p2), .val (.int p3), .val (.int (3 : Int32)), .val (.ref s0), .val (.ref a1), .val (.ref s1), .val (.ref a2), .val (.ref s2), .val (.ref ac), .val (.ref sc), .val (.ref t), .val (.int (1 : Int32))] [] := H485.istore at_199
    have H487 : Hr x b_at Z EL1 20 272 hq2 [e2, e1, e0, L, sl, hs, ix, t, sc, ac, s2, a2, s1, a1, s0] 203 #[.val (.int p0), .val (.int p1), .val (.int p2), .val (.int p3), .val (.int (3 : Int32)), .val (.ref s0), .val (.ref a1), .val (.ref s1), .val (.ref a2), .val (.ref s2), .val (.ref ac), .val (.ref sc), .val (.ref t), .val (.int (1 : Int32))] [.int (3 : Int32)] := H486.iload at_201
    have H488 : Hr x b_at Z EL1 20 272 hq2 [e2, e1, e0, L, sl, hs, ix, t, sc, ac, s2, a2, s1, a1, s0] 204 #[.val (.int p0), .val (.int p1), .val (.int p2), .val (.int p3), .val (.int (3 : Int32)), .val (.ref s0), .val (.ref a1), .val (.ref s1), .val (.ref a2), .val (.ref s2), .val (.ref ac), .val (.ref sc), .val (.ref t), .val (.int (1 : Int32))] [.int (1 : Int32), .int (3 : Int32)] := H487.iconst at_203
    have H489 : Hr x b_at Z EL1 20 272 hq2 [e2, e1, e0, L, sl, hs, ix, t, sc, ac, s2, a2, s1, a1, s0] 207 #[.val (.int p0), .val (.int p1), .val (.int p2), .val (.int p3), .val (.int (3 : Int32)), .val (.ref s0), .val (.ref a1), .val (.ref s1), .val (.ref a2), .val (.ref s2), .val (.ref ac), .val (.ref sc), .val (.ref t), .val (.int (1 : Int32))] [] := H488.icmpF at_204 (XT.ii_lt_f (by decide))
    have H490 : Hr x b_at Z EL1 20 272 hq2 [e2, e1, e0, L, sl, hs, ix, t, sc, ac, s2, a2, s1, a1, s0] 208 #[.val (.int p0), .val (.int p1), .val (.int p2), .val (.int p3), .val (.int (3 : Int32)), .val (.ref s0), .val (.ref a1), .val (.ref s1), .val (.ref a2), .val (.ref s2), .val (.ref ac), .val (.ref sc), .val (.ref t), .val (.int (1 : Int32))] [.int p0] := H489.iloadN at_207
    have H491 : Hr x b_at Z EL1 20 272 hq2 [e2, e1, e0, L, sl, hs, ix, t, sc, ac, s2, a2, s1, a1, s0] 209 #[.val (.int p0), .val (.int p1), .val (.int p2), .val (.int p3), .val (.int (3 : Int32)), .val (.ref s0), .val (.ref a1), .val (.ref s1), .val (.ref a2), .val (.ref s2), .val (.ref ac), .val (.ref sc), .val (.ref t), .val (.int (1 : Int32))] [.int (2 : Int32), .int p0] := H490.iconst at_208
    have H492 : Hr x b_at Z EL1 20 272 hq2 [e2, e1, e0, L, sl, hs, ix, t, sc, ac, s2, a2, s1, a1, s0] 210 #[.val (.int p0), .val (.int p1), .val (.int p2), .val (.int p3), .val (.int (3 : Int32)), .val (.ref s0), .val (.ref a1), .val (.ref s1), .val (.ref a2), .val (.ref s2), .val (.ref ac), .val (.ref sc), .val (.ref t), .val (.int (1 : Int32))] [.int (XT.ushr p0 (2 : Int32))] := H491.iushr at_209
    have H493 : Hr x b_at Z EL1 20 272 hq2 [e2, e1, e0, L, sl, hs, ix, t, sc, ac, s2, a2, s1, a1, s0] 211 #[.val (.int p0), .val (.int p1), .val (.int p2), .val (.int p3), .val (.int (3 : Int32)), .val (.ref s0), .val (.ref a1), .val (.ref s1), .val (.ref a2), .val (.ref s2), .val (.ref ac), .val (.ref sc), .val (.ref t), .val (.int (1 : Int32))] [.int (1 : Int32), .int (XT.ushr p0 (2 : Int32))] := H492.iconst at_210
    have H494 : Hr x b_at Z EL1 20 272 hq2 [e2, e1, e0, L, sl, hs, ix, t, sc, ac, s2, a2, s1, a1, s0] 212 #[.val (.int p0), .val (.int p1), .val (.int p2), .val (.int p3), .val (.int (3 : Int32)), .val (.ref s0), .val (.ref a1), .val (.ref s1), .val (.ref a2), .val (.ref s2), .val (.ref ac), .val (.ref sc), .val (.ref t), .val (.int (1 : Int32))] [.int ((XT.ushr p0 (2 : Int32)) &&& (1 : Int32))] := H493.iand at_211
    by_cases qi : (XT.ushr p0 (2 : Int32)) &&& (1 : Int32) = 0
    · have z494 := qi
      have H495 : Hr x b_at Z EL1 20 272 hq2 [e2, e1, e0, L, sl, hs, ix, t, sc, ac, s2, a2, s1, a1, s0] 223 #[.val (.int p0), .val (.int p1), .val (.int p2), .val (.int p3), .val (.int (3 : Int32)), .val (.ref s0), .val (.ref a1), .val (.ref s1), .val (.ref a2), .val (.ref s2), .val (.ref ac), .val (.ref sc), .val (.ref t), .val (.int (1 : Int32))] [] := H494.ifT at_212 (XT.i0_eq_t qi)
      have Ws0 := Vs02.exa
      have Ws1 := Vs12.exa
      have Ws2 := S2.exa
      have Wsc := Vsc2.exa
      have H496 : Hr x b_at Z EL1 20 272 hq2 [e2, e1, e0, L, sl, hs, ix, t, sc, ac, s2, a2, s1, a1, s0] 225 #[.val (.int p0), .val (.int p1), .val (.int p2), .val (.int p3), .val (.int (3 : Int32)), .val (.ref s0), .val (.ref a1), .val (.ref s1), .val (.ref a2), .val (.ref s2), .val (.ref ac), .val (.ref sc), .val (.ref t), .val (.int (1 : Int32))] [.int (3 : Int32)] := H495.iload at_223
      have H497 : Hr x b_at Z EL1 20 272 hq2 [e2, e1, e0, L, sl, hs, ix, t, sc, ac, s2, a2, s1, a1, s0] 226 #[.val (.int p0), .val (.int p1), .val (.int p2), .val (.int p3), .val (.int (3 : Int32)), .val (.ref s0), .val (.ref a1), .val (.ref s1), .val (.ref a2), .val (.ref s2), .val (.ref ac), .val (.ref sc), .val (.ref t), .val (.int (1 : Int32))] [.int (1 : Int32), .int (3 : Int32)] := H496.iconst at_225
      have H498 : Hr x b_at Z EL1 20 272 hq2 [e2, e1, e0, L, sl, hs, ix, t, sc, ac, s2, a2, s1, a1, s0] 229 #[.val (.int p0), .val (.int p1), .val (.int p2), .val (.int p3), .val (.int (3 : Int32)), .val (.ref s0), .val (.ref a1), .val (.ref s1), .val (.ref a2), .val (.ref s2), .val (.ref ac), .val (.ref sc), .val (.ref t), .val (.int (1 : Int32))] [] := H497.icmpF at_226 (XT.ii_lt_f (by decide))
      have H499 : Hr x b_at Z EL1 20 272 hq2 [e2, e1, e0, L, sl, hs, ix, t, sc, ac, s2, a2, s1, a1, s0] 231 #[.val (.int p0), .val (.int p1), .val (.int p2), .val (.int p3), .val (.int (3 : Int32)), .val (.ref s0), .val (.ref a1), .val (.ref s1), .val (.ref a2), .val (.ref s2), .val (.ref ac), .val (.ref sc), .val (.ref t), .val (.int (1 : Int32))] [.int (1 : Int32)] := H498.iload at_229
      have H500 : Hr x b_at Z EL1 20 272 hq2 [e2, e1, e0, L, sl, hs, ix, t, sc, ac, s2, a2, s1, a1, s0] 234 #[.val (.int p0), .val (.int p1), .val (.int p2), .val (.int p3), .val (.int (3 : Int32)), .val (.ref s0), .val (.ref a1), .val (.ref s1), .val (.ref a2), .val (.ref s2), .val (.ref ac), .val (.ref sc), .val (.ref t), .val (.int (1 : Int32))] [] := H499.ifF at_231 (XT.i0_eq_f (by decide))
      have H501 : Hr x b_at Z EL1 20 272 hq2 [e2, e1, e0, L, sl, hs, ix, t, sc, ac, s2, a2, s1, a1, s0] 236 #[.val (.int p0), .val (.int p1), .val (.int p2), .val (.int p3), .val (.int (3 : Int32)), .val (.ref s0), .val (.ref a1), .val (.ref s1), .val (.ref a2), .val (.ref s2), .val (.ref ac), .val (.ref sc), .val (.ref t), .val (.int (1 : Int32))] [.ref t] := H500.aload at_234
      have H502 : Hr x b_at Z EL1 20 272 hq2 [e2, e1, e0, L, sl, hs, ix, t, sc, ac, s2, a2, s1, a1, s0] 237 #[.val (.int p0), .val (.int p1), .val (.int p2), .val (.int p3), .val (.int (3 : Int32)), .val (.ref s0), .val (.ref a1), .val (.ref s1), .val (.ref a2), .val (.ref s2), .val (.ref ac), .val (.ref sc), .val (.ref t), .val (.int (1 : Int32))] [.int (0 : Int32), .ref t] := H501.iconst at_236
      obtain ⟨_, hy0, _, ⟨rfl, rfl, ey0⟩, Ky0, H503⟩ := H502.callV (argsL := [.int (0 : Int32)]) (rest := []) (Wr := 0) (a := t) (ct_ntnm hw x.l x.nar x.kn hnar hq2 t L sl hs ix 3 (q2 :: (q1 :: (q0 :: []))) (s2 :: (s1 :: (s0 :: []))) T3 D e2 [e2] (((([] : List Addr) ++ [s0]) ++ [s1]) ++ [s2]) P3 0 (by simp) (by simp) Ws0) sub0 T3.1.1 (w215 hw) (w216 hw) (w218 hw) (w218 hw) (w217 hw) (w46 hw) (w219 hw) at_237 pd_ntnm rfl (hf := by first | decide | (simp [b_at, Bx.R]; done) | (simp [b_at, Bx.R]; omega)) (hl := by first | decide | (simp [b_at, Bx.R]; done) | (simp [b_at, Bx.R]; omega)) (hc := by first | decide | (simp [b_at, Bx.R]; done) | (simp [b_at, Bx.R]; omega)) (hs := by first | decide | (simp [b_at, Bx.R]; done) | (simp [b_at, Bx.R]; omega))
      rw [ey0] at H503
      have H503 : Hr x b_at Z EL1 20 272 hq2 [e2, e1, e0, L, sl, hs, ix, t, sc, ac, s2, a2, s1, a1, s0] 240 #[.val (.int p0), .val (.int p1), .val (.int p2), .val (.int p3), .val (.int (3 : Int32)), .val (.ref s0), .val (.ref a1), .val (.ref s1), .val (.ref a2), .val (.ref s2), .val (.ref ac), .val (.ref sc), .val (.ref t), .val (.int (1 : Int32))] [.ref s0] := H503
      have H504 : Hr x b_at Z EL1 20 272 hq2 [e2, e1, e0, L, sl, hs, ix, t, sc, ac, s2, a2, s1, a1, s0] 242 #[.val (.int p0), .val (.int p1), .val (.int p2), .val (.int p3), .val (.int (3 : Int32)), .val (.ref s0), .val (.ref a1), .val (.ref s1), .val (.ref a2), .val (.ref s2), .val (.ref ac), .val (.ref sc), .val (.ref t), .val (.int (1 : Int32))] [.ref s0, .ref s0] := H503.aload at_240
      have H505 : Hr x b_at Z EL1 20 272 hq2 [e2, e1, e0, L, sl, hs, ix, t, sc, ac, s2, a2, s1, a1, s0] 245 #[.val (.int p0), .val (.int p1), .val (.int p2), .val (.int p3), .val (.int (3 : Int32)), .val (.ref s0), .val (.ref a1), .val (.ref s1), .val (.ref a2), .val (.ref s2), .val (.ref ac), .val (.ref sc), .val (.ref t), .val (.int (1 : Int32))] [] := H504.acmpF at_242 (by simp [XT.acmp])
      have H506 : Hr x b_at Z EL1 20 272 hq2 [e2, e1, e0, L, sl, hs, ix, t, sc, ac, s2, a2, s1, a1, s0] 246 #[.val (.int p0), .val (.int p1), .val (.int p2), .val (.int p3), .val (.int (3 : Int32)), .val (.ref s0), .val (.ref a1), .val (.ref s1), .val (.ref a2), .val (.ref s2), .val (.ref ac), .val (.ref sc), .val (.ref t), .val (.int (1 : Int32))] [.int (1 : Int32)] := H505.iconst at_245
      have H507 : Hr x b_at Z EL1 20 272 hq2 [e2, e1, e0, L, sl, hs, ix, t, sc, ac, s2, a2, s1, a1, s0] 250 #[.val (.int p0), .val (.int p1), .val (.int p2), .val (.int p3), .val (.int (3 : Int32)), .val (.ref s0), .val (.ref a1), .val (.ref s1), .val (.ref a2), .val (.ref s2), .val (.ref ac), .val (.ref sc), .val (.ref t), .val (.int (1 : Int32))] [.int (1 : Int32)] := H506.goto at_246
      have H508 : Hr x b_at Z EL1 20 272 hq2 [e2, e1, e0, L, sl, hs, ix, t, sc, ac, s2, a2, s1, a1, s0] 252 #[.val (.int p0), .val (.int p1), .val (.int p2), .val (.int p3), .val (.int (3 : Int32)), .val (.ref s0), .val (.ref a1), .val (.ref s1), .val (.ref a2), .val (.ref s2), .val (.ref ac), .val (.ref sc), .val (.ref t), .val (.int (1 : Int32))] [] := H507.istore at_250
      have H509 : Hr x b_at Z EL1 20 272 hq2 [e2, e1, e0, L, sl, hs, ix, t, sc, ac, s2, a2, s1, a1, s0] 254 #[.val (.int p0), .val (.int p1), .val (.int p2), .val (.int p3), .val (.int (3 : Int32)), .val (.ref s0), .val (.ref a1), .val (.ref s1), .val (.ref a2), .val (.ref s2), .val (.ref ac), .val (.ref sc), .val (.ref t), .val (.int (1 : Int32))] [.int (3 : Int32)] := H508.iload at_252
      have H510 : Hr x b_at Z EL1 20 272 hq2 [e2, e1, e0, L, sl, hs, ix, t, sc, ac, s2, a2, s1, a1, s0] 255 #[.val (.int p0), .val (.int p1), .val (.int p2), .val (.int p3), .val (.int (3 : Int32)), .val (.ref s0), .val (.ref a1), .val (.ref s1), .val (.ref a2), .val (.ref s2), .val (.ref ac), .val (.ref sc), .val (.ref t), .val (.int (1 : Int32))] [.int (2 : Int32), .int (3 : Int32)] := H509.iconst at_254
      have H511 : Hr x b_at Z EL1 20 272 hq2 [e2, e1, e0, L, sl, hs, ix, t, sc, ac, s2, a2, s1, a1, s0] 258 #[.val (.int p0), .val (.int p1), .val (.int p2), .val (.int p3), .val (.int (3 : Int32)), .val (.ref s0), .val (.ref a1), .val (.ref s1), .val (.ref a2), .val (.ref s2), .val (.ref ac), .val (.ref sc), .val (.ref t), .val (.int (1 : Int32))] [] := H510.icmpF at_255 (XT.ii_lt_f (by decide))
      have H512 : Hr x b_at Z EL1 20 272 hq2 [e2, e1, e0, L, sl, hs, ix, t, sc, ac, s2, a2, s1, a1, s0] 260 #[.val (.int p0), .val (.int p1), .val (.int p2), .val (.int p3), .val (.int (3 : Int32)), .val (.ref s0), .val (.ref a1), .val (.ref s1), .val (.ref a2), .val (.ref s2), .val (.ref ac), .val (.ref sc), .val (.ref t), .val (.int (1 : Int32))] [.int (1 : Int32)] := H511.iload at_258
      have H513 : Hr x b_at Z EL1 20 272 hq2 [e2, e1, e0, L, sl, hs, ix, t, sc, ac, s2, a2, s1, a1, s0] 263 #[.val (.int p0), .val (.int p1), .val (.int p2), .val (.int p3), .val (.int (3 : Int32)), .val (.ref s0), .val (.ref a1), .val (.ref s1), .val (.ref a2), .val (.ref s2), .val (.ref ac), .val (.ref sc), .val (.ref t), .val (.int (1 : Int32))] [] := H512.ifF at_260 (XT.i0_eq_f (by decide))
      have H514 : Hr x b_at Z EL1 20 272 hq2 [e2, e1, e0, L, sl, hs, ix, t, sc, ac, s2, a2, s1, a1, s0] 265 #[.val (.int p0), .val (.int p1), .val (.int p2), .val (.int p3), .val (.int (3 : Int32)), .val (.ref s0), .val (.ref a1), .val (.ref s1), .val (.ref a2), .val (.ref s2), .val (.ref ac), .val (.ref sc), .val (.ref t), .val (.int (1 : Int32))] [.ref t] := H513.aload at_263
      have H515 : Hr x b_at Z EL1 20 272 hq2 [e2, e1, e0, L, sl, hs, ix, t, sc, ac, s2, a2, s1, a1, s0] 266 #[.val (.int p0), .val (.int p1), .val (.int p2), .val (.int p3), .val (.int (3 : Int32)), .val (.ref s0), .val (.ref a1), .val (.ref s1), .val (.ref a2), .val (.ref s2), .val (.ref ac), .val (.ref sc), .val (.ref t), .val (.int (1 : Int32))] [.int (1 : Int32), .ref t] := H514.iconst at_265
      obtain ⟨_, hy1, _, ⟨rfl, rfl, ey1⟩, Ky1, H516⟩ := H515.callV (argsL := [.int (1 : Int32)]) (rest := []) (Wr := 0) (a := t) (ct_ntnm hw x.l x.nar x.kn hnar hq2 t L sl hs ix 3 (q2 :: (q1 :: (q0 :: []))) (s2 :: (s1 :: (s0 :: []))) T3 D e2 [e2] (((([] : List Addr) ++ [s0]) ++ [s1]) ++ [s2]) P3 1 (by simp) (by simp) Ws1) sub0 T3.1.1 (w215 hw) (w216 hw) (w218 hw) (w218 hw) (w217 hw) (w46 hw) (w219 hw) at_266 pd_ntnm rfl (hf := by first | decide | (simp [b_at, Bx.R]; done) | (simp [b_at, Bx.R]; omega)) (hl := by first | decide | (simp [b_at, Bx.R]; done) | (simp [b_at, Bx.R]; omega)) (hc := by first | decide | (simp [b_at, Bx.R]; done) | (simp [b_at, Bx.R]; omega)) (hs := by first | decide | (simp [b_at, Bx.R]; done) | (simp [b_at, Bx.R]; omega))
      rw [ey1] at H516
      have H516 : Hr x b_at Z EL1 20 272 hq2 [e2, e1, e0, L, sl, hs, ix, t, sc, ac, s2, a2, s1, a1, s0] 269 #[.val (.int p0), .val (.int p1), .val (.int p2), .val (.int p3), .val (.int (3 : Int32)), .val (.ref s0), .val (.ref a1), .val (.ref s1), .val (.ref a2), .val (.ref s2), .val (.ref ac), .val (.ref sc), .val (.ref t), .val (.int (1 : Int32))] [.ref s1] := H516
      have H517 : Hr x b_at Z EL1 20 272 hq2 [e2, e1, e0, L, sl, hs, ix, t, sc, ac, s2, a2, s1, a1, s0] 271 #[.val (.int p0), .val (.int p1), .val (.int p2), .val (.int p3), .val (.int (3 : Int32)), .val (.ref s0), .val (.ref a1), .val (.ref s1), .val (.ref a2), .val (.ref s2), .val (.ref ac), .val (.ref sc), .val (.ref t), .val (.int (1 : Int32))] [.ref s1, .ref s1] := H516.aload at_269
      have H518 : Hr x b_at Z EL1 20 272 hq2 [e2, e1, e0, L, sl, hs, ix, t, sc, ac, s2, a2, s1, a1, s0] 274 #[.val (.int p0), .val (.int p1), .val (.int p2), .val (.int p3), .val (.int (3 : Int32)), .val (.ref s0), .val (.ref a1), .val (.ref s1), .val (.ref a2), .val (.ref s2), .val (.ref ac), .val (.ref sc), .val (.ref t), .val (.int (1 : Int32))] [] := H517.acmpF at_271 (by simp [XT.acmp])
      have H519 : Hr x b_at Z EL1 20 272 hq2 [e2, e1, e0, L, sl, hs, ix, t, sc, ac, s2, a2, s1, a1, s0] 275 #[.val (.int p0), .val (.int p1), .val (.int p2), .val (.int p3), .val (.int (3 : Int32)), .val (.ref s0), .val (.ref a1), .val (.ref s1), .val (.ref a2), .val (.ref s2), .val (.ref ac), .val (.ref sc), .val (.ref t), .val (.int (1 : Int32))] [.int (1 : Int32)] := H518.iconst at_274
      have H520 : Hr x b_at Z EL1 20 272 hq2 [e2, e1, e0, L, sl, hs, ix, t, sc, ac, s2, a2, s1, a1, s0] 279 #[.val (.int p0), .val (.int p1), .val (.int p2), .val (.int p3), .val (.int (3 : Int32)), .val (.ref s0), .val (.ref a1), .val (.ref s1), .val (.ref a2), .val (.ref s2), .val (.ref ac), .val (.ref sc), .val (.ref t), .val (.int (1 : Int32))] [.int (1 : Int32)] := H519.goto at_275
      have H521 : Hr x b_at Z EL1 20 272 hq2 [e2, e1, e0, L, sl, hs, ix, t, sc, ac, s2, a2, s1, a1, s0] 281 #[.val (.int p0), .val (.int p1), .val (.int p2), .val (.int p3), .val (.int (3 : Int32)), .val (.ref s0), .val (.ref a1), .val (.ref s1), .val (.ref a2), .val (.ref s2), .val (.ref ac), .val (.ref sc), .val (.ref t), .val (.int (1 : Int32))] [] := H520.istore at_279
      have H522 : Hr x b_at Z EL1 20 272 hq2 [e2, e1, e0, L, sl, hs, ix, t, sc, ac, s2, a2, s1, a1, s0] 283 #[.val (.int p0), .val (.int p1), .val (.int p2), .val (.int p3), .val (.int (3 : Int32)), .val (.ref s0), .val (.ref a1), .val (.ref s1), .val (.ref a2), .val (.ref s2), .val (.ref ac), .val (.ref sc), .val (.ref t), .val (.int (1 : Int32))] [.int (3 : Int32)] := H521.iload at_281
      have H523 : Hr x b_at Z EL1 20 272 hq2 [e2, e1, e0, L, sl, hs, ix, t, sc, ac, s2, a2, s1, a1, s0] 284 #[.val (.int p0), .val (.int p1), .val (.int p2), .val (.int p3), .val (.int (3 : Int32)), .val (.ref s0), .val (.ref a1), .val (.ref s1), .val (.ref a2), .val (.ref s2), .val (.ref ac), .val (.ref sc), .val (.ref t), .val (.int (1 : Int32))] [.int (3 : Int32), .int (3 : Int32)] := H522.iconst at_283
      have H524 : Hr x b_at Z EL1 20 272 hq2 [e2, e1, e0, L, sl, hs, ix, t, sc, ac, s2, a2, s1, a1, s0] 287 #[.val (.int p0), .val (.int p1), .val (.int p2), .val (.int p3), .val (.int (3 : Int32)), .val (.ref s0), .val (.ref a1), .val (.ref s1), .val (.ref a2), .val (.ref s2), .val (.ref ac), .val (.ref sc), .val (.ref t), .val (.int (1 : Int32))] [] := H523.icmpF at_284 (XT.ii_lt_f (by decide))
      have H525 : Hr x b_at Z EL1 20 272 hq2 [e2, e1, e0, L, sl, hs, ix, t, sc, ac, s2, a2, s1, a1, s0] 289 #[.val (.int p0), .val (.int p1), .val (.int p2), .val (.int p3), .val (.int (3 : Int32)), .val (.ref s0), .val (.ref a1), .val (.ref s1), .val (.ref a2), .val (.ref s2), .val (.ref ac), .val (.ref sc), .val (.ref t), .val (.int (1 : Int32))] [.int (1 : Int32)] := H524.iload at_287
      have H526 : Hr x b_at Z EL1 20 272 hq2 [e2, e1, e0, L, sl, hs, ix, t, sc, ac, s2, a2, s1, a1, s0] 292 #[.val (.int p0), .val (.int p1), .val (.int p2), .val (.int p3), .val (.int (3 : Int32)), .val (.ref s0), .val (.ref a1), .val (.ref s1), .val (.ref a2), .val (.ref s2), .val (.ref ac), .val (.ref sc), .val (.ref t), .val (.int (1 : Int32))] [] := H525.ifF at_289 (XT.i0_eq_f (by decide))
      have H527 : Hr x b_at Z EL1 20 272 hq2 [e2, e1, e0, L, sl, hs, ix, t, sc, ac, s2, a2, s1, a1, s0] 294 #[.val (.int p0), .val (.int p1), .val (.int p2), .val (.int p3), .val (.int (3 : Int32)), .val (.ref s0), .val (.ref a1), .val (.ref s1), .val (.ref a2), .val (.ref s2), .val (.ref ac), .val (.ref sc), .val (.ref t), .val (.int (1 : Int32))] [.ref t] := H526.aload at_292
      have H528 : Hr x b_at Z EL1 20 272 hq2 [e2, e1, e0, L, sl, hs, ix, t, sc, ac, s2, a2, s1, a1, s0] 295 #[.val (.int p0), .val (.int p1), .val (.int p2), .val (.int p3), .val (.int (3 : Int32)), .val (.ref s0), .val (.ref a1), .val (.ref s1), .val (.ref a2), .val (.ref s2), .val (.ref ac), .val (.ref sc), .val (.ref t), .val (.int (1 : Int32))] [.int (2 : Int32), .ref t] := H527.iconst at_294
      obtain ⟨_, hy2, _, ⟨rfl, rfl, ey2⟩, Ky2, H529⟩ := H528.callV (argsL := [.int (2 : Int32)]) (rest := []) (Wr := 0) (a := t) (ct_ntnm hw x.l x.nar x.kn hnar hq2 t L sl hs ix 3 (q2 :: (q1 :: (q0 :: []))) (s2 :: (s1 :: (s0 :: []))) T3 D e2 [e2] (((([] : List Addr) ++ [s0]) ++ [s1]) ++ [s2]) P3 2 (by simp) (by simp) Ws2) sub0 T3.1.1 (w215 hw) (w216 hw) (w218 hw) (w218 hw) (w217 hw) (w46 hw) (w219 hw) at_295 pd_ntnm rfl (hf := by first | decide | (simp [b_at, Bx.R]; done) | (simp [b_at, Bx.R]; omega)) (hl := by first | decide | (simp [b_at, Bx.R]; done) | (simp [b_at, Bx.R]; omega)) (hc := by first | decide | (simp [b_at, Bx.R]; done) | (simp [b_at, Bx.R]; omega)) (hs := by first | decide | (simp [b_at, Bx.R]; done) | (simp [b_at, Bx.R]; omega))
      rw [ey2] at H529
      have H529 : Hr x b_at Z EL1 20 272 hq2 [e2, e1, e0, L, sl, hs, ix, t, sc, ac, s2, a2, s1, a1, s0] 298 #[.val (.int p0), .val (.int p1), .val (.int p2), .val (.int p3), .val (.int (3 : Int32)), .val (.ref s0), .val (.ref a1), .val (.ref s1), .val (.ref a2), .val (.ref s2), .val (.ref ac), .val (.ref sc), .val (.ref t), .val (.int (1 : Int32))] [.ref s2] := H529
      have H530 : Hr x b_at Z EL1 20 272 hq2 [e2, e1, e0, L, sl, hs, ix, t, sc, ac, s2, a2, s1, a1, s0] 300 #[.val (.int p0), .val (.int p1), .val (.int p2), .val (.int p3), .val (.int (3 : Int32)), .val (.ref s0), .val (.ref a1), .val (.ref s1), .val (.ref a2), .val (.ref s2), .val (.ref ac), .val (.ref sc), .val (.ref t), .val (.int (1 : Int32))] [.ref s2, .ref s2] := H529.aload at_298
      have H531 : Hr x b_at Z EL1 20 272 hq2 [e2, e1, e0, L, sl, hs, ix, t, sc, ac, s2, a2, s1, a1, s0] 303 #[.val (.int p0), .val (.int p1), .val (.int p2), .val (.int p3), .val (.int (3 : Int32)), .val (.ref s0), .val (.ref a1), .val (.ref s1), .val (.ref a2), .val (.ref s2), .val (.ref ac), .val (.ref sc), .val (.ref t), .val (.int (1 : Int32))] [] := H530.acmpF at_300 (by simp [XT.acmp])
      have H532 : Hr x b_at Z EL1 20 272 hq2 [e2, e1, e0, L, sl, hs, ix, t, sc, ac, s2, a2, s1, a1, s0] 304 #[.val (.int p0), .val (.int p1), .val (.int p2), .val (.int p3), .val (.int (3 : Int32)), .val (.ref s0), .val (.ref a1), .val (.ref s1), .val (.ref a2), .val (.ref s2), .val (.ref ac), .val (.ref sc), .val (.ref t), .val (.int (1 : Int32))] [.int (1 : Int32)] := H531.iconst at_303
      have H533 : Hr x b_at Z EL1 20 272 hq2 [e2, e1, e0, L, sl, hs, ix, t, sc, ac, s2, a2, s1, a1, s0] 308 #[.val (.int p0), .val (.int p1), .val (.int p2), .val (.int p3), .val (.int (3 : Int32)), .val (.ref s0), .val (.ref a1), .val (.ref s1), .val (.ref a2), .val (.ref s2), .val (.ref ac), .val (.ref sc), .val (.ref t), .val (.int (1 : Int32))] [.int (1 : Int32)] := H532.goto at_304
      have H534 : Hr x b_at Z EL1 20 272 hq2 [e2, e1, e0, L, sl, hs, ix, t, sc, ac, s2, a2, s1, a1, s0] 310 #[.val (.int p0), .val (.int p1), .val (.int p2), .val (.int p3), .val (.int (3 : Int32)), .val (.ref s0), .val (.ref a1), .val (.ref s1), .val (.ref a2), .val (.ref s2), .val (.ref ac), .val (.ref sc), .val (.ref t), .val (.int (1 : Int32))] [] := H533.istore at_308
      have H535 : Hr x b_at Z EL1 20 272 hq2 [e2, e1, e0, L, sl, hs, ix, t, sc, ac, s2, a2, s1, a1, s0] 312 #[.val (.int p0), .val (.int p1), .val (.int p2), .val (.int p3), .val (.int (3 : Int32)), .val (.ref s0), .val (.ref a1), .val (.ref s1), .val (.ref a2), .val (.ref s2), .val (.ref ac), .val (.ref sc), .val (.ref t), .val (.int (1 : Int32))] [.int (1 : Int32)] := H534.iload at_310
      exact H535.finZ at_312 (t := .boolean) (by first | rfl | decide) ⟨rfl, rfl⟩ sub0
    · have z535 := qi
      have H536 : Hr x b_at Z EL1 20 272 hq2 [e2, e1, e0, L, sl, hs, ix, t, sc, ac, s2, a2, s1, a1, s0] 215 #[.val (.int p0), .val (.int p1), .val (.int p2), .val (.int p3), .val (.int (3 : Int32)), .val (.ref s0), .val (.ref a1), .val (.ref s1), .val (.ref a2), .val (.ref s2), .val (.ref ac), .val (.ref sc), .val (.ref t), .val (.int (1 : Int32))] [] := H494.ifF at_212 (XT.i0_eq_f qi)
      have H537 : Hr x b_at Z EL1 20 272 hq2 [e2, e1, e0, L, sl, hs, ix, t, sc, ac, s2, a2, s1, a1, s0] 217 #[.val (.int p0), .val (.int p1), .val (.int p2), .val (.int p3), .val (.int (3 : Int32)), .val (.ref s0), .val (.ref a1), .val (.ref s1), .val (.ref a2), .val (.ref s2), .val (.ref ac), .val (.ref sc), .val (.ref t), .val (.int (1 : Int32))] [.ref t] := H536.aload at_215
      have H538 : Hr x b_at Z EL1 20 272 hq2 [e2, e1, e0, L, sl, hs, ix, t, sc, ac, s2, a2, s1, a1, s0] 219 #[.val (.int p0), .val (.int p1), .val (.int p2), .val (.int p3), .val (.int (3 : Int32)), .val (.ref s0), .val (.ref a1), .val (.ref s1), .val (.ref a2), .val (.ref s2), .val (.ref ac), .val (.ref sc), .val (.ref t), .val (.int (1 : Int32))] [.ref sc, .ref t] := H537.aload at_217
      have hzs : ∀ z ∈ (s2 :: (s1 :: (s0 :: []))), SG Z hq2 z ∧ z ≠ sc := fun z hz => by simp only [List.mem_cons, List.not_mem_nil, or_false] at hz; rcases hz with rfl | rfl | rfl; exact ⟨S2, nes2sc⟩; exact ⟨Vs12, nes1sc⟩; exact ⟨Vs02, nes0sc⟩
      obtain ⟨_, hi, _, ⟨ri, rfl, rfl, Ti, Si⟩, Ki, H539⟩ := H538.callV (argsL := [.ref sc]) (rest := []) (Wr := 0) (a := t) (ct_ntio hw x.l x.nar x.kn hnar hq2 t L sl hs ix 3 (q2 :: (q1 :: (q0 :: []))) (s2 :: (s1 :: (s0 :: []))) T3 sc Vsc2 (by simp) hzs cz O hcz) (by simp) T3.1.1 (w202 hw) (w203 hw) (w205 hw) (w205 hw) (w204 hw) (w46 hw) (w206 hw) at_219 pd_ntio rfl (hf := by first | decide | (simp [b_at, Bx.R]; done) | (simp [b_at, Bx.R]; omega)) (hl := by first | decide | (simp [b_at, Bx.R]; done) | (simp [b_at, Bx.R]; omega)) (hc := by first | decide | (simp [b_at, Bx.R]; done) | (simp [b_at, Bx.R]; omega)) (hs := by first | decide | (simp [b_at, Bx.R]; done) | (simp [b_at, Bx.R]; omega))
      have H539 : Hr x b_at Z EL1 20 272 hi [e2, e1, e0, L, sl, hs, ix, t, sc, ac, s2, a2, s1, a1, s0] 222 #[.val (.int p0), .val (.int p1), .val (.int p2), .val (.int p3), .val (.int (3 : Int32)), .val (.ref s0), .val (.ref a1), .val (.ref s1), .val (.ref a2), .val (.ref s2), .val (.ref ac), .val (.ref sc), .val (.ref t), .val (.int (1 : Int32))] [.int ri] := H539
      have nLc : L ≠ sc := Ne.symm (Vsc2.exa.ne P3.1.choose_spec.1 (by decide))
      have nLs : L ≠ sl := exa_neAr P3.1.choose_spec.1 T3.2.1.choose_spec.1.ar (w52 hw)
      have ned : ∀ z ∈ [e2], z ∉ [sc, sl] := fun z hz => by
        cases List.mem_singleton.mp hz
        rcases P3.2 with ⟨q, _⟩ | ⟨_, _, G⟩
        · simp at q
        · exact ninS (Ne.symm (exa_neAr Vsc2.exa G.ar (w10 hw))) (ninS (Ne.symm ((T3.2.1.choose_spec.1.ar).neTy G.ar (by decide))) nin0)
      have Pi := P3.keep Ki (ninS nLc (ninS nLs nin0)) ned
      have Ws0 := Vs02.exa.keep Ki
      have Ws1 := Vs12.exa.keep Ki
      have Ws2 := S2.exa.keep Ki
      have Wsc := Vsc2.exa.keep Ki
      have H540 : Hr x b_at Z EL1 20 272 hi [e2, e1, e0, L, sl, hs, ix, t, sc, ac, s2, a2, s1, a1, s0] 223 #[.val (.int p0), .val (.int p1), .val (.int p2), .val (.int p3), .val (.int (3 : Int32)), .val (.ref s0), .val (.ref a1), .val (.ref s1), .val (.ref a2), .val (.ref s2), .val (.ref ac), .val (.ref sc), .val (.ref t), .val (.int (1 : Int32))] [] := H539.pop at_222
      have H541 : Hr x b_at Z EL1 20 272 hi [e2, e1, e0, L, sl, hs, ix, t, sc, ac, s2, a2, s1, a1, s0] 225 #[.val (.int p0), .val (.int p1), .val (.int p2), .val (.int p3), .val (.int (3 : Int32)), .val (.ref s0), .val (.ref a1), .val (.ref s1), .val (.ref a2), .val (.ref s2), .val (.ref ac), .val (.ref sc), .val (.ref t), .val (.int (1 : Int32))] [.int (3 : Int32)] := H540.iload at_223
      have H542 : Hr x b_at Z EL1 20 272 hi [e2, e1, e0, L, sl, hs, ix, t, sc, ac, s2, a2, s1, a1, s0] 226 #[.val (.int p0), .val (.int p1), .val (.int p2), .val (.int p3), .val (.int (3 : Int32)), .val (.ref s0), .val (.ref a1), .val (.ref s1), .val (.ref a2), .val (.ref s2), .val (.ref ac), .val (.ref sc), .val (.ref t), .val (.int (1 : Int32))] [.int (1 : Int32), .int (3 : Int32)] := H541.iconst at_225
      have H543 : Hr x b_at Z EL1 20 272 hi [e2, e1, e0, L, sl, hs, ix, t, sc, ac, s2, a2, s1, a1, s0] 229 #[.val (.int p0), .val (.int p1), .val (.int p2), .val (.int p3), .val (.int (3 : Int32)), .val (.ref s0), .val (.ref a1), .val (.ref s1), .val (.ref a2), .val (.ref s2), .val (.ref ac), .val (.ref sc), .val (.ref t), .val (.int (1 : Int32))] [] := H542.icmpF at_226 (XT.ii_lt_f (by decide))
      have H544 : Hr x b_at Z EL1 20 272 hi [e2, e1, e0, L, sl, hs, ix, t, sc, ac, s2, a2, s1, a1, s0] 231 #[.val (.int p0), .val (.int p1), .val (.int p2), .val (.int p3), .val (.int (3 : Int32)), .val (.ref s0), .val (.ref a1), .val (.ref s1), .val (.ref a2), .val (.ref s2), .val (.ref ac), .val (.ref sc), .val (.ref t), .val (.int (1 : Int32))] [.int (1 : Int32)] := H543.iload at_229
      have H545 : Hr x b_at Z EL1 20 272 hi [e2, e1, e0, L, sl, hs, ix, t, sc, ac, s2, a2, s1, a1, s0] 234 #[.val (.int p0), .val (.int p1), .val (.int p2), .val (.int p3), .val (.int (3 : Int32)), .val (.ref s0), .val (.ref a1), .val (.ref s1), .val (.ref a2), .val (.ref s2), .val (.ref ac), .val (.ref sc), .val (.ref t), .val (.int (1 : Int32))] [] := H544.ifF at_231 (XT.i0_eq_f (by decide))
      have H546 : Hr x b_at Z EL1 20 272 hi [e2, e1, e0, L, sl, hs, ix, t, sc, ac, s2, a2, s1, a1, s0] 236 #[.val (.int p0), .val (.int p1), .val (.int p2), .val (.int p3), .val (.int (3 : Int32)), .val (.ref s0), .val (.ref a1), .val (.ref s1), .val (.ref a2), .val (.ref s2), .val (.ref ac), .val (.ref sc), .val (.ref t), .val (.int (1 : Int32))] [.ref t] := H545.aload at_234
      have H547 : Hr x b_at Z EL1 20 272 hi [e2, e1, e0, L, sl, hs, ix, t, sc, ac, s2, a2, s1, a1, s0] 237 #[.val (.int p0), .val (.int p1), .val (.int p2), .val (.int p3), .val (.int (3 : Int32)), .val (.ref s0), .val (.ref a1), .val (.ref s1), .val (.ref a2), .val (.ref s2), .val (.ref ac), .val (.ref sc), .val (.ref t), .val (.int (1 : Int32))] [.int (0 : Int32), .ref t] := H546.iconst at_236
      obtain ⟨_, hy0, _, ⟨rfl, rfl, ey0⟩, Ky0, H548⟩ := H547.callV (argsL := [.int (0 : Int32)]) (rest := []) (Wr := 0) (a := t) (ct_ntnm hw x.l x.nar x.kn hnar hi t L sl hs ix 3 (q2 :: (q1 :: (q0 :: []))) (sc :: (s2 :: (s1 :: (s0 :: [])))) Ti D e2 [e2] (((([] : List Addr) ++ [s0]) ++ [s1]) ++ [s2]) Pi 0 (by simp) (by simp) Ws0) sub0 Ti.1.1 (w215 hw) (w216 hw) (w218 hw) (w218 hw) (w217 hw) (w46 hw) (w219 hw) at_237 pd_ntnm rfl (hf := by first | decide | (simp [b_at, Bx.R]; done) | (simp [b_at, Bx.R]; omega)) (hl := by first | decide | (simp [b_at, Bx.R]; done) | (simp [b_at, Bx.R]; omega)) (hc := by first | decide | (simp [b_at, Bx.R]; done) | (simp [b_at, Bx.R]; omega)) (hs := by first | decide | (simp [b_at, Bx.R]; done) | (simp [b_at, Bx.R]; omega))
      rw [ey0] at H548
      have H548 : Hr x b_at Z EL1 20 272 hi [e2, e1, e0, L, sl, hs, ix, t, sc, ac, s2, a2, s1, a1, s0] 240 #[.val (.int p0), .val (.int p1), .val (.int p2), .val (.int p3), .val (.int (3 : Int32)), .val (.ref s0), .val (.ref a1), .val (.ref s1), .val (.ref a2), .val (.ref s2), .val (.ref ac), .val (.ref sc), .val (.ref t), .val (.int (1 : Int32))] [.ref s0] := H548
      have H549 : Hr x b_at Z EL1 20 272 hi [e2, e1, e0, L, sl, hs, ix, t, sc, ac, s2, a2, s1, a1, s0] 242 #[.val (.int p0), .val (.int p1), .val (.int p2), .val (.int p3), .val (.int (3 : Int32)), .val (.ref s0), .val (.ref a1), .val (.ref s1), .val (.ref a2), .val (.ref s2), .val (.ref ac), .val (.ref sc), .val (.ref t), .val (.int (1 : Int32))] [.ref s0, .ref s0] := H548.aload at_240
      have H550 : Hr x b_at Z EL1 20 272 hi [e2, e1, e0, L, sl, hs, ix, t, sc, ac, s2, a2, s1, a1, s0] 245 #[.val (.int p0), .val (.int p1), .val (.int p2), .val (.int p3), .val (.int (3 : Int32)), .val (.ref s0), .val (.ref a1), .val (.ref s1), .val (.ref a2), .val (.ref s2), .val (.ref ac), .val (.ref sc), .val (.ref t), .val (.int (1 : Int32))] [] := H549.acmpF at_242 (by simp [XT.acmp])
      have H551 : Hr x b_at Z EL1 20 272 hi [e2, e1, e0, L, sl, hs, ix, t, sc, ac, s2, a2, s1, a1, s0] 246 #[.val (.int p0), .val (.int p1), .val (.int p2), .val (.int p3), .val (.int (3 : Int32)), .val (.ref s0), .val (.ref a1), .val (.ref s1), .val (.ref a2), .val (.ref s2), .val (.ref ac), .val (.ref sc), .val (.ref t), .val (.int (1 : Int32))] [.int (1 : Int32)] := H550.iconst at_245
      have H552 : Hr x b_at Z EL1 20 272 hi [e2, e1, e0, L, sl, hs, ix, t, sc, ac, s2, a2, s1, a1, s0] 250 #[.val (.int p0), .val (.int p1), .val (.int p2), .val (.int p3), .val (.int (3 : Int32)), .val (.ref s0), .val (.ref a1), .val (.ref s1), .val (.ref a2), .val (.ref s2), .val (.ref ac), .val (.ref sc), .val (.ref t), .val (.int (1 : Int32))] [.int (1 : Int32)] := H551.goto at_246
      have H553 : Hr x b_at Z EL1 20 272 hi [e2, e1, e0, L, sl, hs, ix, t, sc, ac, s2, a2, s1, a1, s0] 252 #[.val (.int p0), .val (.int p1), .val (.int p2), .val (.int p3), .val (.int (3 : Int32)), .val (.ref s0), .val (.ref a1), .val (.ref s1), .val (.ref a2), .val (.ref s2), .val (.ref ac), .val (.ref sc), .val (.ref t), .val (.int (1 : Int32))] [] := H552.istore at_250
      have H554 : Hr x b_at Z EL1 20 272 hi [e2, e1, e0, L, sl, hs, ix, t, sc, ac, s2, a2, s1, a1, s0] 254 #[.val (.int p0), .val (.int p1), .val (.int p2), .val (.int p3), .val (.int (3 : Int32)), .val (.ref s0), .val (.ref a1), .val (.ref s1), .val (.ref a2), .val (.ref s2), .val (.ref ac), .val (.ref sc), .val (.ref t), .val (.int (1 : Int32))] [.int (3 : Int32)] := H553.iload at_252
      have H555 : Hr x b_at Z EL1 20 272 hi [e2, e1, e0, L, sl, hs, ix, t, sc, ac, s2, a2, s1, a1, s0] 255 #[.val (.int p0), .val (.int p1), .val (.int p2), .val (.int p3), .val (.int (3 : Int32)), .val (.ref s0), .val (.ref a1), .val (.ref s1), .val (.ref a2), .val (.ref s2), .val (.ref ac), .val (.ref sc), .val (.ref t), .val (.int (1 : Int32))] [.int (2 : Int32), .int (3 : Int32)] := H554.iconst at_254
      have H556 : Hr x b_at Z EL1 20 272 hi [e2, e1, e0, L, sl, hs, ix, t, sc, ac, s2, a2, s1, a1, s0] 258 #[.val (.int p0), .val (.int p1), .val (.int p2), .val (.int p3), .val (.int (3 : Int32)), .val (.ref s0), .val (.ref a1), .val (.ref s1), .val (.ref a2), .val (.ref s2), .val (.ref ac), .val (.ref sc), .val (.ref t), .val (.int (1 : Int32))] [] := H555.icmpF at_255 (XT.ii_lt_f (by decide))
      have H557 : Hr x b_at Z EL1 20 272 hi [e2, e1, e0, L, sl, hs, ix, t, sc, ac, s2, a2, s1, a1, s0] 260 #[.val (.int p0), .val (.int p1), .val (.int p2), .val (.int p3), .val (.int (3 : Int32)), .val (.ref s0), .val (.ref a1), .val (.ref s1), .val (.ref a2), .val (.ref s2), .val (.ref ac), .val (.ref sc), .val (.ref t), .val (.int (1 : Int32))] [.int (1 : Int32)] := H556.iload at_258
      have H558 : Hr x b_at Z EL1 20 272 hi [e2, e1, e0, L, sl, hs, ix, t, sc, ac, s2, a2, s1, a1, s0] 263 #[.val (.int p0), .val (.int p1), .val (.int p2), .val (.int p3), .val (.int (3 : Int32)), .val (.ref s0), .val (.ref a1), .val (.ref s1), .val (.ref a2), .val (.ref s2), .val (.ref ac), .val (.ref sc), .val (.ref t), .val (.int (1 : Int32))] [] := H557.ifF at_260 (XT.i0_eq_f (by decide))
      have H559 : Hr x b_at Z EL1 20 272 hi [e2, e1, e0, L, sl, hs, ix, t, sc, ac, s2, a2, s1, a1, s0] 265 #[.val (.int p0), .val (.int p1), .val (.int p2), .val (.int p3), .val (.int (3 : Int32)), .val (.ref s0), .val (.ref a1), .val (.ref s1), .val (.ref a2), .val (.ref s2), .val (.ref ac), .val (.ref sc), .val (.ref t), .val (.int (1 : Int32))] [.ref t] := H558.aload at_263
      have H560 : Hr x b_at Z EL1 20 272 hi [e2, e1, e0, L, sl, hs, ix, t, sc, ac, s2, a2, s1, a1, s0] 266 #[.val (.int p0), .val (.int p1), .val (.int p2), .val (.int p3), .val (.int (3 : Int32)), .val (.ref s0), .val (.ref a1), .val (.ref s1), .val (.ref a2), .val (.ref s2), .val (.ref ac), .val (.ref sc), .val (.ref t), .val (.int (1 : Int32))] [.int (1 : Int32), .ref t] := H559.iconst at_265
      obtain ⟨_, hy1, _, ⟨rfl, rfl, ey1⟩, Ky1, H561⟩ := H560.callV (argsL := [.int (1 : Int32)]) (rest := []) (Wr := 0) (a := t) (ct_ntnm hw x.l x.nar x.kn hnar hi t L sl hs ix 3 (q2 :: (q1 :: (q0 :: []))) (sc :: (s2 :: (s1 :: (s0 :: [])))) Ti D e2 [e2] (((([] : List Addr) ++ [s0]) ++ [s1]) ++ [s2]) Pi 1 (by simp) (by simp) Ws1) sub0 Ti.1.1 (w215 hw) (w216 hw) (w218 hw) (w218 hw) (w217 hw) (w46 hw) (w219 hw) at_266 pd_ntnm rfl (hf := by first | decide | (simp [b_at, Bx.R]; done) | (simp [b_at, Bx.R]; omega)) (hl := by first | decide | (simp [b_at, Bx.R]; done) | (simp [b_at, Bx.R]; omega)) (hc := by first | decide | (simp [b_at, Bx.R]; done) | (simp [b_at, Bx.R]; omega)) (hs := by first | decide | (simp [b_at, Bx.R]; done) | (simp [b_at, Bx.R]; omega))
      rw [ey1] at H561
      have H561 : Hr x b_at Z EL1 20 272 hi [e2, e1, e0, L, sl, hs, ix, t, sc, ac, s2, a2, s1, a1, s0] 269 #[.val (.int p0), .val (.int p1), .val (.int p2), .val (.int p3), .val (.int (3 : Int32)), .val (.ref s0), .val (.ref a1), .val (.ref s1), .val (.ref a2), .val (.ref s2), .val (.ref ac), .val (.ref sc), .val (.ref t), .val (.int (1 : Int32))] [.ref s1] := H561
      have H562 : Hr x b_at Z EL1 20 272 hi [e2, e1, e0, L, sl, hs, ix, t, sc, ac, s2, a2, s1, a1, s0] 271 #[.val (.int p0), .val (.int p1), .val (.int p2), .val (.int p3), .val (.int (3 : Int32)), .val (.ref s0), .val (.ref a1), .val (.ref s1), .val (.ref a2), .val (.ref s2), .val (.ref ac), .val (.ref sc), .val (.ref t), .val (.int (1 : Int32))] [.ref s1, .ref s1] := H561.aload at_269
      have H563 : Hr x b_at Z EL1 20 272 hi [e2, e1, e0, L, sl, hs, ix, t, sc, ac, s2, a2, s1, a1, s0] 274 #[.val (.int p0), .val (.int p1), .val (.int p2), .val (.int p3), .val (.int (3 : Int32)), .val (.ref s0), .val (.ref a1), .val (.ref s1), .val (.ref a2), .val (.ref s2), .val (.ref ac), .val (.ref sc), .val (.ref t), .val (.int (1 : Int32))] [] := H562.acmpF at_271 (by simp [XT.acmp])
      have H564 : Hr x b_at Z EL1 20 272 hi [e2, e1, e0, L, sl, hs, ix, t, sc, ac, s2, a2, s1, a1, s0] 275 #[.val (.int p0), .val (.int p1), .val (.int p2), .val (.int p3), .val (.int (3 : Int32)), .val (.ref s0), .val (.ref a1), .val (.ref s1), .val (.ref a2), .val (.ref s2), .val (.ref ac), .val (.ref sc), .val (.ref t), .val (.int (1 : Int32))] [.int (1 : Int32)] := H563.iconst at_274
      have H565 : Hr x b_at Z EL1 20 272 hi [e2, e1, e0, L, sl, hs, ix, t, sc, ac, s2, a2, s1, a1, s0] 279 #[.val (.int p0), .val (.int p1), .val (.int p2), .val (.int p3), .val (.int (3 : Int32)), .val (.ref s0), .val (.ref a1), .val (.ref s1), .val (.ref a2), .val (.ref s2), .val (.ref ac), .val (.ref sc), .val (.ref t), .val (.int (1 : Int32))] [.int (1 : Int32)] := H564.goto at_275
      have H566 : Hr x b_at Z EL1 20 272 hi [e2, e1, e0, L, sl, hs, ix, t, sc, ac, s2, a2, s1, a1, s0] 281 #[.val (.int p0), .val (.int p1), .val (.int p2), .val (.int p3), .val (.int (3 : Int32)), .val (.ref s0), .val (.ref a1), .val (.ref s1), .val (.ref a2), .val (.ref s2), .val (.ref ac), .val (.ref sc), .val (.ref t), .val (.int (1 : Int32))] [] := H565.istore at_279
      have H567 : Hr x b_at Z EL1 20 272 hi [e2, e1, e0, L, sl, hs, ix, t, sc, ac, s2, a2, s1, a1, s0] 283 #[.val (.int p0), .val (.int p1), .val (.int p2), .val (.int p3), .val (.int (3 : Int32)), .val (.ref s0), .val (.ref a1), .val (.ref s1), .val (.ref a2), .val (.ref s2), .val (.ref ac), .val (.ref sc), .val (.ref t), .val (.int (1 : Int32))] [.int (3 : Int32)] := H566.iload at_281
      have H568 : Hr x b_at Z EL1 20 272 hi [e2, e1, e0, L, sl, hs, ix, t, sc, ac, s2, a2, s1, a1, s0] 284 #[.val (.int p0), .val (.int p1), .val (.int p2), .val (.int p3), .val (.int (3 : Int32)), .val (.ref s0), .val (.ref a1), .val (.ref s1), .val (.ref a2), .val (.ref s2), .val (.ref ac), .val (.ref sc), .val (.ref t), .val (.int (1 : Int32))] [.int (3 : Int32), .int (3 : Int32)] := H567.iconst at_283
      have H569 : Hr x b_at Z EL1 20 272 hi [e2, e1, e0, L, sl, hs, ix, t, sc, ac, s2, a2, s1, a1, s0] 287 #[.val (.int p0), .val (.int p1), .val (.int p2), .val (.int p3), .val (.int (3 : Int32)), .val (.ref s0), .val (.ref a1), .val (.ref s1), .val (.ref a2), .val (.ref s2), .val (.ref ac), .val (.ref sc), .val (.ref t), .val (.int (1 : Int32))] [] := H568.icmpF at_284 (XT.ii_lt_f (by decide))
      have H570 : Hr x b_at Z EL1 20 272 hi [e2, e1, e0, L, sl, hs, ix, t, sc, ac, s2, a2, s1, a1, s0] 289 #[.val (.int p0), .val (.int p1), .val (.int p2), .val (.int p3), .val (.int (3 : Int32)), .val (.ref s0), .val (.ref a1), .val (.ref s1), .val (.ref a2), .val (.ref s2), .val (.ref ac), .val (.ref sc), .val (.ref t), .val (.int (1 : Int32))] [.int (1 : Int32)] := H569.iload at_287
      have H571 : Hr x b_at Z EL1 20 272 hi [e2, e1, e0, L, sl, hs, ix, t, sc, ac, s2, a2, s1, a1, s0] 292 #[.val (.int p0), .val (.int p1), .val (.int p2), .val (.int p3), .val (.int (3 : Int32)), .val (.ref s0), .val (.ref a1), .val (.ref s1), .val (.ref a2), .val (.ref s2), .val (.ref ac), .val (.ref sc), .val (.ref t), .val (.int (1 : Int32))] [] := H570.ifF at_289 (XT.i0_eq_f (by decide))
      have H572 : Hr x b_at Z EL1 20 272 hi [e2, e1, e0, L, sl, hs, ix, t, sc, ac, s2, a2, s1, a1, s0] 294 #[.val (.int p0), .val (.int p1), .val (.int p2), .val (.int p3), .val (.int (3 : Int32)), .val (.ref s0), .val (.ref a1), .val (.ref s1), .val (.ref a2), .val (.ref s2), .val (.ref ac), .val (.ref sc), .val (.ref t), .val (.int (1 : Int32))] [.ref t] := H571.aload at_292
      have H573 : Hr x b_at Z EL1 20 272 hi [e2, e1, e0, L, sl, hs, ix, t, sc, ac, s2, a2, s1, a1, s0] 295 #[.val (.int p0), .val (.int p1), .val (.int p2), .val (.int p3), .val (.int (3 : Int32)), .val (.ref s0), .val (.ref a1), .val (.ref s1), .val (.ref a2), .val (.ref s2), .val (.ref ac), .val (.ref sc), .val (.ref t), .val (.int (1 : Int32))] [.int (2 : Int32), .ref t] := H572.iconst at_294
      obtain ⟨_, hy2, _, ⟨rfl, rfl, ey2⟩, Ky2, H574⟩ := H573.callV (argsL := [.int (2 : Int32)]) (rest := []) (Wr := 0) (a := t) (ct_ntnm hw x.l x.nar x.kn hnar hi t L sl hs ix 3 (q2 :: (q1 :: (q0 :: []))) (sc :: (s2 :: (s1 :: (s0 :: [])))) Ti D e2 [e2] (((([] : List Addr) ++ [s0]) ++ [s1]) ++ [s2]) Pi 2 (by simp) (by simp) Ws2) sub0 Ti.1.1 (w215 hw) (w216 hw) (w218 hw) (w218 hw) (w217 hw) (w46 hw) (w219 hw) at_295 pd_ntnm rfl (hf := by first | decide | (simp [b_at, Bx.R]; done) | (simp [b_at, Bx.R]; omega)) (hl := by first | decide | (simp [b_at, Bx.R]; done) | (simp [b_at, Bx.R]; omega)) (hc := by first | decide | (simp [b_at, Bx.R]; done) | (simp [b_at, Bx.R]; omega)) (hs := by first | decide | (simp [b_at, Bx.R]; done) | (simp [b_at, Bx.R]; omega))
      rw [ey2] at H574
      have H574 : Hr x b_at Z EL1 20 272 hi [e2, e1, e0, L, sl, hs, ix, t, sc, ac, s2, a2, s1, a1, s0] 298 #[.val (.int p0), .val (.int p1), .val (.int p2), .val (.int p3), .val (.int (3 : Int32)), .val (.ref s0), .val (.ref a1), .val (.ref s1), .val (.ref a2), .val (.ref s2), .val (.ref ac), .val (.ref sc), .val (.ref t), .val (.int (1 : Int32))] [.ref s2] := H574
      have H575 : Hr x b_at Z EL1 20 272 hi [e2, e1, e0, L, sl, hs, ix, t, sc, ac, s2, a2, s1, a1, s0] 300 #[.val (.int p0), .val (.int p1), .val (.int p2), .val (.int p3), .val (.int (3 : Int32)), .val (.ref s0), .val (.ref a1), .val (.ref s1), .val (.ref a2), .val (.ref s2), .val (.ref ac), .val (.ref sc), .val (.ref t), .val (.int (1 : Int32))] [.ref s2, .ref s2] := H574.aload at_298
      have H576 : Hr x b_at Z EL1 20 272 hi [e2, e1, e0, L, sl, hs, ix, t, sc, ac, s2, a2, s1, a1, s0] 303 #[.val (.int p0), .val (.int p1), .val (.int p2), .val (.int p3), .val (.int (3 : Int32)), .val (.ref s0), .val (.ref a1), .val (.ref s1), .val (.ref a2), .val (.ref s2), .val (.ref ac), .val (.ref sc), .val (.ref t), .val (.int (1 : Int32))] [] := H575.acmpF at_300 (by simp [XT.acmp])
      have H577 : Hr x b_at Z EL1 20 272 hi [e2, e1, e0, L, sl, hs, ix, t, sc, ac, s2, a2, s1, a1, s0] 304 #[.val (.int p0), .val (.int p1), .val (.int p2), .val (.int p3), .val (.int (3 : Int32)), .val (.ref s0), .val (.ref a1), .val (.ref s1), .val (.ref a2), .val (.ref s2), .val (.ref ac), .val (.ref sc), .val (.ref t), .val (.int (1 : Int32))] [.int (1 : Int32)] := H576.iconst at_303
      have H578 : Hr x b_at Z EL1 20 272 hi [e2, e1, e0, L, sl, hs, ix, t, sc, ac, s2, a2, s1, a1, s0] 308 #[.val (.int p0), .val (.int p1), .val (.int p2), .val (.int p3), .val (.int (3 : Int32)), .val (.ref s0), .val (.ref a1), .val (.ref s1), .val (.ref a2), .val (.ref s2), .val (.ref ac), .val (.ref sc), .val (.ref t), .val (.int (1 : Int32))] [.int (1 : Int32)] := H577.goto at_304
      have H579 : Hr x b_at Z EL1 20 272 hi [e2, e1, e0, L, sl, hs, ix, t, sc, ac, s2, a2, s1, a1, s0] 310 #[.val (.int p0), .val (.int p1), .val (.int p2), .val (.int p3), .val (.int (3 : Int32)), .val (.ref s0), .val (.ref a1), .val (.ref s1), .val (.ref a2), .val (.ref s2), .val (.ref ac), .val (.ref sc), .val (.ref t), .val (.int (1 : Int32))] [] := H578.istore at_308
      have H580 : Hr x b_at Z EL1 20 272 hi [e2, e1, e0, L, sl, hs, ix, t, sc, ac, s2, a2, s1, a1, s0] 312 #[.val (.int p0), .val (.int p1), .val (.int p2), .val (.int p3), .val (.int (3 : Int32)), .val (.ref s0), .val (.ref a1), .val (.ref s1), .val (.ref a2), .val (.ref s2), .val (.ref ac), .val (.ref sc), .val (.ref t), .val (.int (1 : Int32))] [.int (1 : Int32)] := H579.iload at_310
      exact H580.finZ at_312 (t := .boolean) (by first | rfl | decide) ⟨rfl, rfl⟩ sub0
set_option maxRecDepth 65536 in
set_option maxHeartbeats 4000000 in
theorem comes_1 {Post : Tables → Env → Array Value → State → Outcome → State → Prop} (hpost : ∀ tb e args s v u, (limb_1_1.after args s (.returned v) u = true ∧ limb_1_2.after args s (.returned v) u = true ∧ True) → Framed s (.returned v) u (Jvm.fieldLocs frame_1_writes args s ++ Jvm.arrayLocs frame_1_arrays args s ++ Jvm.staticLocs frame_1_statics s) 48 576 → Post tb e args s (.returned v) u) :
    ArmFor flags0 classFile x code maxLocals ret World_1 tables_1 room_1 Calls_1 rest_1 Pre_1 Post := by
  intro l hfl _ _ p e ha hc hk s m args below hf hA hF happ hP
  obtain ⟨hcalls, hrest, hpre⟩ := hP
  obtain ⟨-, -, -, hnamed, -, -, -, hat⟩ := (Spec.applies_iff hf).mp happ
  obtain ⟨hg, hn⟩ := and_e (Cond.before_iff.mp (show (Jvm.Cond.and given_1 narrow_1).before args s = true from hpre))
  obtain ⟨g0, hg⟩ := and_e hg
  obtain ⟨g1, hg⟩ := and_e hg
  obtain ⟨g2, hg⟩ := and_e hg
  obtain ⟨g3, hg⟩ := and_e hg
  obtain ⟨v0, v1, v2, v3, rfl⟩ : ∃ v0 v1 v2 v3 : Value, args = #[v0, v1, v2, v3] := by
    have hs : args.size = 4 := by simpa [Cond.value, given_1] using g0
    obtain ⟨L⟩ := args
    match L, hs with
    | [v0, v1, v2, v3], _ => exact ⟨v0, v1, v2, v3, rfl⟩
  have hw := fun d (hd : d ∈ tables_1) => atoms_spec (ws := Jvm.Cond.code x code maxLocals ret :: tables_1) hat d (List.mem_cons_of_mem _ hd)
  obtain ⟨hsets, hown0⟩ := atoms_of _ (rest_1_c_eq ▸ (show rest_1_c.before _ s = true from hrest))
  obtain ⟨i0, e0⟩ := is_v g1
  obtain rfl : v0 = (.int i0) := Option.some.inj e0
  obtain ⟨i1, e1⟩ := is_v g2
  obtain rfl : v1 = (.int i1) := Option.some.inj e1
  obtain ⟨i2, e2⟩ := is_v g3
  obtain rfl : v2 = (.int i2) := Option.some.inj e2
  obtain ⟨i3, e3⟩ := is_v hg
  obtain rfl : v3 = (.int i3) := Option.some.inj e3
  have n5 := not_v (Cond.before_iff.mp (hsets _ (List.mem_of_getElem? (i := 2) rfl)))
  obtain ⟨cz, ecz⟩ := is_v (Cond.before_iff.mp (hsets _ (List.mem_of_getElem? (i := 1) rfl)))
  have O : Sta s s.heap "java/lang/String" "COMPACT_STRINGS" "Z" (.int cz) := Sta.start ecz (Or.inl (hsets _ (List.mem_of_getElem? (i := 0) rfl)))
  have hcz : ¬ (cz = (0 : Int32)) := gotF (Cond.eq_ints ecz (Term.int_eval (0))) n5
  have hCH : CHv s EL1 s.vm s.heap := fun p hp => nomatch hp
  obtain ⟨D, tD⟩ := exa_v (Cond.before_iff.mp (hsets _ (List.mem_of_getElem? (i := 16) rfl)))
  have SDf : Sta s s.heap "java/util/ArrayList" "DEFAULTCAPACITY_EMPTY_ELEMENTDATA" "[Ljava/lang/Object;" (.ref D) := Sta.start tD (Or.inr ⟨(w53 hw), hsets _ (List.mem_of_getElem? (i := 11) rfl)⟩)
  obtain ⟨cD, AD⟩ := Arr.start tD (Cond.before_iff.mp (hsets _ (List.mem_of_getElem? (i := 15) rfl)))
  have zD := len_is (n := 0) (eqv_i (Term.int_eval (0)) (Cond.before_iff.mp (hsets _ (List.mem_of_getElem? (i := 17) rfl)))) tD (Arr.fin (Vm.Alike.refl _) AD) (by decide)
  have FD : Ar s s.heap D (.object "java/lang/Object") [] := ⟨cD, AD, List.length_eq_zero_iff.mp (by rw [Array.length_toList]; exact zD), by decide⟩
  obtain ⟨n, o, h1, h2, h3, _, L, sn, rfl, ⟨rfl, -⟩, -, -, N, -, hnw, hq⟩ := ct_law hw l true false rfl s.heap i0 i1 i2 i3 cz O hcz D SDf FD tables_1 p e ha hc hk s m _ below hf ((Spec.applies_iff_loose hf).mp happ).1 ⟨rfl, State.Warmed39.refl s, rfl, hCH, Ext.rfl' _, fun _ q => nomatch q⟩ (fun q => nomatch q)
  refine ⟨n, _, h1, h2, h3, hpost _ _ _ _ _ _ ⟨Cond.after_iff.mpr rfl, Cond.after_iff.mpr (eq_i res_at (Term.int_eval (1)) rfl), trivial⟩ ⟨hq.1, hnw rfl, (hq.2.2.2.sift fun y hy => Or.inr (N y hy)).mono (by decide) (by decide)⟩⟩
theorem main_1_1 : Claimed_1_1 := comes_1 fun _ _ _ _ _ _ h hF => ⟨h.1, hF⟩
theorem main_1_2 : Claimed_1_2 := comes_1 fun _ _ _ _ _ _ h hF => ⟨h.2.1, hF⟩
end Jvm.Pilot.@@N@@
namespace Jvm.Pilot.@@N@@
open Jvm Jvm.ClassFile Sem Op Lib Jvm.Free Jvm.Stand Jvm.Pilot.@@N@@.Jvm.D
/-! MADE BY PROGRAM (witnessworld.py) out of the Statement's table words and the real class files: 40 classes; the members and pool entries that the words name. The judged class is class 1, her method 1. -/
namespace start1
open Jvm.ClassFile
def u (s : String) : CpInfo := .utf8 (stringToUtf16 s)
/-- a pool by its gaps: so many unusable entries, then the entry; so many at the end -/
def gap : Nat → List CpInfo → List CpInfo
  | 0, r => r
  | n + 1, r => .unusable :: gap n r
def poolList (es : List (Nat × CpInfo)) (last : Nat) : List CpInfo := es.foldr (fun e r => gap e.1 (e.2 :: r)) (gap last [])
def pool (es : List (Nat × CpInfo)) (last : Nat) : Array CpInfo := ⟨poolList es last⟩
def fileOf (pool : Array CpInfo) (this : Nat) (attrs : Array Attribute := #[]) (ms : Array MethodInfo := #[]) (fl : Nat := 33) (sup : Nat := 0) (ifs : Array Nat := #[]) (fds : Array FieldInfo := #[]) : ClassFile where
  minorVersion := 0
  majorVersion := 65
  constantPool := pool
  accessFlags := fl
  thisClass := this
  superClass := sup
  interfaces := ifs
  fields := fds
  methods := ms
  attributes := attrs
def plain (name : String) (sup : Option ClassId) : Class where
  name := name
  kind := .ordinary
  loader := none
  accessFlags := 33
  super := sup
  interfaces := #[]
  cf := none
  fields := #[]
  methods := #[]
  instanceTypes := #[]
  staticTypes := #[]
  resolved := #[]
  callSites := []
  init := .initialized
  statics := none
  mirror := none

def pool0 : Array CpInfo := pool [(5, u "<init>"), (0, u "()V"), (1, .class_ 10), (1, u "java/lang/Object")] 113

def k0c0 : Code := { maxStack := 0, maxLocals := 1, code := object_method_1_code, exceptionTable := #[], attributes := #[] }
def k0m0 : Method := { name := "<init>", desc := "()V", sig := { parameters := [], returnType := none }, accessFlags := 1, code := some k0c0 }
/-- java/lang/Object -/
def k0 : Class := { plain "java/lang/Object" none with
  accessFlags := 33
  interfaces := #[]
  cf := some (fileOf pool0 8 #[] #[{ accessFlags := 1, nameIndex := 5, descriptorIndex := 6, attributes := #[] }] 33 0 #[] #[])
  fields := #[]
  methods := #[k0m0]
  instanceTypes := #[]
  staticTypes := #[]
  resolved := Array.replicate 124 none
  statics := none }

def pool1 : Array CpInfo := pool [(2, .class_ 4), (0, .nameAndType 5 6), (0, u "java/lang/Object"), (0, u "<init>"), (0, u "()V"), (0, .methodref 8 9), (0, .class_ 10), (0, .nameAndType 11 12), (0, u "java/lang/String"), (0, u "valueOf"), (0, u "(C)Ljava/lang/String;"), (0, .methodref 8 14), (0, .nameAndType 5 15), (0, u "([C)V"), (0, .class_ 17), (0, u "com/example/afterscore/afterscore/io/NameTable"), (0, .methodref 16 3), (0, .methodref 16 20), (0, .nameAndType 21 22), (0, u "add"), (0, u "(Ljava/lang/String;)I"), (0, .methodref 16 24), (0, .nameAndType 25 26), (0, u "size"), (0, u "()I"), (0, .methodref 16 28), (0, .nameAndType 29 22), (0, u "indexOf"), (0, .methodref 16 31), (0, .nameAndType 32 33), (0, u "name"), (0, u "(I)Ljava/lang/String;"), (0, .class_ 35), (0, u "com/example/afterscore/afterscore/io/NameTableNamePinLaw"), (2, u "law"), (0, u "(IIII)Z")] 5

def k1m0 : Method := { name := "<init>", desc := "()V", sig := { parameters := [], returnType := none }, accessFlags := 1, code := none }
def k1c1 : Code := { maxStack := 4, maxLocals := 14, code := code, exceptionTable := #[], attributes := #[] }
def k1m1 : Method := { name := "law", desc := "(IIII)Z", sig := { parameters := [.int, .int, .int, .int], returnType := some .boolean }, accessFlags := 9, code := some k1c1 }
/-- com/example/afterscore/afterscore/io/NameTableNamePinLaw -/
def k1 : Class := { plain "com/example/afterscore/afterscore/io/NameTableNamePinLaw" (some 0) with
  accessFlags := 49
  interfaces := #[]
  cf := some (fileOf pool1 34 #[] #[{ accessFlags := 1, nameIndex := 5, descriptorIndex := 6, attributes := #[] }, { accessFlags := 9, nameIndex := 38, descriptorIndex := 39, attributes := #[] }] 49 2 #[] #[])
  fields := #[]
  methods := #[k1m0, k1m1]
  instanceTypes := #[]
  staticTypes := #[]
  resolved := Array.replicate 45 none
  statics := none }

def pool2 : Array CpInfo := pool [(1, .class_ 2), (0, u "java/io/Serializable"), (0, .class_ 4), (0, u "java/lang/Object")] 2

/-- java/io/Serializable -/
def k2 : Class := { plain "java/io/Serializable" (some 0) with
  accessFlags := 1537
  interfaces := #[]
  cf := some (fileOf pool2 1 #[] #[] 1537 3 #[] #[])
  fields := #[]
  methods := #[]
  instanceTypes := #[]
  staticTypes := #[]
  resolved := Array.replicate 7 none
  statics := none }

def pool3 : Array CpInfo := pool [(1, .class_ 2), (0, u "java/lang/Comparable"), (0, .class_ 4), (0, u "java/lang/Object")] 7

/-- java/lang/Comparable -/
def k3 : Class := { plain "java/lang/Comparable" (some 0) with
  accessFlags := 1537
  interfaces := #[]
  cf := some (fileOf pool3 1 #[] #[] 1537 3 #[] #[])
  fields := #[]
  methods := #[]
  instanceTypes := #[]
  staticTypes := #[]
  resolved := Array.replicate 12 none
  statics := none }

def pool4 : Array CpInfo := pool [(2, .class_ 4), (1, u "java/lang/CharSequence"), (42, .class_ 48), (0, u "java/lang/CharSequence$1CodePointIterator"), (10, .class_ 60), (0, u "java/lang/CharSequence$1CharIterator"), (5, .class_ 67), (0, u "java/lang/Object")] 63

/-- java/lang/CharSequence -/
def k4 : Class := { plain "java/lang/CharSequence" (some 0) with
  accessFlags := 1537
  interfaces := #[]
  cf := some (fileOf pool4 2 #[.nestMembers #[47, 59]] #[] 1537 66 #[] #[])
  fields := #[]
  methods := #[]
  instanceTypes := #[]
  staticTypes := #[]
  resolved := Array.replicate 131 none
  statics := none }

def pool5 : Array CpInfo := pool [(1, .class_ 2), (0, u "java/lang/constant/Constable"), (0, .class_ 4), (0, u "java/lang/Object")] 6

/-- java/lang/constant/Constable -/
def k5 : Class := { plain "java/lang/constant/Constable" (some 0) with
  accessFlags := 1537
  interfaces := #[]
  cf := some (fileOf pool5 1 #[] #[] 1537 3 #[] #[])
  fields := #[]
  methods := #[]
  instanceTypes := #[]
  staticTypes := #[]
  resolved := Array.replicate 11 none
  statics := none }

def pool6 : Array CpInfo := pool [(1, .class_ 2), (0, u "java/lang/constant/ConstantDesc"), (0, .class_ 4), (0, u "java/lang/Object")] 32

/-- java/lang/constant/ConstantDesc -/
def k6 : Class := { plain "java/lang/constant/ConstantDesc" (some 0) with
  accessFlags := 1537
  interfaces := #[]
  cf := some (fileOf pool6 1 #[] #[] 1537 3 #[] #[])
  fields := #[]
  methods := #[]
  instanceTypes := #[]
  staticTypes := #[]
  resolved := Array.replicate 37 none
  statics := none }

def pool7 : Array CpInfo := pool [(1, .methodref 2 3), (0, .class_ 4), (0, .nameAndType 5 6), (0, u "java/lang/Object"), (0, u "<init>"), (0, u "()V"), (2, .fieldref 10 11), (0, .class_ 12), (0, .nameAndType 13 14), (0, u "java/lang/String"), (0, u "value"), (0, u "[B"), (0, .fieldref 10 16), (0, .nameAndType 17 18), (0, u "coder"), (0, u "B"), (0, .fieldref 10 20), (0, .nameAndType 21 22), (0, u "hash"), (0, u "I"), (0, .fieldref 10 24), (0, .nameAndType 25 26), (0, u "hashIsZero"), (0, u "Z"), (0, .methodref 10 28), (0, .nameAndType 5 29), (0, u "([CIILjava/lang/Void;)V"), (8, .fieldref 10 39), (0, .nameAndType 40 26), (0, u "COMPACT_STRINGS"), (1, .class_ 44), (1, u "java/lang/StringUTF16"), (0, u "compress"), (1, .methodref 42 48), (0, .nameAndType 49 50), (0, u "coderFromArrayLen"), (0, u "([BI)B"), (2, u "toBytes"), (53, .class_ 109), (1, u "java/lang/StringLatin1"), (32, u "()Z"), (34, .methodref 42 178), (0, .nameAndType 45 179), (0, u "([CII)[B"), (29, .methodref 10 210), (0, .nameAndType 5 211), (0, u "([BB)V"), (122, u "()I"), (34, u "(C)Z"), (122, .methodref 10 493), (0, .nameAndType 494 142), (0, u "isLatin1"), (46, .methodref 107 542), (0, .nameAndType 543 544), (0, u "equals"), (0, u "([B[B)Z"), (28, u "(Ljava/lang/Object;)Z"), (1, .class_ 576), (0, u "java/lang/CharSequence"), (22, u "CASE_INSENSITIVE_ORDER"), (0, u "Ljava/util/Comparator;"), (27, .methodref 107 629), (0, .nameAndType 630 631), (0, u "hashCode"), (0, u "([B)I"), (150, u "valueOf"), (0, u "(C)Ljava/lang/String;"), (226, u "([C)V"), (4, .methodref 107 1016), (0, .nameAndType 1017 369), (0, u "canEncode"), (0, .methodref 107 1019), (0, .nameAndType 53 1020), (0, u "(C)[B"), (80, u "serialPersistentFields"), (0, u "[Ljava/io/ObjectStreamField;"), (0, .class_ 1104), (0, u "java/lang/String$CaseInsensitiveComparator"), (1, .class_ 1107), (0, u "java/io/Serializable"), (0, .class_ 1109), (0, u "java/lang/Comparable"), (0, .class_ 1111), (0, u "java/lang/constant/Constable"), (0, .class_ 1113), (0, u "java/lang/constant/ConstantDesc"), (2, u "serialVersionUID"), (0, u "J"), (3, u "REPL"), (0, u "C"), (2, u "LATIN1"), (1, u "UTF16")] 323

def k7m0 : Method := { name := "<init>", desc := "()V", sig := { parameters := [], returnType := none }, accessFlags := 1, code := none }
def k7c1 : Code := { maxStack := 5, maxLocals := 2, code := jdk_42_method_3_code, exceptionTable := #[], attributes := #[] }
def k7m1 : Method := { name := "<init>", desc := "([C)V", sig := { parameters := [(.array .char)], returnType := none }, accessFlags := 1, code := some k7c1 }
def k7c2 : Code := { maxStack := 2, maxLocals := 3, code := jdk_42_method_66_code, exceptionTable := #[], attributes := #[] }
def k7m2 : Method := { name := "equals", desc := "(Ljava/lang/Object;)Z", sig := { parameters := [(.object "java/lang/Object")], returnType := some .boolean }, accessFlags := 1, code := some k7c2 }
def k7c3 : Code := { maxStack := 2, maxLocals := 2, code := jdk_42_method_78_code, exceptionTable := #[], attributes := #[] }
def k7m3 : Method := { name := "hashCode", desc := "()I", sig := { parameters := [], returnType := some .int }, accessFlags := 1, code := some k7c3 }
def k7c4 : Code := { maxStack := 4, maxLocals := 1, code := jdk_42_method_139_code, exceptionTable := #[], attributes := #[] }
def k7m4 : Method := { name := "valueOf", desc := "(C)Ljava/lang/String;", sig := { parameters := [.char], returnType := some (.object "java/lang/String") }, accessFlags := 9, code := some k7c4 }
def k7c5 : Code := { maxStack := 4, maxLocals := 6, code := jdk_42_method_149_code, exceptionTable := #[], attributes := #[] }
def k7m5 : Method := { name := "<init>", desc := "([CIILjava/lang/Void;)V", sig := { parameters := [(.array .char), .int, .int, (.object "java/lang/Void")], returnType := none }, accessFlags := 2, code := some k7c5 }
def k7c6 : Code := { maxStack := 2, maxLocals := 3, code := jdk_42_method_151_code, exceptionTable := #[], attributes := #[] }
def k7m6 : Method := { name := "<init>", desc := "([BB)V", sig := { parameters := [(.array .byte), .byte], returnType := none }, accessFlags := 0, code := some k7c6 }
def k7c7 : Code := { maxStack := 1, maxLocals := 1, code := jdk_42_method_154_code, exceptionTable := #[], attributes := #[] }
def k7m7 : Method := { name := "isLatin1", desc := "()Z", sig := { parameters := [], returnType := some .boolean }, accessFlags := 0, code := some k7c7 }
/-- java/lang/String -/
def k7 : Class := { plain "java/lang/String" (some 0) with
  accessFlags := 49
  interfaces := #[2, 3, 4, 5, 6]
  cf := some (fileOf pool7 10 #[.nestMembers #[1103]] #[{ accessFlags := 1, nameIndex := 5, descriptorIndex := 6, attributes := #[] }, { accessFlags := 1, nameIndex := 5, descriptorIndex := 1010, attributes := #[] }, { accessFlags := 1, nameIndex := 543, descriptorIndex := 573, attributes := #[] }, { accessFlags := 1, nameIndex := 630, descriptorIndex := 334, attributes := #[] }, { accessFlags := 9, nameIndex := 782, descriptorIndex := 783, attributes := #[] }, { accessFlags := 2, nameIndex := 5, descriptorIndex := 29, attributes := #[] }, { accessFlags := 0, nameIndex := 5, descriptorIndex := 211, attributes := #[] }, { accessFlags := 0, nameIndex := 494, descriptorIndex := 142, attributes := #[] }] 49 2 #[1106, 1108, 575, 1110, 1112] #[{ accessFlags := 18, nameIndex := 13, descriptorIndex := 14, attributes := #[] }, { accessFlags := 18, nameIndex := 17, descriptorIndex := 18, attributes := #[] }, { accessFlags := 2, nameIndex := 21, descriptorIndex := 22, attributes := #[] }, { accessFlags := 2, nameIndex := 25, descriptorIndex := 26, attributes := #[] }, { accessFlags := 26, nameIndex := 1116, descriptorIndex := 1117, attributes := #[] }, { accessFlags := 24, nameIndex := 40, descriptorIndex := 26, attributes := #[] }, { accessFlags := 26, nameIndex := 1101, descriptorIndex := 1102, attributes := #[] }, { accessFlags := 26, nameIndex := 1121, descriptorIndex := 1122, attributes := #[] }, { accessFlags := 25, nameIndex := 599, descriptorIndex := 600, attributes := #[] }, { accessFlags := 24, nameIndex := 1125, descriptorIndex := 18, attributes := #[] }, { accessFlags := 24, nameIndex := 1127, descriptorIndex := 18, attributes := #[] }])
  fields := #[{ name := "value", type := (.array .byte), accessFlags := 18, slot := 0, constantValue := 0 }, { name := "coder", type := .byte, accessFlags := 18, slot := 1, constantValue := 0 }, { name := "hash", type := .int, accessFlags := 2, slot := 2, constantValue := 0 }, { name := "hashIsZero", type := .boolean, accessFlags := 2, slot := 3, constantValue := 0 }, { name := "serialVersionUID", type := .long, accessFlags := 26, slot := 0, constantValue := 0 }, { name := "COMPACT_STRINGS", type := .boolean, accessFlags := 24, slot := 1, constantValue := 0 }, { name := "serialPersistentFields", type := (.array (.object "java/io/ObjectStreamField")), accessFlags := 26, slot := 2, constantValue := 0 }, { name := "REPL", type := .char, accessFlags := 26, slot := 3, constantValue := 0 }, { name := "CASE_INSENSITIVE_ORDER", type := (.object "java/util/Comparator"), accessFlags := 25, slot := 4, constantValue := 0 }, { name := "LATIN1", type := .byte, accessFlags := 24, slot := 5, constantValue := 0 }, { name := "UTF16", type := .byte, accessFlags := 24, slot := 6, constantValue := 0 }]
  methods := #[k7m0, k7m1, k7m2, k7m3, k7m4, k7m5, k7m6, k7m7]
  instanceTypes := #[(.array .byte), .byte, .int, .boolean]
  staticTypes := #[.long, .boolean, (.array (.object "java/io/ObjectStreamField")), .char, (.object "java/util/Comparator"), .byte, .byte]
  resolved := Array.replicate 1451 none
  statics := some 0 }

def pool8 : Array CpInfo := pool [(4, .class_ 6), (1, u "java/lang/Object"), (0, u "<init>"), (0, u "()V"), (5, .class_ 16), (1, u "java/lang/StringLatin1"), (28, .class_ 47), (1, u "jdk/internal/util/ArraysSupport"), (9, u "([B)I"), (26, .methodref 45 85), (0, .nameAndType 86 87), (0, u "vectorizedHashCode"), (0, u "(Ljava/lang/Object;IIII)I"), (2, u "canEncode"), (14, u "(C)Z"), (15, u "$assertionsDisabled"), (0, u "Z"), (98, .class_ 223), (1, u "java/lang/StringLatin1$LinesSpliterator"), (57, u "equals"), (0, u "([B[B)Z"), (15, u "hashCode"), (81, u "toBytes"), (1, u "(C)[B"), (7, .class_ 391), (0, u "java/lang/StringLatin1$CharsSpliterator")] 3

def k8m0 : Method := { name := "<init>", desc := "()V", sig := { parameters := [], returnType := none }, accessFlags := 0, code := none }
def k8c1 : Code := { maxStack := 2, maxLocals := 1, code := jdk_43_method_3_code, exceptionTable := #[], attributes := #[] }
def k8m1 : Method := { name := "canEncode", desc := "(C)Z", sig := { parameters := [.char], returnType := some .boolean }, accessFlags := 9, code := some k8c1 }
def k8c2 : Code := { maxStack := 3, maxLocals := 3, code := jdk_43_method_13_code, exceptionTable := #[], attributes := #[] }
def k8m2 : Method := { name := "equals", desc := "([B[B)Z", sig := { parameters := [(.array .byte), (.array .byte)], returnType := some .boolean }, accessFlags := 9, code := some k8c2 }
def k8c3 : Code := { maxStack := 5, maxLocals := 1, code := jdk_43_method_21_code, exceptionTable := #[], attributes := #[] }
def k8m3 : Method := { name := "hashCode", desc := "([B)I", sig := { parameters := [(.array .byte)], returnType := some .int }, accessFlags := 9, code := some k8c3 }
def k8c4 : Code := { maxStack := 4, maxLocals := 1, code := jdk_43_method_46_code, exceptionTable := #[], attributes := #[] }
def k8m4 : Method := { name := "toBytes", desc := "(C)[B", sig := { parameters := [.char], returnType := some (.array .byte) }, accessFlags := 9, code := some k8c4 }
/-- java/lang/StringLatin1 -/
def k8 : Class := { plain "java/lang/StringLatin1" (some 0) with
  accessFlags := 48
  interfaces := #[]
  cf := some (fileOf pool8 14 #[.nestMembers #[390, 221]] #[{ accessFlags := 0, nameIndex := 7, descriptorIndex := 8, attributes := #[] }, { accessFlags := 9, nameIndex := 90, descriptorIndex := 105, attributes := #[] }, { accessFlags := 9, nameIndex := 281, descriptorIndex := 282, attributes := #[] }, { accessFlags := 9, nameIndex := 298, descriptorIndex := 57, attributes := #[] }, { accessFlags := 9, nameIndex := 380, descriptorIndex := 382, attributes := #[] }] 48 4 #[] #[{ accessFlags := 4120, nameIndex := 121, descriptorIndex := 122, attributes := #[] }])
  fields := #[{ name := "$assertionsDisabled", type := .boolean, accessFlags := 4120, slot := 0, constantValue := 0 }]
  methods := #[k8m0, k8m1, k8m2, k8m3, k8m4]
  instanceTypes := #[]
  staticTypes := #[.boolean]
  resolved := Array.replicate 395 none
  statics := none }

def pool9 : Array CpInfo := pool [(6, .class_ 8), (1, u "java/lang/Object"), (0, u "<init>"), (0, u "()V"), (1, .class_ 14), (1, u "java/lang/StringUTF16"), (31, u "$assertionsDisabled"), (0, u "Z"), (13, u "HI_BYTE_SHIFT"), (0, u "I"), (2, u "LO_BYTE_SHIFT"), (49, .methodref 12 116), (0, .nameAndType 117 118), (0, u "compress"), (0, u "([CI[BII)I"), (3, u "([CII)[B"), (138, u "coderFromArrayLen"), (0, u "([BI)B"), (106, .class_ 371), (1, u "java/lang/StringUTF16$LinesSpliterator"), (58, u "MAX_LENGTH"), (196, .class_ 628), (0, u "java/lang/StringUTF16$CodePointsSpliterator"), (0, .class_ 630), (0, u "java/lang/StringUTF16$CharsSpliterator")] 4

def k9m0 : Method := { name := "<init>", desc := "()V", sig := { parameters := [], returnType := none }, accessFlags := 0, code := none }
def k9c1 : Code := { maxStack := 2, maxLocals := 2, code := jdk_52_method_15_code, exceptionTable := #[], attributes := #[] }
def k9m1 : Method := { name := "coderFromArrayLen", desc := "([BI)B", sig := { parameters := [(.array .byte), .int], returnType := some .byte }, accessFlags := 8, code := some k9c1 }
def k9c2 : Code := { maxStack := 5, maxLocals := 6, code := jdk_52_method_16_code, exceptionTable := #[], attributes := #[] }
def k9m2 : Method := { name := "compress", desc := "([CII)[B", sig := { parameters := [(.array .char), .int, .int], returnType := some (.array .byte) }, accessFlags := 9, code := some k9c2 }
def k9c3 : Code := { maxStack := 3, maxLocals := 7, code := jdk_52_method_21_code, exceptionTable := #[], attributes := #[] }
def k9m3 : Method := { name := "compress", desc := "([CI[BII)I", sig := { parameters := [(.array .char), .int, (.array .byte), .int, .int], returnType := some .int }, accessFlags := 9, code := some k9c3 }
/-- java/lang/StringUTF16 -/
def k9 : Class := { plain "java/lang/StringUTF16" (some 0) with
  accessFlags := 48
  interfaces := #[]
  cf := some (fileOf pool9 12 #[.nestMembers #[627, 629, 369]] #[{ accessFlags := 0, nameIndex := 9, descriptorIndex := 10, attributes := #[] }, { accessFlags := 8, nameIndex := 261, descriptorIndex := 262, attributes := #[] }, { accessFlags := 9, nameIndex := 117, descriptorIndex := 122, attributes := #[] }, { accessFlags := 9, nameIndex := 117, descriptorIndex := 118, attributes := #[] }] 48 6 #[] #[{ accessFlags := 26, nameIndex := 61, descriptorIndex := 62, attributes := #[] }, { accessFlags := 26, nameIndex := 65, descriptorIndex := 62, attributes := #[] }, { accessFlags := 24, nameIndex := 430, descriptorIndex := 62, attributes := #[] }, { accessFlags := 4120, nameIndex := 46, descriptorIndex := 47, attributes := #[] }])
  fields := #[{ name := "HI_BYTE_SHIFT", type := .int, accessFlags := 26, slot := 0, constantValue := 0 }, { name := "LO_BYTE_SHIFT", type := .int, accessFlags := 26, slot := 1, constantValue := 0 }, { name := "MAX_LENGTH", type := .int, accessFlags := 24, slot := 2, constantValue := 0 }, { name := "$assertionsDisabled", type := .boolean, accessFlags := 4120, slot := 3, constantValue := 0 }]
  methods := #[k9m0, k9m1, k9m2, k9m3]
  instanceTypes := #[]
  staticTypes := #[.int, .int, .int, .boolean]
  resolved := Array.replicate 635 none
  statics := none }

def pool10 : Array CpInfo := pool [(1, .methodref 2 3), (0, .class_ 4), (0, .nameAndType 5 6), (0, u "java/lang/Object"), (0, u "<init>"), (0, u "()V"), (0, .class_ 8), (0, u "java/util/ArrayList"), (0, .methodref 7 3), (0, .fieldref 11 12), (0, .class_ 13), (0, .nameAndType 14 15), (0, u "com/example/afterscore/afterscore/io/NameTable"), (0, u "names"), (0, u "Ljava/util/List;"), (0, .class_ 17), (0, u "java/util/TreeMap"), (0, .methodref 16 3), (0, .fieldref 11 20), (0, .nameAndType 21 22), (0, u "apart"), (0, u "Ljava/util/TreeMap;"), (0, .class_ 24), (0, u "java/lang/String"), (0, .fieldref 11 26), (0, .nameAndType 27 28), (0, u "slots"), (0, u "[Ljava/lang/String;"), (0, .fieldref 11 30), (0, .nameAndType 31 32), (0, u "hashes"), (0, u "[I"), (0, .fieldref 11 34), (0, .nameAndType 35 32), (0, u "indexes"), (0, .interfaceMethodref 37 38), (0, .class_ 39), (0, .nameAndType 40 41), (0, u "java/util/List"), (0, u "size"), (0, u "()I"), (0, .interfaceMethodref 37 43), (0, .nameAndType 44 45), (0, u "get"), (0, u "(I)Ljava/lang/Object;"), (0, .interfaceMethodref 37 47), (0, .nameAndType 48 49), (0, u "add"), (0, u "(Ljava/lang/Object;)Z"), (0, .methodref 11 51), (0, .nameAndType 52 53), (0, u "place"), (0, u "(Ljava/lang/String;I)V"), (0, .fieldref 11 55), (0, .nameAndType 56 57), (0, u "taken"), (0, u "I"), (3, .methodref 23 62), (0, .nameAndType 63 41), (0, u "hashCode"), (0, .methodref 11 65), (0, .nameAndType 66 67), (0, u "slot"), (0, u "(I)I"), (0, .methodref 23 69), (0, .nameAndType 70 49), (0, u "equals"), (0, .methodref 11 72), (0, .nameAndType 73 67), (0, u "next"), (3, u "(Ljava/lang/String;)I"), (14, .class_ 93), (0, u "java/lang/Integer"), (11, .integer 2654435769), (0, .methodref 92 107), (0, .nameAndType 108 67), (0, u "numberOfLeadingZeros"), (3, u "WINDOW"), (2, u "SPREAD"), (5, u "name"), (0, u "(I)Ljava/lang/String;"), (1, u "indexOf")] 3

def k10c0 : Code := { maxStack := 3, maxLocals := 1, code := prog_4_method_1_code, exceptionTable := #[], attributes := #[] }
def k10m0 : Method := { name := "<init>", desc := "()V", sig := { parameters := [], returnType := none }, accessFlags := 1, code := some k10c0 }
def k10c1 : Code := { maxStack := 1, maxLocals := 1, code := prog_4_method_2_code, exceptionTable := #[], attributes := #[] }
def k10m1 : Method := { name := "size", desc := "()I", sig := { parameters := [], returnType := some .int }, accessFlags := 1, code := some k10c1 }
def k10c2 : Code := { maxStack := 2, maxLocals := 2, code := prog_4_method_3_code, exceptionTable := #[], attributes := #[] }
def k10m2 : Method := { name := "name", desc := "(I)Ljava/lang/String;", sig := { parameters := [.int], returnType := some (.object "java/lang/String") }, accessFlags := 1, code := some k10c2 }
def k10c3 : Code := { maxStack := 4, maxLocals := 2, code := prog_4_method_4_code, exceptionTable := #[], attributes := #[] }
def k10m3 : Method := { name := "add", desc := "(Ljava/lang/String;)I", sig := { parameters := [(.object "java/lang/String")], returnType := some .int }, accessFlags := 1, code := some k10c3 }
def k10c4 : Code := { maxStack := 3, maxLocals := 6, code := prog_4_method_5_code, exceptionTable := #[], attributes := #[] }
def k10m4 : Method := { name := "indexOf", desc := "(Ljava/lang/String;)I", sig := { parameters := [(.object "java/lang/String")], returnType := some .int }, accessFlags := 1, code := some k10c4 }
def k10c5 : Code := { maxStack := 3, maxLocals := 5, code := prog_4_method_8_code, exceptionTable := #[], attributes := #[] }
def k10m5 : Method := { name := "place", desc := "(Ljava/lang/String;I)V", sig := { parameters := [(.object "java/lang/String"), .int], returnType := none }, accessFlags := 2, code := some k10c5 }
def k10c6 : Code := { maxStack := 3, maxLocals := 2, code := prog_4_method_9_code, exceptionTable := #[], attributes := #[] }
def k10m6 : Method := { name := "slot", desc := "(I)I", sig := { parameters := [.int], returnType := some .int }, accessFlags := 2, code := some k10c6 }
def k10c7 : Code := { maxStack := 3, maxLocals := 2, code := prog_4_method_10_code, exceptionTable := #[], attributes := #[] }
def k10m7 : Method := { name := "next", desc := "(I)I", sig := { parameters := [.int], returnType := some .int }, accessFlags := 2, code := some k10c7 }
/-- com/example/afterscore/afterscore/io/NameTable -/
def k10 : Class := { plain "com/example/afterscore/afterscore/io/NameTable" (some 0) with
  accessFlags := 49
  interfaces := #[]
  cf := some (fileOf pool10 11 #[] #[{ accessFlags := 1, nameIndex := 5, descriptorIndex := 6, attributes := #[] }, { accessFlags := 1, nameIndex := 40, descriptorIndex := 41, attributes := #[] }, { accessFlags := 1, nameIndex := 121, descriptorIndex := 122, attributes := #[] }, { accessFlags := 1, nameIndex := 48, descriptorIndex := 77, attributes := #[] }, { accessFlags := 1, nameIndex := 124, descriptorIndex := 77, attributes := #[] }, { accessFlags := 2, nameIndex := 52, descriptorIndex := 53, attributes := #[] }, { accessFlags := 2, nameIndex := 66, descriptorIndex := 67, attributes := #[] }, { accessFlags := 2, nameIndex := 73, descriptorIndex := 67, attributes := #[] }] 49 2 #[] #[{ accessFlags := 26, nameIndex := 112, descriptorIndex := 57, attributes := #[] }, { accessFlags := 26, nameIndex := 115, descriptorIndex := 57, attributes := #[] }, { accessFlags := 18, nameIndex := 14, descriptorIndex := 15, attributes := #[] }, { accessFlags := 18, nameIndex := 21, descriptorIndex := 22, attributes := #[] }, { accessFlags := 2, nameIndex := 27, descriptorIndex := 28, attributes := #[] }, { accessFlags := 2, nameIndex := 31, descriptorIndex := 32, attributes := #[] }, { accessFlags := 2, nameIndex := 35, descriptorIndex := 32, attributes := #[] }, { accessFlags := 2, nameIndex := 56, descriptorIndex := 57, attributes := #[] }])
  fields := #[{ name := "WINDOW", type := .int, accessFlags := 26, slot := 0, constantValue := 0 }, { name := "SPREAD", type := .int, accessFlags := 26, slot := 1, constantValue := 0 }, { name := "names", type := (.object "java/util/List"), accessFlags := 18, slot := 0, constantValue := 0 }, { name := "apart", type := (.object "java/util/TreeMap"), accessFlags := 18, slot := 1, constantValue := 0 }, { name := "slots", type := (.array (.object "java/lang/String")), accessFlags := 2, slot := 2, constantValue := 0 }, { name := "hashes", type := (.array .int), accessFlags := 2, slot := 3, constantValue := 0 }, { name := "indexes", type := (.array .int), accessFlags := 2, slot := 4, constantValue := 0 }, { name := "taken", type := .int, accessFlags := 2, slot := 5, constantValue := 0 }]
  methods := #[k10m0, k10m1, k10m2, k10m3, k10m4, k10m5, k10m6, k10m7]
  instanceTypes := #[(.object "java/util/List"), (.object "java/util/TreeMap"), (.array (.object "java/lang/String")), (.array .int), (.array .int), .int]
  staticTypes := #[.int, .int]
  resolved := Array.replicate 128 none
  statics := none }

def pool11 : Array CpInfo := pool [(8, .class_ 10), (1, u "java/lang/Iterable"), (24, .class_ 36), (0, u "java/lang/Object")] 25

/-- java/lang/Iterable -/
def k11 : Class := { plain "java/lang/Iterable" (some 0) with
  accessFlags := 1537
  interfaces := #[]
  cf := some (fileOf pool11 8 #[] #[] 1537 35 #[] #[])
  fields := #[]
  methods := #[]
  instanceTypes := #[]
  staticTypes := #[]
  resolved := Array.replicate 62 none
  statics := none }

def pool12 : Array CpInfo := pool [(10, .class_ 12), (1, u "java/util/Collection"), (47, .class_ 61), (0, u "java/lang/Object"), (0, .class_ 63), (0, u "java/lang/Iterable")] 51

/-- java/util/Collection -/
def k12 : Class := { plain "java/util/Collection" (some 0) with
  accessFlags := 1537
  interfaces := #[11]
  cf := some (fileOf pool12 10 #[] #[] 1537 60 #[62] #[])
  fields := #[]
  methods := #[]
  instanceTypes := #[]
  staticTypes := #[]
  resolved := Array.replicate 115 none
  statics := none }

def pool13 : Array CpInfo := pool [(1, .methodref 2 3), (0, .class_ 4), (0, .nameAndType 5 6), (0, u "java/lang/Object"), (0, u "<init>"), (0, u "()V"), (1, .class_ 10), (1, u "java/util/AbstractCollection"), (66, .class_ 78), (0, u "java/util/Collection")] 81

def k13c0 : Code := { maxStack := 1, maxLocals := 1, code := jdk_22_method_1_code, exceptionTable := #[], attributes := #[] }
def k13m0 : Method := { name := "<init>", desc := "()V", sig := { parameters := [], returnType := none }, accessFlags := 4, code := some k13c0 }
/-- java/util/AbstractCollection -/
def k13 : Class := { plain "java/util/AbstractCollection" (some 0) with
  accessFlags := 1057
  interfaces := #[12]
  cf := some (fileOf pool13 8 #[] #[{ accessFlags := 4, nameIndex := 5, descriptorIndex := 6, attributes := #[] }] 1057 2 #[77] #[])
  fields := #[]
  methods := #[k13m0]
  instanceTypes := #[]
  staticTypes := #[]
  resolved := Array.replicate 160 none
  statics := none }

def pool14 : Array CpInfo := pool [(8, .class_ 10), (1, u "java/util/SequencedCollection"), (15, .class_ 27), (0, u "java/lang/Object"), (0, .class_ 29), (0, u "java/util/Collection")] 27

/-- java/util/SequencedCollection -/
def k14 : Class := { plain "java/util/SequencedCollection" (some 0) with
  accessFlags := 1537
  interfaces := #[12]
  cf := some (fileOf pool14 8 #[] #[] 1537 26 #[28] #[])
  fields := #[]
  methods := #[]
  instanceTypes := #[]
  staticTypes := #[]
  resolved := Array.replicate 57 none
  statics := none }

def pool15 : Array CpInfo := pool [(8, .class_ 10), (1, u "java/util/List"), (49, u "add"), (3, u "(Ljava/lang/Object;)Z"), (10, u "get"), (0, u "(I)Ljava/lang/Object;"), (2, u "size"), (0, u "()I"), (22, .class_ 104), (0, u "java/lang/Object"), (15, .class_ 121), (0, u "java/util/SequencedCollection")] 129

def k15m0 : Method := { name := "size", desc := "()I", sig := { parameters := [], returnType := some .int }, accessFlags := 1025, code := none }
def k15m1 : Method := { name := "add", desc := "(Ljava/lang/Object;)Z", sig := { parameters := [(.object "java/lang/Object")], returnType := some .boolean }, accessFlags := 1025, code := none }
def k15m2 : Method := { name := "get", desc := "(I)Ljava/lang/Object;", sig := { parameters := [.int], returnType := some (.object "java/lang/Object") }, accessFlags := 1025, code := none }
/-- java/util/List -/
def k15 : Class := { plain "java/util/List" (some 0) with
  accessFlags := 1537
  interfaces := #[14]
  cf := some (fileOf pool15 8 #[] #[{ accessFlags := 1025, nameIndex := 79, descriptorIndex := 80, attributes := #[] }, { accessFlags := 1025, nameIndex := 60, descriptorIndex := 64, attributes := #[] }, { accessFlags := 1025, nameIndex := 75, descriptorIndex := 76, attributes := #[] }] 1537 103 #[120] #[])
  fields := #[]
  methods := #[k15m0, k15m1, k15m2]
  instanceTypes := #[]
  staticTypes := #[]
  resolved := Array.replicate 251 none
  statics := none }

def pool16 : Array CpInfo := pool [(1, .methodref 2 3), (0, .class_ 4), (0, .nameAndType 5 6), (0, u "java/util/AbstractCollection"), (0, u "<init>"), (0, u "()V"), (0, .fieldref 8 9), (0, .class_ 10), (0, .nameAndType 11 12), (0, u "java/util/AbstractList"), (0, u "modCount"), (0, u "I"), (64, .class_ 78), (0, u "java/util/AbstractList$Itr"), (3, .class_ 83), (0, u "java/util/AbstractList$ListItr"), (9, .class_ 94), (0, u "java/util/AbstractList$RandomAccessSubList"), (3, .class_ 99), (0, u "java/util/AbstractList$SubList"), (33, .class_ 134), (0, u "java/util/List"), (73, .class_ 209), (0, u "java/util/AbstractList$SubList$1"), (0, .class_ 211), (0, u "java/util/AbstractList$RandomAccessSpliterator")] 6

def k16c0 : Code := { maxStack := 2, maxLocals := 1, code := jdk_39_method_1_code, exceptionTable := #[], attributes := #[] }
def k16m0 : Method := { name := "<init>", desc := "()V", sig := { parameters := [], returnType := none }, accessFlags := 4, code := some k16c0 }
/-- java/util/AbstractList -/
def k16 : Class := { plain "java/util/AbstractList" (some 13) with
  accessFlags := 1057
  interfaces := #[15]
  cf := some (fileOf pool16 8 #[.nestMembers #[93, 98, 208, 210, 82, 77]] #[{ accessFlags := 4, nameIndex := 5, descriptorIndex := 6, attributes := #[] }] 1057 2 #[133] #[{ accessFlags := 132, nameIndex := 11, descriptorIndex := 12, attributes := #[] }])
  fields := #[{ name := "modCount", type := .int, accessFlags := 132, slot := 0, constantValue := 0 }]
  methods := #[k16m0]
  instanceTypes := #[.int]
  staticTypes := #[]
  resolved := Array.replicate 218 none
  statics := none }

def pool17 : Array CpInfo := pool [(1, .class_ 2), (0, u "java/util/RandomAccess"), (0, .class_ 4), (0, u "java/lang/Object")] 2

/-- java/util/RandomAccess -/
def k17 : Class := { plain "java/util/RandomAccess" (some 0) with
  accessFlags := 1537
  interfaces := #[]
  cf := some (fileOf pool17 1 #[] #[] 1537 3 #[] #[])
  fields := #[]
  methods := #[]
  instanceTypes := #[]
  staticTypes := #[]
  resolved := Array.replicate 7 none
  statics := none }

def pool18 : Array CpInfo := pool [(1, .class_ 2), (0, u "java/lang/Cloneable"), (0, .class_ 4), (0, u "java/lang/Object")] 2

/-- java/lang/Cloneable -/
def k18 : Class := { plain "java/lang/Cloneable" (some 0) with
  accessFlags := 1537
  interfaces := #[]
  cf := some (fileOf pool18 1 #[] #[] 1537 3 #[] #[])
  fields := #[]
  methods := #[]
  instanceTypes := #[]
  staticTypes := #[]
  resolved := Array.replicate 7 none
  statics := none }

def pool19 : Array CpInfo := pool [(1, .methodref 2 3), (0, .class_ 4), (0, .nameAndType 5 6), (0, u "java/util/AbstractList"), (0, u "<init>"), (0, u "()V"), (0, .class_ 8), (0, u "java/lang/Object"), (0, .fieldref 10 11), (0, .class_ 12), (0, .nameAndType 13 14), (0, u "java/util/ArrayList"), (0, u "elementData"), (0, u "[Ljava/lang/Object;"), (2, u "EMPTY_ELEMENTDATA"), (21, .fieldref 10 40), (0, .nameAndType 41 14), (0, u "DEFAULTCAPACITY_EMPTY_ELEMENTDATA"), (5, u "()[Ljava/lang/Object;"), (0, .fieldref 10 49), (0, .nameAndType 50 51), (0, u "size"), (0, u "I"), (11, .fieldref 10 64), (0, .nameAndType 65 51), (0, u "modCount"), (3, .methodref 10 70), (0, .nameAndType 71 72), (0, u "grow"), (0, u "(I)[Ljava/lang/Object;"), (6, .methodref 80 81), (0, .class_ 82), (0, .nameAndType 83 84), (0, u "java/lang/Math"), (0, u "max"), (0, u "(II)I"), (11, u "(Ljava/lang/Object;)Z"), (21, .methodref 119 120), (0, .class_ 121), (0, .nameAndType 122 84), (0, u "java/util/Objects"), (0, u "checkIndex"), (0, .methodref 10 124), (0, .nameAndType 13 125), (0, u "(I)Ljava/lang/Object;"), (3, .methodref 10 130), (0, .nameAndType 71 47), (0, .methodref 10 132), (0, .nameAndType 133 134), (0, u "add"), (0, u "(Ljava/lang/Object;[Ljava/lang/Object;I)V"), (13, .class_ 149), (0, u "java/util/List"), (36, u "()I"), (75, .class_ 263), (0, u "java/util/ArrayList$ListItr"), (3, .class_ 268), (0, u "java/util/ArrayList$Itr"), (7, .class_ 277), (0, u "java/util/ArrayList$SubList"), (12, .class_ 291), (0, u "java/util/ArrayList$ArrayListSpliterator"), (37, .class_ 330), (0, u "java/util/RandomAccess"), (0, .class_ 332), (0, u "java/lang/Cloneable"), (0, .class_ 334), (0, u "java/io/Serializable"), (0, u "serialVersionUID"), (0, u "J"), (3, u "DEFAULT_CAPACITY"), (40, u "get"), (118, .class_ 501), (0, u "java/util/ArrayList$SubList$2"), (0, .class_ 503), (0, u "java/util/ArrayList$SubList$1")] 5

def k19c0 : Code := { maxStack := 2, maxLocals := 1, code := jdk_38_method_2_code, exceptionTable := #[], attributes := #[] }
def k19m0 : Method := { name := "<init>", desc := "()V", sig := { parameters := [], returnType := none }, accessFlags := 1, code := some k19c0 }
def k19c1 : Code := { maxStack := 4, maxLocals := 4, code := jdk_38_method_6_code, exceptionTable := #[], attributes := #[] }
def k19m1 : Method := { name := "grow", desc := "(I)[Ljava/lang/Object;", sig := { parameters := [.int], returnType := some (.array (.object "java/lang/Object")) }, accessFlags := 2, code := some k19c1 }
def k19c2 : Code := { maxStack := 3, maxLocals := 1, code := jdk_38_method_7_code, exceptionTable := #[], attributes := #[] }
def k19m2 : Method := { name := "grow", desc := "()[Ljava/lang/Object;", sig := { parameters := [], returnType := some (.array (.object "java/lang/Object")) }, accessFlags := 2, code := some k19c2 }
def k19c3 : Code := { maxStack := 1, maxLocals := 1, code := jdk_38_method_8_code, exceptionTable := #[], attributes := #[] }
def k19m3 : Method := { name := "size", desc := "()I", sig := { parameters := [], returnType := some .int }, accessFlags := 1, code := some k19c3 }
def k19c4 : Code := { maxStack := 2, maxLocals := 2, code := jdk_38_method_18_code, exceptionTable := #[], attributes := #[] }
def k19m4 : Method := { name := "elementData", desc := "(I)Ljava/lang/Object;", sig := { parameters := [.int], returnType := some (.object "java/lang/Object") }, accessFlags := 0, code := some k19c4 }
def k19c5 : Code := { maxStack := 2, maxLocals := 2, code := jdk_38_method_20_code, exceptionTable := #[], attributes := #[] }
def k19m5 : Method := { name := "get", desc := "(I)Ljava/lang/Object;", sig := { parameters := [.int], returnType := some (.object "java/lang/Object") }, accessFlags := 1, code := some k19c5 }
def k19c6 : Code := { maxStack := 3, maxLocals := 4, code := jdk_38_method_24_code, exceptionTable := #[], attributes := #[] }
def k19m6 : Method := { name := "add", desc := "(Ljava/lang/Object;[Ljava/lang/Object;I)V", sig := { parameters := [(.object "java/lang/Object"), (.array (.object "java/lang/Object")), .int], returnType := none }, accessFlags := 2, code := some k19c6 }
def k19c7 : Code := { maxStack := 4, maxLocals := 2, code := jdk_38_method_25_code, exceptionTable := #[], attributes := #[] }
def k19m7 : Method := { name := "add", desc := "(Ljava/lang/Object;)Z", sig := { parameters := [(.object "java/lang/Object")], returnType := some .boolean }, accessFlags := 1, code := some k19c7 }
/-- java/util/ArrayList -/
def k19 : Class := { plain "java/util/ArrayList" (some 16) with
  accessFlags := 33
  interfaces := #[15, 17, 18, 2]
  cf := some (fileOf pool19 10 #[.nestMembers #[290, 276, 500, 502, 262, 267]] #[{ accessFlags := 1, nameIndex := 5, descriptorIndex := 6, attributes := #[] }, { accessFlags := 2, nameIndex := 71, descriptorIndex := 72, attributes := #[] }, { accessFlags := 2, nameIndex := 71, descriptorIndex := 47, attributes := #[] }, { accessFlags := 1, nameIndex := 50, descriptorIndex := 186, attributes := #[] }, { accessFlags := 0, nameIndex := 13, descriptorIndex := 125, attributes := #[] }, { accessFlags := 1, nameIndex := 381, descriptorIndex := 125, attributes := #[] }, { accessFlags := 2, nameIndex := 133, descriptorIndex := 134, attributes := #[] }, { accessFlags := 1, nameIndex := 133, descriptorIndex := 96, attributes := #[] }] 33 2 #[148, 329, 331, 333] #[{ accessFlags := 26, nameIndex := 335, descriptorIndex := 336, attributes := #[] }, { accessFlags := 26, nameIndex := 340, descriptorIndex := 51, attributes := #[] }, { accessFlags := 26, nameIndex := 17, descriptorIndex := 14, attributes := #[] }, { accessFlags := 26, nameIndex := 41, descriptorIndex := 14, attributes := #[] }, { accessFlags := 128, nameIndex := 13, descriptorIndex := 14, attributes := #[] }, { accessFlags := 2, nameIndex := 50, descriptorIndex := 51, attributes := #[] }])
  fields := #[{ name := "serialVersionUID", type := .long, accessFlags := 26, slot := 0, constantValue := 0 }, { name := "DEFAULT_CAPACITY", type := .int, accessFlags := 26, slot := 1, constantValue := 0 }, { name := "EMPTY_ELEMENTDATA", type := (.array (.object "java/lang/Object")), accessFlags := 26, slot := 2, constantValue := 0 }, { name := "DEFAULTCAPACITY_EMPTY_ELEMENTDATA", type := (.array (.object "java/lang/Object")), accessFlags := 26, slot := 3, constantValue := 0 }, { name := "elementData", type := (.array (.object "java/lang/Object")), accessFlags := 128, slot := 1, constantValue := 0 }, { name := "size", type := .int, accessFlags := 2, slot := 2, constantValue := 0 }]
  methods := #[k19m0, k19m1, k19m2, k19m3, k19m4, k19m5, k19m6, k19m7]
  instanceTypes := #[.int, (.array (.object "java/lang/Object")), .int]
  staticTypes := #[.long, .int, (.array (.object "java/lang/Object")), (.array (.object "java/lang/Object"))]
  resolved := Array.replicate 509 none
  statics := some 1 }

def pool20 : Array CpInfo := pool [(2, .class_ 4), (1, u "java/util/Map"), (31, .class_ 37), (0, u "java/util/Map$Entry"), (55, .class_ 94), (0, u "java/lang/Object")] 168

/-- java/util/Map -/
def k20 : Class := { plain "java/util/Map" (some 0) with
  accessFlags := 1537
  interfaces := #[]
  cf := some (fileOf pool20 2 #[.nestMembers #[36]] #[] 1537 93 #[] #[])
  fields := #[]
  methods := #[]
  instanceTypes := #[]
  staticTypes := #[]
  resolved := Array.replicate 263 none
  statics := none }

def pool21 : Array CpInfo := pool [(1, .methodref 2 3), (0, .class_ 4), (0, .nameAndType 5 6), (0, u "java/lang/Object"), (0, u "<init>"), (0, u "()V"), (1, .class_ 10), (1, u "java/util/AbstractMap"), (42, .class_ 54), (0, u "java/util/Map"), (9, u "keySet"), (0, u "Ljava/util/Set;"), (0, .class_ 67), (0, u "java/util/AbstractMap$1"), (5, u "values"), (0, u "Ljava/util/Collection;"), (0, .class_ 76), (0, u "java/util/AbstractMap$2"), (104, .class_ 182), (0, u "java/util/AbstractMap$ViewCollection"), (0, .class_ 184), (0, u "java/util/AbstractMap$SimpleImmutableEntry"), (0, .class_ 186), (0, u "java/util/AbstractMap$SimpleEntry"), (0, .class_ 188), (0, u "java/util/AbstractMap$2$1"), (0, .class_ 190), (0, u "java/util/AbstractMap$1$1")] 5

def k21c0 : Code := { maxStack := 1, maxLocals := 1, code := jdk_71_method_1_code, exceptionTable := #[], attributes := #[] }
def k21m0 : Method := { name := "<init>", desc := "()V", sig := { parameters := [], returnType := none }, accessFlags := 4, code := some k21c0 }
/-- java/util/AbstractMap -/
def k21 : Class := { plain "java/util/AbstractMap" (some 0) with
  accessFlags := 1057
  interfaces := #[20]
  cf := some (fileOf pool21 8 #[.nestMembers #[181, 183, 185, 75, 187, 66, 189]] #[{ accessFlags := 4, nameIndex := 5, descriptorIndex := 6, attributes := #[] }] 1057 2 #[53] #[{ accessFlags := 128, nameIndex := 64, descriptorIndex := 65, attributes := #[] }, { accessFlags := 128, nameIndex := 73, descriptorIndex := 74, attributes := #[] }])
  fields := #[{ name := "keySet", type := (.object "java/util/Set"), accessFlags := 128, slot := 0, constantValue := 0 }, { name := "values", type := (.object "java/util/Collection"), accessFlags := 128, slot := 1, constantValue := 0 }]
  methods := #[k21m0]
  instanceTypes := #[(.object "java/util/Set"), (.object "java/util/Collection")]
  staticTypes := #[]
  resolved := Array.replicate 196 none
  statics := none }

def pool22 : Array CpInfo := pool [(2, .class_ 4), (1, u "java/util/SequencedMap"), (38, .class_ 44), (0, u "java/util/SequencedMap$1SeqKeySet"), (3, .class_ 49), (0, u "java/util/SequencedMap$1SeqValues"), (1, .class_ 52), (0, u "java/util/SequencedMap$1SeqEntrySet"), (1, .class_ 55), (0, u "java/lang/Object"), (0, .class_ 57), (0, u "java/util/Map")] 48

/-- java/util/SequencedMap -/
def k22 : Class := { plain "java/util/SequencedMap" (some 0) with
  accessFlags := 1537
  interfaces := #[20]
  cf := some (fileOf pool22 2 #[.nestMembers #[51, 48, 43]] #[] 1537 54 #[56] #[])
  fields := #[]
  methods := #[]
  instanceTypes := #[]
  staticTypes := #[]
  resolved := Array.replicate 106 none
  statics := none }

def pool23 : Array CpInfo := pool [(14, .class_ 16), (1, u "java/util/SortedMap"), (2, .class_ 20), (0, u "java/lang/Object"), (0, .class_ 22), (0, u "java/util/SequencedMap")] 50

/-- java/util/SortedMap -/
def k23 : Class := { plain "java/util/SortedMap" (some 0) with
  accessFlags := 1537
  interfaces := #[22]
  cf := some (fileOf pool23 14 #[] #[] 1537 19 #[21] #[])
  fields := #[]
  methods := #[]
  instanceTypes := #[]
  staticTypes := #[]
  resolved := Array.replicate 73 none
  statics := none }

def pool24 : Array CpInfo := pool [(2, .class_ 4), (1, u "java/util/NavigableMap"), (5, .class_ 11), (0, u "java/lang/Object"), (0, .class_ 13), (0, u "java/util/SortedMap")] 53

/-- java/util/NavigableMap -/
def k24 : Class := { plain "java/util/NavigableMap" (some 0) with
  accessFlags := 1537
  interfaces := #[23]
  cf := some (fileOf pool24 2 #[] #[] 1537 10 #[12] #[])
  fields := #[]
  methods := #[]
  instanceTypes := #[]
  staticTypes := #[]
  resolved := Array.replicate 67 none
  statics := none }

def pool25 : Array CpInfo := pool [(1, .methodref 2 3), (0, .class_ 4), (0, .nameAndType 5 6), (0, u "java/util/AbstractMap"), (0, u "<init>"), (0, u "()V"), (0, .fieldref 8 9), (0, .class_ 10), (0, .nameAndType 11 12), (0, u "java/util/TreeMap"), (0, u "size"), (0, u "I"), (0, .fieldref 8 14), (0, .nameAndType 15 12), (0, u "modCount"), (0, .fieldref 8 17), (0, .nameAndType 18 19), (0, u "comparator"), (0, u "Ljava/util/Comparator;"), (14, u "entrySet"), (24, .class_ 61), (1, u "java/util/TreeMap$Entry"), (1, u "Ljava/lang/Object;"), (39, u "root"), (0, u "Ljava/util/TreeMap$Entry;"), (85, u "Ljava/util/TreeMap$EntrySet;"), (2, u "navigableKeySet"), (0, u "Ljava/util/TreeMap$KeySet;"), (2, u "descendingMap"), (0, u "Ljava/util/NavigableMap;"), (23, .class_ 223), (0, u "java/util/TreeMap$KeySet"), (7, .class_ 232), (0, u "java/util/NavigableMap"), (4, .class_ 238), (0, u "java/util/TreeMap$Values"), (3, .class_ 243), (0, u "java/util/TreeMap$EntrySet"), (1, .class_ 246), (0, u "java/util/TreeMap$DescendingSubMap"), (3, .class_ 251), (0, u "java/util/TreeMap$AscendingSubMap"), (17, .class_ 270), (0, u "java/util/TreeMap$KeyIterator"), (3, .class_ 275), (0, u "java/util/TreeMap$DescendingKeyIterator"), (17, u "Z"), (94, .class_ 389), (0, u "java/util/TreeMap$NavigableSubMap"), (1, .class_ 392), (0, u "java/util/TreeMap$KeySpliterator"), (3, .class_ 397), (0, u "java/util/TreeMap$DescendingKeySpliterator"), (4, u "UNBOUNDED"), (0, .class_ 404), (0, u "java/lang/Cloneable"), (0, .class_ 406), (0, u "java/io/Serializable"), (6, u "RED"), (2, u "BLACK"), (1, u "serialVersionUID"), (0, u "J"), (214, .class_ 635), (0, u "java/util/TreeMap$EntrySpliterator"), (0, .class_ 637), (0, u "java/util/TreeMap$ValueSpliterator"), (0, .class_ 639), (0, u "java/util/TreeMap$TreeMapSpliterator"), (0, .class_ 641), (0, u "java/util/TreeMap$SubMap"), (0, .class_ 643), (0, u "java/util/TreeMap$DescendingSubMap$DescendingEntrySetView"), (0, .class_ 645), (0, u "java/util/TreeMap$AscendingSubMap$AscendingEntrySetView"), (0, .class_ 647), (0, u "java/util/TreeMap$NavigableSubMap$DescendingSubMapKeyIterator"), (0, .class_ 649), (0, u "java/util/TreeMap$NavigableSubMap$SubMapKeyIterator"), (0, .class_ 651), (0, u "java/util/TreeMap$NavigableSubMap$DescendingSubMapEntryIterator"), (0, .class_ 653), (0, u "java/util/TreeMap$NavigableSubMap$SubMapEntryIterator"), (0, .class_ 655), (0, u "java/util/TreeMap$NavigableSubMap$SubMapIterator"), (0, .class_ 657), (0, u "java/util/TreeMap$NavigableSubMap$EntrySetView"), (0, .class_ 659), (0, u "java/util/TreeMap$ValueIterator"), (0, .class_ 661), (0, u "java/util/TreeMap$EntryIterator"), (0, .class_ 663), (0, u "java/util/TreeMap$PrivateEntryIterator")] 28

def k25c0 : Code := { maxStack := 2, maxLocals := 1, code := jdk_2729_method_1_code, exceptionTable := #[], attributes := #[] }
def k25m0 : Method := { name := "<init>", desc := "()V", sig := { parameters := [], returnType := none }, accessFlags := 1, code := some k25c0 }
/-- java/util/TreeMap -/
def k25 : Class := { plain "java/util/TreeMap" (some 21) with
  accessFlags := 33
  interfaces := #[24, 18, 2]
  cf := some (fileOf pool25 8 #[.nestMembers #[634, 636, 396, 391, 638, 59, 640, 245, 642, 250, 644, 388, 646, 648, 650, 652, 654, 656, 274, 269, 658, 660, 662, 222, 242, 237]] #[{ accessFlags := 1, nameIndex := 5, descriptorIndex := 6, attributes := #[] }] 33 2 #[231, 403, 405] #[{ accessFlags := 18, nameIndex := 18, descriptorIndex := 19, attributes := #[] }, { accessFlags := 130, nameIndex := 103, descriptorIndex := 104, attributes := #[] }, { accessFlags := 130, nameIndex := 11, descriptorIndex := 12, attributes := #[] }, { accessFlags := 130, nameIndex := 15, descriptorIndex := 12, attributes := #[] }, { accessFlags := 130, nameIndex := 34, descriptorIndex := 190, attributes := #[] }, { accessFlags := 130, nameIndex := 193, descriptorIndex := 194, attributes := #[] }, { accessFlags := 130, nameIndex := 197, descriptorIndex := 198, attributes := #[] }, { accessFlags := 26, nameIndex := 402, descriptorIndex := 63, attributes := #[] }, { accessFlags := 26, nameIndex := 413, descriptorIndex := 293, attributes := #[] }, { accessFlags := 26, nameIndex := 416, descriptorIndex := 293, attributes := #[] }, { accessFlags := 26, nameIndex := 418, descriptorIndex := 419, attributes := #[] }])
  fields := #[{ name := "comparator", type := (.object "java/util/Comparator"), accessFlags := 18, slot := 2, constantValue := 0 }, { name := "root", type := (.object "java/util/TreeMap$Entry"), accessFlags := 130, slot := 3, constantValue := 0 }, { name := "size", type := .int, accessFlags := 130, slot := 4, constantValue := 0 }, { name := "modCount", type := .int, accessFlags := 130, slot := 5, constantValue := 0 }, { name := "entrySet", type := (.object "java/util/TreeMap$EntrySet"), accessFlags := 130, slot := 6, constantValue := 0 }, { name := "navigableKeySet", type := (.object "java/util/TreeMap$KeySet"), accessFlags := 130, slot := 7, constantValue := 0 }, { name := "descendingMap", type := (.object "java/util/NavigableMap"), accessFlags := 130, slot := 8, constantValue := 0 }, { name := "UNBOUNDED", type := (.object "java/lang/Object"), accessFlags := 26, slot := 0, constantValue := 0 }, { name := "RED", type := .boolean, accessFlags := 26, slot := 1, constantValue := 0 }, { name := "BLACK", type := .boolean, accessFlags := 26, slot := 2, constantValue := 0 }, { name := "serialVersionUID", type := .long, accessFlags := 26, slot := 3, constantValue := 0 }]
  methods := #[k25m0]
  instanceTypes := #[(.object "java/util/Set"), (.object "java/util/Collection"), (.object "java/util/Comparator"), (.object "java/util/TreeMap$Entry"), .int, .int, (.object "java/util/TreeMap$EntrySet"), (.object "java/util/TreeMap$KeySet"), (.object "java/util/NavigableMap")]
  staticTypes := #[(.object "java/lang/Object"), .boolean, .boolean, .long]
  resolved := Array.replicate 692 none
  statics := none }

def pool26 : Array CpInfo := pool [(1, .class_ 2), (0, u "java/lang/Math"), (1, .class_ 6), (1, u "java/lang/Object"), (0, u "<init>"), (0, u "()V"), (89, .class_ 100), (1, u "java/lang/Math$RandomNumberGeneratorHolder"), (71, u "negativeZeroFloatBits"), (0, u "J"), (2, u "negativeZeroDoubleBits"), (21, u "max"), (46, u "$assertionsDisabled"), (0, u "Z"), (88, u "(II)I"), (2, u "twoToTheDoubleScaleDown"), (0, u "D"), (4, u "twoToTheDoubleScaleUp"), (9, u "E"), (3, u "PI"), (2, u "TAU"), (2, u "DEGREES_TO_RADIANS"), (0, u "RADIANS_TO_DEGREES")] 94

def k26m0 : Method := { name := "<init>", desc := "()V", sig := { parameters := [], returnType := none }, accessFlags := 2, code := none }
def k26c1 : Code := { maxStack := 2, maxLocals := 2, code := jdk_29_method_65_code, exceptionTable := #[], attributes := #[] }
def k26m1 : Method := { name := "max", desc := "(II)I", sig := { parameters := [.int, .int], returnType := some .int }, accessFlags := 9, code := some k26c1 }
/-- java/lang/Math -/
def k26 : Class := { plain "java/lang/Math" (some 0) with
  accessFlags := 49
  interfaces := #[]
  cf := some (fileOf pool26 1 #[.nestMembers #[98]] #[{ accessFlags := 2, nameIndex := 7, descriptorIndex := 8, attributes := #[] }, { accessFlags := 9, nameIndex := 198, descriptorIndex := 335, attributes := #[] }] 49 4 #[] #[{ accessFlags := 25, nameIndex := 354, descriptorIndex := 339, attributes := #[] }, { accessFlags := 25, nameIndex := 358, descriptorIndex := 339, attributes := #[] }, { accessFlags := 25, nameIndex := 361, descriptorIndex := 339, attributes := #[] }, { accessFlags := 26, nameIndex := 364, descriptorIndex := 339, attributes := #[] }, { accessFlags := 26, nameIndex := 365, descriptorIndex := 339, attributes := #[] }, { accessFlags := 26, nameIndex := 172, descriptorIndex := 173, attributes := #[] }, { accessFlags := 26, nameIndex := 176, descriptorIndex := 173, attributes := #[] }, { accessFlags := 8, nameIndex := 344, descriptorIndex := 339, attributes := #[] }, { accessFlags := 8, nameIndex := 338, descriptorIndex := 339, attributes := #[] }, { accessFlags := 4120, nameIndex := 245, descriptorIndex := 246, attributes := #[] }])
  fields := #[{ name := "E", type := .double, accessFlags := 25, slot := 0, constantValue := 0 }, { name := "PI", type := .double, accessFlags := 25, slot := 1, constantValue := 0 }, { name := "TAU", type := .double, accessFlags := 25, slot := 2, constantValue := 0 }, { name := "DEGREES_TO_RADIANS", type := .double, accessFlags := 26, slot := 3, constantValue := 0 }, { name := "RADIANS_TO_DEGREES", type := .double, accessFlags := 26, slot := 4, constantValue := 0 }, { name := "negativeZeroFloatBits", type := .long, accessFlags := 26, slot := 5, constantValue := 0 }, { name := "negativeZeroDoubleBits", type := .long, accessFlags := 26, slot := 6, constantValue := 0 }, { name := "twoToTheDoubleScaleUp", type := .double, accessFlags := 8, slot := 7, constantValue := 0 }, { name := "twoToTheDoubleScaleDown", type := .double, accessFlags := 8, slot := 8, constantValue := 0 }, { name := "$assertionsDisabled", type := .boolean, accessFlags := 4120, slot := 9, constantValue := 0 }]
  methods := #[k26m0, k26m1]
  instanceTypes := #[]
  staticTypes := #[.double, .double, .double, .double, .double, .long, .long, .double, .double, .boolean]
  resolved := Array.replicate 460 none
  statics := none }

def pool27 : Array CpInfo := pool [(2, .class_ 4), (1, u "java/lang/Object"), (0, u "<init>"), (0, u "()V"), (1, .class_ 10), (1, u "java/lang/Number"), (2, .class_ 14), (0, u "java/io/Serializable"), (0, u "serialVersionUID"), (0, u "J")] 20

def k27m0 : Method := { name := "<init>", desc := "()V", sig := { parameters := [], returnType := none }, accessFlags := 1, code := none }
/-- java/lang/Number -/
def k27 : Class := { plain "java/lang/Number" (some 0) with
  accessFlags := 1057
  interfaces := #[2]
  cf := some (fileOf pool27 8 #[] #[{ accessFlags := 1, nameIndex := 5, descriptorIndex := 6, attributes := #[] }] 1057 2 #[13] #[{ accessFlags := 26, nameIndex := 15, descriptorIndex := 16, attributes := #[] }])
  fields := #[{ name := "serialVersionUID", type := .long, accessFlags := 26, slot := 0, constantValue := 0 }]
  methods := #[k27m0]
  instanceTypes := #[]
  staticTypes := #[.long]
  resolved := Array.replicate 37 none
  statics := none }

def pool28 : Array CpInfo := pool [(1, .class_ 2), (0, u "java/lang/Integer"), (16, u "digits"), (0, u "[C"), (32, u "numberOfLeadingZeros"), (0, u "(I)I"), (30, u "DigitOnes"), (0, u "[B"), (2, u "DigitTens"), (99, .class_ 190), (0, u "java/lang/Integer$IntegerCache"), (3, u "I"), (8, .class_ 204), (0, u "java/lang/Number"), (2, u "value"), (56, .integer 65536), (37, u "TYPE"), (0, u "Ljava/lang/Class;"), (0, .class_ 305), (0, u "java/lang/Comparable"), (0, .class_ 307), (0, u "java/lang/constant/Constable"), (0, .class_ 309), (0, u "java/lang/constant/ConstantDesc"), (0, u "MIN_VALUE"), (1, u "MAX_VALUE"), (3, u "SIZE"), (1, u "BYTES"), (1, u "serialVersionUID"), (0, u "J")] 131

def k28c0 : Code := { maxStack := 3, maxLocals := 2, code := jdk_33_method_47_code, exceptionTable := #[], attributes := #[] }
def k28m0 : Method := { name := "numberOfLeadingZeros", desc := "(I)I", sig := { parameters := [.int], returnType := some .int }, accessFlags := 9, code := some k28c0 }
/-- java/lang/Integer -/
def k28 : Class := { plain "java/lang/Integer" (some 27) with
  accessFlags := 49
  interfaces := #[3, 5, 6]
  cf := some (fileOf pool28 1 #[.nestMembers #[189]] #[{ accessFlags := 9, nameIndex := 53, descriptorIndex := 54, attributes := #[] }] 49 203 #[304, 306, 308] #[{ accessFlags := 25, nameIndex := 310, descriptorIndex := 194, attributes := #[] }, { accessFlags := 25, nameIndex := 312, descriptorIndex := 194, attributes := #[] }, { accessFlags := 25, nameIndex := 302, descriptorIndex := 303, attributes := #[] }, { accessFlags := 24, nameIndex := 19, descriptorIndex := 20, attributes := #[] }, { accessFlags := 24, nameIndex := 89, descriptorIndex := 86, attributes := #[] }, { accessFlags := 24, nameIndex := 85, descriptorIndex := 86, attributes := #[] }, { accessFlags := 18, nameIndex := 207, descriptorIndex := 194, attributes := #[] }, { accessFlags := 25, nameIndex := 316, descriptorIndex := 194, attributes := #[] }, { accessFlags := 25, nameIndex := 318, descriptorIndex := 194, attributes := #[] }, { accessFlags := 26, nameIndex := 320, descriptorIndex := 321, attributes := #[] }])
  fields := #[{ name := "MIN_VALUE", type := .int, accessFlags := 25, slot := 0, constantValue := 0 }, { name := "MAX_VALUE", type := .int, accessFlags := 25, slot := 1, constantValue := 0 }, { name := "TYPE", type := (.object "java/lang/Class"), accessFlags := 25, slot := 2, constantValue := 0 }, { name := "digits", type := (.array .char), accessFlags := 24, slot := 3, constantValue := 0 }, { name := "DigitTens", type := (.array .byte), accessFlags := 24, slot := 4, constantValue := 0 }, { name := "DigitOnes", type := (.array .byte), accessFlags := 24, slot := 5, constantValue := 0 }, { name := "value", type := .int, accessFlags := 18, slot := 0, constantValue := 0 }, { name := "SIZE", type := .int, accessFlags := 25, slot := 6, constantValue := 0 }, { name := "BYTES", type := .int, accessFlags := 25, slot := 7, constantValue := 0 }, { name := "serialVersionUID", type := .long, accessFlags := 26, slot := 8, constantValue := 0 }]
  methods := #[k28m0]
  instanceTypes := #[.int]
  staticTypes := #[.int, .int, (.object "java/lang/Class"), (.array .char), (.array .byte), (.array .byte), .int, .int, .long]
  resolved := Array.replicate 453 none
  statics := none }

def pool29 : Array CpInfo := pool [(9, u "<init>"), (6, .class_ 18), (1, u "java/lang/Object"), (0, u "()V"), (1, .class_ 23), (1, u "jdk/internal/util/ArraysSupport"), (0, u "LOG2_ARRAY_LONG_INDEX_SCALE"), (0, u "I"), (2, u "U"), (0, u "Ljdk/internal/misc/Unsafe;"), (8, u "BIG_ENDIAN"), (0, u "Z"), (8, u "LOG2_BYTE_BIT_SIZE"), (4, u "LOG2_ARRAY_INT_INDEX_SCALE"), (6, .class_ 61), (0, u "[B"), (0, .methodref 21 63), (0, .nameAndType 64 65), (0, u "signedHashCode"), (0, u "(I[BII)I"), (42, u "JLA"), (0, u "Ljdk/internal/access/JavaLangAccess;"), (11, u "LOG2_ARRAY_BOOLEAN_INDEX_SCALE"), (9, u "LOG2_ARRAY_BYTE_INDEX_SCALE"), (5, u "LOG2_ARRAY_CHAR_INDEX_SCALE"), (5, u "LOG2_ARRAY_SHORT_INDEX_SCALE"), (18, u "LOG2_ARRAY_FLOAT_INDEX_SCALE"), (24, u "LOG2_ARRAY_DOUBLE_INDEX_SCALE"), (89, u "T_BOOLEAN"), (2, u "T_CHAR"), (1, u "T_FLOAT"), (1, u "T_DOUBLE"), (1, u "T_BYTE"), (1, u "T_SHORT"), (1, u "T_INT"), (1, u "T_LONG"), (1, u "SOFT_MAX_ARRAY_LENGTH"), (26, u "vectorizedHashCode"), (0, u "(Ljava/lang/Object;IIII)I")] 55

def k29m0 : Method := { name := "<init>", desc := "()V", sig := { parameters := [], returnType := none }, accessFlags := 2, code := none }
def k29c1 : Code := { maxStack := 4, maxLocals := 5, code := jdk_48_method_4_code, exceptionTable := #[], attributes := #[] }
def k29m1 : Method := { name := "vectorizedHashCode", desc := "(Ljava/lang/Object;IIII)I", sig := { parameters := [(.object "java/lang/Object"), .int, .int, .int, .int], returnType := some .int }, accessFlags := 9, code := some k29c1 }
def k29c2 : Code := { maxStack := 3, maxLocals := 6, code := jdk_48_method_5_code, exceptionTable := #[], attributes := #[] }
def k29m2 : Method := { name := "signedHashCode", desc := "(I[BII)I", sig := { parameters := [.int, (.array .byte), .int, .int], returnType := some .int }, accessFlags := 10, code := some k29c2 }
/-- jdk/internal/util/ArraysSupport -/
def k29 : Class := { plain "jdk/internal/util/ArraysSupport" (some 0) with
  accessFlags := 33
  interfaces := #[]
  cf := some (fileOf pool29 21 #[] #[{ accessFlags := 2, nameIndex := 9, descriptorIndex := 19, attributes := #[] }, { accessFlags := 9, nameIndex := 321, descriptorIndex := 322, attributes := #[] }, { accessFlags := 10, nameIndex := 64, descriptorIndex := 65, attributes := #[] }] 33 16 #[] #[{ accessFlags := 24, nameIndex := 28, descriptorIndex := 29, attributes := #[] }, { accessFlags := 26, nameIndex := 38, descriptorIndex := 39, attributes := #[] }, { accessFlags := 25, nameIndex := 121, descriptorIndex := 25, attributes := #[] }, { accessFlags := 25, nameIndex := 131, descriptorIndex := 25, attributes := #[] }, { accessFlags := 25, nameIndex := 137, descriptorIndex := 25, attributes := #[] }, { accessFlags := 25, nameIndex := 143, descriptorIndex := 25, attributes := #[] }, { accessFlags := 25, nameIndex := 53, descriptorIndex := 25, attributes := #[] }, { accessFlags := 25, nameIndex := 24, descriptorIndex := 25, attributes := #[] }, { accessFlags := 25, nameIndex := 162, descriptorIndex := 25, attributes := #[] }, { accessFlags := 25, nameIndex := 187, descriptorIndex := 25, attributes := #[] }, { accessFlags := 26, nameIndex := 48, descriptorIndex := 25, attributes := #[] }, { accessFlags := 25, nameIndex := 277, descriptorIndex := 25, attributes := #[] }, { accessFlags := 25, nameIndex := 280, descriptorIndex := 25, attributes := #[] }, { accessFlags := 25, nameIndex := 282, descriptorIndex := 25, attributes := #[] }, { accessFlags := 25, nameIndex := 284, descriptorIndex := 25, attributes := #[] }, { accessFlags := 25, nameIndex := 286, descriptorIndex := 25, attributes := #[] }, { accessFlags := 25, nameIndex := 288, descriptorIndex := 25, attributes := #[] }, { accessFlags := 25, nameIndex := 290, descriptorIndex := 25, attributes := #[] }, { accessFlags := 25, nameIndex := 292, descriptorIndex := 25, attributes := #[] }, { accessFlags := 26, nameIndex := 108, descriptorIndex := 109, attributes := #[] }, { accessFlags := 25, nameIndex := 294, descriptorIndex := 25, attributes := #[] }])
  fields := #[{ name := "U", type := (.object "jdk/internal/misc/Unsafe"), accessFlags := 24, slot := 0, constantValue := 0 }, { name := "BIG_ENDIAN", type := .boolean, accessFlags := 26, slot := 1, constantValue := 0 }, { name := "LOG2_ARRAY_BOOLEAN_INDEX_SCALE", type := .int, accessFlags := 25, slot := 2, constantValue := 0 }, { name := "LOG2_ARRAY_BYTE_INDEX_SCALE", type := .int, accessFlags := 25, slot := 3, constantValue := 0 }, { name := "LOG2_ARRAY_CHAR_INDEX_SCALE", type := .int, accessFlags := 25, slot := 4, constantValue := 0 }, { name := "LOG2_ARRAY_SHORT_INDEX_SCALE", type := .int, accessFlags := 25, slot := 5, constantValue := 0 }, { name := "LOG2_ARRAY_INT_INDEX_SCALE", type := .int, accessFlags := 25, slot := 6, constantValue := 0 }, { name := "LOG2_ARRAY_LONG_INDEX_SCALE", type := .int, accessFlags := 25, slot := 7, constantValue := 0 }, { name := "LOG2_ARRAY_FLOAT_INDEX_SCALE", type := .int, accessFlags := 25, slot := 8, constantValue := 0 }, { name := "LOG2_ARRAY_DOUBLE_INDEX_SCALE", type := .int, accessFlags := 25, slot := 9, constantValue := 0 }, { name := "LOG2_BYTE_BIT_SIZE", type := .int, accessFlags := 26, slot := 10, constantValue := 0 }, { name := "T_BOOLEAN", type := .int, accessFlags := 25, slot := 11, constantValue := 0 }, { name := "T_CHAR", type := .int, accessFlags := 25, slot := 12, constantValue := 0 }, { name := "T_FLOAT", type := .int, accessFlags := 25, slot := 13, constantValue := 0 }, { name := "T_DOUBLE", type := .int, accessFlags := 25, slot := 14, constantValue := 0 }, { name := "T_BYTE", type := .int, accessFlags := 25, slot := 15, constantValue := 0 }, { name := "T_SHORT", type := .int, accessFlags := 25, slot := 16, constantValue := 0 }, { name := "T_INT", type := .int, accessFlags := 25, slot := 17, constantValue := 0 }, { name := "T_LONG", type := .int, accessFlags := 25, slot := 18, constantValue := 0 }, { name := "JLA", type := (.object "jdk/internal/access/JavaLangAccess"), accessFlags := 26, slot := 19, constantValue := 0 }, { name := "SOFT_MAX_ARRAY_LENGTH", type := .int, accessFlags := 25, slot := 20, constantValue := 0 }]
  methods := #[k29m0, k29m1, k29m2]
  instanceTypes := #[]
  staticTypes := #[(.object "jdk/internal/misc/Unsafe"), .boolean, .int, .int, .int, .int, .int, .int, .int, .int, .int, .int, .int, .int, .int, .int, .int, .int, .int, (.object "jdk/internal/access/JavaLangAccess"), .int]
  resolved := Array.replicate 378 none
  statics := none }

def pool30 : Array CpInfo := pool [(2, .class_ 4), (1, u "java/lang/Object"), (0, u "<init>"), (0, u "()V"), (35, .class_ 44), (1, u "java/util/Objects"), (60, .methodref 106 107), (0, .class_ 108), (0, .nameAndType 109 110), (0, u "jdk/internal/util/Preconditions"), (0, u "checkIndex"), (0, u "(IILjava/util/function/BiFunction;)I"), (60, u "(II)I")] 12

def k30m0 : Method := { name := "<init>", desc := "()V", sig := { parameters := [], returnType := none }, accessFlags := 2, code := none }
def k30c1 : Code := { maxStack := 3, maxLocals := 2, code := jdk_31_method_17_code, exceptionTable := #[], attributes := #[] }
def k30m1 : Method := { name := "checkIndex", desc := "(II)I", sig := { parameters := [.int, .int], returnType := some .int }, accessFlags := 9, code := some k30c1 }
/-- java/util/Objects -/
def k30 : Class := { plain "java/util/Objects" (some 0) with
  accessFlags := 49
  interfaces := #[]
  cf := some (fileOf pool30 42 #[] #[{ accessFlags := 2, nameIndex := 5, descriptorIndex := 6, attributes := #[] }, { accessFlags := 9, nameIndex := 109, descriptorIndex := 171, attributes := #[] }] 49 2 #[] #[])
  fields := #[]
  methods := #[k30m0, k30m1]
  instanceTypes := #[]
  staticTypes := #[]
  resolved := Array.replicate 184 none
  statics := none }

def pool31 : Array CpInfo := pool [(2, .class_ 4), (1, u "java/lang/Object"), (0, u "<init>"), (0, u "()V"), (17, .class_ 26), (1, u "jdk/internal/util/Preconditions"), (6, u "checkIndex"), (21, .class_ 56), (0, u "jdk/internal/util/Preconditions$4"), (57, .class_ 115), (0, u "jdk/internal/util/Preconditions$1"), (7, u "SIOOBE_FORMATTER"), (0, u "Ljava/util/function/BiFunction;"), (0, .class_ 126), (0, u "jdk/internal/util/Preconditions$2"), (3, u "AIOOBE_FORMATTER"), (0, .class_ 132), (0, u "jdk/internal/util/Preconditions$3"), (3, u "IOOBE_FORMATTER"), (41, u "(IILjava/util/function/BiFunction;)I")] 15

def k31m0 : Method := { name := "<init>", desc := "()V", sig := { parameters := [], returnType := none }, accessFlags := 1, code := none }
def k31c1 : Code := { maxStack := 3, maxLocals := 3, code := jdk_41_method_11_code, exceptionTable := #[], attributes := #[] }
def k31m1 : Method := { name := "checkIndex", desc := "(IILjava/util/function/BiFunction;)I", sig := { parameters := [.int, .int, (.object "java/util/function/BiFunction")], returnType := some .int }, accessFlags := 9, code := some k31c1 }
/-- jdk/internal/util/Preconditions -/
def k31 : Class := { plain "jdk/internal/util/Preconditions" (some 0) with
  accessFlags := 33
  interfaces := #[]
  cf := some (fileOf pool31 24 #[.nestMembers #[55, 131, 125, 114]] #[{ accessFlags := 1, nameIndex := 5, descriptorIndex := 6, attributes := #[] }, { accessFlags := 9, nameIndex := 33, descriptorIndex := 178, attributes := #[] }] 33 2 #[] #[{ accessFlags := 25, nameIndex := 123, descriptorIndex := 124, attributes := #[] }, { accessFlags := 25, nameIndex := 130, descriptorIndex := 124, attributes := #[] }, { accessFlags := 25, nameIndex := 136, descriptorIndex := 124, attributes := #[] }])
  fields := #[{ name := "SIOOBE_FORMATTER", type := (.object "java/util/function/BiFunction"), accessFlags := 25, slot := 0, constantValue := 0 }, { name := "AIOOBE_FORMATTER", type := (.object "java/util/function/BiFunction"), accessFlags := 25, slot := 1, constantValue := 0 }, { name := "IOOBE_FORMATTER", type := (.object "java/util/function/BiFunction"), accessFlags := 25, slot := 2, constantValue := 0 }]
  methods := #[k31m0, k31m1]
  instanceTypes := #[]
  staticTypes := #[(.object "java/util/function/BiFunction"), (.object "java/util/function/BiFunction"), (.object "java/util/function/BiFunction")]
  resolved := Array.replicate 194 none
  statics := some 2 }

/-- the primitive byte -/
def k32 : Class := { plain "byte" none with kind := .primitive 'B', accessFlags := 0x411 }
/-- [B -/
def k33 : Class := { plain "[B" (some 0) with kind := .array 32 .byte, interfaces := #[18, 2], accessFlags := 1041 }

/-- the primitive char -/
def k34 : Class := { plain "char" none with kind := .primitive 'C', accessFlags := 0x411 }
/-- [C -/
def k35 : Class := { plain "[C" (some 0) with kind := .array 34 .char, interfaces := #[18, 2], accessFlags := 1041 }

/-- the primitive int -/
def k36 : Class := { plain "int" none with kind := .primitive 'I', accessFlags := 0x411 }
/-- [I -/
def k37 : Class := { plain "[I" (some 0) with kind := .array 36 .int, interfaces := #[18, 2], accessFlags := 1041 }

/-- [Ljava/lang/Object; -/
def k38 : Class := { plain "[Ljava/lang/Object;" (some 0) with kind := .array 0 (.object "java/lang/Object"), interfaces := #[18, 2], accessFlags := 1041 }

/-- [Ljava/lang/String; -/
def k39 : Class := { plain "[Ljava/lang/String;" (some 0) with kind := .array 7 (.object "java/lang/String"), interfaces := #[18, 2], accessFlags := 1041 }

def heap : Heap := #[{ cls := 7, slots := #[.long 0, .int 1, .null, .int 0, .null, .int 0, .int 0], vm := .statics 7 },
  { cls := 19, slots := #[.long 0, .int 0, .ref 3, .ref 4], vm := .statics 19 },
  { cls := 31, slots := #[.null, .null, .null], vm := .statics 31 },
  { cls := 38, slots := #[], vm := .none },
  { cls := 38, slots := #[], vm := .none }]
def classes : Array Class := #[k0, k1, k2, k3, k4, k5, k6, k7, k8, k9, k10, k11, k12, k13, k14, k15, k16, k17, k18, k19, k20, k21, k22, k23, k24, k25, k26, k27, k28, k29, k30, k31, k32, k33, k34, k35, k36, k37, k38, k39]
def interned : List (Array UInt16 × Addr) := []
def slotsUsed : Nat := 14
def theMethod : MethodId := ⟨1, 1⟩
def args0 : Array Value := #[.int 5, .int 5, .int 5, .int 5]
def aboutOver (below : List Frame) : State where
  vm := { classes := classes, interned := interned.toArray }
  heap := heap
  slotsUsed := slotsUsed
  threads := #[{ frames := .invoking theMethod args0 :: below }]
def below0 : List Frame := [.native { method := ⟨0, 0⟩, args := #[] }]
def about1 : State := aboutOver below0
def p0 : Program := .bare "" "" ""
def e0 : Env := launch0.env 0 0 0
theorem w_frames : about1.frames = Frame.invoking theMethod args0 :: below0 := rfl
set_option maxRecDepth 65536 in
theorem w_args : argsFit about1.vm theMethod args0 = true := by decide +kernel
set_option maxRecDepth 65536 in
theorem w_heap : heapFits about1 = true := by decide +kernel
set_option maxRecDepth 65536 in
theorem w_runnable : about1.curStatus? = some .runnable := by decide +kernel
set_option maxRecDepth 65536 in
theorem w_alone : about1.alone = true := by decide +kernel
set_option maxRecDepth 65536 in
theorem w_named : about1.methodNamed? x = some theMethod := by decide +kernel
set_option maxRecDepth 65536 in
theorem w_hears : about1.hears theMethod below0 = true := by decide +kernel
set_option maxRecDepth 65536 in
theorem w_ripe : about1.ripe theMethod args0 below0 = true := by decide +kernel
theorem w_running : about1.status = .running := rfl
set_option maxRecDepth 65536 in
theorem w_room : about1.hasRoom e0.platform room_1 = true :=
  launch0.hasRoom_least _ room_1 (by decide +kernel) (by decide +kernel) (by decide +kernel) (by decide +kernel) (by decide +kernel) (by decide +kernel)
theorem allAtoms_all (ts : List Jvm.Cond) (a : Array Jvm.Value) (st : Jvm.State) : (allAtoms ts).before a st = ts.all (fun c => c.before a st) := by
  induction ts with
  | nil => rfl
  | cons c t ih =>
    show (Jvm.Cond.and c (allAtoms t)).before a st = _
    rw [Jvm.Cond.before_and, ih, List.all_cons]
def words1 : List Jvm.Cond := Jvm.Cond.code x code maxLocals ret :: tables_1
/-- a 'code' word, met by the world's own term for the bytes: nothing is compared byte by byte -/
theorem code_word {y : MethodName} {bytes : ByteArray} {mx : Nat} {rt : Option FieldType} {a : Array Value} {s : State} {m : MethodId} {meth : Method} {c : Code} (h1 : s.methodNamed? y = some m) (h2 : s.vm.method? m = some meth) (h3 : meth.code = some c) (h4 : c.code = bytes)
    (h5 : (c.maxLocals == mx && c.exceptionTable.isEmpty && decide (c.maxStack ≤ mostOperands) && decide (meth.sig.returnType = rt) && !meth.locks && decide (parseMethodDescriptor y.desc = some meth.sig)) = true) : (Jvm.Cond.code y bytes mx rt).before a s = true := by
  simp only [Bool.and_eq_true, beq_iff_eq, Bool.not_eq_true', decide_eq_true_eq] at h5
  obtain ⟨⟨⟨⟨⟨g1, g2⟩, g3⟩, g4⟩, g5⟩, g6⟩ := h5
  simp [Cond.before, Cond.holds, Cond.value, h1, h2, h3, h4, g1, g2, g3, g4, g5, g6]
def isCode : Jvm.Cond → Bool
  | .code _ _ _ _ => true
  | _ => false
theorem all_split {L : List Jvm.Cond} {P : Jvm.Cond → Bool} (h1 : L.all (fun c => isCode c || P c) = true) (h2 : ∀ c ∈ L.filter isCode, P c = true) : L.all P = true := by
  refine List.all_eq_true.mpr fun c hc => ?_
  have h := List.all_eq_true.mp h1 c hc
  rcases Bool.eq_false_or_eq_true (isCode c) with hi | hi
  · exact h2 c (List.mem_filter.mpr ⟨hc, hi⟩)
  · simpa [hi] using h
set_option maxRecDepth 65536 in
theorem w_c0 : (Jvm.Cond.code x code maxLocals ret).before args0 about1 = true := code_word (m := ⟨1, 1⟩) (meth := k1m1) (c := k1c1) (by decide +kernel) rfl rfl rfl (by decide +kernel)
set_option maxRecDepth 65536 in
theorem w_c1 : (Jvm.Cond.code ({ cls := "java/lang/String", name := "valueOf", desc := "(C)Ljava/lang/String;" } : Jvm.MethodName) jdk_42_method_139_code (1 : Nat) (Option.some (Jvm.ClassFile.FieldType.object "java/lang/String"))).before args0 about1 = true := code_word (m := ⟨7, 4⟩) (meth := k7m4) (c := k7c4) (by decide +kernel) rfl rfl rfl (by decide +kernel)
set_option maxRecDepth 65536 in
theorem w_c2 : (Jvm.Cond.code ({ cls := "java/lang/StringLatin1", name := "canEncode", desc := "(C)Z" } : Jvm.MethodName) jdk_43_method_3_code (1 : Nat) (Option.some Jvm.ClassFile.FieldType.boolean)).before args0 about1 = true := code_word (m := ⟨8, 1⟩) (meth := k8m1) (c := k8c1) (by decide +kernel) rfl rfl rfl (by decide +kernel)
set_option maxRecDepth 65536 in
theorem w_c3 : (Jvm.Cond.code ({ cls := "java/lang/StringLatin1", name := "toBytes", desc := "(C)[B" } : Jvm.MethodName) jdk_43_method_46_code (1 : Nat) (Option.some (Jvm.ClassFile.FieldType.array Jvm.ClassFile.FieldType.byte))).before args0 about1 = true := code_word (m := ⟨8, 4⟩) (meth := k8m4) (c := k8c4) (by decide +kernel) rfl rfl rfl (by decide +kernel)
set_option maxRecDepth 65536 in
theorem w_c4 : (Jvm.Cond.code ({ cls := "java/lang/String", name := "<init>", desc := "([BB)V" } : Jvm.MethodName) jdk_42_method_151_code (3 : Nat) (Option.none : Option Jvm.ClassFile.FieldType)).before args0 about1 = true := code_word (m := ⟨7, 6⟩) (meth := k7m6) (c := k7c6) (by decide +kernel) rfl rfl rfl (by decide +kernel)
set_option maxRecDepth 65536 in
theorem w_c5 : (Jvm.Cond.code ({ cls := "java/lang/Object", name := "<init>", desc := "()V" } : Jvm.MethodName) object_method_1_code (1 : Nat) (Option.none : Option Jvm.ClassFile.FieldType)).before args0 about1 = true := code_word (m := ⟨0, 0⟩) (meth := k0m0) (c := k0c0) (by decide +kernel) rfl rfl rfl (by decide +kernel)
set_option maxRecDepth 65536 in
theorem w_c6 : (Jvm.Cond.code ({ cls := "java/lang/String", name := "<init>", desc := "([C)V" } : Jvm.MethodName) jdk_42_method_3_code (2 : Nat) (Option.none : Option Jvm.ClassFile.FieldType)).before args0 about1 = true := code_word (m := ⟨7, 1⟩) (meth := k7m1) (c := k7c1) (by decide +kernel) rfl rfl rfl (by decide +kernel)
set_option maxRecDepth 65536 in
theorem w_c7 : (Jvm.Cond.code ({ cls := "java/lang/String", name := "<init>", desc := "([CIILjava/lang/Void;)V" } : Jvm.MethodName) jdk_42_method_149_code (6 : Nat) (Option.none : Option Jvm.ClassFile.FieldType)).before args0 about1 = true := code_word (m := ⟨7, 5⟩) (meth := k7m5) (c := k7c5) (by decide +kernel) rfl rfl rfl (by decide +kernel)
set_option maxRecDepth 65536 in
theorem w_c8 : (Jvm.Cond.code ({ cls := "java/lang/StringUTF16", name := "compress", desc := "([CII)[B" } : Jvm.MethodName) jdk_52_method_16_code (6 : Nat) (Option.some (Jvm.ClassFile.FieldType.array Jvm.ClassFile.FieldType.byte))).before args0 about1 = true := code_word (m := ⟨9, 2⟩) (meth := k9m2) (c := k9c2) (by decide +kernel) rfl rfl rfl (by decide +kernel)
set_option maxRecDepth 65536 in
theorem w_c9 : (Jvm.Cond.code ({ cls := "java/lang/StringUTF16", name := "compress", desc := "([CI[BII)I" } : Jvm.MethodName) jdk_52_method_21_code (7 : Nat) (Option.some Jvm.ClassFile.FieldType.int)).before args0 about1 = true := code_word (m := ⟨9, 3⟩) (meth := k9m3) (c := k9c3) (by decide +kernel) rfl rfl rfl (by decide +kernel)
set_option maxRecDepth 65536 in
theorem w_c10 : (Jvm.Cond.code ({ cls := "java/lang/StringUTF16", name := "coderFromArrayLen", desc := "([BI)B" } : Jvm.MethodName) jdk_52_method_15_code (2 : Nat) (Option.some Jvm.ClassFile.FieldType.byte)).before args0 about1 = true := code_word (m := ⟨9, 1⟩) (meth := k9m1) (c := k9c1) (by decide +kernel) rfl rfl rfl (by decide +kernel)
set_option maxRecDepth 65536 in
theorem w_c11 : (Jvm.Cond.code ({ cls := "com/example/afterscore/afterscore/io/NameTable", name := "<init>", desc := "()V" } : Jvm.MethodName) prog_4_method_1_code (1 : Nat) (Option.none : Option Jvm.ClassFile.FieldType)).before args0 about1 = true := code_word (m := ⟨10, 0⟩) (meth := k10m0) (c := k10c0) (by decide +kernel) rfl rfl rfl (by decide +kernel)
set_option maxRecDepth 65536 in
theorem w_c12 : (Jvm.Cond.code ({ cls := "java/util/ArrayList", name := "<init>", desc := "()V" } : Jvm.MethodName) jdk_38_method_2_code (1 : Nat) (Option.none : Option Jvm.ClassFile.FieldType)).before args0 about1 = true := code_word (m := ⟨19, 0⟩) (meth := k19m0) (c := k19c0) (by decide +kernel) rfl rfl rfl (by decide +kernel)
set_option maxRecDepth 65536 in
theorem w_c13 : (Jvm.Cond.code ({ cls := "java/util/AbstractList", name := "<init>", desc := "()V" } : Jvm.MethodName) jdk_39_method_1_code (1 : Nat) (Option.none : Option Jvm.ClassFile.FieldType)).before args0 about1 = true := code_word (m := ⟨16, 0⟩) (meth := k16m0) (c := k16c0) (by decide +kernel) rfl rfl rfl (by decide +kernel)
set_option maxRecDepth 65536 in
theorem w_c14 : (Jvm.Cond.code ({ cls := "java/util/AbstractCollection", name := "<init>", desc := "()V" } : Jvm.MethodName) jdk_22_method_1_code (1 : Nat) (Option.none : Option Jvm.ClassFile.FieldType)).before args0 about1 = true := code_word (m := ⟨13, 0⟩) (meth := k13m0) (c := k13c0) (by decide +kernel) rfl rfl rfl (by decide +kernel)
set_option maxRecDepth 65536 in
theorem w_c15 : (Jvm.Cond.code ({ cls := "java/util/TreeMap", name := "<init>", desc := "()V" } : Jvm.MethodName) jdk_2729_method_1_code (1 : Nat) (Option.none : Option Jvm.ClassFile.FieldType)).before args0 about1 = true := code_word (m := ⟨25, 0⟩) (meth := k25m0) (c := k25c0) (by decide +kernel) rfl rfl rfl (by decide +kernel)
set_option maxRecDepth 65536 in
theorem w_c16 : (Jvm.Cond.code ({ cls := "java/util/AbstractMap", name := "<init>", desc := "()V" } : Jvm.MethodName) jdk_71_method_1_code (1 : Nat) (Option.none : Option Jvm.ClassFile.FieldType)).before args0 about1 = true := code_word (m := ⟨21, 0⟩) (meth := k21m0) (c := k21c0) (by decide +kernel) rfl rfl rfl (by decide +kernel)
set_option maxRecDepth 65536 in
theorem w_c17 : (Jvm.Cond.code ({ cls := "com/example/afterscore/afterscore/io/NameTable", name := "size", desc := "()I" } : Jvm.MethodName) prog_4_method_2_code (1 : Nat) (Option.some Jvm.ClassFile.FieldType.int)).before args0 about1 = true := code_word (m := ⟨10, 1⟩) (meth := k10m1) (c := k10c1) (by decide +kernel) rfl rfl rfl (by decide +kernel)
set_option maxRecDepth 65536 in
theorem w_c18 : (Jvm.Cond.code ({ cls := "java/util/ArrayList", name := "size", desc := "()I" } : Jvm.MethodName) jdk_38_method_8_code (1 : Nat) (Option.some Jvm.ClassFile.FieldType.int)).before args0 about1 = true := code_word (m := ⟨19, 3⟩) (meth := k19m3) (c := k19c3) (by decide +kernel) rfl rfl rfl (by decide +kernel)
set_option maxRecDepth 65536 in
theorem w_c19 : (Jvm.Cond.code ({ cls := "com/example/afterscore/afterscore/io/NameTable", name := "add", desc := "(Ljava/lang/String;)I" } : Jvm.MethodName) prog_4_method_4_code (2 : Nat) (Option.some Jvm.ClassFile.FieldType.int)).before args0 about1 = true := code_word (m := ⟨10, 3⟩) (meth := k10m3) (c := k10c3) (by decide +kernel) rfl rfl rfl (by decide +kernel)
set_option maxRecDepth 65536 in
theorem w_c20 : (Jvm.Cond.code ({ cls := "java/util/ArrayList", name := "add", desc := "(Ljava/lang/Object;)Z" } : Jvm.MethodName) jdk_38_method_25_code (2 : Nat) (Option.some Jvm.ClassFile.FieldType.boolean)).before args0 about1 = true := code_word (m := ⟨19, 7⟩) (meth := k19m7) (c := k19c7) (by decide +kernel) rfl rfl rfl (by decide +kernel)
set_option maxRecDepth 65536 in
theorem w_c21 : (Jvm.Cond.code ({ cls := "java/util/ArrayList", name := "add", desc := "(Ljava/lang/Object;[Ljava/lang/Object;I)V" } : Jvm.MethodName) jdk_38_method_24_code (4 : Nat) (Option.none : Option Jvm.ClassFile.FieldType)).before args0 about1 = true := code_word (m := ⟨19, 6⟩) (meth := k19m6) (c := k19c6) (by decide +kernel) rfl rfl rfl (by decide +kernel)
set_option maxRecDepth 65536 in
theorem w_c22 : (Jvm.Cond.code ({ cls := "java/util/ArrayList", name := "grow", desc := "()[Ljava/lang/Object;" } : Jvm.MethodName) jdk_38_method_7_code (1 : Nat) (Option.some (Jvm.ClassFile.FieldType.array (Jvm.ClassFile.FieldType.object "java/lang/Object")))).before args0 about1 = true := code_word (m := ⟨19, 2⟩) (meth := k19m2) (c := k19c2) (by decide +kernel) rfl rfl rfl (by decide +kernel)
set_option maxRecDepth 65536 in
theorem w_c23 : (Jvm.Cond.code ({ cls := "java/util/ArrayList", name := "grow", desc := "(I)[Ljava/lang/Object;" } : Jvm.MethodName) jdk_38_method_6_code (4 : Nat) (Option.some (Jvm.ClassFile.FieldType.array (Jvm.ClassFile.FieldType.object "java/lang/Object")))).before args0 about1 = true := code_word (m := ⟨19, 1⟩) (meth := k19m1) (c := k19c1) (by decide +kernel) rfl rfl rfl (by decide +kernel)
set_option maxRecDepth 65536 in
theorem w_c24 : (Jvm.Cond.code ({ cls := "java/lang/Math", name := "max", desc := "(II)I" } : Jvm.MethodName) jdk_29_method_65_code (2 : Nat) (Option.some Jvm.ClassFile.FieldType.int)).before args0 about1 = true := code_word (m := ⟨26, 1⟩) (meth := k26m1) (c := k26c1) (by decide +kernel) rfl rfl rfl (by decide +kernel)
set_option maxRecDepth 65536 in
theorem w_c25 : (Jvm.Cond.code ({ cls := "com/example/afterscore/afterscore/io/NameTable", name := "place", desc := "(Ljava/lang/String;I)V" } : Jvm.MethodName) prog_4_method_8_code (5 : Nat) (Option.none : Option Jvm.ClassFile.FieldType)).before args0 about1 = true := code_word (m := ⟨10, 5⟩) (meth := k10m5) (c := k10c5) (by decide +kernel) rfl rfl rfl (by decide +kernel)
set_option maxRecDepth 65536 in
theorem w_c26 : (Jvm.Cond.code ({ cls := "java/lang/String", name := "hashCode", desc := "()I" } : Jvm.MethodName) jdk_42_method_78_code (2 : Nat) (Option.some Jvm.ClassFile.FieldType.int)).before args0 about1 = true := code_word (m := ⟨7, 3⟩) (meth := k7m3) (c := k7c3) (by decide +kernel) rfl rfl rfl (by decide +kernel)
set_option maxRecDepth 65536 in
theorem w_c27 : (Jvm.Cond.code ({ cls := "java/lang/String", name := "isLatin1", desc := "()Z" } : Jvm.MethodName) jdk_42_method_154_code (1 : Nat) (Option.some Jvm.ClassFile.FieldType.boolean)).before args0 about1 = true := code_word (m := ⟨7, 7⟩) (meth := k7m7) (c := k7c7) (by decide +kernel) rfl rfl rfl (by decide +kernel)
set_option maxRecDepth 65536 in
theorem w_c28 : (Jvm.Cond.code ({ cls := "java/lang/StringLatin1", name := "hashCode", desc := "([B)I" } : Jvm.MethodName) jdk_43_method_21_code (1 : Nat) (Option.some Jvm.ClassFile.FieldType.int)).before args0 about1 = true := code_word (m := ⟨8, 3⟩) (meth := k8m3) (c := k8c3) (by decide +kernel) rfl rfl rfl (by decide +kernel)
set_option maxRecDepth 65536 in
theorem w_c29 : (Jvm.Cond.code ({ cls := "com/example/afterscore/afterscore/io/NameTable", name := "slot", desc := "(I)I" } : Jvm.MethodName) prog_4_method_9_code (2 : Nat) (Option.some Jvm.ClassFile.FieldType.int)).before args0 about1 = true := code_word (m := ⟨10, 6⟩) (meth := k10m6) (c := k10c6) (by decide +kernel) rfl rfl rfl (by decide +kernel)
set_option maxRecDepth 65536 in
theorem w_c30 : (Jvm.Cond.code ({ cls := "java/lang/Integer", name := "numberOfLeadingZeros", desc := "(I)I" } : Jvm.MethodName) jdk_33_method_47_code (2 : Nat) (Option.some Jvm.ClassFile.FieldType.int)).before args0 about1 = true := code_word (m := ⟨28, 0⟩) (meth := k28m0) (c := k28c0) (by decide +kernel) rfl rfl rfl (by decide +kernel)
set_option maxRecDepth 65536 in
theorem w_c31 : (Jvm.Cond.code ({ cls := "jdk/internal/util/ArraysSupport", name := "vectorizedHashCode", desc := "(Ljava/lang/Object;IIII)I" } : Jvm.MethodName) jdk_48_method_4_code (5 : Nat) (Option.some Jvm.ClassFile.FieldType.int)).before args0 about1 = true := code_word (m := ⟨29, 1⟩) (meth := k29m1) (c := k29c1) (by decide +kernel) rfl rfl rfl (by decide +kernel)
set_option maxRecDepth 65536 in
theorem w_c32 : (Jvm.Cond.code ({ cls := "jdk/internal/util/ArraysSupport", name := "signedHashCode", desc := "(I[BII)I" } : Jvm.MethodName) jdk_48_method_5_code (6 : Nat) (Option.some Jvm.ClassFile.FieldType.int)).before args0 about1 = true := code_word (m := ⟨29, 2⟩) (meth := k29m2) (c := k29c2) (by decide +kernel) rfl rfl rfl (by decide +kernel)
set_option maxRecDepth 65536 in
theorem w_c33 : (Jvm.Cond.code ({ cls := "com/example/afterscore/afterscore/io/NameTable", name := "indexOf", desc := "(Ljava/lang/String;)I" } : Jvm.MethodName) prog_4_method_5_code (6 : Nat) (Option.some Jvm.ClassFile.FieldType.int)).before args0 about1 = true := code_word (m := ⟨10, 4⟩) (meth := k10m4) (c := k10c4) (by decide +kernel) rfl rfl rfl (by decide +kernel)
set_option maxRecDepth 65536 in
theorem w_c34 : (Jvm.Cond.code ({ cls := "java/lang/String", name := "equals", desc := "(Ljava/lang/Object;)Z" } : Jvm.MethodName) jdk_42_method_66_code (3 : Nat) (Option.some Jvm.ClassFile.FieldType.boolean)).before args0 about1 = true := code_word (m := ⟨7, 2⟩) (meth := k7m2) (c := k7c2) (by decide +kernel) rfl rfl rfl (by decide +kernel)
set_option maxRecDepth 65536 in
theorem w_c35 : (Jvm.Cond.code ({ cls := "java/lang/StringLatin1", name := "equals", desc := "([B[B)Z" } : Jvm.MethodName) jdk_43_method_13_code (3 : Nat) (Option.some Jvm.ClassFile.FieldType.boolean)).before args0 about1 = true := code_word (m := ⟨8, 2⟩) (meth := k8m2) (c := k8c2) (by decide +kernel) rfl rfl rfl (by decide +kernel)
set_option maxRecDepth 65536 in
theorem w_c36 : (Jvm.Cond.code ({ cls := "com/example/afterscore/afterscore/io/NameTable", name := "name", desc := "(I)Ljava/lang/String;" } : Jvm.MethodName) prog_4_method_3_code (2 : Nat) (Option.some (Jvm.ClassFile.FieldType.object "java/lang/String"))).before args0 about1 = true := code_word (m := ⟨10, 2⟩) (meth := k10m2) (c := k10c2) (by decide +kernel) rfl rfl rfl (by decide +kernel)
set_option maxRecDepth 65536 in
theorem w_c37 : (Jvm.Cond.code ({ cls := "java/util/ArrayList", name := "get", desc := "(I)Ljava/lang/Object;" } : Jvm.MethodName) jdk_38_method_20_code (2 : Nat) (Option.some (Jvm.ClassFile.FieldType.object "java/lang/Object"))).before args0 about1 = true := code_word (m := ⟨19, 5⟩) (meth := k19m5) (c := k19c5) (by decide +kernel) rfl rfl rfl (by decide +kernel)
set_option maxRecDepth 65536 in
theorem w_c38 : (Jvm.Cond.code ({ cls := "java/util/Objects", name := "checkIndex", desc := "(II)I" } : Jvm.MethodName) jdk_31_method_17_code (2 : Nat) (Option.some Jvm.ClassFile.FieldType.int)).before args0 about1 = true := code_word (m := ⟨30, 1⟩) (meth := k30m1) (c := k30c1) (by decide +kernel) rfl rfl rfl (by decide +kernel)
set_option maxRecDepth 65536 in
theorem w_c39 : (Jvm.Cond.code ({ cls := "jdk/internal/util/Preconditions", name := "checkIndex", desc := "(IILjava/util/function/BiFunction;)I" } : Jvm.MethodName) jdk_41_method_11_code (3 : Nat) (Option.some Jvm.ClassFile.FieldType.int)).before args0 about1 = true := code_word (m := ⟨31, 1⟩) (meth := k31m1) (c := k31c1) (by decide +kernel) rfl rfl rfl (by decide +kernel)
set_option maxRecDepth 65536 in
theorem w_c40 : (Jvm.Cond.code ({ cls := "java/util/ArrayList", name := "elementData", desc := "(I)Ljava/lang/Object;" } : Jvm.MethodName) jdk_38_method_18_code (2 : Nat) (Option.some (Jvm.ClassFile.FieldType.object "java/lang/Object"))).before args0 about1 = true := code_word (m := ⟨19, 4⟩) (meth := k19m4) (c := k19c4) (by decide +kernel) rfl rfl rfl (by decide +kernel)
set_option maxRecDepth 65536 in
theorem w_c41 : (Jvm.Cond.code ({ cls := "com/example/afterscore/afterscore/io/NameTable", name := "next", desc := "(I)I" } : Jvm.MethodName) prog_4_method_10_code (2 : Nat) (Option.some Jvm.ClassFile.FieldType.int)).before args0 about1 = true := code_word (m := ⟨10, 7⟩) (meth := k10m7) (c := k10c7) (by decide +kernel) rfl rfl rfl (by decide +kernel)
def codes1 : List Jvm.Cond := [Jvm.Cond.code x code maxLocals ret, Jvm.Cond.code ({ cls := "java/lang/String", name := "valueOf", desc := "(C)Ljava/lang/String;" } : Jvm.MethodName) jdk_42_method_139_code (1 : Nat) (Option.some (Jvm.ClassFile.FieldType.object "java/lang/String")), Jvm.Cond.code ({ cls := "java/lang/StringLatin1", name := "canEncode", desc := "(C)Z" } : Jvm.MethodName) jdk_43_method_3_code (1 : Nat) (Option.some Jvm.ClassFile.FieldType.boolean), Jvm.Cond.code ({ cls := "java/lang/StringLatin1", name := "toBytes", desc := "(C)[B" } : Jvm.MethodName) jdk_43_method_46_code (1 : Nat) (Option.some (Jvm.ClassFile.FieldType.array Jvm.ClassFile.FieldType.byte)), Jvm.Cond.code ({ cls := "java/lang/String", name := "<init>", desc := "([BB)V" } : Jvm.MethodName) jdk_42_method_151_code (3 : Nat) (Option.none : Option Jvm.ClassFile.FieldType), Jvm.Cond.code ({ cls := "java/lang/Object", name := "<init>", desc := "()V" } : Jvm.MethodName) object_method_1_code (1 : Nat) (Option.none : Option Jvm.ClassFile.FieldType), Jvm.Cond.code ({ cls := "java/lang/String", name := "<init>", desc := "([C)V" } : Jvm.MethodName) jdk_42_method_3_code (2 : Nat) (Option.none : Option Jvm.ClassFile.FieldType), Jvm.Cond.code ({ cls := "java/lang/String", name := "<init>", desc := "([CIILjava/lang/Void;)V" } : Jvm.MethodName) jdk_42_method_149_code (6 : Nat) (Option.none : Option Jvm.ClassFile.FieldType), Jvm.Cond.code ({ cls := "java/lang/StringUTF16", name := "compress", desc := "([CII)[B" } : Jvm.MethodName) jdk_52_method_16_code (6 : Nat) (Option.some (Jvm.ClassFile.FieldType.array Jvm.ClassFile.FieldType.byte)), Jvm.Cond.code ({ cls := "java/lang/StringUTF16", name := "compress", desc := "([CI[BII)I" } : Jvm.MethodName) jdk_52_method_21_code (7 : Nat) (Option.some Jvm.ClassFile.FieldType.int), Jvm.Cond.code ({ cls := "java/lang/StringUTF16", name := "coderFromArrayLen", desc := "([BI)B" } : Jvm.MethodName) jdk_52_method_15_code (2 : Nat) (Option.some Jvm.ClassFile.FieldType.byte), Jvm.Cond.code ({ cls := "com/example/afterscore/afterscore/io/NameTable", name := "<init>", desc := "()V" } : Jvm.MethodName) prog_4_method_1_code (1 : Nat) (Option.none : Option Jvm.ClassFile.FieldType), Jvm.Cond.code ({ cls := "java/util/ArrayList", name := "<init>", desc := "()V" } : Jvm.MethodName) jdk_38_method_2_code (1 : Nat) (Option.none : Option Jvm.ClassFile.FieldType), Jvm.Cond.code ({ cls := "java/util/AbstractList", name := "<init>", desc := "()V" } : Jvm.MethodName) jdk_39_method_1_code (1 : Nat) (Option.none : Option Jvm.ClassFile.FieldType), Jvm.Cond.code ({ cls := "java/util/AbstractCollection", name := "<init>", desc := "()V" } : Jvm.MethodName) jdk_22_method_1_code (1 : Nat) (Option.none : Option Jvm.ClassFile.FieldType), Jvm.Cond.code ({ cls := "java/util/TreeMap", name := "<init>", desc := "()V" } : Jvm.MethodName) jdk_2729_method_1_code (1 : Nat) (Option.none : Option Jvm.ClassFile.FieldType), Jvm.Cond.code ({ cls := "java/util/AbstractMap", name := "<init>", desc := "()V" } : Jvm.MethodName) jdk_71_method_1_code (1 : Nat) (Option.none : Option Jvm.ClassFile.FieldType), Jvm.Cond.code ({ cls := "com/example/afterscore/afterscore/io/NameTable", name := "size", desc := "()I" } : Jvm.MethodName) prog_4_method_2_code (1 : Nat) (Option.some Jvm.ClassFile.FieldType.int), Jvm.Cond.code ({ cls := "java/util/ArrayList", name := "size", desc := "()I" } : Jvm.MethodName) jdk_38_method_8_code (1 : Nat) (Option.some Jvm.ClassFile.FieldType.int), Jvm.Cond.code ({ cls := "com/example/afterscore/afterscore/io/NameTable", name := "add", desc := "(Ljava/lang/String;)I" } : Jvm.MethodName) prog_4_method_4_code (2 : Nat) (Option.some Jvm.ClassFile.FieldType.int), Jvm.Cond.code ({ cls := "java/util/ArrayList", name := "add", desc := "(Ljava/lang/Object;)Z" } : Jvm.MethodName) jdk_38_method_25_code (2 : Nat) (Option.some Jvm.ClassFile.FieldType.boolean), Jvm.Cond.code ({ cls := "java/util/ArrayList", name := "add", desc := "(Ljava/lang/Object;[Ljava/lang/Object;I)V" } : Jvm.MethodName) jdk_38_method_24_code (4 : Nat) (Option.none : Option Jvm.ClassFile.FieldType), Jvm.Cond.code ({ cls := "java/util/ArrayList", name := "grow", desc := "()[Ljava/lang/Object;" } : Jvm.MethodName) jdk_38_method_7_code (1 : Nat) (Option.some (Jvm.ClassFile.FieldType.array (Jvm.ClassFile.FieldType.object "java/lang/Object"))), Jvm.Cond.code ({ cls := "java/util/ArrayList", name := "grow", desc := "(I)[Ljava/lang/Object;" } : Jvm.MethodName) jdk_38_method_6_code (4 : Nat) (Option.some (Jvm.ClassFile.FieldType.array (Jvm.ClassFile.FieldType.object "java/lang/Object"))), Jvm.Cond.code ({ cls := "java/lang/Math", name := "max", desc := "(II)I" } : Jvm.MethodName) jdk_29_method_65_code (2 : Nat) (Option.some Jvm.ClassFile.FieldType.int), Jvm.Cond.code ({ cls := "com/example/afterscore/afterscore/io/NameTable", name := "place", desc := "(Ljava/lang/String;I)V" } : Jvm.MethodName) prog_4_method_8_code (5 : Nat) (Option.none : Option Jvm.ClassFile.FieldType), Jvm.Cond.code ({ cls := "java/lang/String", name := "hashCode", desc := "()I" } : Jvm.MethodName) jdk_42_method_78_code (2 : Nat) (Option.some Jvm.ClassFile.FieldType.int), Jvm.Cond.code ({ cls := "java/lang/String", name := "isLatin1", desc := "()Z" } : Jvm.MethodName) jdk_42_method_154_code (1 : Nat) (Option.some Jvm.ClassFile.FieldType.boolean), Jvm.Cond.code ({ cls := "java/lang/StringLatin1", name := "hashCode", desc := "([B)I" } : Jvm.MethodName) jdk_43_method_21_code (1 : Nat) (Option.some Jvm.ClassFile.FieldType.int), Jvm.Cond.code ({ cls := "com/example/afterscore/afterscore/io/NameTable", name := "slot", desc := "(I)I" } : Jvm.MethodName) prog_4_method_9_code (2 : Nat) (Option.some Jvm.ClassFile.FieldType.int), Jvm.Cond.code ({ cls := "java/lang/Integer", name := "numberOfLeadingZeros", desc := "(I)I" } : Jvm.MethodName) jdk_33_method_47_code (2 : Nat) (Option.some Jvm.ClassFile.FieldType.int), Jvm.Cond.code ({ cls := "jdk/internal/util/ArraysSupport", name := "vectorizedHashCode", desc := "(Ljava/lang/Object;IIII)I" } : Jvm.MethodName) jdk_48_method_4_code (5 : Nat) (Option.some Jvm.ClassFile.FieldType.int), Jvm.Cond.code ({ cls := "jdk/internal/util/ArraysSupport", name := "signedHashCode", desc := "(I[BII)I" } : Jvm.MethodName) jdk_48_method_5_code (6 : Nat) (Option.some Jvm.ClassFile.FieldType.int), Jvm.Cond.code ({ cls := "com/example/afterscore/afterscore/io/NameTable", name := "indexOf", desc := "(Ljava/lang/String;)I" } : Jvm.MethodName) prog_4_method_5_code (6 : Nat) (Option.some Jvm.ClassFile.FieldType.int), Jvm.Cond.code ({ cls := "java/lang/String", name := "equals", desc := "(Ljava/lang/Object;)Z" } : Jvm.MethodName) jdk_42_method_66_code (3 : Nat) (Option.some Jvm.ClassFile.FieldType.boolean), Jvm.Cond.code ({ cls := "java/lang/StringLatin1", name := "equals", desc := "([B[B)Z" } : Jvm.MethodName) jdk_43_method_13_code (3 : Nat) (Option.some Jvm.ClassFile.FieldType.boolean), Jvm.Cond.code ({ cls := "com/example/afterscore/afterscore/io/NameTable", name := "name", desc := "(I)Ljava/lang/String;" } : Jvm.MethodName) prog_4_method_3_code (2 : Nat) (Option.some (Jvm.ClassFile.FieldType.object "java/lang/String")), Jvm.Cond.code ({ cls := "java/util/ArrayList", name := "get", desc := "(I)Ljava/lang/Object;" } : Jvm.MethodName) jdk_38_method_20_code (2 : Nat) (Option.some (Jvm.ClassFile.FieldType.object "java/lang/Object")), Jvm.Cond.code ({ cls := "java/util/Objects", name := "checkIndex", desc := "(II)I" } : Jvm.MethodName) jdk_31_method_17_code (2 : Nat) (Option.some Jvm.ClassFile.FieldType.int), Jvm.Cond.code ({ cls := "jdk/internal/util/Preconditions", name := "checkIndex", desc := "(IILjava/util/function/BiFunction;)I" } : Jvm.MethodName) jdk_41_method_11_code (3 : Nat) (Option.some Jvm.ClassFile.FieldType.int), Jvm.Cond.code ({ cls := "java/util/ArrayList", name := "elementData", desc := "(I)Ljava/lang/Object;" } : Jvm.MethodName) jdk_38_method_18_code (2 : Nat) (Option.some (Jvm.ClassFile.FieldType.object "java/lang/Object")), Jvm.Cond.code ({ cls := "com/example/afterscore/afterscore/io/NameTable", name := "next", desc := "(I)I" } : Jvm.MethodName) prog_4_method_10_code (2 : Nat) (Option.some Jvm.ClassFile.FieldType.int)]
set_option maxRecDepth 65536 in
theorem codes_eq : words1.filter isCode = codes1 := rfl
theorem w_codes : ∀ c ∈ words1.filter isCode, c.before args0 about1 = true := by
  rw [codes_eq]
  intro c hc
  simp only [codes1, List.mem_cons, List.not_mem_nil, or_false] at hc
  rcases hc with rfl | rfl | rfl | rfl | rfl | rfl | rfl | rfl | rfl | rfl | rfl | rfl | rfl | rfl | rfl | rfl | rfl | rfl | rfl | rfl | rfl | rfl | rfl | rfl | rfl | rfl | rfl | rfl | rfl | rfl | rfl | rfl | rfl | rfl | rfl | rfl | rfl | rfl | rfl | rfl | rfl | rfl
  · exact w_c0
  · exact w_c1
  · exact w_c2
  · exact w_c3
  · exact w_c4
  · exact w_c5
  · exact w_c6
  · exact w_c7
  · exact w_c8
  · exact w_c9
  · exact w_c10
  · exact w_c11
  · exact w_c12
  · exact w_c13
  · exact w_c14
  · exact w_c15
  · exact w_c16
  · exact w_c17
  · exact w_c18
  · exact w_c19
  · exact w_c20
  · exact w_c21
  · exact w_c22
  · exact w_c23
  · exact w_c24
  · exact w_c25
  · exact w_c26
  · exact w_c27
  · exact w_c28
  · exact w_c29
  · exact w_c30
  · exact w_c31
  · exact w_c32
  · exact w_c33
  · exact w_c34
  · exact w_c35
  · exact w_c36
  · exact w_c37
  · exact w_c38
  · exact w_c39
  · exact w_c40
  · exact w_c41
set_option maxRecDepth 65536 in
theorem w_t1 : (words1.take 24).all (fun c => isCode c || c.before args0 about1) = true := by decide +kernel
set_option maxRecDepth 65536 in
theorem w_t2 : ((words1.drop 24).take 24).all (fun c => isCode c || c.before args0 about1) = true := by decide +kernel
set_option maxRecDepth 65536 in
theorem w_t3 : (((words1.drop 24).drop 24).take 24).all (fun c => isCode c || c.before args0 about1) = true := by decide +kernel
set_option maxRecDepth 65536 in
theorem w_t4 : ((((words1.drop 24).drop 24).drop 24).take 24).all (fun c => isCode c || c.before args0 about1) = true := by decide +kernel
set_option maxRecDepth 65536 in
theorem w_t5 : (((((words1.drop 24).drop 24).drop 24).drop 24).take 24).all (fun c => isCode c || c.before args0 about1) = true := by decide +kernel
set_option maxRecDepth 65536 in
theorem w_t6 : ((((((words1.drop 24).drop 24).drop 24).drop 24).drop 24).take 24).all (fun c => isCode c || c.before args0 about1) = true := by decide +kernel
set_option maxRecDepth 65536 in
theorem w_t7 : (((((((words1.drop 24).drop 24).drop 24).drop 24).drop 24).drop 24).take 24).all (fun c => isCode c || c.before args0 about1) = true := by decide +kernel
set_option maxRecDepth 65536 in
theorem w_t8 : ((((((((words1.drop 24).drop 24).drop 24).drop 24).drop 24).drop 24).drop 24).take 24).all (fun c => isCode c || c.before args0 about1) = true := by decide +kernel
set_option maxRecDepth 65536 in
theorem w_t9 : (((((((((words1.drop 24).drop 24).drop 24).drop 24).drop 24).drop 24).drop 24).drop 24).take 24).all (fun c => isCode c || c.before args0 about1) = true := by decide +kernel
set_option maxRecDepth 65536 in
theorem w_t10 : ((((((((((words1.drop 24).drop 24).drop 24).drop 24).drop 24).drop 24).drop 24).drop 24).drop 24).take 24).all (fun c => isCode c || c.before args0 about1) = true := by decide +kernel
set_option maxRecDepth 65536 in
theorem w_t11 : ((((((((((words1.drop 24).drop 24).drop 24).drop 24).drop 24).drop 24).drop 24).drop 24).drop 24).drop 24).all (fun c => isCode c || c.before args0 about1) = true := by decide +kernel
theorem w_tables : (allAtoms (Jvm.Cond.code x code maxLocals ret :: tables_1)).before args0 about1 = true := by
  rw [allAtoms_all]
  show words1.all (fun c => c.before args0 about1) = true
  refine all_split ?_ w_codes
  rw [← List.take_append_drop 24 words1, List.all_append, w_t1, ← List.take_append_drop 24 (words1.drop 24), List.all_append, w_t2, ← List.take_append_drop 24 ((words1.drop 24).drop 24), List.all_append, w_t3, ← List.take_append_drop 24 (((words1.drop 24).drop 24).drop 24), List.all_append, w_t4, ← List.take_append_drop 24 ((((words1.drop 24).drop 24).drop 24).drop 24), List.all_append, w_t5, ← List.take_append_drop 24 (((((words1.drop 24).drop 24).drop 24).drop 24).drop 24), List.all_append, w_t6, ← List.take_append_drop 24 ((((((words1.drop 24).drop 24).drop 24).drop 24).drop 24).drop 24), List.all_append, w_t7, ← List.take_append_drop 24 (((((((words1.drop 24).drop 24).drop 24).drop 24).drop 24).drop 24).drop 24), List.all_append, w_t8, ← List.take_append_drop 24 ((((((((words1.drop 24).drop 24).drop 24).drop 24).drop 24).drop 24).drop 24).drop 24), List.all_append, w_t9, ← List.take_append_drop 24 (((((((((words1.drop 24).drop 24).drop 24).drop 24).drop 24).drop 24).drop 24).drop 24).drop 24), List.all_append, w_t10, w_t11]
  rfl
set_option maxRecDepth 65536 in
theorem w_rest : rest_1_c.before args0 about1 = true := by decide +kernel
set_option maxRecDepth 65536 in
theorem w_case : (Jvm.Cond.and given_1 narrow_1).before args0 about1 = true := by decide +kernel
theorem w_applies : (headSpec (Jvm.Cond.code x code maxLocals ret :: tables_1) room_1).applies x e0.platform about1 = true :=
  (Spec.applies_iff w_frames).mpr ⟨w_running, w_runnable, w_alone, w_named, w_hears, w_ripe, w_room, w_tables⟩
theorem atStart : AtStart classFile x code maxLocals ret World_1 tables_1 room_1 Calls_1 rest_1 Pre_1 launch0 p0 e0 about1 theMethod args0 below0 :=
  ⟨lists_1, trivial, launch0.admits_env _ _ _, launch0.least_env, fairChoices_fair.cas, fairChoices_fair.clock, w_frames, w_args, w_heap, w_applies, trivial, w_rest, w_case⟩
end start1
theorem witness_1 : WitnessClaimed_1 := ⟨start1.p0, start1.e0, start1.about1, start1.theMethod, start1.args0, start1.below0, start1.atStart⟩
end Jvm.Pilot.@@N@@
