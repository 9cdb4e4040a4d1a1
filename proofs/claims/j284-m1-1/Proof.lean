import JvmDerived
import JvmDerived.Pilot.@@N@@Statement
import JvmDerived.Pilot.@@N@@Code
set_option linter.unusedVariables false
set_option linter.unusedSimpArgs false
namespace Jvm.Pilot.@@N@@
open Jvm Jvm.ClassFile Sem Op Lib Bundle Jvm.Free Jvm.Stand Jvm.LawKit Jvm.RoadKit
/-! ## The walk's own layer: where a run stands (Hr), a method's contract (Ct), one lemma a step. -/
/-- the fixed part of one walk: program, launch, environment, start, method, arguments, frames below, method record, code, the state where the steps begin, the cells that it may write, narrow tables?, known frames? -/
abbrev Cx : Type := Program × Launch × Env × State × MethodId × Array Value × List Frame × Method × Code × State × List Addr × Bool × Bool
abbrev Cx.p (x : Cx) : Program := x.1
abbrev Cx.l (x : Cx) : Launch := x.2.1
abbrev Cx.e (x : Cx) : Env := x.2.2.1
abbrev Cx.s (x : Cx) : State := x.2.2.2.1
abbrev Cx.m (x : Cx) : MethodId := x.2.2.2.2.1
abbrev Cx.args (x : Cx) : Array Value := x.2.2.2.2.2.1
abbrev Cx.below (x : Cx) : List Frame := x.2.2.2.2.2.2.1
abbrev Cx.meth (x : Cx) : Method := x.2.2.2.2.2.2.2.1
abbrev Cx.c (x : Cx) : Code := x.2.2.2.2.2.2.2.2.1
abbrev Cx.B (x : Cx) : State := x.2.2.2.2.2.2.2.2.2.1
abbrev Cx.sf0 (x : Cx) : List Addr := x.2.2.2.2.2.2.2.2.2.2.1
abbrev Cx.nar (x : Cx) : Bool := x.2.2.2.2.2.2.2.2.2.2.2.1
abbrev Cx.kn (x : Cx) : Bool := x.2.2.2.2.2.2.2.2.2.2.2.2
/-- a body: its room, its method's name, bytes, number of locals, what it returns -/
abbrev Bx : Type := Room × MethodName × ByteArray × Nat × Option FieldType
abbrev Bx.R (b : Bx) : Room := b.1
abbrev Bx.y (b : Bx) : MethodName := b.2.1
abbrev Bx.bytes (b : Bx) : ByteArray := b.2.2.1
abbrev Bx.maxL (b : Bx) : Nat := b.2.2.2.1
abbrev Bx.ret (b : Bx) : Option FieldType := b.2.2.2.2
/-- what never moves in a walk -/
def Bs (x : Cx) (b : Bx) (Z : State) (EL : List (String × Nat)) : Prop :=
  (∃ a0, EW Z a0 EL) ∧ x.p.tables.exec = Jvm.exec ∧ x.c.code = b.bytes ∧ x.c.maxLocals = b.maxL ∧ x.meth.sig.returnType = b.ret ∧ x.meth.locks = false ∧ x.meth.name = b.y.name
/-- a cell that the walk may write: made since the walk's start (or handed in), made since the law's start, and no literal's -/
def Mine (x : Cx) (Z : State) (EL : List (String × Nat)) (vm : Vm) (h : Heap) (a : Addr) : Prop := (a ∈ x.sf0 ∨ x.s.heap.size ≤ a) ∧ Z.heap.size ≤ a ∧ a < h.size ∧ Safe Z EL vm h a
/-- what moves, but for the frame -/
def Hx (x : Cx) (b : Bx) (Z : State) (EL : List (String × Nat)) (K S : Nat) (h : Heap) (sf : List Addr) (T : State) (locs : List Loc) (cells slots : Nat) (vm0 : Vm) (k0 : Nat) : Prop :=
  Stand x.p x.l x.e b.R (x.s.setVm vm0) x.m x.args x.below x.meth x.c T locs cells slots ∧ cells ≤ K ∧ slots ≤ S ∧ T.heap = h ∧ Fr Z.heap.size locs ∧
    x.s.Since vm0 k0 ∧ k0 ≤ h.size ∧ Z.Warmed39 vm0 ∧ vm0.findClass b.y.cls = some x.m.cls ∧
    CHr Z EL x.s.vm x.s.heap vm0 h ∧ Keep x.s.heap h x.sf0 ∧ Ext Z.heap h ∧ (∀ a ∈ sf, Mine x Z EL vm0 h a) ∧
    (x.nar = true → x.s.WarmedH vm0) ∧ (x.kn = true → vm0.MethodsKnown ∧ vm0.FramesKnown x.below)
/-- **WHERE THE RUN STANDS**: it has come to the frame (pc, Ls, st), the heap is h; at most K cells and S slots have been made; sf: cells that it may write -/
def Hr (x : Cx) (b : Bx) (Z : State) (EL : List (String × Nat)) (K S : Nat) (h : Heap) (sf : List Addr) (pc : Nat) (Ls : Array Slot) (st : List Value) : Prop :=
  Bs x b Z EL ∧ ∃ (T : State) (locs : List Loc) (cells slots : Nat) (vm0 : Vm) (k0 : Nat), Hx x b Z EL K S h sf T locs cells slots vm0 k0 ∧
    ∀ target, Steps x.p.tables x.e x.below (T.setTop (mkF x.m pc Ls st)) target → Steps x.p.tables x.e x.below x.B target
/-- what an end says: it returned v; Q of it, of the heap and of a list of cells that are the caller's to write; only the cells of sf, and new ones, have been written -/
def Pst (Z : State) (EL : List (String × Nat)) (sf : List Addr) (nar : Bool) (rm : Room) (Q : Option Value → Heap → List Addr → Prop) (U : State) (o : Outcome) (U' : State) : Prop :=
  ∃ (v : Option Value) (L : List Loc) (sn : List Addr), o = .returned v ∧ Q v U'.heap sn ∧ Keep U.heap U'.heap sf ∧ (∀ a ∈ sn, (a ∈ sf ∨ U.heap.size ≤ a) ∧ Z.heap.size ≤ a ∧ a < U'.heap.size ∧ Safe Z EL U'.vm U'.heap a) ∧ Fr Z.heap.size L ∧
    CHr Z EL U.vm U.heap U'.vm U'.heap ∧ (nar = true → U.WarmedH U'.vm) ∧ ReturnedEndW U o U' L rm.cells rm.slots
/-- **A METHOD's CONTRACT** at the arguments as', from the heap h, the cells of sf being its to write -/
def Ct (l : Launch) (Z : State) (EL : List (String × Nat)) (y : MethodName) (bytes : ByteArray) (maxL : Nat) (ret : Option FieldType) (rm : Room) (as' : Array Value) (h : Heap) (sf : List Addr) (nar kn : Bool) (Q : Option Value → Heap → List Addr → Prop) : Prop :=
  ∀ ws : List Jvm.Cond, MetFree l y (head1 (Jvm.Cond.code y bytes maxL ret :: ws) rm) (fun a U => a = as' ∧ Z.Warmed39 U.vm ∧ U.heap = h ∧ CHv Z EL U.vm h ∧ Ext Z.heap h ∧ ∀ a ∈ sf, Z.heap.size ≤ a ∧ a < h.size ∧ Safe Z EL U.vm h a)
    (fun _ _ bl s _ => kn = true → s.vm.MethodsKnown ∧ s.vm.FramesKnown bl) (fun _ U o U' => Pst Z EL sf nar rm Q U o U')
def Ends (x : Cx) (b : Bx) (Z : State) (EL : List (String × Nat)) (Q : Option Value → Heap → List Addr → Prop) : Prop :=
  ∃ (s₂ : State) (o : Outcome), Steps x.p.tables x.e x.below x.B s₂ ∧ s₂.status = .running ∧ Ended s₂ x.below o ∧ Pst Z EL x.sf0 x.nar b.R Q x.s o s₂
section Layer
variable {x : Cx} {b : Bx} {Z : State} {EL : List (String × Nat)} {K S : Nat} {h h' : Heap} {sf : List Addr} {pc pc' : Nat} {Ls Ls' : Array Slot} {st st' : List Value} {a0 : Array Value}
theorem Ext.rfl' (h : Heap) : Ext h h := ⟨Nat.le_refl _, fun _ _ q => q⟩
theorem Ext.tr {h1 h2 h3 : Heap} (A : Ext h1 h2) (B : Ext h2 h3) : Ext h1 h3 := ⟨Nat.le_trans A.1 B.1, fun a c q => B.2 a c (A.2 a c q)⟩
theorem Ext.keep {h1 h2 : Heap} (A : Ext h1 h2) (ws : List Addr) : Keep h1 h2 ws := (Keep.refl _ _).ext A
theorem Ext.ofKeep {h1 h2 h3 : Heap} {ws : List Addr} (A : Ext h1 h2) (B : Keep h2 h3 ws) (q : ∀ a ∈ ws, h1.size ≤ a) : Ext h1 h3 := ⟨Nat.le_trans A.1 B.1, fun a c r => B.2.1 a c (A.2 a c r) fun z => absurd (Array.getElem?_eq_some_iff.mp r).1 (Nat.not_lt.mpr (q a z))⟩
/-- the entry: a contract out of a walk -/
theorem Ct.intro {l : Launch} {y : MethodName} {bytes : ByteArray} {maxL : Nat} {ret : Option FieldType} {rm : Room} {as' : Array Value} {nar kn : Bool} {Q : Option Value → Heap → List Addr → Prop} (hpl : plainName y.cls = true) (hEL : EW Z a0 EL)
    (hef : ∀ m : MethodId, entryFrame m as' maxL = mkF m 0 Ls [])
    (body : ∀ x : Cx, x.l = l → x.nar = nar → x.kn = kn → x.sf0 = sf → x.s.heap = h → Hr x (rm, y, bytes, maxL, ret) Z EL 0 0 h sf 0 Ls [] → Ends x (rm, y, bytes, maxL, ret) Z EL Q) :
    Ct l Z EL y bytes maxL ret rm as' h sf nar kn Q := by
  intro ws
  refine MetFree.of_bodySF (plainFor_of_name hpl) hisR ?_
  intro p e s m args below meth c s₁ Bd hml0 hP hK
  obtain ⟨rfl, hZ, hh, hC, hE, hs⟩ := hP
  have hown : s.vm.findClass y.cls = some m.cls := findClass_of_methodNamed Bd.named
  have hnm := (name_of_methodNamed Bd.named Bd.method).1
  have X0 := Stand.of_body Bd
  have e0 : s₁.heap = h := by rw [← hh, Bd.state]; rfl
  subst hh
  have hF := body (p, l, e, s, m, args, below, meth, c, s₁.setTop (entryFrame m args maxL), sf, nar, kn) rfl rfl rfl rfl rfl
    ⟨⟨⟨_, hEL⟩, Bd.exec, Bd.bytes, hml0, Bd.returns, Bd.notSynchronized, hnm⟩, s₁, [], 0, 0, s.vm, s.heap.size,
      ⟨X0, Nat.le_refl _, Nat.le_refl _, e0, Fr.nil _, (State.WarmedH.refl s).since _, Nat.le_refl _, hZ, hown, CHr.refl hC, Keep.refl _ _, hE, fun a ha => ⟨Or.inl ha, hs a ha⟩, fun _ => State.WarmedH.refl s, hK⟩,
      fun t k => castTop (hef m) k⟩
  exact hF
theorem Hr.base (H : Hr x b Z EL K S h sf pc Ls st) : Bs x b Z EL := H.1
theorem Hr.old (H : Hr x b Z EL K S h sf pc Ls st) : Ext Z.heap h := by obtain ⟨-, T, locs, cells, slots, vm0, k0, X, -⟩ := H; exact X.2.2.2.2.2.2.2.2.2.2.2.1
theorem Hr.kept (H : Hr x b Z EL K S h sf pc Ls st) : Keep x.s.heap h x.sf0 := by obtain ⟨-, T, locs, cells, slots, vm0, k0, X, -⟩ := H; exact X.2.2.2.2.2.2.2.2.2.2.1
theorem Hr.lt {a : Addr} (H : Hr x b Z EL K S h sf pc Ls st) (ha : a ∈ sf) : a < h.size := by obtain ⟨-, T, locs, cells, slots, vm0, k0, X, -⟩ := H; exact (X.2.2.2.2.2.2.2.2.2.2.2.2.1 a ha).2.2.1
theorem Hr.ge {a : Addr} (H : Hr x b Z EL K S h sf pc Ls st) (ha : a ∈ sf) : Z.heap.size ≤ a := by obtain ⟨-, T, locs, cells, slots, vm0, k0, X, -⟩ := H; exact (X.2.2.2.2.2.2.2.2.2.2.2.2.1 a ha).2.1
theorem Hr.since (H : Hr x b Z EL K S h sf pc Ls st) {a : Addr} (ha : a ∈ sf) : a ∈ x.sf0 ∨ x.s.heap.size ≤ a := by obtain ⟨-, T, locs, cells, slots, vm0, k0, X, -⟩ := H; exact (X.2.2.2.2.2.2.2.2.2.2.2.2.1 a ha).1
/-- fewer cells to write, more room said to be used -/
theorem Hr.weaken {K' S' : Nat} {sf' : List Addr} (H : Hr x b Z EL K S h sf pc Ls st) (hK : K ≤ K') (hS : S ≤ S') (hsf : ∀ a ∈ sf', a ∈ sf) : Hr x b Z EL K' S' h sf' pc Ls st := by
  obtain ⟨B, T, locs, cells, slots, vm0, k0, ⟨X, h1, h2, h3, h4, h5, h6, h7, h8, h9, h10, h11, h12, h13, h14⟩, k⟩ := H
  exact ⟨B, T, locs, cells, slots, vm0, k0, ⟨X, Nat.le_trans h1 hK, Nat.le_trans h2 hS, h3, h4, h5, h6, h7, h8, h9, h10, h11, fun a ha => h12 a (hsf a ha), h13, h14⟩, k⟩
/-- a step that moves the frame alone -/
theorem Hr.step (H : Hr x b Z EL K S h sf pc Ls st)
    (f : ∀ T : State, At T x.m x.c x.below → x.p.tables.exec = Jvm.exec → x.c.code = b.bytes → ∀ target, Steps x.p.tables x.e x.below (T.setTop (mkF x.m pc' Ls' st')) target → Steps x.p.tables x.e x.below (T.setTop (mkF x.m pc Ls st)) target) : Hr x b Z EL K S h sf pc' Ls' st' := by
  obtain ⟨B, T, locs, cells, slots, vm0, k0, X, k⟩ := H
  exact ⟨B, T, locs, cells, slots, vm0, k0, X, fun t q => k t (f T X.1.here B.2.1 B.2.2.1 t q)⟩
/-- a step of the library that moves the tables at the most -/
theorem Hr.same (H : Hr x b Z EL K S h sf pc Ls st)
    (f : ∀ (T : State) (locs : List Loc) (cells slots : Nat) (vm0 : Vm), Stand x.p x.l x.e b.R (x.s.setVm vm0) x.m x.args x.below x.meth x.c T locs cells slots → T.heap = h → Z.Warmed39 (x.s.setVm vm0).vm → (x.s.setVm vm0).vm.findClass b.y.cls = some x.m.cls → Bs x b Z EL →
      ∃ T', Stand x.p x.l x.e b.R (x.s.setVm vm0) x.m x.args x.below x.meth x.c T' locs cells slots ∧ T'.heap = h ∧ ∀ target, Steps x.p.tables x.e x.below (T'.setTop (mkF x.m pc' Ls' st')) target → Steps x.p.tables x.e x.below (T.setTop (mkF x.m pc Ls st)) target) : Hr x b Z EL K S h sf pc' Ls' st' := by
  obtain ⟨B, T, locs, cells, slots, vm0, k0, ⟨X, h1, h2, h3, h4, h5, h6, h7, h8, hr⟩, k⟩ := H
  obtain ⟨T', X', e', st1⟩ := f T locs cells slots vm0 X h3 h7 h8 B
  exact ⟨B, T', locs, cells, slots, vm0, k0, ⟨X', h1, h2, e', h4, h5, h6, h7, h8, hr⟩, fun t q => k t (st1 t q)⟩
/-- a step of the library that writes one slot of a cell that is the walk's -/
theorem Hr.write {a : Addr} {sl : Nat} {v : Value} (H : Hr x b Z EL K S h sf pc Ls st) (ha : a ∈ sf)
    (f : ∀ (T : State) (locs : List Loc) (cells slots : Nat) (vm0 : Vm), Stand x.p x.l x.e b.R (x.s.setVm vm0) x.m x.args x.below x.meth x.c T locs cells slots → T.heap = h → Z.Warmed39 (x.s.setVm vm0).vm → (x.s.setVm vm0).vm.findClass b.y.cls = some x.m.cls → Bs x b Z EL →
      ∃ T' h', Stand x.p x.l x.e b.R (x.s.setVm vm0) x.m x.args x.below x.meth x.c T' (locs ++ [⟨a, sl⟩]) cells slots ∧ T'.heap = h' ∧ Wr h h' a sl v ∧ ∀ target, Steps x.p.tables x.e x.below (T'.setTop (mkF x.m pc' Ls' st')) target → Steps x.p.tables x.e x.below (T.setTop (mkF x.m pc Ls st)) target) :
    ∃ h', Wr h h' a sl v ∧ Hr x b Z EL K S h' sf pc' Ls' st' := by
  obtain ⟨B, T, locs, cells, slots, vm0, k0, ⟨X, h1, h2, h3, h4, h5, h6, h7, h8, h9, h10, h11, h12, h13, h14⟩, k⟩ := H
  obtain ⟨T', h', X', e', W, st1⟩ := f T locs cells slots vm0 X h3 h7 h8 B
  have hm := h12 a ha
  have q1 := CHv.wrStep W hm.2.2.2 h9.1
  refine ⟨h', W, B, T', _, cells, slots, vm0, k0, ⟨X', h1, h2, e', Fr.snoc X' h4 hm.2.1, h5, by rw [W.size]; exact h6, h7, h8, h9.trans (CHr.wr W hm.2.2.2 h9.1), h10.wr W hm.1, Ext.ofKeep h11 (Keep.of_wr W) (allS hm.2.1 all0), fun y hy => ?_, h13, h14⟩, fun t q => k t (st1 t q)⟩
  obtain ⟨y1, y2, y3, y4⟩ := h12 y hy
  exact ⟨y1, y2, by rw [W.size]; exact y3, Safe.wr W hm.2.2.2 h9.1 y4⟩
/-- a step of the library that makes one cell -/
theorem Hr.alloc {n : Nat} {P : Heap → Prop} (H : Hr x b Z EL K S h sf pc Ls st) (hc : K + 1 ≤ b.R.cells) (hl : S + n ≤ b.R.slots) (hlt : ∀ h', P h' → h.size < h'.size)
    (f : ∀ (T : State) (locs : List Loc) (cells slots : Nat) (vm0 : Vm), Stand x.p x.l x.e b.R (x.s.setVm vm0) x.m x.args x.below x.meth x.c T locs cells slots → T.heap = h → Z.Warmed39 (x.s.setVm vm0).vm → (x.s.setVm vm0).vm.findClass b.y.cls = some x.m.cls → Bs x b Z EL → cells + 1 ≤ b.R.cells → slots + n ≤ b.R.slots →
      ∃ T' h', Stand x.p x.l x.e b.R (x.s.setVm vm0) x.m x.args x.below x.meth x.c T' locs (cells + 1) (slots + n) ∧ T'.heap = h' ∧ Ext h h' ∧ P h' ∧ ∀ target, Steps x.p.tables x.e x.below (T'.setTop (mkF x.m pc' Ls' st')) target → Steps x.p.tables x.e x.below (T.setTop (mkF x.m pc Ls st)) target) :
    ∃ h', Ext h h' ∧ P h' ∧ Hr x b Z EL (K + 1) (S + n) h' (h.size :: sf) pc' Ls' st' := by
  obtain ⟨B, T, locs, cells, slots, vm0, k0, ⟨X, h1, h2, h3, h4, h5, h6, h7, h8, h9, h10, h11, h12, h13, h14⟩, k⟩ := H
  obtain ⟨T', h', X', e', E, hp, st1⟩ := f T locs cells slots vm0 X h3 h7 h8 B (by omega) (by omega)
  refine ⟨h', E, hp, B, T', _, _, _, vm0, k0, ⟨X', by omega, by omega, e', h4, h5, Nat.le_trans h6 E.1, h7, h8, h9.trans (CHr.ext E h9.1), h10.ext E, Ext.tr h11 E, fun y hy => ?_, h13, h14⟩, fun t q => k t (st1 t q)⟩
  rcases List.mem_cons.mp hy with rfl | hy
  · exact ⟨Or.inr h10.1, h11.1, hlt h' hp, Safe.ext E h9.1 (Safe.new (Nat.le_refl _))⟩
  · obtain ⟨y1, y2, y3, y4⟩ := h12 y hy
    exact ⟨y1, y2, Nat.lt_of_lt_of_le y3 E.1, Safe.ext E h9.1 y4⟩
/-- the payer: a contract as the library's calls take it -/
theorem Ct.backS {l : Launch} {y : MethodName} {bytes : ByteArray} {maxL : Nat} {ret : Option FieldType} {rm : Room} {as' : Array Value} {nar kn : Bool} {Q : Option Value → Heap → List Addr → Prop} (C : Ct l Z EL y bytes maxL ret rm as' h sf nar kn Q)
    {p : Program} {e : Env} {R : Room} {below : List Frame} {s : State} {vm0 : Vm} {args a1 : Array Value} {len W : Nat} (hZ : Z.Warmed39 vm0) (wc : (Jvm.Cond.code y bytes maxL ret).before a0 Z = true) (wz : (Jvm.Cond.initialized y.cls).before a0 Z = true) (hf : rm.frames + 1 ≤ R.frames) (hl : W + (maxL + 11) + rm.locals ≤ R.locals)
    (hEL : EW Z a1 EL) (H : CHv Z EL vm0 h) (hE : Ext Z.heap h) (hsf : ∀ a ∈ sf, Z.heap.size ≤ a ∧ a < h.size ∧ Safe Z EL vm0 h a) (hkn : kn = true → vm0.MethodsKnown ∧ vm0.FramesKnown below) :
    BackS l R p e below (s.setVm vm0) args y len W (fun A a => a = as' ∧ A.U.heap = h ∧ A.cells + rm.cells ≤ R.cells ∧ A.slots + rm.slots ≤ R.slots)
      (fun A _ v B => ∃ (L : List Loc) (sn : List Addr), Q v B.U.heap sn ∧ Keep h B.U.heap sf ∧ (∀ a ∈ sn, (a ∈ sf ∨ h.size ≤ a) ∧ Z.heap.size ≤ a ∧ a < B.U.heap.size ∧ Safe Z EL B.U.vm B.U.heap a) ∧ Fr Z.heap.size L ∧ B.locs = A.locs ++ L ∧ B.cells = A.cells + rm.cells ∧ B.slots = A.slots + rm.slots ∧
        CHr Z EL vm0 h B.U.vm B.U.heap ∧ (nar = true → (s.setVm vm0).WarmedH B.U.vm)) :=
  BackS.of_freeWG (bytes := bytes) (maxL := maxL) (ret := ret)
    (E := fun _ first o t L k n => k = rm.cells ∧ n = rm.slots ∧ ∃ (v : Option Value) (sn : List Addr), o = .returned v ∧ Q v t.heap sn ∧ Keep first.heap t.heap sf ∧ (∀ a ∈ sn, (a ∈ sf ∨ first.heap.size ≤ a) ∧ Z.heap.size ≤ a ∧ a < t.heap.size ∧ Safe Z EL t.vm t.heap a) ∧ Fr Z.heap.size L ∧ CHr Z EL first.vm first.heap t.vm t.heap ∧ (nar = true → first.WarmedH t.vm)) (C []) hf hl
    (fun m meth c A a Y hp => have hU : Z.Warmed39 A.U.vm := wtrans (s := s.setVm vm0) hZ Y.warmed
      ⟨by show (Jvm.Cond.and _ .tt).before a A.U = true; rw [Cond.before_and, mv hU wc]; rfl, mv hU wc, mv hU wz, hp.2.2.1, hp.2.2.2⟩)
    (fun m meth c A a g mk Y hp => ⟨hp.1, wtrans (s := s.setVm vm0) hZ Y.warmed, hp.2.1, (CHv.at Y hZ hEL H).1, hE, fun z hz => ⟨(hsf z hz).1, (hsf z hz).2.1, (CHv.at Y hZ hEL H).safe (hsf z hz).2.1 (hsf z hz).2.2⟩⟩)
    (fun m meth c A a g mk Y _ hg hk => known_frames Y hg (hkn hk).1 (hkn hk).2)
    (fun _ _ _ _ ⟨v, L, sn, q1, q2, q3, q4, q5, q6, q7, q8⟩ => ⟨L, _, _, q8, rfl, rfl, v, sn, q1, q2, q3, q4, q5, q6, q7⟩)
    (fun m meth c A a g mk v t L k n Y hp _ _ ⟨e1, e2, v', sn, q1, q2, q3, q4, q5, q6, q7⟩ => by
      cases q1; subst e1 e2
      obtain ⟨-, rfl, -⟩ := hp
      exact ⟨L, sn, q2, q3, q4, q5, rfl, rfl, rfl, (CHv.at Y hZ hEL H).trans q6, fun hn => State.WarmedH.trans (t := A.U) Y.warmed (q7 hn)⟩)
/-- behind a call: from what the library hands out to where the run stands -/
theorem Hr.after {rm : Room} {sf' : List Addr} {Q : Option Value → Heap → List Addr → Prop} (B : Bs x b Z EL) {T : State} {locs : List Loc} {cells slots : Nat} {vm0 : Vm} {k0 : Nat} (X : Hx x b Z EL K S h sf T locs cells slots vm0 k0)
    (k : ∀ target, Steps x.p.tables x.e x.below (T.setTop (mkF x.m pc Ls st)) target → Steps x.p.tables x.e x.below x.B target) (sub : ∀ a ∈ sf', a ∈ sf)
    {P : Pt} (X' : Stand x.p x.l x.e b.R ((x.s.setVm vm0).setVm P.U.vm) x.m x.args x.below x.meth x.c P.U P.locs P.cells P.slots) (hS : (x.s.setVm vm0).Since P.U.vm P.U.heap.size) (hgr : T.heap.size ≤ P.U.heap.size) {v : Option Value}
    (hp : ∃ (L : List Loc) (sn : List Addr), Q v P.U.heap sn ∧ Keep h P.U.heap sf' ∧ (∀ a ∈ sn, (a ∈ sf' ∨ h.size ≤ a) ∧ Z.heap.size ≤ a ∧ a < P.U.heap.size ∧ Safe Z EL P.U.vm P.U.heap a) ∧ Fr Z.heap.size L ∧ P.locs = locs ++ L ∧ P.cells = cells + rm.cells ∧ P.slots = slots + rm.slots ∧
        CHr Z EL vm0 h P.U.vm P.U.heap ∧ (x.nar = true → (x.s.setVm vm0).WarmedH P.U.vm))
    (hst : Steps x.p.tables x.e x.below (T.setTop (mkF x.m pc Ls st)) (P.U.setTop (mkF x.m pc' Ls st'))) :
    ∃ (h' : Heap) (sn : List Addr), Q v h' sn ∧ Keep h h' sf' ∧ Hr x b Z EL (K + rm.cells) (S + rm.slots) h' (sn ++ sf) pc' Ls st' := by
  obtain ⟨X, h1, h2, h3, h4, h5, h6, h7, h8, h9, h10, h11, h12, h13, h14⟩ := X
  obtain ⟨L, sn, q1, q2, q3, q4, q5, q6, q7, q8, q9⟩ := hp
  have hsf0 : ∀ z ∈ sf', z ∈ x.sf0 ∨ x.s.heap.size ≤ z := fun z hz => (h12 z (sub z hz)).1
  refine ⟨_, sn, q1, q2, B, P.U, P.locs, P.cells, P.slots, P.U.vm, P.U.heap.size, ⟨X', by omega, by omega, rfl, by rw [q5]; exact h4.app q4, h5.trans hS (by rw [h3] at hgr; exact Nat.le_trans h6 hgr), Nat.le_refl _, State.Warmed39.trans (t := x.s.setVm vm0) h7 hS.1, (hS.1.alike.findClass _ _).trans h8, h9.trans q8, h10.trans q2 hsf0,
    Ext.ofKeep h11 q2 (fun z hz => (h12 z (sub z hz)).2.1), fun z hz => ?_, fun hn => State.WarmedH.trans (t := x.s.setVm vm0) (h13 hn) (q9 hn), fun hk => ⟨Vm.MethodsKnown.alikeC hS.1.alike (h14 hk).1, Vm.FramesKnown.alikeC hS.1.alike (h14 hk).2⟩⟩, fun t q => k t (hst.trans q)⟩
  rcases List.mem_append.mp hz with hz | hz
  · obtain ⟨z1, z2, z3, z4⟩ := q3 z hz
    refine ⟨z1.elim (hsf0 z) (fun q => Or.inr (Nat.le_trans h10.1 q)), z2, z3, z4⟩
  · obtain ⟨z1, z2, z3, z4⟩ := h12 z hz
    exact ⟨z1, z2, Nat.lt_of_lt_of_le z3 q2.1, q8.safe z3 z4⟩
end Layer
end Jvm.Pilot.@@N@@
namespace Jvm.Pilot.@@N@@
open Jvm Jvm.ClassFile Sem Op Lib Bundle Jvm.Free Jvm.Stand Jvm.LawKit Jvm.RoadKit
section Layer2
variable {x : Cx} {b : Bx} {Z : State} {EL : List (String × Nat)} {K S : Nat} {h h' : Heap} {sf : List Addr} {pc pc' : Nat} {Ls Ls' : Array Slot} {st st' : List Value} {a0 : Array Value}
/-! ### plain steps -/
theorem Hr.iloadN {k : Fin 4} {v : Int32} (H : Hr x b Z EL K S h sf pc Ls st) (hd : decode b.bytes pc = .ok (.iload_n k, 1)) (hl : Ls[k.val]? = some (.val (.int v)) := by rfl) (hpc : pc + 1 = pc' := by rfl) : Hr x b Z EL K S h sf pc' Ls (.int v :: st) := by
  subst hpc; exact H.step fun T A hx hby t q => XS.iloadN A hx rfl (hb hby hd) hl q
theorem Hr.iload {k : Nat} {v : Int32} (H : Hr x b Z EL K S h sf pc Ls st) (hd : decode b.bytes pc = .ok (.iload k, 2)) (hl : Ls[k]? = some (.val (.int v)) := by rfl) (hpc : pc + 2 = pc' := by rfl) : Hr x b Z EL K S h sf pc' Ls (.int v :: st) := by
  subst hpc; exact H.step fun T A hx hby t q => XS.iload A hx rfl (hb hby hd) hl q
theorem Hr.aloadN {k : Fin 4} {v : Value} (H : Hr x b Z EL K S h sf pc Ls st) (hd : decode b.bytes pc = .ok (.aload_n k, 1)) (hl : Ls[k.val]? = some (.val v) := by rfl) (hv : v.isRef = true := by rfl) (hpc : pc + 1 = pc' := by rfl) : Hr x b Z EL K S h sf pc' Ls (v :: st) := by
  subst hpc; exact H.step fun T A hx hby t q => XS.aloadN A hx rfl (hb hby hd) hl hv q
theorem Hr.aload {k : Nat} {v : Value} (H : Hr x b Z EL K S h sf pc Ls st) (hd : decode b.bytes pc = .ok (.aload k, 2)) (hl : Ls[k]? = some (.val v) := by rfl) (hv : v.isRef = true := by rfl) (hpc : pc + 2 = pc' := by rfl) : Hr x b Z EL K S h sf pc' Ls (v :: st) := by
  subst hpc; exact H.step fun T A hx hby t q => XS.aload A hx rfl (hb hby hd) hl hv q
theorem Hr.iconst {i : Int} {v : Int32} (H : Hr x b Z EL K S h sf pc Ls st) (hd : decode b.bytes pc = .ok (.iconst i, 1)) (hv : Int32.ofInt i = v := by first | rfl | decide) (hpc : pc + 1 = pc' := by rfl) : Hr x b Z EL K S h sf pc' Ls (.int v :: st) := by
  subst hpc hv; exact H.step fun T A hx hby t q => XS.iconst A hx rfl (hb hby hd) q
theorem Hr.bipush {i : Int} {v : Int32} (H : Hr x b Z EL K S h sf pc Ls st) (hd : decode b.bytes pc = .ok (.bipush i, 2)) (hv : (Int8.ofInt i).toInt32 = v := by first | rfl | decide) (hpc : pc + 2 = pc' := by rfl) : Hr x b Z EL K S h sf pc' Ls (.int v :: st) := by
  subst hpc hv; exact H.step fun T A hx hby t q => XS.bipush A hx rfl (hb hby hd) q
theorem Hr.sipush {i : Int} {v : Int32} (H : Hr x b Z EL K S h sf pc Ls st) (hd : decode b.bytes pc = .ok (.sipush i, 3)) (hv : (Int16.ofInt i).toInt32 = v := by first | rfl | decide) (hpc : pc + 3 = pc' := by rfl) : Hr x b Z EL K S h sf pc' Ls (.int v :: st) := by
  subst hpc hv; exact H.step fun T A hx hby t q => XS.sipush A hx rfl (hb hby hd) q
theorem Hr.aconstNull (H : Hr x b Z EL K S h sf pc Ls st) (hd : decode b.bytes pc = .ok (.aconst_null, 1)) (hpc : pc + 1 = pc' := by rfl) : Hr x b Z EL K S h sf pc' Ls (.null :: st) := by
  subst hpc; exact H.step fun T A hx hby t q => XS.aconstNull A hx rfl (hb hby hd) q
theorem Hr.iadd {u w v : Int32} (H : Hr x b Z EL K S h sf pc Ls (.int w :: .int u :: st)) (hd : decode b.bytes pc = .ok (.iadd, 1)) (hv : u + w = v := by rfl) (hpc : pc + 1 = pc' := by rfl) : Hr x b Z EL K S h sf pc' Ls (.int v :: st) := by
  subst hpc hv; exact H.step fun T A hx hby t q => XS.iadd A hx rfl (hb hby hd) rfl q
theorem Hr.isub {u w v : Int32} (H : Hr x b Z EL K S h sf pc Ls (.int w :: .int u :: st)) (hd : decode b.bytes pc = .ok (.isub, 1)) (hv : u - w = v := by rfl) (hpc : pc + 1 = pc' := by rfl) : Hr x b Z EL K S h sf pc' Ls (.int v :: st) := by
  subst hpc hv; exact H.step fun T A hx hby t q => XS.isub A hx rfl (hb hby hd) rfl q
theorem Hr.imul {u w v : Int32} (H : Hr x b Z EL K S h sf pc Ls (.int w :: .int u :: st)) (hd : decode b.bytes pc = .ok (.imul, 1)) (hv : u * w = v := by rfl) (hpc : pc + 1 = pc' := by rfl) : Hr x b Z EL K S h sf pc' Ls (.int v :: st) := by
  subst hpc hv; exact H.step fun T A hx hby t q => XS.imul A hx rfl (hb hby hd) rfl q
theorem Hr.iand {u w v : Int32} (H : Hr x b Z EL K S h sf pc Ls (.int w :: .int u :: st)) (hd : decode b.bytes pc = .ok (.iand, 1)) (hv : u &&& w = v := by rfl) (hpc : pc + 1 = pc' := by rfl) : Hr x b Z EL K S h sf pc' Ls (.int v :: st) := by
  subst hpc hv; exact H.step fun T A hx hby t q => XS.iand A hx rfl (hb hby hd) rfl q
theorem Hr.ior {u w v : Int32} (H : Hr x b Z EL K S h sf pc Ls (.int w :: .int u :: st)) (hd : decode b.bytes pc = .ok (.ior, 1)) (hv : u ||| w = v := by rfl) (hpc : pc + 1 = pc' := by rfl) : Hr x b Z EL K S h sf pc' Ls (.int v :: st) := by
  subst hpc hv; exact H.step fun T A hx hby t q => XT.ior A hx rfl (hb hby hd) rfl q
theorem Hr.ixor {u w v : Int32} (H : Hr x b Z EL K S h sf pc Ls (.int w :: .int u :: st)) (hd : decode b.bytes pc = .ok (.ixor, 1)) (hv : u ^^^ w = v := by rfl) (hpc : pc + 1 = pc' := by rfl) : Hr x b Z EL K S h sf pc' Ls (.int v :: st) := by
  subst hpc hv; exact H.step fun T A hx hby t q => XT.ixor A hx rfl (hb hby hd) rfl q
theorem Hr.ishl {u w v : Int32} (H : Hr x b Z EL K S h sf pc Ls (.int w :: .int u :: st)) (hd : decode b.bytes pc = .ok (.ishl, 1)) (hv : u <<< (w &&& 31) = v := by rfl) (hpc : pc + 1 = pc' := by rfl) : Hr x b Z EL K S h sf pc' Ls (.int v :: st) := by
  subst hpc hv; exact H.step fun T A hx hby t q => XT.ishl A hx rfl (hb hby hd) rfl q
theorem Hr.ishr {u w v : Int32} (H : Hr x b Z EL K S h sf pc Ls (.int w :: .int u :: st)) (hd : decode b.bytes pc = .ok (.ishr, 1)) (hv : u >>> (w &&& 31) = v := by rfl) (hpc : pc + 1 = pc' := by rfl) : Hr x b Z EL K S h sf pc' Ls (.int v :: st) := by
  subst hpc hv; exact H.step fun T A hx hby t q => XT.ishr A hx rfl (hb hby hd) rfl q
theorem Hr.iushr {u w v : Int32} (H : Hr x b Z EL K S h sf pc Ls (.int w :: .int u :: st)) (hd : decode b.bytes pc = .ok (.iushr, 1)) (hv : (u.toUInt32 >>> (w &&& 31).toUInt32).toInt32 = v := by rfl) (hpc : pc + 1 = pc' := by rfl) : Hr x b Z EL K S h sf pc' Ls (.int v :: st) := by
  subst hpc hv; exact H.step fun T A hx hby t q => XT.iushr A hx rfl (hb hby hd) rfl q
theorem Hr.ineg {u v : Int32} (H : Hr x b Z EL K S h sf pc Ls (.int u :: st)) (hd : decode b.bytes pc = .ok (.ineg, 1)) (hv : -u = v := by rfl) (hpc : pc + 1 = pc' := by rfl) : Hr x b Z EL K S h sf pc' Ls (.int v :: st) := by
  subst hpc hv; exact H.step fun T A hx hby t q => XS.ineg A hx rfl (hb hby hd) rfl q
theorem Hr.irem {u w v : Int32} (H : Hr x b Z EL K S h sf pc Ls (.int w :: .int u :: st)) (hd : decode b.bytes pc = .ok (.irem, 1)) (hw : w ≠ 0) (hv : u % w = v := by rfl) (hpc : pc + 1 = pc' := by rfl) : Hr x b Z EL K S h sf pc' Ls (.int v :: st) := by
  subst hpc hv; exact H.step fun T A hx hby t q => XS.irem A hx rfl (hb hby hd) rfl hw (by rw [irem_eq_mod]; exact q)
theorem Hr.idiv {u w v : Int32} (H : Hr x b Z EL K S h sf pc Ls (.int w :: .int u :: st)) (hd : decode b.bytes pc = .ok (.idiv, 1)) (hw : w ≠ 0) (hv : u / w = v := by rfl) (hpc : pc + 1 = pc' := by rfl) : Hr x b Z EL K S h sf pc' Ls (.int v :: st) := by
  subst hpc hv; exact H.step fun T A hx hby t q => XS.idiv A hx rfl (hb hby hd) rfl hw q
theorem Hr.i2c {u v : Int32} (H : Hr x b Z EL K S h sf pc Ls (.int u :: st)) (hd : decode b.bytes pc = .ok (.i2c, 1)) (hv : u.toUInt32.toUInt16.toUInt32.toInt32 = v := by rfl) (hpc : pc + 1 = pc' := by rfl) : Hr x b Z EL K S h sf pc' Ls (.int v :: st) := by
  subst hpc hv; exact H.step fun T A hx hby t q => XT.i2c A hx rfl (hb hby hd) rfl q
theorem Hr.i2b {u v : Int32} (H : Hr x b Z EL K S h sf pc Ls (.int u :: st)) (hd : decode b.bytes pc = .ok (.i2b, 1)) (hv : u.toInt8.toInt32 = v := by rfl) (hpc : pc + 1 = pc' := by rfl) : Hr x b Z EL K S h sf pc' Ls (.int v :: st) := by
  subst hpc hv; exact H.step fun T A hx hby t q => XT.i2b A hx rfl (hb hby hd) rfl q
theorem Hr.dup {v : Value} (H : Hr x b Z EL K S h sf pc Ls (v :: st)) (hd : decode b.bytes pc = .ok (.dup, 1)) (hc : v.category = 1 := by rfl) (hpc : pc + 1 = pc' := by rfl) : Hr x b Z EL K S h sf pc' Ls (v :: v :: st) := by
  subst hpc; exact H.step fun T A hx hby t q => XS.dup A hx rfl (hb hby hd) rfl hc q
theorem Hr.dupX1 {v w : Value} (H : Hr x b Z EL K S h sf pc Ls (v :: w :: st)) (hd : decode b.bytes pc = .ok (.dup_x1, 1)) (hc : v.category = 1 := by rfl) (hc' : w.category = 1 := by rfl) (hpc : pc + 1 = pc' := by rfl) : Hr x b Z EL K S h sf pc' Ls (v :: w :: v :: st) := by
  subst hpc; exact H.step fun T A hx hby t q => XT.dupX1 A hx rfl (hb hby hd) rfl hc hc' q
theorem Hr.pop {v : Value} (H : Hr x b Z EL K S h sf pc Ls (v :: st)) (hd : decode b.bytes pc = .ok (.pop, 1)) (hc : v.category = 1 := by rfl) (hpc : pc + 1 = pc' := by rfl) : Hr x b Z EL K S h sf pc' Ls st := by
  subst hpc; exact H.step fun T A hx hby t q => XT.pop A hx rfl (hb hby hd) rfl hc q
theorem Hr.istoreN {k : Fin 4} {v : Int32} (H : Hr x b Z EL K S h sf pc Ls (.int v :: st)) (hd : decode b.bytes pc = .ok (.istore_n k, 1)) (hl : storeLocals Ls k.val (.int v) = some Ls' := by rfl) (hpc : pc + 1 = pc' := by rfl) : Hr x b Z EL K S h sf pc' Ls' st := by
  subst hpc; exact H.step fun T A hx hby t q => XS.istoreN A hx rfl (hb hby hd) rfl hl q
theorem Hr.istore {k : Nat} {v : Int32} (H : Hr x b Z EL K S h sf pc Ls (.int v :: st)) (hd : decode b.bytes pc = .ok (.istore k, 2)) (hl : storeLocals Ls k (.int v) = some Ls' := by rfl) (hpc : pc + 2 = pc' := by rfl) : Hr x b Z EL K S h sf pc' Ls' st := by
  subst hpc; exact H.step fun T A hx hby t q => XS.istore A hx rfl (hb hby hd) rfl hl q
theorem Hr.astoreN {k : Fin 4} {v : Value} (H : Hr x b Z EL K S h sf pc Ls (v :: st)) (hd : decode b.bytes pc = .ok (.astore_n k, 1)) (hl : storeLocals Ls k.val v = some Ls' := by rfl) (hv : v.isRef = true := by rfl) (hpc : pc + 1 = pc' := by rfl) : Hr x b Z EL K S h sf pc' Ls' st := by
  subst hpc; exact H.step fun T A hx hby t q => XS.astoreN A hx rfl (hb hby hd) rfl hv hl q
theorem Hr.astore {k : Nat} {v : Value} (H : Hr x b Z EL K S h sf pc Ls (v :: st)) (hd : decode b.bytes pc = .ok (.astore k, 2)) (hl : storeLocals Ls k v = some Ls' := by rfl) (hv : v.isRef = true := by rfl) (hpc : pc + 2 = pc' := by rfl) : Hr x b Z EL K S h sf pc' Ls' st := by
  subst hpc; exact H.step fun T A hx hby t q => XS.astore A hx rfl (hb hby hd) rfl hv hl q
theorem Hr.iinc {k : Nat} {cst : Int} {u v : Int32} (H : Hr x b Z EL K S h sf pc Ls st) (hd : decode b.bytes pc = .ok (.iinc k cst, 3)) (hl : Ls[k]? = some (.val (.int u)) := by rfl) (hv : u + Int32.ofInt cst = v := by rfl) (hl' : storeLocals Ls k (.int v) = some Ls' := by rfl) (hpc : pc + 3 = pc' := by rfl) : Hr x b Z EL K S h sf pc' Ls' st := by
  subst hpc hv; exact H.step fun T A hx hby t q => XS.iinc A hx rfl (hb hby hd) hl hl' q
theorem Hr.goto {o : Int} (H : Hr x b Z EL K S h sf pc Ls st) (hd : decode b.bytes pc = .ok (.goto o, 3)) (hp : ((pc : Int) + o).toNat = pc' := by decide) (ho : 0 ≤ (pc : Int) + o := by decide) : Hr x b Z EL K S h sf pc' Ls st := by
  exact H.step fun T A hx hby t q => XS.goto A hx rfl (pc0 := pc) rfl (hb hby hd) ho hp q
theorem Hr.ifT {cd : ClassFile.Cond} {o : Int} {u : Int32} (H : Hr x b Z EL K S h sf pc Ls (.int u :: st)) (hd : decode b.bytes pc = .ok (.ifCond cd o, 3)) (hc : ifCond.holds cd u = true) (hp : ((pc : Int) + o).toNat = pc' := by decide) (ho : 0 ≤ (pc : Int) + o := by decide) : Hr x b Z EL K S h sf pc' Ls st := by
  exact H.step fun T A hx hby t q => XS.ifYes A hx rfl (pc0 := pc) rfl (hb hby hd) rfl hc ho hp q
theorem Hr.ifF {cd : ClassFile.Cond} {o : Int} {u : Int32} (H : Hr x b Z EL K S h sf pc Ls (.int u :: st)) (hd : decode b.bytes pc = .ok (.ifCond cd o, 3)) (hc : ifCond.holds cd u = false) (hpc : pc + 3 = pc' := by rfl) : Hr x b Z EL K S h sf pc' Ls st := by
  subst hpc; exact H.step fun T A hx hby t q => XS.ifNo A hx rfl (hb hby hd) rfl hc q
theorem Hr.icmpT {cd : ClassFile.Cond} {o : Int} {u w : Int32} (H : Hr x b Z EL K S h sf pc Ls (.int w :: .int u :: st)) (hd : decode b.bytes pc = .ok (.if_icmp cd o, 3)) (hc : if_icmp.holds cd u w = true) (hp : ((pc : Int) + o).toNat = pc' := by decide) (ho : 0 ≤ (pc : Int) + o := by decide) : Hr x b Z EL K S h sf pc' Ls st := by
  exact H.step fun T A hx hby t q => XS.icmpYes A hx rfl (pc0 := pc) rfl (hb hby hd) rfl hc ho hp q
theorem Hr.icmpF {cd : ClassFile.Cond} {o : Int} {u w : Int32} (H : Hr x b Z EL K S h sf pc Ls (.int w :: .int u :: st)) (hd : decode b.bytes pc = .ok (.if_icmp cd o, 3)) (hc : if_icmp.holds cd u w = false) (hpc : pc + 3 = pc' := by rfl) : Hr x b Z EL K S h sf pc' Ls st := by
  subst hpc; exact H.step fun T A hx hby t q => XS.icmpNo A hx rfl (hb hby hd) rfl hc q
theorem Hr.acmpT {cd : ClassFile.ACond} {o : Int} {u w : Value} (H : Hr x b Z EL K S h sf pc Ls (w :: u :: st)) (hd : decode b.bytes pc = .ok (.if_acmp cd o, 3)) (hc : XT.acmp cd u w = true) (hu : u.isRef = true := by rfl) (hw : w.isRef = true := by rfl) (hp : ((pc : Int) + o).toNat = pc' := by decide) (ho : 0 ≤ (pc : Int) + o := by decide) : Hr x b Z EL K S h sf pc' Ls st := by
  exact H.step fun T A hx hby t q => XT.acmpYes A hx rfl (pc0 := pc) rfl (hb hby hd) rfl hu hw hc ho hp q
theorem Hr.acmpF {cd : ClassFile.ACond} {o : Int} {u w : Value} (H : Hr x b Z EL K S h sf pc Ls (w :: u :: st)) (hd : decode b.bytes pc = .ok (.if_acmp cd o, 3)) (hc : XT.acmp cd u w = false) (hu : u.isRef = true := by rfl) (hw : w.isRef = true := by rfl) (hpc : pc + 3 = pc' := by rfl) : Hr x b Z EL K S h sf pc' Ls st := by
  subst hpc; exact H.step fun T A hx hby t q => XT.acmpNo A hx rfl (hb hby hd) rfl hu hw hc q
theorem Hr.ifnullT {o : Int} (H : Hr x b Z EL K S h sf pc Ls (.null :: st)) (hd : decode b.bytes pc = .ok (.ifnull o, 3)) (hp : ((pc : Int) + o).toNat = pc' := by decide) (ho : 0 ≤ (pc : Int) + o := by decide) : Hr x b Z EL K S h sf pc' Ls st := by
  exact H.step fun T A hx hby t q => XS.ifnullYes A hx rfl (pc0 := pc) rfl (hb hby hd) rfl ho hp q
theorem Hr.ifnullF {o : Int} {a : Addr} (H : Hr x b Z EL K S h sf pc Ls (.ref a :: st)) (hd : decode b.bytes pc = .ok (.ifnull o, 3)) (hpc : pc + 3 = pc' := by rfl) : Hr x b Z EL K S h sf pc' Ls st := by
  subst hpc; exact H.step fun T A hx hby t q => XS.ifnullNo A hx rfl (hb hby hd) rfl q
theorem Hr.ifnonnullT {o : Int} {a : Addr} (H : Hr x b Z EL K S h sf pc Ls (.ref a :: st)) (hd : decode b.bytes pc = .ok (.ifnonnull o, 3)) (hp : ((pc : Int) + o).toNat = pc' := by decide) (ho : 0 ≤ (pc : Int) + o := by decide) : Hr x b Z EL K S h sf pc' Ls st := by
  exact H.step fun T A hx hby t q => XT.ifnonnullYes A hx rfl (pc0 := pc) rfl (hb hby hd) rfl ho hp q
theorem Hr.ifnonnullF {o : Int} (H : Hr x b Z EL K S h sf pc Ls (.null :: st)) (hd : decode b.bytes pc = .ok (.ifnonnull o, 3)) (hpc : pc + 3 = pc' := by rfl) : Hr x b Z EL K S h sf pc' Ls st := by
  subst hpc; exact H.step fun T A hx hby t q => XT.ifnonnullNo A hx rfl (hb hby hd) rfl q
/-! ### longs -/
theorem Hr.lloadN {k : Fin 4} {v : Int64} (H : Hr x b Z EL K S h sf pc Ls st) (hd : decode b.bytes pc = .ok (.lload_n k, 1)) (hl : Ls[k.val]? = some (.val (.long v)) := by rfl) (hpc : pc + 1 = pc' := by rfl) : Hr x b Z EL K S h sf pc' Ls (.long v :: st) := by
  subst hpc; exact H.step fun T A hx hby t q => XT.lloadN A hx rfl (hb hby hd) hl q
theorem Hr.lushr {u : Int64} {w : Int32} {v : Int64} (H : Hr x b Z EL K S h sf pc Ls (.int w :: .long u :: st)) (hd : decode b.bytes pc = .ok (.lushr, 1)) (hv : XT.ushrL u w = v := by rfl) (hpc : pc + 1 = pc' := by rfl) : Hr x b Z EL K S h sf pc' Ls (.long v :: st) := by
  subst hpc hv; exact H.step fun T A hx hby t q => XT.lushr A hx rfl (hb hby hd) rfl q
theorem Hr.land {u w v : Int64} (H : Hr x b Z EL K S h sf pc Ls (.long w :: .long u :: st)) (hd : decode b.bytes pc = .ok (.land, 1)) (hv : u &&& w = v := by rfl) (hpc : pc + 1 = pc' := by rfl) : Hr x b Z EL K S h sf pc' Ls (.long v :: st) := by
  subst hpc hv; exact H.step fun T A hx hby t q => XT.land A hx rfl (hb hby hd) rfl q
theorem Hr.l2i {u : Int64} {v : Int32} (H : Hr x b Z EL K S h sf pc Ls (.long u :: st)) (hd : decode b.bytes pc = .ok (.l2i, 1)) (hv : u.toInt32 = v := by rfl) (hpc : pc + 1 = pc' := by rfl) : Hr x b Z EL K S h sf pc' Ls (.int v :: st) := by
  subst hpc hv; exact H.step fun T A hx hby t q => XT.l2i A hx rfl (hb hby hd) rfl q
/-! ### constants, fields, statics, casts -/
theorem Hr.ldcI {index : Nat} {v : Int32} (H : Hr x b Z EL K S h sf pc Ls st) (w : (Jvm.Cond.constant b.y.cls index v).before a0 Z = true) (hd : decode b.bytes pc = .ok (.ldc index, 2)) (hpc : pc + 2 = pc' := by rfl) : Hr x b Z EL K S h sf pc' Ls (.int v :: st) := by
  subst hpc
  exact H.same fun T locs cells slots vm0 X eT hZ hown B => ⟨T, X, eT, X.ldcInt B.2.1 hown (mvT hZ w) (g := mkF x.m pc Ls st) rfl (hb B.2.2.1 hd)⟩
theorem Hr.ldcL {index : Nat} {v : Int64} (H : Hr x b Z EL K S h sf pc Ls st) (w : (Jvm.Cond.constantLong b.y.cls index v).before a0 Z = true) (hd : decode b.bytes pc = .ok (.ldc2_w index, 3)) (hpc : pc + 3 = pc' := by rfl) : Hr x b Z EL K S h sf pc' Ls (.long v :: st) := by
  subst hpc
  exact H.same fun T locs cells slots vm0 X eT hZ hown B => ⟨T, X, eT, X.ldc2Long B.2.1 hown (mvT hZ w) (g := mkF x.m pc Ls st) rfl (hb B.2.2.1 hd)⟩
theorem Hr.getF {index : Nat} {O n d : String} {a : Addr} {v : Value} (H : Hr x b Z EL K S h sf pc Ls (.ref a :: st)) (w : (Jvm.Cond.fieldLink b.y.cls index O n d).before a0 Z = true) (F : Fld Z h a O n d v) (hd : decode b.bytes pc = .ok (.getfield index, 3)) (hpc : pc + 3 = pc' := by rfl) : Hr x b Z EL K S h sf pc' Ls (v :: st) := by
  subst hpc
  exact H.same fun T locs cells slots vm0 X eT hZ hown B => Jvm.RoadKit.getF X B.2.1 hZ hown (host := "") (Or.inl w) Via.refl eT F (g := mkF x.m pc Ls (.ref a :: st)) rfl rfl (hb B.2.2.1 hd)
theorem Hr.getFvia {index : Nat} {R0 O n d : String} {a : Addr} {v : Value} (H : Hr x b Z EL K S h sf pc Ls (.ref a :: st)) (w : (Jvm.Cond.fieldLink b.y.cls index R0 n d).before a0 Z = true) (via : Via Z R0 O n d) (F : Fld Z h a O n d v) (hd : decode b.bytes pc = .ok (.getfield index, 3)) (hpc : pc + 3 = pc' := by rfl) : Hr x b Z EL K S h sf pc' Ls (v :: st) := by
  subst hpc
  exact H.same fun T locs cells slots vm0 X eT hZ hown B => Jvm.RoadKit.getF X B.2.1 hZ hown (host := "") (Or.inl w) via eT F (g := mkF x.m pc Ls (.ref a :: st)) rfl rfl (hb B.2.2.1 hd)
theorem Hr.getS {index : Nat} {O n d : String} {v : Value} (H : Hr x b Z EL K S h sf pc Ls st) (w : (Jvm.Cond.fieldLink b.y.cls index O n d).before a0 Z = true) (F : Sta Z h O n d v) (hd : decode b.bytes pc = .ok (.getstatic index, 3)) (hpc : pc + 3 = pc' := by rfl) : Hr x b Z EL K S h sf pc' Ls (v :: st) := by
  subst hpc
  exact H.same fun T locs cells slots vm0 X eT hZ hown B => Jvm.RoadKit.getS (host := "") X B.2.1 hZ hown w Via.refl eT F (g := mkF x.m pc Ls st) rfl (hb B.2.2.1 hd)
theorem Hr.cast {index : Nat} {C : String} {a : Addr} (H : Hr x b Z EL K S h sf pc Ls (.ref a :: st)) (w : (Jvm.Cond.classLink b.y.cls index C).before a0 Z = true) (F : Ins Z h a C true) (hd : decode b.bytes pc = .ok (.checkcast index, 3)) (hpc : pc + 3 = pc' := by rfl) : Hr x b Z EL K S h sf pc' Ls (.ref a :: st) := by
  subst hpc
  exact H.same fun T locs cells slots vm0 X eT hZ hown B => castY X B.2.1 hZ hown w eT F (g := mkF x.m pc Ls (.ref a :: st)) rfl rfl (hb B.2.2.1 hd)
theorem Hr.inst {index : Nat} {C : String} {a : Addr} (H : Hr x b Z EL K S h sf pc Ls (.ref a :: st)) (w : (Jvm.Cond.classLink b.y.cls index C).before a0 Z = true) (F : Ins Z h a C true) (hd : decode b.bytes pc = .ok (.instanceof index, 3)) (hpc : pc + 3 = pc' := by rfl) : Hr x b Z EL K S h sf pc' Ls (.int 1 :: st) := by
  subst hpc
  exact H.same fun T locs cells slots vm0 X eT hZ hown B => instY X B.2.1 hZ hown w eT F (g := mkF x.m pc Ls (.ref a :: st)) rfl rfl (hb B.2.2.1 hd)
theorem Hr.initO {index : Nat} {a : Addr} (H : Hr x b Z EL K S h sf pc Ls (.ref a :: st)) (w1 : (Jvm.Cond.methodLink b.y.cls index Lib.objectInit).before a0 Z = true) (w2 : (Jvm.Cond.instanceMethod Lib.objectInit).before a0 Z = true) (w3 : (Jvm.Cond.code Lib.objectInit ⟨#[0xb1]⟩ 1 none).before a0 Z = true)
    (hd : decode b.bytes pc = .ok (.invokespecial index, 3)) (hLs : Ls.size = b.maxL := by rfl) (hf : 1 ≤ b.R.frames := by decide) {Wr : Nat} (hW : (st.map fun v => v.category).sum = Wr := by rfl) (hl : Wr + 12 ≤ b.R.locals := by decide) (hpc : pc + 3 = pc' := by rfl) : Hr x b Z EL K S h sf pc' Ls st := by
  subst hpc hW
  exact H.same fun T locs cells slots vm0 X eT hZ hown B => Jvm.RoadKit.initO X B.2.1 hZ hown w1 w2 w3 eT (g := mkF x.m pc Ls (.ref a :: st)) rfl (hLs.trans B.2.2.2.1.symm) rfl (hb B.2.2.1 hd) hf (W := (st.map fun v => v.category).sum) (by show 2 * 0 + _ ≤ _; omega) hl
theorem Hr.putF {index kk : Nat} {O n d C : String} {ty : FieldType} {a : Addr} {v old : Value} (H : Hr x b Z EL K S h sf pc Ls (v :: .ref a :: st)) (ha : a ∈ sf) (w : (Jvm.Cond.fieldLink b.y.cls index O n d).before a0 Z = true) (F : Fld Z h a O n d old) (E : Exa Z h a C)
    (L : (Jvm.Cond.lays C O n d).before a0 Z = true ∨ ((Jvm.Cond.laysFinal C O n d).before a0 Z = true ∧ b.y.cls = O ∧ b.y.name = "<init>")) (wi : (Jvm.Cond.instantiable C kk).before a0 Z = true) (hd : decode b.bytes pc = .ok (.putfield index, 3))
    (hty : parseFieldDescriptor d = some ty := by decide) (hn : narrow ty v = v := by rfl) (hf : fits ty v = true := by rfl) (hpc : pc + 3 = pc' := by rfl) :
    ∃ h', Wr h h' a (Jvm.RoadKit.slotOf Z O n d) v ∧ Hr x b Z EL K S h' sf pc' Ls st := by
  subst hpc
  exact H.write ha fun T locs cells slots vm0 X eT hZ hown B => Jvm.RoadKit.putF X B.2.1 hZ hown (host := "") (Or.inl w) Via.refl eT F E (L.imp id fun q => ⟨q.1, q.2.1, B.2.2.2.2.2.2.trans q.2.2⟩) wi hty hn hf (g := mkF x.m pc Ls (v :: .ref a :: st)) rfl rfl (hb B.2.2.1 hd)
theorem Hr.new {index n : Nat} {C : String} (H : Hr x b Z EL K S h sf pc Ls st) (w : (Jvm.Cond.classLink b.y.cls index C).before a0 Z = true) (wi : (Jvm.Cond.instantiable C n).before a0 Z = true) (wz : (Jvm.Cond.initialized C).before a0 Z = true) (hd : decode b.bytes pc = .ok (.new index, 3))
    (hc : K + 1 ≤ b.R.cells := by decide) (hl : S + n ≤ b.R.slots := by decide) (hpc : pc + 3 = pc' := by rfl) :
    ∃ h', Ext h h' ∧ (Exa Z h' h.size C ∧ (∀ {O nm d : String} {ty : FieldType}, Laid Z a0 C O nm d → parseFieldDescriptor d = some ty → Fld Z h' h.size O nm d (defaultValue ty)) ∧ Unt h' h.size) ∧ Hr x b Z EL (K + 1) (S + n) h' (h.size :: sf) pc' Ls (.ref h.size :: st) := by
  subst hpc
  refine H.alloc hc hl (P := fun h' => Exa Z h' h.size C ∧ (∀ {O nm d : String} {ty : FieldType}, Laid Z a0 C O nm d → parseFieldDescriptor d = some ty → Fld Z h' h.size O nm d (defaultValue ty)) ∧ Unt h' h.size) (fun h' q => q.1.lt) fun T locs cells slots vm0 X eT hZ hown B hc' hl' => ?_
  obtain ⟨T', h', X', e', E, A, D, U, st1⟩ := newO X B.2.1 hZ hown w wi wz eT (g := mkF x.m pc Ls st) rfl (hb B.2.2.1 hd) hc' hl'
  exact ⟨T', h', X', e', E, ⟨A, D, U⟩, st1⟩
/-! ### ends -/
theorem Hr.fin {Q : Option Value → Heap → List Addr → Prop} {v : Value} {t : FieldType} {i : Instr} {sn : List Addr} (H : Hr x b Z EL K S h sf pc Ls (v :: st)) (hd : decode b.bytes pc = .ok (i, 1)) (hret : b.ret = some t) (hn : narrow t v = v)
    (hi : (i = .ireturn ∧ (t = .int ∨ t = .boolean ∨ t = .byte ∨ t = .char ∨ t = .short) ∧ ∃ z, v = .int z) ∨ (i = .lreturn ∧ t = .long ∧ ∃ z, v = .long z) ∨ (i = .dreturn ∧ t = .double ∧ ∃ z, v = .double z) ∨ (i = .freturn ∧ t = .float ∧ ∃ z, v = .float z) ∨ (i = .areturn ∧ t.isReference = true ∧ v.isRef = true))
    (hK : K ≤ b.R.cells) (hS : S ≤ b.R.slots) (hsn : ∀ a ∈ sn, a ∈ sf) (q : Q (some v) h sn) : Ends x b Z EL Q := by
  obtain ⟨B, T, locs, cells, slots, vm0, k0, ⟨X, h1, h2, h3, h4, h5, h6, h7, h8, h9, h10, h11, h12, h13, h14⟩, k⟩ := H
  have A := CHv.at X h7 B.1.choose_spec h9.1
  obtain ⟨fs, hr, hrun, hended, hW⟩ := (X.mono (Nat.le_trans h1 hK) (Nat.le_trans h2 hS)).leaveW h5 (by rw [h3]; exact h6) (v := some v) (fun z => by rw [B.2.2.2.2.1, hret] at z; cases z) B.2.2.2.2.2.1
  refine ⟨_, _, k _ (retOut X B.2.1 (t := t) (by rw [B.2.2.2.2.1]; exact hret) hn hi (hb B.2.2.1 hd) hr), hrun, hended, some v, locs, sn, rfl, ?_, ?_, fun z hz => ?_, h4, ?_, fun hn => State.WarmedH.trans (t := x.s.setVm vm0) (h13 hn) X.warmed, hW⟩
  · show Q (some v) T.heap sn; rw [h3]; exact q
  · show Keep x.s.heap T.heap x.sf0; rw [h3]; exact h10
  · obtain ⟨z1, z2, z3, z4⟩ := h12 z (hsn z hz)
    refine ⟨z1, z2, ?_, ?_⟩
    · show z < T.heap.size; rw [h3]; exact z3
    · show Safe Z EL T.vm T.heap z; rw [h3]; exact A.safe z3 z4
  · show CHr Z EL x.s.vm x.s.heap T.vm T.heap; rw [h3]; exact h9.trans A
theorem Hr.finN {Q : Option Value → Heap → List Addr → Prop} {sn : List Addr} (H : Hr x b Z EL K S h sf pc Ls []) (hd : decode b.bytes pc = .ok (.return_, 1)) (hret : b.ret = none)
    (hK : K ≤ b.R.cells) (hS : S ≤ b.R.slots) (hsn : ∀ a ∈ sn, a ∈ sf) (q : Q none h sn) : Ends x b Z EL Q := by
  obtain ⟨B, T, locs, cells, slots, vm0, k0, ⟨X, h1, h2, h3, h4, h5, h6, h7, h8, h9, h10, h11, h12, h13, h14⟩, k⟩ := H
  have A := CHv.at X h7 B.1.choose_spec h9.1
  obtain ⟨fs, hr, hrun, hended, hW⟩ := (X.mono (Nat.le_trans h1 hK) (Nat.le_trans h2 hS)).leaveW h5 (by rw [h3]; exact h6) (v := none) (fun _ => rfl) B.2.2.2.2.2.1
  refine ⟨_, _, k _ (X.returnOut B.2.1 (by rw [B.2.2.2.2.1]; exact hret) (hb B.2.2.1 hd) hr), hrun, hended, none, locs, sn, rfl, ?_, ?_, fun z hz => ?_, h4, ?_, fun hn => State.WarmedH.trans (t := x.s.setVm vm0) (h13 hn) X.warmed, hW⟩
  · show Q none T.heap sn; rw [h3]; exact q
  · show Keep x.s.heap T.heap x.sf0; rw [h3]; exact h10
  · obtain ⟨z1, z2, z3, z4⟩ := h12 z (hsn z hz)
    refine ⟨z1, z2, ?_, ?_⟩
    · show z < T.heap.size; rw [h3]; exact z3
    · show Safe Z EL T.vm T.heap z; rw [h3]; exact A.safe z3 z4
  · show CHr Z EL x.s.vm x.s.heap T.vm T.heap; rw [h3]; exact h9.trans A
theorem Hr.finI {Q : Option Value → Heap → List Addr → Prop} {v : Int32} {sn : List Addr} (H : Hr x b Z EL K S h sf pc Ls (.int v :: st)) (hd : decode b.bytes pc = .ok (.ireturn, 1)) (q : Q (some (.int v)) h sn) (hsn : ∀ a ∈ sn, a ∈ sf) (hret : b.ret = some .int := by rfl) (hK : K ≤ b.R.cells := by decide) (hS : S ≤ b.R.slots := by decide) : Ends x b Z EL Q :=
  H.fin hd hret rfl (Or.inl ⟨rfl, Or.inl rfl, _, rfl⟩) hK hS hsn q
theorem Hr.finZ {Q : Option Value → Heap → List Addr → Prop} {v : Int32} {t : FieldType} {sn : List Addr} (H : Hr x b Z EL K S h sf pc Ls (.int v :: st)) (hd : decode b.bytes pc = .ok (.ireturn, 1)) (hn : narrow t (.int v) = .int v) (q : Q (some (.int v)) h sn) (hsn : ∀ a ∈ sn, a ∈ sf) (hret : b.ret = some t := by rfl) (ht : t = .int ∨ t = .boolean ∨ t = .byte ∨ t = .char ∨ t = .short := by simp) (hK : K ≤ b.R.cells := by decide) (hS : S ≤ b.R.slots := by decide) : Ends x b Z EL Q :=
  H.fin hd hret hn (Or.inl ⟨rfl, ht, _, rfl⟩) hK hS hsn q
theorem Hr.finA {Q : Option Value → Heap → List Addr → Prop} {v : Value} {t : FieldType} {sn : List Addr} (H : Hr x b Z EL K S h sf pc Ls (v :: st)) (hd : decode b.bytes pc = .ok (.areturn, 1)) (q : Q (some v) h sn) (hsn : ∀ a ∈ sn, a ∈ sf) (hv : v.isRef = true := by rfl) (hret : b.ret = some t := by rfl) (ht : t.isReference = true := by rfl) (hK : K ≤ b.R.cells := by decide) (hS : S ≤ b.R.slots := by decide) : Ends x b Z EL Q :=
  H.fin hd hret (by rcases ref_cases hv with rfl | ⟨a, rfl⟩ <;> cases t <;> first | rfl | cases ht) (Or.inr (Or.inr (Or.inr (Or.inr ⟨rfl, ht, hv⟩)))) hK hS hsn q
/-! ### calls -/
theorem Hr.callS {y : MethodName} {bytes : ByteArray} {maxL : Nat} {ret : Option FieldType} {rm : Room} {as' : Array Value} {sf' : List Addr} {Q : Option Value → Heap → List Addr → Prop} {index : Nat} {argsL rest : List Value} {ps : List FieldType} {rt : Option FieldType}
    (H : Hr x b Z EL K S h sf pc Ls st) (C : Ct x.l Z EL y bytes maxL ret rm as' h sf' x.nar x.kn Q) (sub : ∀ a ∈ sf', a ∈ sf)
    (w1 : (Jvm.Cond.methodLink b.y.cls index y).before a0 Z = true) (w2 : (Jvm.Cond.static y).before a0 Z = true) (w3 : (Jvm.Cond.initialized y.cls).before a0 Z = true) (w4 : (Jvm.Cond.code y bytes maxL ret).before a0 Z = true)
    (hd : decode b.bytes pc = .ok (.invokestatic index, 3)) (hp : parseMethodDescriptor y.desc = some ⟨ps, rt⟩) (hst : st = argsL.reverse ++ rest) (has : argsL.toArray = as' := by rfl) (hl2 : argsL.length = ps.length := by rfl) (hy : y.cls ≠ "java/lang/invoke/MethodHandle" ∧ y.cls ≠ "java/lang/invoke/VarHandle" := by decide)
    (hf : rm.frames + 1 ≤ b.R.frames := by decide) {Wr : Nat} (hW : (rest.map fun v => v.category).sum = Wr := by rfl) (hl : Wr + (maxL + 11) + rm.locals ≤ b.R.locals := by decide) (hc : K + rm.cells ≤ b.R.cells := by decide) (hs : S + rm.slots ≤ b.R.slots := by decide) (hLs : Ls.size = b.maxL := by rfl) (hpc : pc + 3 = pc' := by rfl) :
    ∃ (v : Option Value) (h' : Heap) (sn : List Addr), Q v h' sn ∧ Keep h h' sf' ∧ Hr x b Z EL (K + rm.cells) (S + rm.slots) h' (sn ++ sf) pc' Ls (v.toList ++ rest) := by
  subst has hpc hW
  obtain ⟨B, T, locs, cells, slots, vm0, k0, X, k⟩ := H
  have X2 := X
  obtain ⟨X1, h1, h2, h3, h4, h5, h6, h7, h8, h9, h10, h11, h12, h13, h14⟩ := X2
  obtain ⟨v, vm₁, P, -, X', hS, hgr, hp', hsteps⟩ := callSS X1 B.2.1 (own := b.y.cls) h8 (mvT h7 w1) (mvT h7 w2) (mvT h7 w3) (mvT h7 w4) hy
    (C.backS (W := (rest.map fun v => v.category).sum) h7 w4 w3 hf hl B.1.choose_spec h9.1 h11 (fun z hz => (h12 z (sub z hz)).2) h14)
    (g := mkF x.m pc Ls st) rfl (hLs.trans B.2.2.2.1.symm) (argsL := argsL) (rest := rest) (lenOf hp hl2) hst (by show 2 * 0 + _ ≤ _; omega) (hb B.2.2.1 hd) (fun vm₁ _ => ⟨rfl, h3, by show cells + _ ≤ _; omega, by show slots + _ ≤ _; omega⟩)
  obtain ⟨h', sn, r1, r2, r3⟩ := Hr.after (rm := rm) (sf' := sf') (Q := Q) B X k sub X' hS hgr hp' hsteps
  exact ⟨v, h', sn, r1, r2, r3⟩
theorem Hr.callI {y : MethodName} {bytes : ByteArray} {maxL : Nat} {rm : Room} {as' : Array Value} {sf' : List Addr} {Q : Option Value → Heap → List Addr → Prop} {index : Nat} {a : Addr} {argsL rest : List Value} {ps : List FieldType} {rt : Option FieldType}
    (H : Hr x b Z EL K S h sf pc Ls st) (C : Ct x.l Z EL y bytes maxL none rm as' h sf' x.nar x.kn Q) (sub : ∀ a ∈ sf', a ∈ sf)
    (w1 : (Jvm.Cond.methodLink b.y.cls index y).before a0 Z = true) (w2 : (Jvm.Cond.instanceMethod y).before a0 Z = true) (w3 : (Jvm.Cond.initialized y.cls).before a0 Z = true) (w4 : (Jvm.Cond.code y bytes maxL none).before a0 Z = true)
    (hd : decode b.bytes pc = .ok (.invokespecial index, 3)) (hp : parseMethodDescriptor y.desc = some ⟨ps, rt⟩) (hst : st = argsL.reverse ++ .ref a :: rest) (has : (Value.ref a :: argsL).toArray = as' := by rfl) (hl2 : argsL.length = ps.length := by rfl) (hy1 : y.name = "<init>" := by rfl) (hy : y.cls ≠ "java/lang/invoke/MethodHandle" ∧ y.cls ≠ "java/lang/invoke/VarHandle" := by decide)
    (hf : rm.frames + 1 ≤ b.R.frames := by decide) {Wr : Nat} (hW : (rest.map fun v => v.category).sum = Wr := by rfl) (hl : Wr + (maxL + 11) + rm.locals ≤ b.R.locals := by decide) (hc : K + rm.cells ≤ b.R.cells := by decide) (hs : S + rm.slots ≤ b.R.slots := by decide) (hLs : Ls.size = b.maxL := by rfl) (hpc : pc + 3 = pc' := by rfl) :
    ∃ (v : Option Value) (h' : Heap) (sn : List Addr), Q v h' sn ∧ Keep h h' sf' ∧ Hr x b Z EL (K + rm.cells) (S + rm.slots) h' (sn ++ sf) pc' Ls (v.toList ++ rest) := by
  subst has hpc hW
  obtain ⟨B, T, locs, cells, slots, vm0, k0, X, k⟩ := H
  have X2 := X
  obtain ⟨X1, h1, h2, h3, h4, h5, h6, h7, h8, h9, h10, h11, h12, h13, h14⟩ := X2
  obtain ⟨v, vm₁, P, -, X', hS, hgr, hp', hsteps⟩ := X1.specialBackS B.2.1 hy1 h8 (mvT h7 w1) (mvT h7 w2) (mvT h7 w4) hy
    (C.backS (W := (rest.map fun v => v.category).sum) h7 w4 w3 hf hl B.1.choose_spec h9.1 h11 (fun z hz => (h12 z (sub z hz)).2) h14)
    (g := mkF x.m pc Ls st) rfl (hLs.trans B.2.2.2.1.symm) (Steps.refl _) (a := a) (argsL := argsL) (rest := rest) (lenOf hp hl2) hst (by show 2 * 0 + _ ≤ _; omega) (hb B.2.2.1 hd) (fun vm₁ _ => ⟨rfl, h3, by show cells + _ ≤ _; omega, by show slots + _ ≤ _; omega⟩)
  obtain ⟨h', sn, r1, r2, r3⟩ := Hr.after (rm := rm) (sf' := sf') (Q := Q) B X k sub X' hS hgr hp' hsteps
  exact ⟨v, h', sn, r1, r2, r3⟩
theorem notFace_by {s : State} {args : Array Value} {C : String} {y y' : MethodName} (ws : (Jvm.Cond.selects C y' y').before args s = true) (hc : y'.cls = y.cls) : NotFace s y := fun r0 h0 => by
  obtain ⟨c2, r2, m2, -, -, q3, -, kP, hkP, hkPi⟩ := Cond.selects_spec ws
  have h1 := findClass_of_methodNamed h0
  have h2 := findClass_of_methodNamed q3
  rw [hc, h1] at h2
  have e : r0.cls = m2.cls := Option.some.inj h2
  rw [← e] at hkP
  exact ⟨kP, hkP, hkPi⟩
theorem Hr.callV {y y' z : MethodName} {bytes : ByteArray} {maxL : Nat} {ret : Option FieldType} {rm : Room} {as' : Array Value} {sf' : List Addr} {Q : Option Value → Heap → List Addr → Prop} {index : Nat} {a : Addr} {cls cls' : String} {argsL rest : List Value} {ps : List FieldType} {rt : Option FieldType}
    (H : Hr x b Z EL K S h sf pc Ls st) (C : Ct x.l Z EL z bytes maxL ret rm as' h sf' x.nar x.kn Q) (sub : ∀ a ∈ sf', a ∈ sf) (E : Exa Z h a cls)
    (w1 : (Jvm.Cond.methodLink b.y.cls index y).before a0 Z = true) (w2 : (Jvm.Cond.declares y).before a0 Z = true) (wn : (Jvm.Cond.selects cls' y' y').before a0 Z = true) (ws : (Jvm.Cond.selects cls y z).before a0 Z = true) (wi : (Jvm.Cond.instanceMethod z).before a0 Z = true) (w3 : (Jvm.Cond.initialized z.cls).before a0 Z = true) (w4 : (Jvm.Cond.code z bytes maxL ret).before a0 Z = true)
    (hd : decode b.bytes pc = .ok (.invokevirtual index, 3)) (hp : parseMethodDescriptor y.desc = some ⟨ps, rt⟩) (hst : st = argsL.reverse ++ .ref a :: rest) (hyc : y'.cls = y.cls := by rfl) (has : (Value.ref a :: argsL).toArray = as' := by rfl) (hl2 : argsL.length = ps.length := by rfl) (hy : y.cls ≠ "java/lang/invoke/MethodHandle" ∧ y.cls ≠ "java/lang/invoke/VarHandle" := by decide)
    (hf : rm.frames + 1 ≤ b.R.frames := by decide) {Wr : Nat} (hW : (rest.map fun v => v.category).sum = Wr := by rfl) (hl : Wr + (maxL + 11) + rm.locals ≤ b.R.locals := by decide) (hc : K + rm.cells ≤ b.R.cells := by decide) (hs : S + rm.slots ≤ b.R.slots := by decide) (hLs : Ls.size = b.maxL := by rfl) (hpc : pc + 3 = pc' := by rfl) :
    ∃ (v : Option Value) (h' : Heap) (sn : List Addr), Q v h' sn ∧ Keep h h' sf' ∧ Hr x b Z EL (K + rm.cells) (S + rm.slots) h' (sn ++ sf) pc' Ls (v.toList ++ rest) := by
  subst has hpc hW
  obtain ⟨B, T, locs, cells, slots, vm0, k0, X, k⟩ := H
  have X2 := X
  obtain ⟨X1, h1, h2, h3, h4, h5, h6, h7, h8, h9, h10, h11, h12, h13, h14⟩ := X2
  obtain ⟨cB, kB, i1, i2, i3⟩ := isOf (s := x.s.setVm vm0) (T := T) h7 h3 E
  obtain ⟨v, vm₁, P, -, X', hS, hgr, hp', hsteps⟩ := X1.virtualBackS B.2.1 (y := y) (z := z) h8 (mvT h7 w1) (mvT h7 w2) (notFace_by (args := #[]) (mvT h7 wn) hyc) (mvT h7 ws) (mvT h7 wi) hy
    (C.backS (W := (rest.map fun v => v.category).sum) h7 w4 w3 hf hl B.1.choose_spec h9.1 h11 (fun z hz => (h12 z (sub z hz)).2) h14) i1 i3
    (g := mkF x.m pc Ls st) rfl (hLs.trans B.2.2.2.1.symm) (Steps.refl _) (argsL := argsL) (rest := rest) (lenOf hp hl2) hst (by show 2 * 0 + _ ≤ _; omega) (hb B.2.2.1 hd) (fun vm₁ _ => ⟨rfl, h3, by show cells + _ ≤ _; omega, by show slots + _ ≤ _; omega⟩)
  obtain ⟨h', sn, r1, r2, r3⟩ := Hr.after (rm := rm) (sf' := sf') (Q := Q) B X k sub X' hS hgr hp' hsteps
  exact ⟨v, h', sn, r1, r2, r3⟩
end Layer2
end Jvm.Pilot.@@N@@
namespace Jvm.Pilot.@@N@@
open Jvm Jvm.ClassFile Sem Op Lib Bundle Jvm.Free Jvm.Stand Jvm.LawKit Jvm.RoadKit
section Layer8
variable {x : Cx} {b : Bx} {Z : State} {EL : List (String × Nat)} {K S : Nat} {h h' : Heap} {sf : List Addr} {pc pc' : Nat} {Ls Ls' : Array Slot} {st st' : List Value} {a0 : Array Value}
/-! ### longs and doubles -/
theorem Hr.lload {k : Nat} {v : Int64} (H : Hr x b Z EL K S h sf pc Ls st) (hd : decode b.bytes pc = .ok (.lload k, 2)) (hl : Ls[k]? = some (.val (.long v)) := by rfl) (hpc : pc + 2 = pc' := by rfl) : Hr x b Z EL K S h sf pc' Ls (.long v :: st) := by
  subst hpc; exact H.step fun T A hx hby t q => XT.lload A hx rfl (hb hby hd) hl q
theorem Hr.lstoreN {k : Fin 4} {v : Int64} (H : Hr x b Z EL K S h sf pc Ls (.long v :: st)) (hd : decode b.bytes pc = .ok (.lstore_n k, 1)) (hl : storeLocals Ls k.val (.long v) = some Ls' := by rfl) (hpc : pc + 1 = pc' := by rfl) : Hr x b Z EL K S h sf pc' Ls' st := by
  subst hpc; exact H.step fun T A hx hby t q => XT.lstoreN A hx rfl (hb hby hd) rfl hl q
theorem Hr.lstore {k : Nat} {v : Int64} (H : Hr x b Z EL K S h sf pc Ls (.long v :: st)) (hd : decode b.bytes pc = .ok (.lstore k, 2)) (hl : storeLocals Ls k (.long v) = some Ls' := by rfl) (hpc : pc + 2 = pc' := by rfl) : Hr x b Z EL K S h sf pc' Ls' st := by
  subst hpc; exact H.step fun T A hx hby t q => XT.lstore A hx rfl (hb hby hd) rfl hl q
theorem Hr.lconst {k : Fin 2} {v : Int64} (H : Hr x b Z EL K S h sf pc Ls st) (hd : decode b.bytes pc = .ok (.lconst k, 1)) (hv : Int64.ofNat k = v := by first | rfl | decide) (hpc : pc + 1 = pc' := by rfl) : Hr x b Z EL K S h sf pc' Ls (.long v :: st) := by
  subst hpc hv; exact H.step fun T A hx hby t q => XT.lconst A hx rfl (hb hby hd) q
theorem Hr.ladd {u w v : Int64} (H : Hr x b Z EL K S h sf pc Ls (.long w :: .long u :: st)) (hd : decode b.bytes pc = .ok (.ladd, 1)) (hv : u + w = v := by rfl) (hpc : pc + 1 = pc' := by rfl) : Hr x b Z EL K S h sf pc' Ls (.long v :: st) := by
  subst hpc hv; exact H.step fun T A hx hby t q => XT.ladd A hx rfl (hb hby hd) rfl q
theorem Hr.lmul {u w v : Int64} (H : Hr x b Z EL K S h sf pc Ls (.long w :: .long u :: st)) (hd : decode b.bytes pc = .ok (.lmul, 1)) (hv : u * w = v := by rfl) (hpc : pc + 1 = pc' := by rfl) : Hr x b Z EL K S h sf pc' Ls (.long v :: st) := by
  subst hpc hv; exact H.step fun T A hx hby t q => XT.lmul A hx rfl (hb hby hd) rfl q
theorem Hr.i2l {u : Int32} {v : Int64} (H : Hr x b Z EL K S h sf pc Ls (.int u :: st)) (hd : decode b.bytes pc = .ok (.i2l, 1)) (hv : u.toInt64 = v := by rfl) (hpc : pc + 1 = pc' := by rfl) : Hr x b Z EL K S h sf pc' Ls (.long v :: st) := by
  subst hpc hv; exact H.step fun T A hx hby t q => XT.i2l A hx rfl (hb hby hd) rfl q
theorem Hr.l2d {u : Int64} {v : UInt64} (H : Hr x b Z EL K S h sf pc Ls (.long u :: st)) (hd : decode b.bytes pc = .ok (.l2d, 1)) (hv : FP.l2d u = v := by rfl) (hpc : pc + 1 = pc' := by rfl) : Hr x b Z EL K S h sf pc' Ls (.double v :: st) := by
  subst hpc; exact H.step fun T A hx hby t q => XS.l2dS A hx rfl (hb hby hd) rfl hv q
theorem Hr.i2d {u : Int32} {v : UInt64} (H : Hr x b Z EL K S h sf pc Ls (.int u :: st)) (hd : decode b.bytes pc = .ok (.i2d, 1)) (hv : FP.i2d u = v := by rfl) (hpc : pc + 1 = pc' := by rfl) : Hr x b Z EL K S h sf pc' Ls (.double v :: st) := by
  subst hpc; exact H.step fun T A hx hby t q => XS.i2dS A hx rfl (hb hby hd) rfl hv q
theorem Hr.dload {k : Nat} {v : UInt64} (H : Hr x b Z EL K S h sf pc Ls st) (hd : decode b.bytes pc = .ok (.dload k, 2)) (hl : Ls[k]? = some (.val (.double v)) := by rfl) (hpc : pc + 2 = pc' := by rfl) : Hr x b Z EL K S h sf pc' Ls (.double v :: st) := by
  subst hpc; exact H.step fun T A hx hby t q => XS.dload A hx rfl (hb hby hd) hl q
theorem Hr.dloadN {k : Fin 4} {v : UInt64} (H : Hr x b Z EL K S h sf pc Ls st) (hd : decode b.bytes pc = .ok (.dload_n k, 1)) (hl : Ls[k.val]? = some (.val (.double v)) := by rfl) (hpc : pc + 1 = pc' := by rfl) : Hr x b Z EL K S h sf pc' Ls (.double v :: st) := by
  subst hpc; exact H.step fun T A hx hby t q => XS.dloadN A hx rfl (hb hby hd) hl q
theorem Hr.dstore {k : Nat} {v : UInt64} (H : Hr x b Z EL K S h sf pc Ls (.double v :: st)) (hd : decode b.bytes pc = .ok (.dstore k, 2)) (hl : storeLocals Ls k (.double v) = some Ls' := by rfl) (hpc : pc + 2 = pc' := by rfl) : Hr x b Z EL K S h sf pc' Ls' st := by
  subst hpc; exact H.step fun T A hx hby t q => XS.dstore A hx rfl (hb hby hd) rfl hl q
theorem Hr.dconst0 (H : Hr x b Z EL K S h sf pc Ls st) (hd : decode b.bytes pc = .ok (.dconst 0, 1)) (hpc : pc + 1 = pc' := by rfl) : Hr x b Z EL K S h sf pc' Ls (.double FP.dconst0 :: st) := by
  subst hpc; exact H.step fun T A hx hby t q => XS.dconst0 A hx rfl (hb hby hd) rfl q
theorem Hr.dconst1 (H : Hr x b Z EL K S h sf pc Ls st) (hd : decode b.bytes pc = .ok (.dconst 1, 1)) (hpc : pc + 1 = pc' := by rfl) : Hr x b Z EL K S h sf pc' Ls (.double FP.dconst1 :: st) := by
  subst hpc; exact H.step fun T A hx hby t q => XS.dconst1 A hx rfl (hb hby hd) rfl q
theorem Hr.dadd {u w : UInt64} (H : Hr x b Z EL K S h sf pc Ls (.double w :: .double u :: st)) (hd : decode b.bytes pc = .ok (.dadd, 1)) (hn : Jvm.Free.Fl.NoNaN64 (FP.dadd u w)) (hpc : pc + 1 = pc' := by rfl) : Hr x b Z EL K S h sf pc' Ls (.double (FP.dadd u w) :: st) := by
  subst hpc; exact H.step fun T A hx hby t q => XS.daddS A hx rfl (hb hby hd) rfl hn rfl q
theorem Hr.dmul {u w : UInt64} (H : Hr x b Z EL K S h sf pc Ls (.double w :: .double u :: st)) (hd : decode b.bytes pc = .ok (.dmul, 1)) (hn : Jvm.Free.Fl.NoNaN64 (FP.dmul u w)) (hpc : pc + 1 = pc' := by rfl) : Hr x b Z EL K S h sf pc' Ls (.double (FP.dmul u w) :: st) := by
  subst hpc; exact H.step fun T A hx hby t q => XS.dmulS A hx rfl (hb hby hd) rfl hn rfl q
theorem Hr.ddiv {u w : UInt64} (H : Hr x b Z EL K S h sf pc Ls (.double w :: .double u :: st)) (hd : decode b.bytes pc = .ok (.ddiv, 1)) (hn : Jvm.Free.Fl.NoNaN64 (FP.ddiv u w)) (hpc : pc + 1 = pc' := by rfl) : Hr x b Z EL K S h sf pc' Ls (.double (FP.ddiv u w) :: st) := by
  subst hpc; exact H.step fun T A hx hby t q => XS.ddivS A hx rfl (hb hby hd) rfl hn rfl q
theorem Hr.dcmp {o : CmpOp} {u w : UInt64} (H : Hr x b Z EL K S h sf pc Ls (.double w :: .double u :: st)) (hd : decode b.bytes pc = .ok (.dcmp o, 1)) (hpc : pc + 1 = pc' := by rfl) : Hr x b Z EL K S h sf pc' Ls (.int (cmpValue (FP.dcmp u w) o) :: st) := by
  subst hpc; exact H.step fun T A hx hby t q => XS.dcmpS A hx rfl (hb hby hd) rfl rfl q
theorem Hr.ldcD {index : Nat} {v : UInt64} (H : Hr x b Z EL K S h sf pc Ls st) (w : (Jvm.Cond.constantDouble b.y.cls index v).before a0 Z = true) (hd : decode b.bytes pc = .ok (.ldc2_w index, 3)) (hpc : pc + 3 = pc' := by rfl) : Hr x b Z EL K S h sf pc' Ls (.double v :: st) := by
  subst hpc
  exact H.same fun T locs cells slots vm0 X eT hZ hown B => ⟨T, X, eT, X.ldc2DoubleC B.2.1 hown (mvT hZ w) (g := mkF x.m pc Ls st) rfl (hb B.2.2.1 hd)⟩
theorem Hr.finD {Q : Option Value → Heap → List Addr → Prop} {v : UInt64} {sn : List Addr} (H : Hr x b Z EL K S h sf pc Ls (.double v :: st)) (hd : decode b.bytes pc = .ok (.dreturn, 1)) (q : Q (some (.double v)) h sn) (hsn : ∀ a ∈ sn, a ∈ sf) (hret : b.ret = some .double := by rfl) (hK : K ≤ b.R.cells := by decide) (hS : S ≤ b.R.slots := by decide) : Ends x b Z EL Q :=
  H.fin hd hret rfl (Or.inr (Or.inr (Or.inl ⟨rfl, rfl, _, rfl⟩))) hK hS hsn q
end Layer8
end Jvm.Pilot.@@N@@
namespace Jvm.Pilot.@@N@@
open Jvm Jvm.ClassFile Sem Op Lib Bundle Jvm.Free Jvm.Stand Jvm.LawKit Jvm.RoadKit Jvm.Pilot.@@N@@.Jvm.D
theorem w0 {a0 : Array Value} {Z : State} (hw : ∀ d ∈ tables_1, d.before a0 Z = true) : ((Jvm.Cond.constant "com/example/afterscore/afterscore/rescore/ProtectedCountsNegligiblePinLaw" (7 : Nat) (1048575 : Int32)) : Jvm.Cond).before a0 Z = true := hw _ (List.mem_of_getElem? (i := 0) rfl)
theorem w1 {a0 : Array Value} {Z : State} (hw : ∀ d ∈ tables_1, d.before a0 Z = true) : ((Jvm.Cond.constantDouble "com/example/afterscore/afterscore/rescore/ProtectedCountsNegligiblePinLaw" (8 : Nat) (4368491638549381120 : UInt64)) : Jvm.Cond).before a0 Z = true := hw _ (List.mem_of_getElem? (i := 1) rfl)
theorem w2 {a0 : Array Value} {Z : State} (hw : ∀ d ∈ tables_1, d.before a0 Z = true) : ((Jvm.Cond.constantDouble "com/example/afterscore/afterscore/rescore/ProtectedCountsNegligiblePinLaw" (10 : Nat) (4098275660907151360 : UInt64)) : Jvm.Cond).before a0 Z = true := hw _ (List.mem_of_getElem? (i := 2) rfl)
theorem w3 {a0 : Array Value} {Z : State} (hw : ∀ d ∈ tables_1, d.before a0 Z = true) : ((Jvm.Cond.methodLink "com/example/afterscore/afterscore/rescore/ProtectedCountsNegligiblePinLaw" (12 : Nat) ({ cls := "com/example/afterscore/afterscore/rescore/ProtectedCounts", name := "negligible", desc := "(DI)D" } : Jvm.MethodName)) : Jvm.Cond).before a0 Z = true := hw _ (List.mem_of_getElem? (i := 3) rfl)
theorem w4 {a0 : Array Value} {Z : State} (hw : ∀ d ∈ tables_1, d.before a0 Z = true) : ((Jvm.Cond.static ({ cls := "com/example/afterscore/afterscore/rescore/ProtectedCounts", name := "negligible", desc := "(DI)D" } : Jvm.MethodName)) : Jvm.Cond).before a0 Z = true := hw _ (List.mem_of_getElem? (i := 4) rfl)
theorem w5 {a0 : Array Value} {Z : State} (hw : ∀ d ∈ tables_1, d.before a0 Z = true) : ((Jvm.Cond.initialized "com/example/afterscore/afterscore/rescore/ProtectedCounts") : Jvm.Cond).before a0 Z = true := hw _ (List.mem_of_getElem? (i := 5) rfl)
theorem w6 {a0 : Array Value} {Z : State} (hw : ∀ d ∈ tables_1, d.before a0 Z = true) : ((Jvm.Cond.code ({ cls := "com/example/afterscore/afterscore/rescore/ProtectedCounts", name := "negligible", desc := "(DI)D" } : Jvm.MethodName) prog_8_method_2_code (3 : Nat) (Option.some Jvm.ClassFile.FieldType.double)) : Jvm.Cond).before a0 Z = true := hw _ (List.mem_of_getElem? (i := 6) rfl)
theorem w7 {a0 : Array Value} {Z : State} (hw : ∀ d ∈ tables_1, d.before a0 Z = true) : ((Jvm.Cond.constantDouble "com/example/afterscore/afterscore/rescore/ProtectedCounts" (41 : Nat) (4336966441157787648 : UInt64)) : Jvm.Cond).before a0 Z = true := hw _ (List.mem_of_getElem? (i := 7) rfl)
abbrev EL1 : List (String × Nat) := []
theorem ew {a0 : Array Value} {Z : State} (hw : ∀ d ∈ tables_1, d.before a0 Z = true) : EW Z a0 EL1 := EW.nil
theorem d_negl_0 : decode prog_8_method_2_code 0 = .ok (.dload_n 0, 1) := by decide +kernel
theorem d_negl_1 : decode prog_8_method_2_code 1 = .ok (.ldc2_w 41, 3) := by decide +kernel
theorem d_negl_4 : decode prog_8_method_2_code 4 = .ok (.dmul, 1) := by decide +kernel
theorem d_negl_5 : decode prog_8_method_2_code 5 = .ok (.iload_n 2, 1) := by decide +kernel
theorem d_negl_6 : decode prog_8_method_2_code 6 = .ok (.i2d, 1) := by decide +kernel
theorem d_negl_7 : decode prog_8_method_2_code 7 = .ok (.dconst 1, 1) := by decide +kernel
theorem d_negl_8 : decode prog_8_method_2_code 8 = .ok (.dadd, 1) := by decide +kernel
theorem d_negl_9 : decode prog_8_method_2_code 9 = .ok (.iload_n 2, 1) := by decide +kernel
theorem d_negl_10 : decode prog_8_method_2_code 10 = .ok (.i2d, 1) := by decide +kernel
theorem d_negl_11 : decode prog_8_method_2_code 11 = .ok (.dconst 1, 1) := by decide +kernel
theorem d_negl_12 : decode prog_8_method_2_code 12 = .ok (.dadd, 1) := by decide +kernel
theorem d_negl_13 : decode prog_8_method_2_code 13 = .ok (.dmul, 1) := by decide +kernel
theorem d_negl_14 : decode prog_8_method_2_code 14 = .ok (.ddiv, 1) := by decide +kernel
theorem d_negl_15 : decode prog_8_method_2_code 15 = .ok (.dreturn, 1) := by decide +kernel
theorem sub0 {sf : List Addr} : ∀ z ∈ ([] : List Addr), z ∈ sf := fun z hz => nomatch hz
/-! ## The plain law: every operation is exact -/
theorem norm : ∀ (j n : Nat), j ≤ 52 → 2 ^ (52 - j) ≤ n → n < 2 ^ 53 → ∃ e, e ≤ j ∧ 2 ^ 52 ≤ n * 2 ^ e ∧ n * 2 ^ e < 2 ^ 53
  | 0, n, _, h1, h2 => ⟨0, Nat.le_refl _, by rw [Nat.pow_zero, Nat.mul_one]; exact h1, by rw [Nat.pow_zero, Nat.mul_one]; exact h2⟩
  | j + 1, n, hj, h1, h2 => by
    by_cases q : 2 ^ 52 ≤ n
    · exact ⟨0, Nat.zero_le _, by rw [Nat.pow_zero, Nat.mul_one]; exact q, by rw [Nat.pow_zero, Nat.mul_one]; exact h2⟩
    · have e : 2 ^ (52 - j) = 2 * 2 ^ (52 - (j + 1)) := by rw [show 52 - j = (52 - (j + 1)) + 1 by omega, Nat.pow_succ, Nat.mul_comm]
      obtain ⟨z, z1, z2, z3⟩ := norm j (2 * n) (by omega) (by rw [e]; omega) (by omega)
      have e2 : n * 2 ^ (z + 1) = 2 * n * 2 ^ z := by rw [Nat.pow_succ, Nat.mul_comm (2 ^ z) 2, ← Nat.mul_assoc, Nat.mul_comm n 2]
      exact ⟨z + 1, by omega, by rw [e2]; exact z2, by rw [e2]; exact z3⟩
theorem q_min : FP.Core.b64.qmin = -1074 := by decide
theorem q_max : FP.Core.b64.qmax = 971 := by decide
theorem q_tails : FP.Core.b64.tails = 2 ^ 52 := by decide
theorem q_fits {c : Nat} {q : Int} (h1 : 2 ^ 52 ≤ c) (h2 : c < 2 ^ 53) (h3 : -1074 ≤ q) (h4 : q ≤ 971) : FP.Core.fits FP.Core.b64 (.fin false c q) := ⟨h2, by rw [q_min]; exact h3, by rw [q_max]; exact h4, Or.inr (by rw [q_tails]; exact h1)⟩
theorem l2d_val {a : Int64} {n : Nat} (ha : a.toInt = (n : Int)) (h0 : 0 < n) (h1 : n < 2 ^ 53) : ∃ e : Nat, e ≤ 52 ∧ 2 ^ 52 ≤ n * 2 ^ e ∧ n * 2 ^ e < 2 ^ 53 ∧ FP.Core.val64 (FP.l2d a) = .fin false (n * 2 ^ e) (-(e : Int)) := by
  obtain ⟨e, e1, e2, e3⟩ := norm 52 n (Nat.le_refl _) h0 h1
  refine ⟨e, e1, e2, e3, ?_⟩
  show FP.Core.val64 (FP.Core.l2d a) = _
  rw [FP.Core.val64_l2d, ha]
  have hn : decide ((n : Int) < 0) = false := by simp
  show FP.Core.roundRatio FP.Core.b64 (decide ((n : Int) < 0)) (n : Int).natAbs 1 0 = _
  rw [hn]
  refine FP.Core.roundRatio_exact FP.Core.good_b64 (by decide) (q_fits e2 e3 (by omega) (by omega)) ?_
  rw [show ((0 : Int) - -(e : Int)).toNat = e by omega, show (-(e : Int) - 0).toNat = 0 by omega, Nat.pow_zero, Nat.mul_one, Nat.mul_one]
  try rfl
theorem mulpow {x P : UInt64} {c : Nat} {q n : Int} (hx : FP.Core.val64 x = .fin false c q) (hP : FP.Core.val64 P = .fin false (2 ^ 52) (n - 52)) (h1 : 2 ^ 52 ≤ c) (h2 : c < 2 ^ 53) (h3 : -1074 ≤ q + n) (h4 : q + n ≤ 971) : FP.Core.val64 (FP.dmul x P) = .fin false c (q + n) := by
  show FP.Core.val64 (FP.Core.dmul x P) = _
  rw [FP.Core.val64_dmul, hx, hP]
  show FP.Core.roundRatio FP.Core.b64 (false != false) (c * 2 ^ 52) 1 (q + (n - 52)) = _
  refine FP.Core.roundRatio_exact FP.Core.good_b64 (by decide) (q_fits h1 h2 h3 h4) ?_
  rw [show (q + (n - 52) - (q + n)).toNat = 0 by omega, show (q + n - (q + (n - 52))).toNat = 52 by omega, Nat.pow_zero, Nat.mul_one, Nat.mul_one]
theorem v53 : FP.Core.val64 (4368491638549381120 : UInt64) = .fin false (2 ^ 52) (-53 - 52) := by decide +kernel
theorem v60 : FP.Core.val64 (4336966441157787648 : UInt64) = .fin false (2 ^ 52) (-60 - 52) := by decide +kernel
theorem v113 : FP.Core.val64 (4098275660907151360 : UInt64) = .fin false (2 ^ 52) (-113 - 52) := by decide +kernel
theorem divx {x y : UInt64} {M D a b e : Nat} (hx : FP.Core.val64 x = .fin false (M * D * 2 ^ a) (-(a : Int) + -53 + -60)) (hy : FP.Core.val64 y = .fin false (D * 2 ^ e) (-(e : Int))) (hD : 0 < D) (h1 : 2 ^ 52 ≤ M * 2 ^ b) (h2 : M * 2 ^ b < 2 ^ 53) (hb : b ≤ 52) : FP.Core.val64 (FP.ddiv x y) = .fin false (M * 2 ^ b) (-(b : Int) + -113) := by
  have hB : 0 < D * 2 ^ e := Nat.mul_pos hD (Nat.two_pow_pos _)
  show FP.Core.val64 (FP.Core.ddiv x y) = _
  rw [FP.Core.val64_ddiv, hx, hy]
  show (if D * 2 ^ e = 0 then _ else FP.Core.roundRatio FP.Core.b64 (false != false) (M * D * 2 ^ a) (D * 2 ^ e) (-(a : Int) + -53 + -60 - -(e : Int))) = _
  rw [if_neg (Nat.ne_of_gt hB)]
  refine FP.Core.roundRatio_exact FP.Core.good_b64 hB (q_fits h1 h2 (by omega) (by omega)) ?_
  obtain ⟨p, hp⟩ : ∃ p, p = (-(a : Int) + -53 + -60 - -(e : Int) - (-(b : Int) + -113)).toNat := ⟨_, rfl⟩
  obtain ⟨r, hr⟩ : ∃ r, r = (-(b : Int) + -113 - (-(a : Int) + -53 + -60 - -(e : Int))).toNat := ⟨_, rfl⟩
  rw [← hp, ← hr]
  have hs : a + p = b + e + r := by omega
  calc M * D * 2 ^ a * 2 ^ p = M * D * 2 ^ (a + p) := by rw [Nat.mul_assoc (M * D), ← Nat.pow_add]
    _ = M * D * 2 ^ (b + e + r) := by rw [hs]
    _ = M * 2 ^ b * (D * 2 ^ e) * 2 ^ r := by rw [Nat.pow_add, Nat.pow_add]; ac_rfl
theorem noNaN {x : UInt64} {c : Nat} {q : Int} (h : FP.Core.val64 x = .fin false c q) : Jvm.Free.Fl.NoNaN64 x := Jvm.Free.Fl.noNaN64_no.mpr (by
  show decide (FP.Core.val64 x = .nan) = false
  rw [h]; rfl)
theorem cmp_pos {x : UInt64} {c : Nat} {q : Int} (h : FP.Core.val64 x = .fin false c q) (hc : 0 < c) : cmpValue (FP.dcmp x FP.dconst0) .l = 1 := by
  have e : FP.dcmp x FP.dconst0 = some .gt := by
    show FP.Core.order (FP.Core.val64 x) (FP.Core.val64 FP.Core.dconst0) = _
    rw [h, FP.Core.val64_dconst0]
    show some (compare ((FP.Core.inUnits c q (min q FP.Core.b64.qmin) : Nat) : Int) ((FP.Core.inUnits 0 FP.Core.b64.qmin (min q FP.Core.b64.qmin) : Nat) : Int)) = _
    have h0 : FP.Core.inUnits 0 FP.Core.b64.qmin (min q FP.Core.b64.qmin) = 0 := by unfold FP.Core.inUnits; rw [Nat.zero_mul]
    have h1 : 0 < FP.Core.inUnits c q (min q FP.Core.b64.qmin) := Nat.mul_pos hc (Nat.two_pow_pos _)
    rw [h0, FP.Core.compare_ite, if_neg (by omega), if_neg (by omega)]
  rw [e]; rfl
theorem cmp_one {x : UInt64} {c a : Nat} (h : FP.Core.val64 x = .fin false c (-(a : Int) + -53)) (hc : c < 2 ^ 53) : cmpValue (FP.dcmp x FP.dconst1) .g = -1 := by
  have e : FP.dcmp x FP.dconst1 = some .lt := by
    show FP.Core.order (FP.Core.val64 x) (FP.Core.val64 FP.Core.dconst1) = _
    rw [h, FP.Core.val64_dconst1]
    show some (compare ((FP.Core.inUnits c (-(a : Int) + -53) (min (-(a : Int) + -53) (-52)) : Nat) : Int) ((FP.Core.inUnits (2 ^ 52) (-52) (min (-(a : Int) + -53) (-52)) : Nat) : Int)) = _
    rw [show min (-(a : Int) + -53) (-52) = -(a : Int) + -53 by omega]
    have h0 : FP.Core.inUnits c (-(a : Int) + -53) (-(a : Int) + -53) = c := by unfold FP.Core.inUnits; rw [Int.sub_self]; exact Nat.mul_one _
    have h1 : FP.Core.inUnits (2 ^ 52) (-52) (-(a : Int) + -53) = 2 ^ 53 * 2 ^ a := by
      unfold FP.Core.inUnits
      have h9 : 2 ^ 52 * 2 ^ 1 = 2 ^ 53 := by decide
      rw [show ((-52 : Int) - (-(a : Int) + -53)).toNat = 1 + a by omega, Nat.pow_add, ← Nat.mul_assoc, h9]
    have h2 : 2 ^ 53 ≤ 2 ^ 53 * 2 ^ a := Nat.le_mul_of_pos_right _ (Nat.two_pow_pos _)
    rw [h0, h1, FP.Core.compare_ite, if_pos (by omega)]
  rw [e]; rfl
def m64 (x : Int32) : Int64 := (x &&& 8191).toInt64
def kk (y : Int32) : Int32 := y &&& 1048575
def k64 (y : Int32) : Int64 := (kk y).toInt64 + 1
def prob (x y : Int32) : UInt64 := FP.dmul (FP.l2d (m64 x * (k64 y * k64 y))) (4368491638549381120 : UInt64)
def expd (x : Int32) : UInt64 := FP.dmul (FP.l2d (m64 x)) (4098275660907151360 : UInt64)
def den (y : Int32) : UInt64 := FP.dadd (FP.i2d (kk y)) FP.dconst1
def got (x y : Int32) : UInt64 := FP.ddiv (FP.dmul (prob x y) (4336966441157787648 : UInt64)) (FP.dmul (den y) (den y))
theorem small (x y : Int32) : ∃ M K : Nat, M ≤ 8191 ∧ 1 ≤ K ∧ K ≤ 1048576 ∧ (m64 x).toInt = (M : Int) ∧ (k64 y).toInt = (K : Int) ∧ (k64 y * k64 y).toInt = ((K * K : Nat) : Int) ∧ (m64 x * (k64 y * k64 y)).toInt = ((M * (K * K) : Nat) : Int) ∧ K * K ≤ 1099511627776 ∧ M * (K * K) < 2 ^ 53 := by
  have h1 := c_mask x 8191 13 (by omega) (by decide)
  have h2 := c_mask y 1048575 20 (by omega) (by decide)
  have p1 : ((2 ^ 13 : Nat) : Int) = 8192 := by decide
  have p2 : ((2 ^ 20 : Nat) : Int) = 1048576 := by decide
  rw [p1] at h1
  rw [p2] at h2
  have a1 : (m64 x).toInt = x.toInt % 8192 := by unfold m64; rw [Int32.toInt_toInt64]; exact h1
  have b0 : (kk y).toInt64.toInt = y.toInt % 1048576 := by unfold kk; rw [Int32.toInt_toInt64]; exact h2
  have o1 : (1 : Int64).toInt = 1 := by decide
  have b1 : (k64 y).toInt = y.toInt % 1048576 + 1 := by unfold k64; rw [FP.Core.int64_add (by omega) (by omega), b0, o1]
  obtain ⟨M, hM⟩ : ∃ M : Nat, (M : Int) = x.toInt % 8192 := ⟨(x.toInt % 8192).toNat, by omega⟩
  obtain ⟨K, hK⟩ : ∃ K : Nat, (K : Int) = y.toInt % 1048576 + 1 := ⟨(y.toInt % 1048576 + 1).toNat, by omega⟩
  have hM1 : M ≤ 8191 := by omega
  have hK1 : K ≤ 1048576 := by omega
  have hKK : K * K ≤ 1099511627776 := Nat.mul_le_mul hK1 hK1
  have hMK : M * (K * K) ≤ 8191 * 1099511627776 := Nat.mul_le_mul hM1 hKK
  have c1 : (k64 y).toInt = (K : Int) := b1.trans hK.symm
  have c2 : (m64 x).toInt = (M : Int) := a1.trans hM.symm
  have d1 : (k64 y * k64 y).toInt = ((K * K : Nat) : Int) := by
    have e : (k64 y).toInt * (k64 y).toInt = ((K * K : Nat) : Int) := by rw [c1]; first | exact (Int.natCast_mul K K).symm | simp
    rw [FP.Core.int64_mul (by omega) (by omega)]; exact e
  have d2 : (m64 x * (k64 y * k64 y)).toInt = ((M * (K * K) : Nat) : Int) := by
    have e : (m64 x).toInt * (k64 y * k64 y).toInt = ((M * (K * K) : Nat) : Int) := by rw [c2, d1]; first | exact (Int.natCast_mul M (K * K)).symm | simp
    rw [FP.Core.int64_mul (by omega) (by omega)]; exact e
  exact ⟨M, K, hM1, by omega, hK1, c2, c1, d1, d2, hKK, by omega⟩
theorem den_is (y : Int32) : den y = FP.l2d (k64 y) := by
  obtain ⟨M, K, hM, hK0, hK1, -, c1, -⟩ := small 0 y
  unfold den k64
  have e1 : FP.dconst1 = FP.l2d 1 := by decide +kernel
  have b0 : (kk y).toInt64.toInt = (K : Int) - 1 := by
    have o1 : (1 : Int64).toInt = 1 := by decide
    have h2 := c_mask y 1048575 20 (by omega) (by decide)
    have p2 : ((2 ^ 20 : Nat) : Int) = 1048576 := by decide
    rw [p2] at h2
    have b0 : (kk y).toInt64.toInt = y.toInt % 1048576 := by unfold kk; rw [Int32.toInt_toInt64]; exact h2
    have b1 : (k64 y).toInt = y.toInt % 1048576 + 1 := by unfold k64; rw [FP.Core.int64_add (by omega) (by omega), b0, o1]
    omega
  have o1 : (1 : Int64).toInt = 1 := by decide
  rw [i2d_w, e1]
  exact dadd_w ⟨by omega, by omega⟩ ⟨by rw [o1]; decide, by rw [o1]; decide⟩
theorem den2_is (y : Int32) : FP.dmul (den y) (den y) = FP.l2d (k64 y * k64 y) := by
  obtain ⟨M, K, hM, hK0, hK1, -, c1, d1, -, hKK, -⟩ := small 0 y
  have hn : ¬ k64 y = 0 := fun q => by rw [q] at c1; have o0 : (0 : Int64).toInt = 0 := (by decide); omega
  have e : (k64 y).toInt * (k64 y).toInt = ((K * K : Nat) : Int) := by rw [c1]; first | exact (Int.natCast_mul K K).symm | simp
  rw [den_is]
  exact dmul_w ⟨by omega, by omega⟩ ⟨by omega, by omega⟩ hn hn (by omega) (by omega)
/-- what the walk asks -/
theorem plain (x y : Int32) : Jvm.Free.Fl.NoNaN64 (prob x y) ∧ Jvm.Free.Fl.NoNaN64 (expd x) ∧ Jvm.Free.Fl.NoNaN64 (FP.dmul (prob x y) (4336966441157787648 : UInt64)) ∧ Jvm.Free.Fl.NoNaN64 (den y) ∧ Jvm.Free.Fl.NoNaN64 (FP.dmul (den y) (den y)) ∧ Jvm.Free.Fl.NoNaN64 (got x y) ∧
    cmpValue (FP.dcmp (got x y) (expd x)) .l = 0 ∧ ¬ cmpValue (FP.dcmp (prob x y) FP.dconst0) .l < 0 ∧ cmpValue (FP.dcmp (prob x y) FP.dconst1) .g < 0 := by
  obtain ⟨M, K, hM, hK0, hK1, c2, c1, d1, d2, hKK, hMK⟩ := small x y
  have hD : 0 < K * K := Nat.mul_pos hK0 hK0
  obtain ⟨f, f1, f2, f3, f4⟩ := l2d_val c1 (by omega) (by omega)
  obtain ⟨e, e1, e2, e3, e4⟩ := l2d_val d1 hD (by omega)
  have nd : Jvm.Free.Fl.NoNaN64 (den y) := by rw [den_is]; exact noNaN f4
  have nd2 : Jvm.Free.Fl.NoNaN64 (FP.dmul (den y) (den y)) := by rw [den2_is]; exact noNaN e4
  by_cases hz : M = 0
  · subst hz
    have m0 : m64 x = 0 := Int64.toInt_inj.mp (by rw [c2]; decide)
    have n0 : m64 x * (k64 y * k64 y) = 0 := Int64.toInt_inj.mp (by rw [d2, Nat.zero_mul]; decide)
    have p0 : prob x y = 0 := by unfold prob; rw [n0]; decide +kernel
    have x0 : expd x = 0 := by unfold expd; rw [m0]; decide +kernel
    have q0 : FP.dmul (prob x y) (4336966441157787648 : UInt64) = 0 := by rw [p0]; decide +kernel
    have v0 : FP.Core.val64 0 = .fin false 0 FP.Core.b64.qmin := by decide +kernel
    have g0 : got x y = 0 := by
      unfold got
      rw [q0, den2_is]
      refine FP.Core.val64_inj ?_ ?_
      · show FP.Core.val64 (FP.Core.ddiv 0 _) ≠ _
        rw [FP.Core.val64_ddiv, v0, show FP.Core.val64 (FP.l2d (k64 y * k64 y)) = _ from e4]
        show (if K * K * 2 ^ e = 0 then _ else FP.Core.roundRatio FP.Core.b64 (false != false) 0 (K * K * 2 ^ e) _) ≠ _
        rw [if_neg (by omega)]
        show FP.Core.Datum.fin false 0 FP.Core.b64.qmin ≠ _
        intro z; cases z
      · show FP.Core.val64 (FP.Core.ddiv 0 _) = _
        rw [FP.Core.val64_ddiv, v0, show FP.Core.val64 (FP.l2d (k64 y * k64 y)) = _ from e4]
        show (if K * K * 2 ^ e = 0 then _ else FP.Core.roundRatio FP.Core.b64 (false != false) 0 (K * K * 2 ^ e) _) = _
        rw [if_neg (by omega)]
        rfl
    exact ⟨by rw [p0]; exact noNaN v0, by rw [x0]; exact noNaN v0, by rw [q0]; exact noNaN v0, nd, nd2, by rw [g0]; exact noNaN v0, by rw [g0, x0]; decide +kernel, by rw [p0]; decide +kernel, by rw [p0]; decide +kernel⟩
  · have hM0 : 0 < M := Nat.pos_of_ne_zero hz
    obtain ⟨b, b1, b2, b3, b4⟩ := l2d_val c2 hM0 (by omega)
    obtain ⟨a, a1, a2, a3, a4⟩ := l2d_val d2 (Nat.mul_pos hM0 hD) hMK
    have vp : FP.Core.val64 (prob x y) = .fin false (M * (K * K) * 2 ^ a) (-(a : Int) + -53) := mulpow a4 v53 a2 a3 (by omega) (by omega)
    have vq : FP.Core.val64 (FP.dmul (prob x y) (4336966441157787648 : UInt64)) = .fin false (M * (K * K) * 2 ^ a) (-(a : Int) + -53 + -60) := mulpow vp v60 a2 a3 (by omega) (by omega)
    have vx : FP.Core.val64 (expd x) = .fin false (M * 2 ^ b) (-(b : Int) + -113) := mulpow b4 v113 b2 b3 (by omega) (by omega)
    have vg : FP.Core.val64 (got x y) = .fin false (M * 2 ^ b) (-(b : Int) + -113) := by unfold got; rw [den2_is]; exact divx vq e4 hD b2 b3 b1
    have eg : got x y = expd x := FP.Core.val64_inj (by rw [vg]; intro z; cases z) (vg.trans vx.symm)
    refine ⟨noNaN vp, noNaN vx, noNaN vq, nd, nd2, noNaN vg, ?_, ?_, ?_⟩
    · rw [eg]; exact dcmpV_self (noNaN vx) _
    · rw [cmp_pos vp (by omega)]; decide
    · rw [cmp_one vp a3]; decide
def b_negl : Bx := (({ frames := 0, cells := 0, slots := 0, locals := 0 } : Room), (⟨"com/example/afterscore/afterscore/rescore/ProtectedCounts", "negligible", "(DI)D"⟩ : MethodName), prog_8_method_2_code, 3, (Option.some Jvm.ClassFile.FieldType.double))
theorem ef_negl (p : UInt64) (k : Int32) (m : MethodId) : entryFrame m #[.double p, .int k] 3 = mkF m 0 #[.val (.double p), .second, .val (.int k)] [] := by first | rfl | (simp [entryFrame, mkF, argsToLocals, Value.category]; done)
theorem pn_com_example_afterscore_afterscore_rescore_ProtectedCounts : plainName "com/example/afterscore/afterscore/rescore/ProtectedCounts" = true := by first | (simp [plainName, overriddenIn]; done) | decide +kernel
theorem pd_negl : parseMethodDescriptor "(DI)D" = some ⟨[.double, .int], some .double⟩ := by decide +kernel
set_option maxRecDepth 65536 in
set_option maxHeartbeats 4000000 in
theorem ct_negl {a0 : Array Value} {Z : State} (hw : ∀ d ∈ tables_1, d.before a0 Z = true) (l : Launch) (nar kn : Bool) (hnr : nar = nar) (h0 : Heap) (p : UInt64) (k : Int32) (h1 : Jvm.Free.Fl.NoNaN64 (FP.dmul p (4336966441157787648 : UInt64))) (h2 : Jvm.Free.Fl.NoNaN64 (FP.dadd (FP.i2d k) FP.dconst1)) (h3 : Jvm.Free.Fl.NoNaN64 (FP.dmul (FP.dadd (FP.i2d k) FP.dconst1) (FP.dadd (FP.i2d k) FP.dconst1))) (h4 : Jvm.Free.Fl.NoNaN64 (FP.ddiv (FP.dmul p (4336966441157787648 : UInt64)) (FP.dmul (FP.dadd (FP.i2d k) FP.dconst1) (FP.dadd (FP.i2d k) FP.dconst1)))) :
    Ct l Z EL1 (⟨"com/example/afterscore/afterscore/rescore/ProtectedCounts", "negligible", "(DI)D"⟩ : MethodName) prog_8_method_2_code 3 (Option.some Jvm.ClassFile.FieldType.double) ({ frames := 0, cells := 0, slots := 0, locals := 0 } : Room) #[.double p, .int k] h0 [] nar kn (fun v h sn => v = some (.double (FP.ddiv (FP.dmul p (4336966441157787648 : UInt64)) (FP.dmul (FP.dadd (FP.i2d k) FP.dconst1) (FP.dadd (FP.i2d k) FP.dconst1)))) ∧ sn = [] ∧ h = h0) := by
  refine Ct.intro pn_com_example_afterscore_afterscore_rescore_ProtectedCounts (ew hw) (ef_negl p k) ?_
  intro x hl hn0 hkn hsf hh H0
  have hnar : x.nar = x.nar := rfl
  have H0 : Hr x b_negl Z EL1 0 0 h0 [] 0 #[.val (.double p), .second, .val (.int k)] [] := H0
  have H1 : Hr x b_negl Z EL1 0 0 h0 [] 1 #[.val (.double p), .second, .val (.int k)] [.double p] := H0.dloadN d_negl_0
  have H2 : Hr x b_negl Z EL1 0 0 h0 [] 4 #[.val (.double p), .second, .val (.int k)] [.double ((4336966441157787648 : UInt64)), .double p] := H1.ldcD (w7 hw) d_negl_1
  have H3 : Hr x b_negl Z EL1 0 0 h0 [] 5 #[.val (.double p), .second, .val (.int k)] [.double (FP.dmul p (4336966441157787648 : UInt64))] := H2.dmul d_negl_4 h1
  have H4 : Hr x b_negl Z EL1 0 0 h0 [] 6 #[.val (.double p), .second, .val (.int k)] [.int k, .double (FP.dmul p (4336966441157787648 : UInt64))] := H3.iloadN d_negl_5
  have H5 : Hr x b_negl Z EL1 0 0 h0 [] 7 #[.val (.double p), .second, .val (.int k)] [.double (FP.i2d k), .double (FP.dmul p (4336966441157787648 : UInt64))] := H4.i2d d_negl_6
  have H6 : Hr x b_negl Z EL1 0 0 h0 [] 8 #[.val (.double p), .second, .val (.int k)] [.double FP.dconst1, .double (FP.i2d k), .double (FP.dmul p (4336966441157787648 : UInt64))] := H5.dconst1 d_negl_7
  have H7 : Hr x b_negl Z EL1 0 0 h0 [] 9 #[.val (.double p), .second, .val (.int k)] [.double (FP.dadd (FP.i2d k) FP.dconst1), .double (FP.dmul p (4336966441157787648 : UInt64))] := H6.dadd d_negl_8 h2
  have H8 : Hr x b_negl Z EL1 0 0 h0 [] 10 #[.val (.double p), .second, .val (.int k)] [.int k, .double (FP.dadd (FP.i2d k) FP.dconst1), .double (FP.dmul p (4336966441157787648 : UInt64))] := H7.iloadN d_negl_9
  have H9 : Hr x b_negl Z EL1 0 0 h0 [] 11 #[.val (.double p), .second, .val (.int k)] [.double (FP.i2d k), .double (FP.dadd (FP.i2d k) FP.dconst1), .double (FP.dmul p (4336966441157787648 : UInt64))] := H8.i2d d_negl_10
  have H10 : Hr x b_negl Z EL1 0 0 h0 [] 12 #[.val (.double p), .second, .val (.int k)] [.double FP.dconst1, .double (FP.i2d k), .double (FP.dadd (FP.i2d k) FP.dconst1), .double (FP.dmul p (4336966441157787648 : UInt64))] := H9.dconst1 d_negl_11
  have H11 : Hr x b_negl Z EL1 0 0 h0 [] 13 #[.val (.double p), .second, .val (.int k)] [.double (FP.dadd (FP.i2d k) FP.dconst1), .double (FP.dadd (FP.i2d k) FP.dconst1), .double (FP.dmul p (4336966441157787648 : UInt64))] := H10.dadd d_negl_12 h2
  have H12 : Hr x b_negl Z EL1 0 0 h0 [] 14 #[.val (.double p), .second, .val (.int k)] [.double (FP.dmul (FP.dadd (FP.i2d k) FP.dconst1) (FP.dadd (FP.i2d k) FP.dconst1)), .double (FP.dmul p (4336966441157787648 : UInt64))] := H11.dmul d_negl_13 h3
  have H13 : Hr x b_negl Z EL1 0 0 h0 [] 15 #[.val (.double p), .second, .val (.int k)] [.double (FP.ddiv (FP.dmul p (4336966441157787648 : UInt64)) (FP.dmul (FP.dadd (FP.i2d k) FP.dconst1) (FP.dadd (FP.i2d k) FP.dconst1)))] := H12.ddiv d_negl_14 h4
  exact H13.finD d_negl_15 ⟨rfl, rfl, rfl⟩ sub0
def b_at : Bx := (({ frames := 4, cells := 0, slots := 0, locals := 112 } : Room), (⟨"com/example/afterscore/afterscore/rescore/ProtectedCountsNegligiblePinLaw", "law", "(II)Z"⟩ : MethodName), code, 13, ret)
theorem ef_at (p0 : Int32) (p1 : Int32) (m : MethodId) : entryFrame m #[.int p0, .int p1] 13 = mkF m 0 #[.val (.int p0), .val (.int p1), .unset, .unset, .unset, .unset, .unset, .unset, .unset, .unset, .unset, .unset, .unset] [] := by first | rfl | (simp [entryFrame, mkF, argsToLocals, Value.category]; done)
theorem pn_com_example_afterscore_afterscore_rescore_ProtectedCountsNegligiblePinLaw : plainName "com/example/afterscore/afterscore/rescore/ProtectedCountsNegligiblePinLaw" = true := by first | (simp [plainName, overriddenIn]; done) | decide +kernel
theorem pd_at : parseMethodDescriptor "(II)Z" = some ⟨[.int, .int], some .boolean⟩ := by decide +kernel
set_option maxRecDepth 65536 in
set_option maxHeartbeats 4000000 in
theorem ct_law {a0 : Array Value} {Z : State} (hw : ∀ d ∈ tables_1, d.before a0 Z = true) (l : Launch) (nar kn : Bool) (hnr : nar = nar) (h0 : Heap) (p0 : Int32) (p1 : Int32)  :
    Ct l Z EL1 (⟨"com/example/afterscore/afterscore/rescore/ProtectedCountsNegligiblePinLaw", "law", "(II)Z"⟩ : MethodName) code 13 ret ({ frames := 4, cells := 0, slots := 0, locals := 112 } : Room) #[.int p0, .int p1] h0 [] nar kn (fun v h sn => v = some (.int 1) ∧ sn = []) := by
  refine Ct.intro pn_com_example_afterscore_afterscore_rescore_ProtectedCountsNegligiblePinLaw (ew hw) (ef_at p0 p1) ?_
  intro x hl hn0 hkn hsf hh H0
  have hnar : x.nar = x.nar := rfl
  have H0 : Hr x b_at Z EL1 0 0 h0 [] 0 #[.val (.int p0), .val (.int p1), .unset, .unset, .unset, .unset, .unset, .unset, .unset, .unset, .unset, .unset, .unset] [] := H0
  obtain ⟨n1, n2, n3, n4, n5, n6, e1, e2, e3⟩ := plain p0 p1
  have H1 : Hr x b_at Z EL1 0 0 h0 [] 1 #[.val (.int p0), .val (.int p1), .unset, .unset, .unset, .unset, .unset, .unset, .unset, .unset, .unset, .unset, .unset] [.int p0] := H0.iloadN at_0
  have H2 : Hr x b_at Z EL1 0 0 h0 [] 4 #[.val (.int p0), .val (.int p1), .unset, .unset, .unset, .unset, .unset, .unset, .unset, .unset, .unset, .unset, .unset] [.int (8191 : Int32), .int p0] := H1.sipush at_1
  have H3 : Hr x b_at Z EL1 0 0 h0 [] 5 #[.val (.int p0), .val (.int p1), .unset, .unset, .unset, .unset, .unset, .unset, .unset, .unset, .unset, .unset, .unset] [.int (p0 &&& (8191 : Int32))] := H2.iand at_4
  have H4 : Hr x b_at Z EL1 0 0 h0 [] 6 #[.val (.int p0), .val (.int p1), .unset, .unset, .unset, .unset, .unset, .unset, .unset, .unset, .unset, .unset, .unset] [.long (m64 p0)] := H3.i2l at_5
  have H5 : Hr x b_at Z EL1 0 0 h0 [] 7 #[.val (.int p0), .val (.int p1), .val (.long (m64 p0)), .second, .unset, .unset, .unset, .unset, .unset, .unset, .unset, .unset, .unset] [] := H4.lstoreN at_6
  have H6 : Hr x b_at Z EL1 0 0 h0 [] 8 #[.val (.int p0), .val (.int p1), .val (.long (m64 p0)), .second, .unset, .unset, .unset, .unset, .unset, .unset, .unset, .unset, .unset] [.int p1] := H5.iloadN at_7
  have H7 : Hr x b_at Z EL1 0 0 h0 [] 10 #[.val (.int p0), .val (.int p1), .val (.long (m64 p0)), .second, .unset, .unset, .unset, .unset, .unset, .unset, .unset, .unset, .unset] [.int (1048575 : Int32), .int p1] := H6.ldcI (w0 hw) at_8
  have H8 : Hr x b_at Z EL1 0 0 h0 [] 11 #[.val (.int p0), .val (.int p1), .val (.long (m64 p0)), .second, .unset, .unset, .unset, .unset, .unset, .unset, .unset, .unset, .unset] [.int (kk p1)] := H7.iand at_10
  have H9 : Hr x b_at Z EL1 0 0 h0 [] 13 #[.val (.int p0), .val (.int p1), .val (.long (m64 p0)), .second, .val (.int (kk p1)), .unset, .unset, .unset, .unset, .unset, .unset, .unset, .unset] [] := H8.istore at_11
  have H10 : Hr x b_at Z EL1 0 0 h0 [] 15 #[.val (.int p0), .val (.int p1), .val (.long (m64 p0)), .second, .val (.int (kk p1)), .unset, .unset, .unset, .unset, .unset, .unset, .unset, .unset] [.int (kk p1)] := H9.iload at_13
  have H11 : Hr x b_at Z EL1 0 0 h0 [] 16 #[.val (.int p0), .val (.int p1), .val (.long (m64 p0)), .second, .val (.int (kk p1)), .unset, .unset, .unset, .unset, .unset, .unset, .unset, .unset] [.long ((kk p1).toInt64)] := H10.i2l at_15
  have H12 : Hr x b_at Z EL1 0 0 h0 [] 17 #[.val (.int p0), .val (.int p1), .val (.long (m64 p0)), .second, .val (.int (kk p1)), .unset, .unset, .unset, .unset, .unset, .unset, .unset, .unset] [.long (1 : Int64), .long ((kk p1).toInt64)] := H11.lconst at_16
  have H13 : Hr x b_at Z EL1 0 0 h0 [] 18 #[.val (.int p0), .val (.int p1), .val (.long (m64 p0)), .second, .val (.int (kk p1)), .unset, .unset, .unset, .unset, .unset, .unset, .unset, .unset] [.long (k64 p1)] := H12.ladd at_17
  have H14 : Hr x b_at Z EL1 0 0 h0 [] 20 #[.val (.int p0), .val (.int p1), .val (.long (m64 p0)), .second, .val (.int (kk p1)), .unset, .unset, .unset, .unset, .unset, .unset, .unset, .unset] [.int (kk p1), .long (k64 p1)] := H13.iload at_18
  have H15 : Hr x b_at Z EL1 0 0 h0 [] 21 #[.val (.int p0), .val (.int p1), .val (.long (m64 p0)), .second, .val (.int (kk p1)), .unset, .unset, .unset, .unset, .unset, .unset, .unset, .unset] [.long ((kk p1).toInt64), .long (k64 p1)] := H14.i2l at_20
  have H16 : Hr x b_at Z EL1 0 0 h0 [] 22 #[.val (.int p0), .val (.int p1), .val (.long (m64 p0)), .second, .val (.int (kk p1)), .unset, .unset, .unset, .unset, .unset, .unset, .unset, .unset] [.long (1 : Int64), .long ((kk p1).toInt64), .long (k64 p1)] := H15.lconst at_21
  have H17 : Hr x b_at Z EL1 0 0 h0 [] 23 #[.val (.int p0), .val (.int p1), .val (.long (m64 p0)), .second, .val (.int (kk p1)), .unset, .unset, .unset, .unset, .unset, .unset, .unset, .unset] [.long (k64 p1), .long (k64 p1)] := H16.ladd at_22
  have H18 : Hr x b_at Z EL1 0 0 h0 [] 24 #[.val (.int p0), .val (.int p1), .val (.long (m64 p0)), .second, .val (.int (kk p1)), .unset, .unset, .unset, .unset, .unset, .unset, .unset, .unset] [.long (k64 p1 * k64 p1)] := H17.lmul at_23
  have H19 : Hr x b_at Z EL1 0 0 h0 [] 26 #[.val (.int p0), .val (.int p1), .val (.long (m64 p0)), .second, .val (.int (kk p1)), .val (.long (k64 p1 * k64 p1)), .second, .unset, .unset, .unset, .unset, .unset, .unset] [] := H18.lstore at_24
  have H20 : Hr x b_at Z EL1 0 0 h0 [] 27 #[.val (.int p0), .val (.int p1), .val (.long (m64 p0)), .second, .val (.int (kk p1)), .val (.long (k64 p1 * k64 p1)), .second, .unset, .unset, .unset, .unset, .unset, .unset] [.long (m64 p0)] := H19.lloadN at_26
  have H21 : Hr x b_at Z EL1 0 0 h0 [] 29 #[.val (.int p0), .val (.int p1), .val (.long (m64 p0)), .second, .val (.int (kk p1)), .val (.long (k64 p1 * k64 p1)), .second, .unset, .unset, .unset, .unset, .unset, .unset] [.long (k64 p1 * k64 p1), .long (m64 p0)] := H20.lload at_27
  have H22 : Hr x b_at Z EL1 0 0 h0 [] 30 #[.val (.int p0), .val (.int p1), .val (.long (m64 p0)), .second, .val (.int (kk p1)), .val (.long (k64 p1 * k64 p1)), .second, .unset, .unset, .unset, .unset, .unset, .unset] [.long (m64 p0 * (k64 p1 * k64 p1))] := H21.lmul at_29
  have H23 : Hr x b_at Z EL1 0 0 h0 [] 31 #[.val (.int p0), .val (.int p1), .val (.long (m64 p0)), .second, .val (.int (kk p1)), .val (.long (k64 p1 * k64 p1)), .second, .unset, .unset, .unset, .unset, .unset, .unset] [.double (FP.l2d (m64 p0 * (k64 p1 * k64 p1)))] := H22.l2d at_30
  have H24 : Hr x b_at Z EL1 0 0 h0 [] 34 #[.val (.int p0), .val (.int p1), .val (.long (m64 p0)), .second, .val (.int (kk p1)), .val (.long (k64 p1 * k64 p1)), .second, .unset, .unset, .unset, .unset, .unset, .unset] [.double ((4368491638549381120 : UInt64)), .double (FP.l2d (m64 p0 * (k64 p1 * k64 p1)))] := H23.ldcD (w1 hw) at_31
  have H25 : Hr x b_at Z EL1 0 0 h0 [] 35 #[.val (.int p0), .val (.int p1), .val (.long (m64 p0)), .second, .val (.int (kk p1)), .val (.long (k64 p1 * k64 p1)), .second, .unset, .unset, .unset, .unset, .unset, .unset] [.double (prob p0 p1)] := H24.dmul at_34 n1
  have H26 : Hr x b_at Z EL1 0 0 h0 [] 37 #[.val (.int p0), .val (.int p1), .val (.long (m64 p0)), .second, .val (.int (kk p1)), .val (.long (k64 p1 * k64 p1)), .second, .val (.double (prob p0 p1)), .second, .unset, .unset, .unset, .unset] [] := H25.dstore at_35
  have H27 : Hr x b_at Z EL1 0 0 h0 [] 38 #[.val (.int p0), .val (.int p1), .val (.long (m64 p0)), .second, .val (.int (kk p1)), .val (.long (k64 p1 * k64 p1)), .second, .val (.double (prob p0 p1)), .second, .unset, .unset, .unset, .unset] [.long (m64 p0)] := H26.lloadN at_37
  have H28 : Hr x b_at Z EL1 0 0 h0 [] 39 #[.val (.int p0), .val (.int p1), .val (.long (m64 p0)), .second, .val (.int (kk p1)), .val (.long (k64 p1 * k64 p1)), .second, .val (.double (prob p0 p1)), .second, .unset, .unset, .unset, .unset] [.double (FP.l2d (m64 p0))] := H27.l2d at_38
  have H29 : Hr x b_at Z EL1 0 0 h0 [] 42 #[.val (.int p0), .val (.int p1), .val (.long (m64 p0)), .second, .val (.int (kk p1)), .val (.long (k64 p1 * k64 p1)), .second, .val (.double (prob p0 p1)), .second, .unset, .unset, .unset, .unset] [.double ((4098275660907151360 : UInt64)), .double (FP.l2d (m64 p0))] := H28.ldcD (w2 hw) at_39
  have H30 : Hr x b_at Z EL1 0 0 h0 [] 43 #[.val (.int p0), .val (.int p1), .val (.long (m64 p0)), .second, .val (.int (kk p1)), .val (.long (k64 p1 * k64 p1)), .second, .val (.double (prob p0 p1)), .second, .unset, .unset, .unset, .unset] [.double (expd p0)] := H29.dmul at_42 n2
  have H31 : Hr x b_at Z EL1 0 0 h0 [] 45 #[.val (.int p0), .val (.int p1), .val (.long (m64 p0)), .second, .val (.int (kk p1)), .val (.long (k64 p1 * k64 p1)), .second, .val (.double (prob p0 p1)), .second, .val (.double (expd p0)), .second, .unset, .unset] [] := H30.dstore at_43
  have H32 : Hr x b_at Z EL1 0 0 h0 [] 47 #[.val (.int p0), .val (.int p1), .val (.long (m64 p0)), .second, .val (.int (kk p1)), .val (.long (k64 p1 * k64 p1)), .second, .val (.double (prob p0 p1)), .second, .val (.double (expd p0)), .second, .unset, .unset] [.double (prob p0 p1)] := H31.dload at_45
  have H33 : Hr x b_at Z EL1 0 0 h0 [] 49 #[.val (.int p0), .val (.int p1), .val (.long (m64 p0)), .second, .val (.int (kk p1)), .val (.long (k64 p1 * k64 p1)), .second, .val (.double (prob p0 p1)), .second, .val (.double (expd p0)), .second, .unset, .unset] [.int (kk p1), .double (prob p0 p1)] := H32.iload at_47
  obtain ⟨_, h1, _, ⟨rfl, rfl, e4⟩, K1, H34⟩ := H33.callS (argsL := [.double (prob p0 p1), .int (kk p1)]) (rest := []) (Wr := 0) (ct_negl hw x.l x.nar x.kn hnar h0 (prob p0 p1) (kk p1) n3 n4 n5 n6) sub0 (w3 hw) (w4 hw) (w5 hw) (w6 hw) at_49 pd_negl rfl (hf := by decide) (hl := by decide) (hc := by decide) (hs := by decide)
  rw [e4] at H34
  have H34 : Hr x b_at Z EL1 0 0 h0 [] 52 #[.val (.int p0), .val (.int p1), .val (.long (m64 p0)), .second, .val (.int (kk p1)), .val (.long (k64 p1 * k64 p1)), .second, .val (.double (prob p0 p1)), .second, .val (.double (expd p0)), .second, .unset, .unset] [.double (got p0 p1)] := H34
  have H35 : Hr x b_at Z EL1 0 0 h0 [] 54 #[.val (.int p0), .val (.int p1), .val (.long (m64 p0)), .second, .val (.int (kk p1)), .val (.long (k64 p1 * k64 p1)), .second, .val (.double (prob p0 p1)), .second, .val (.double (expd p0)), .second, .val (.double (got p0 p1)), .second] [] := H34.dstore at_52
  have H36 : Hr x b_at Z EL1 0 0 h0 [] 56 #[.val (.int p0), .val (.int p1), .val (.long (m64 p0)), .second, .val (.int (kk p1)), .val (.long (k64 p1 * k64 p1)), .second, .val (.double (prob p0 p1)), .second, .val (.double (expd p0)), .second, .val (.double (got p0 p1)), .second] [.double (got p0 p1)] := H35.dload at_54
  have H37 : Hr x b_at Z EL1 0 0 h0 [] 58 #[.val (.int p0), .val (.int p1), .val (.long (m64 p0)), .second, .val (.int (kk p1)), .val (.long (k64 p1 * k64 p1)), .second, .val (.double (prob p0 p1)), .second, .val (.double (expd p0)), .second, .val (.double (got p0 p1)), .second] [.double (expd p0), .double (got p0 p1)] := H36.dload at_56
  have H38 : Hr x b_at Z EL1 0 0 h0 [] 59 #[.val (.int p0), .val (.int p1), .val (.long (m64 p0)), .second, .val (.int (kk p1)), .val (.long (k64 p1 * k64 p1)), .second, .val (.double (prob p0 p1)), .second, .val (.double (expd p0)), .second, .val (.double (got p0 p1)), .second] [.int (cmpValue (FP.dcmp (got p0 p1) (expd p0)) .l)] := H37.dcmp at_58
  have H39 : Hr x b_at Z EL1 0 0 h0 [] 62 #[.val (.int p0), .val (.int p1), .val (.long (m64 p0)), .second, .val (.int (kk p1)), .val (.long (k64 p1 * k64 p1)), .second, .val (.double (prob p0 p1)), .second, .val (.double (expd p0)), .second, .val (.double (got p0 p1)), .second] [] := H38.ifF at_59 (XT.i0_ne_f e1)
  have H40 : Hr x b_at Z EL1 0 0 h0 [] 64 #[.val (.int p0), .val (.int p1), .val (.long (m64 p0)), .second, .val (.int (kk p1)), .val (.long (k64 p1 * k64 p1)), .second, .val (.double (prob p0 p1)), .second, .val (.double (expd p0)), .second, .val (.double (got p0 p1)), .second] [.double (prob p0 p1)] := H39.dload at_62
  have H41 : Hr x b_at Z EL1 0 0 h0 [] 65 #[.val (.int p0), .val (.int p1), .val (.long (m64 p0)), .second, .val (.int (kk p1)), .val (.long (k64 p1 * k64 p1)), .second, .val (.double (prob p0 p1)), .second, .val (.double (expd p0)), .second, .val (.double (got p0 p1)), .second] [.double FP.dconst0, .double (prob p0 p1)] := H40.dconst0 at_64
  have H42 : Hr x b_at Z EL1 0 0 h0 [] 66 #[.val (.int p0), .val (.int p1), .val (.long (m64 p0)), .second, .val (.int (kk p1)), .val (.long (k64 p1 * k64 p1)), .second, .val (.double (prob p0 p1)), .second, .val (.double (expd p0)), .second, .val (.double (got p0 p1)), .second] [.int (cmpValue (FP.dcmp (prob p0 p1) FP.dconst0) .l)] := H41.dcmp at_65
  have H43 : Hr x b_at Z EL1 0 0 h0 [] 69 #[.val (.int p0), .val (.int p1), .val (.long (m64 p0)), .second, .val (.int (kk p1)), .val (.long (k64 p1 * k64 p1)), .second, .val (.double (prob p0 p1)), .second, .val (.double (expd p0)), .second, .val (.double (got p0 p1)), .second] [] := H42.ifF at_66 (XT.i0_lt_f e2)
  have H44 : Hr x b_at Z EL1 0 0 h0 [] 71 #[.val (.int p0), .val (.int p1), .val (.long (m64 p0)), .second, .val (.int (kk p1)), .val (.long (k64 p1 * k64 p1)), .second, .val (.double (prob p0 p1)), .second, .val (.double (expd p0)), .second, .val (.double (got p0 p1)), .second] [.double (prob p0 p1)] := H43.dload at_69
  have H45 : Hr x b_at Z EL1 0 0 h0 [] 72 #[.val (.int p0), .val (.int p1), .val (.long (m64 p0)), .second, .val (.int (kk p1)), .val (.long (k64 p1 * k64 p1)), .second, .val (.double (prob p0 p1)), .second, .val (.double (expd p0)), .second, .val (.double (got p0 p1)), .second] [.double FP.dconst1, .double (prob p0 p1)] := H44.dconst1 at_71
  have H46 : Hr x b_at Z EL1 0 0 h0 [] 73 #[.val (.int p0), .val (.int p1), .val (.long (m64 p0)), .second, .val (.int (kk p1)), .val (.long (k64 p1 * k64 p1)), .second, .val (.double (prob p0 p1)), .second, .val (.double (expd p0)), .second, .val (.double (got p0 p1)), .second] [.int (cmpValue (FP.dcmp (prob p0 p1) FP.dconst1) .g)] := H45.dcmp at_72
  have H47 : Hr x b_at Z EL1 0 0 h0 [] 76 #[.val (.int p0), .val (.int p1), .val (.long (m64 p0)), .second, .val (.int (kk p1)), .val (.long (k64 p1 * k64 p1)), .second, .val (.double (prob p0 p1)), .second, .val (.double (expd p0)), .second, .val (.double (got p0 p1)), .second] [] := H46.ifF at_73 (XT.i0_ge_f e3)
  have H48 : Hr x b_at Z EL1 0 0 h0 [] 77 #[.val (.int p0), .val (.int p1), .val (.long (m64 p0)), .second, .val (.int (kk p1)), .val (.long (k64 p1 * k64 p1)), .second, .val (.double (prob p0 p1)), .second, .val (.double (expd p0)), .second, .val (.double (got p0 p1)), .second] [.int (1 : Int32)] := H47.iconst at_76
  have H49 : Hr x b_at Z EL1 0 0 h0 [] 81 #[.val (.int p0), .val (.int p1), .val (.long (m64 p0)), .second, .val (.int (kk p1)), .val (.long (k64 p1 * k64 p1)), .second, .val (.double (prob p0 p1)), .second, .val (.double (expd p0)), .second, .val (.double (got p0 p1)), .second] [.int (1 : Int32)] := H48.goto at_77
  exact H49.finZ at_81 (t := .boolean) (by first | rfl | decide) ⟨rfl, rfl⟩ sub0
set_option maxRecDepth 65536 in
set_option maxHeartbeats 4000000 in
theorem comes_1 {Post : Tables → Env → Array Value → State → Outcome → State → Prop} (hpost : ∀ tb e args s v u, (limb_1_1.after args s (.returned v) u = true ∧ limb_1_2.after args s (.returned v) u = true ∧ True) → Framed s (.returned v) u (Jvm.fieldLocs frame_1_writes args s ++ Jvm.arrayLocs frame_1_arrays args s ++ Jvm.staticLocs frame_1_statics s) 0 0 → Post tb e args s (.returned v) u) :
    ArmFor flags0 classFile x code maxLocals ret World_1 tables_1 room_1 Calls_1 rest_1 Pre_1 Post := by
  intro l hfl _ _ p e ha hc hk s m args below hf hA hF happ hP
  obtain ⟨hcalls, hrest, hpre⟩ := hP
  obtain ⟨-, -, -, hnamed, -, -, -, hat⟩ := (Spec.applies_iff hf).mp happ
  obtain ⟨hg, hn⟩ := and_e (Cond.before_iff.mp (show (Jvm.Cond.and given_1 narrow_1).before args s = true from hpre))
  obtain ⟨g0, hg⟩ := and_e hg
  obtain ⟨g1, hg⟩ := and_e hg
  obtain ⟨v0, v1, rfl⟩ : ∃ v0 v1 : Value, args = #[v0, v1] := by
    have hs : args.size = 2 := by simpa [Cond.value, given_1] using g0
    obtain ⟨L⟩ := args
    match L, hs with
    | [v0, v1], _ => exact ⟨v0, v1, rfl⟩
  have hw := fun d (hd : d ∈ tables_1) => atoms_spec (ws := Jvm.Cond.code x code maxLocals ret :: tables_1) hat d (List.mem_cons_of_mem _ hd)
  obtain ⟨i0, e0⟩ := is_v g1
  obtain rfl : v0 = (.int i0) := Option.some.inj e0
  obtain ⟨i1, e1⟩ := is_v hg
  obtain rfl : v1 = (.int i1) := Option.some.inj e1
  have hCH : CHv s EL1 s.vm s.heap := fun p hp => nomatch hp
  obtain ⟨n, o, h1, h2, h3, _, L, sn, rfl, ⟨rfl, -⟩, -, -, N, -, hnw, hq⟩ := ct_law hw l true false rfl s.heap i0 i1 tables_1 p e ha hc hk s m _ below hf ((Spec.applies_iff_loose hf).mp happ).1 ⟨rfl, State.Warmed39.refl s, rfl, hCH, Ext.rfl' _, fun _ q => nomatch q⟩ (fun q => nomatch q)
  refine ⟨n, _, h1, h2, h3, hpost _ _ _ _ _ _ ⟨Cond.after_iff.mpr rfl, Cond.after_iff.mpr (eq_i res_at (Term.int_eval (1)) rfl), trivial⟩ ⟨hq.1, hnw rfl, (hq.2.2.2.sift fun y hy => Or.inr (N y hy)).mono (by decide) (by decide)⟩⟩
theorem main_1_1 : Claimed_1_1 := comes_1 fun _ _ _ _ _ _ h hF => ⟨h.1, hF⟩
theorem main_1_2 : Claimed_1_2 := comes_1 fun _ _ _ _ _ _ h hF => ⟨h.2.1, hF⟩
end Jvm.Pilot.@@N@@
namespace Jvm.Pilot.@@N@@
open Jvm Jvm.ClassFile Sem Op Lib Jvm.Free Jvm.Stand Jvm.Pilot.@@N@@.Jvm.D
/-! MADE BY PROGRAM (witnessworld.py) out of the Statement's table words and the real class files: 9 classes; the members and pool entries that the words name. The judged class is class 1, her method 1. -/
namespace start1
open Jvm.ClassFile
def u (s : String) : CpInfo := .utf8 (stringToUtf16 s)
/-- a pool by its gaps: so many unusable entries, then the entry; so many at the end -/
def gap : Nat → List CpInfo → List CpInfo
  | 0, r => r
  | n + 1, r => .unusable :: gap n r
def poolList (es : List (Nat × CpInfo)) (last : Nat) : List CpInfo := es.foldr (fun e r => gap e.1 (e.2 :: r)) (gap last [])
def pool (es : List (Nat × CpInfo)) (last : Nat) : Array CpInfo := ⟨poolList es last⟩
def fileOf (pool : Array CpInfo) (this : Nat) (attrs : Array Attribute := #[]) (ms : Array MethodInfo := #[]) (fl : Nat := 33) (sup : Nat := 0) (ifs : Array Nat := #[]) (fds : Array FieldInfo := #[]) : ClassFile where
  minorVersion := 0
  majorVersion := 65
  constantPool := pool
  accessFlags := fl
  thisClass := this
  superClass := sup
  interfaces := ifs
  fields := fds
  methods := ms
  attributes := attrs
def plain (name : String) (sup : Option ClassId) : Class where
  name := name
  kind := .ordinary
  loader := none
  accessFlags := 33
  super := sup
  interfaces := #[]
  cf := none
  fields := #[]
  methods := #[]
  instanceTypes := #[]
  staticTypes := #[]
  resolved := #[]
  callSites := []
  init := .initialized
  statics := none
  mirror := none

def pool0 : Array CpInfo := pool [(5, u "<init>"), (0, u "()V"), (1, .class_ 10), (1, u "java/lang/Object")] 113

def k0m0 : Method := { name := "<init>", desc := "()V", sig := { parameters := [], returnType := none }, accessFlags := 1, code := none }
/-- java/lang/Object -/
def k0 : Class := { plain "java/lang/Object" none with
  accessFlags := 33
  interfaces := #[]
  cf := some (fileOf pool0 8 #[] #[{ accessFlags := 1, nameIndex := 5, descriptorIndex := 6, attributes := #[] }] 33 0 #[] #[])
  fields := #[]
  methods := #[k0m0]
  instanceTypes := #[]
  staticTypes := #[]
  resolved := Array.replicate 124 none
  statics := none }

def pool1 : Array CpInfo := pool [(2, .class_ 4), (1, u "java/lang/Object"), (0, u "<init>"), (0, u "()V"), (0, .integer 1048575), (0, .double 4368491638549381120), (1, .double 4098275660907151360), (1, .methodref 13 14), (0, .class_ 15), (0, .nameAndType 16 17), (0, u "com/example/afterscore/afterscore/rescore/ProtectedCounts"), (0, u "negligible"), (0, u "(DI)D"), (0, .class_ 19), (0, u "com/example/afterscore/afterscore/rescore/ProtectedCountsNegligiblePinLaw"), (2, u "law"), (0, u "(II)Z")] 3

def k1m0 : Method := { name := "<init>", desc := "()V", sig := { parameters := [], returnType := none }, accessFlags := 1, code := none }
def k1c1 : Code := { maxStack := 6, maxLocals := 13, code := code, exceptionTable := #[], attributes := #[] }
def k1m1 : Method := { name := "law", desc := "(II)Z", sig := { parameters := [.int, .int], returnType := some .boolean }, accessFlags := 9, code := some k1c1 }
/-- com/example/afterscore/afterscore/rescore/ProtectedCountsNegligiblePinLaw -/
def k1 : Class := { plain "com/example/afterscore/afterscore/rescore/ProtectedCountsNegligiblePinLaw" (some 0) with
  accessFlags := 49
  interfaces := #[]
  cf := some (fileOf pool1 18 #[] #[{ accessFlags := 1, nameIndex := 5, descriptorIndex := 6, attributes := #[] }, { accessFlags := 9, nameIndex := 22, descriptorIndex := 23, attributes := #[] }] 49 2 #[] #[])
  fields := #[]
  methods := #[k1m0, k1m1]
  instanceTypes := #[]
  staticTypes := #[]
  resolved := Array.replicate 27 none
  statics := none }

def pool2 : Array CpInfo := pool [(2, .class_ 4), (1, u "java/lang/Object"), (3, .class_ 10), (1, u "com/example/afterscore/afterscore/rescore/ProtectedCounts"), (0, u "p"), (0, u "D"), (20, u "q"), (2, u "negligible"), (2, u "probabilities"), (0, u "[D"), (0, .double 4336966441157787648), (15, u "high"), (0, u "I"), (2, u "low"), (3, u "(DI)D")] 12

def k2c0 : Code := { maxStack := 8, maxLocals := 3, code := prog_8_method_2_code, exceptionTable := #[], attributes := #[] }
def k2m0 : Method := { name := "negligible", desc := "(DI)D", sig := { parameters := [.double, .int], returnType := some .double }, accessFlags := 8, code := some k2c0 }
/-- com/example/afterscore/afterscore/rescore/ProtectedCounts -/
def k2 : Class := { plain "com/example/afterscore/afterscore/rescore/ProtectedCounts" (some 0) with
  accessFlags := 48
  interfaces := #[]
  cf := some (fileOf pool2 8 #[] #[{ accessFlags := 8, nameIndex := 36, descriptorIndex := 65, attributes := #[] }] 48 2 #[] #[{ accessFlags := 18, nameIndex := 11, descriptorIndex := 12, attributes := #[] }, { accessFlags := 18, nameIndex := 33, descriptorIndex := 12, attributes := #[] }, { accessFlags := 18, nameIndex := 36, descriptorIndex := 12, attributes := #[] }, { accessFlags := 18, nameIndex := 39, descriptorIndex := 40, attributes := #[] }, { accessFlags := 2, nameIndex := 61, descriptorIndex := 58, attributes := #[] }, { accessFlags := 2, nameIndex := 57, descriptorIndex := 58, attributes := #[] }])
  fields := #[{ name := "p", type := .double, accessFlags := 18, slot := 0, constantValue := 0 }, { name := "q", type := .double, accessFlags := 18, slot := 1, constantValue := 0 }, { name := "negligible", type := .double, accessFlags := 18, slot := 2, constantValue := 0 }, { name := "probabilities", type := (.array .double), accessFlags := 18, slot := 3, constantValue := 0 }, { name := "low", type := .int, accessFlags := 2, slot := 4, constantValue := 0 }, { name := "high", type := .int, accessFlags := 2, slot := 5, constantValue := 0 }]
  methods := #[k2m0]
  instanceTypes := #[.double, .double, .double, (.array .double), .int, .int]
  staticTypes := #[]
  resolved := Array.replicate 78 none
  statics := none }

def pool3 : Array CpInfo := pool [(1, u "java/lang/Cloneable"), (0, .class_ 1), (0, u "java/lang/Object"), (0, .class_ 3)] 3

/-- java/lang/Cloneable -/
def k3 : Class := { plain "java/lang/Cloneable" (some 0) with
  accessFlags := 1537
  interfaces := #[]
  cf := some (fileOf pool3 2 #[] #[] 1537 4 #[] #[])
  fields := #[]
  methods := #[]
  instanceTypes := #[]
  staticTypes := #[]
  resolved := Array.replicate 8 none
  statics := none }

def pool4 : Array CpInfo := pool [(1, u "java/io/Serializable"), (0, .class_ 1), (0, u "java/lang/Object"), (0, .class_ 3)] 3

/-- java/io/Serializable -/
def k4 : Class := { plain "java/io/Serializable" (some 0) with
  accessFlags := 1537
  interfaces := #[]
  cf := some (fileOf pool4 2 #[] #[] 1537 4 #[] #[])
  fields := #[]
  methods := #[]
  instanceTypes := #[]
  staticTypes := #[]
  resolved := Array.replicate 8 none
  statics := none }

/-- the primitive byte -/
def k5 : Class := { plain "byte" none with kind := .primitive 'B', accessFlags := 0x411 }
/-- [B -/
def k6 : Class := { plain "[B" (some 0) with kind := .array 5 .byte, interfaces := #[3, 4], accessFlags := 1041 }

/-- the primitive int -/
def k7 : Class := { plain "int" none with kind := .primitive 'I', accessFlags := 0x411 }
/-- [I -/
def k8 : Class := { plain "[I" (some 0) with kind := .array 7 .int, interfaces := #[3, 4], accessFlags := 1041 }

def heap : Heap := #[]
def classes : Array Class := #[k0, k1, k2, k3, k4, k5, k6, k7, k8]
def interned : List (Array UInt16 × Addr) := []
def slotsUsed : Nat := 0
def theMethod : MethodId := ⟨1, 1⟩
def args0 : Array Value := #[.int 5, .int 5]
def aboutOver (below : List Frame) : State where
  vm := { classes := classes, interned := interned.toArray }
  heap := heap
  slotsUsed := slotsUsed
  threads := #[{ frames := .invoking theMethod args0 :: below }]
def below0 : List Frame := [.native { method := ⟨0, 0⟩, args := #[] }]
def about1 : State := aboutOver below0
def p0 : Program := .bare "" "" ""
def e0 : Env := launch0.env 0 0 0
theorem w_frames : about1.frames = Frame.invoking theMethod args0 :: below0 := rfl
set_option maxRecDepth 65536 in
theorem w_args : argsFit about1.vm theMethod args0 = true := by decide +kernel
set_option maxRecDepth 65536 in
theorem w_heap : heapFits about1 = true := by decide +kernel
set_option maxRecDepth 65536 in
theorem w_runnable : about1.curStatus? = some .runnable := by decide +kernel
set_option maxRecDepth 65536 in
theorem w_alone : about1.alone = true := by decide +kernel
set_option maxRecDepth 65536 in
theorem w_named : about1.methodNamed? x = some theMethod := by decide +kernel
set_option maxRecDepth 65536 in
theorem w_hears : about1.hears theMethod below0 = true := by decide +kernel
set_option maxRecDepth 65536 in
theorem w_ripe : about1.ripe theMethod args0 below0 = true := by decide +kernel
theorem w_running : about1.status = .running := rfl
set_option maxRecDepth 65536 in
theorem w_room : about1.hasRoom e0.platform room_1 = true :=
  launch0.hasRoom_least _ room_1 (by decide +kernel) (by decide +kernel) (by decide +kernel) (by decide +kernel) (by decide +kernel) (by decide +kernel)
theorem allAtoms_all (ts : List Jvm.Cond) (a : Array Jvm.Value) (st : Jvm.State) : (allAtoms ts).before a st = ts.all (fun c => c.before a st) := by
  induction ts with
  | nil => rfl
  | cons c t ih =>
    show (Jvm.Cond.and c (allAtoms t)).before a st = _
    rw [Jvm.Cond.before_and, ih, List.all_cons]
def words1 : List Jvm.Cond := Jvm.Cond.code x code maxLocals ret :: tables_1
/-- a 'code' word, met by the world's own term for the bytes: nothing is compared byte by byte -/
theorem code_word {y : MethodName} {bytes : ByteArray} {mx : Nat} {rt : Option FieldType} {a : Array Value} {s : State} {m : MethodId} {meth : Method} {c : Code} (h1 : s.methodNamed? y = some m) (h2 : s.vm.method? m = some meth) (h3 : meth.code = some c) (h4 : c.code = bytes)
    (h5 : (c.maxLocals == mx && c.exceptionTable.isEmpty && decide (c.maxStack ≤ mostOperands) && decide (meth.sig.returnType = rt) && !meth.locks && decide (parseMethodDescriptor y.desc = some meth.sig)) = true) : (Jvm.Cond.code y bytes mx rt).before a s = true := by
  simp only [Bool.and_eq_true, beq_iff_eq, Bool.not_eq_true', decide_eq_true_eq] at h5
  obtain ⟨⟨⟨⟨⟨g1, g2⟩, g3⟩, g4⟩, g5⟩, g6⟩ := h5
  simp [Cond.before, Cond.holds, Cond.value, h1, h2, h3, h4, g1, g2, g3, g4, g5, g6]
def isCode : Jvm.Cond → Bool
  | .code _ _ _ _ => true
  | _ => false
theorem all_split {L : List Jvm.Cond} {P : Jvm.Cond → Bool} (h1 : L.all (fun c => isCode c || P c) = true) (h2 : ∀ c ∈ L.filter isCode, P c = true) : L.all P = true := by
  refine List.all_eq_true.mpr fun c hc => ?_
  have h := List.all_eq_true.mp h1 c hc
  rcases Bool.eq_false_or_eq_true (isCode c) with hi | hi
  · exact h2 c (List.mem_filter.mpr ⟨hc, hi⟩)
  · simpa [hi] using h
set_option maxRecDepth 65536 in
theorem w_c0 : (Jvm.Cond.code x code maxLocals ret).before args0 about1 = true := code_word (m := ⟨1, 1⟩) (meth := k1m1) (c := k1c1) (by decide +kernel) rfl rfl rfl (by decide +kernel)
set_option maxRecDepth 65536 in
theorem w_c1 : (Jvm.Cond.code ({ cls := "com/example/afterscore/afterscore/rescore/ProtectedCounts", name := "negligible", desc := "(DI)D" } : Jvm.MethodName) prog_8_method_2_code (3 : Nat) (Option.some Jvm.ClassFile.FieldType.double)).before args0 about1 = true := code_word (m := ⟨2, 0⟩) (meth := k2m0) (c := k2c0) (by decide +kernel) rfl rfl rfl (by decide +kernel)
def codes1 : List Jvm.Cond := [Jvm.Cond.code x code maxLocals ret, Jvm.Cond.code ({ cls := "com/example/afterscore/afterscore/rescore/ProtectedCounts", name := "negligible", desc := "(DI)D" } : Jvm.MethodName) prog_8_method_2_code (3 : Nat) (Option.some Jvm.ClassFile.FieldType.double)]
set_option maxRecDepth 65536 in
theorem codes_eq : words1.filter isCode = codes1 := rfl
theorem w_codes : ∀ c ∈ words1.filter isCode, c.before args0 about1 = true := by
  rw [codes_eq]
  intro c hc
  simp only [codes1, List.mem_cons, List.not_mem_nil, or_false] at hc
  rcases hc with rfl | rfl
  · exact w_c0
  · exact w_c1
set_option maxRecDepth 65536 in
theorem w_t1 : words1.all (fun c => isCode c || c.before args0 about1) = true := by decide +kernel
theorem w_tables : (allAtoms (Jvm.Cond.code x code maxLocals ret :: tables_1)).before args0 about1 = true := by
  rw [allAtoms_all]
  show words1.all (fun c => c.before args0 about1) = true
  refine all_split ?_ w_codes
  rw [w_t1]
set_option maxRecDepth 65536 in
theorem w_case : (Jvm.Cond.and given_1 narrow_1).before args0 about1 = true := by decide +kernel
theorem w_applies : (headSpec (Jvm.Cond.code x code maxLocals ret :: tables_1) room_1).applies x e0.platform about1 = true :=
  (Spec.applies_iff w_frames).mpr ⟨w_running, w_runnable, w_alone, w_named, w_hears, w_ripe, w_room, w_tables⟩
theorem atStart : AtStart classFile x code maxLocals ret World_1 tables_1 room_1 Calls_1 rest_1 Pre_1 launch0 p0 e0 about1 theMethod args0 below0 :=
  ⟨lists_1, trivial, launch0.admits_env _ _ _, launch0.least_env, fairChoices_fair.cas, fairChoices_fair.clock, w_frames, w_args, w_heap, w_applies, trivial, trivial, w_case⟩
end start1
theorem witness_1 : WitnessClaimed_1 := ⟨start1.p0, start1.e0, start1.about1, start1.theMethod, start1.args0, start1.below0, start1.atStart⟩
end Jvm.Pilot.@@N@@
