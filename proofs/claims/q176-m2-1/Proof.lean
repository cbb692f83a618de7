import JvmDerived
import JvmDerived.Pilot.@@N@@Statement
import JvmDerived.Pilot.@@N@@Code
set_option linter.unusedVariables false
set_option linter.unusedSimpArgs false
namespace Jvm.Own
open Jvm Jvm.ClassFile Sem Op Lib Jvm.Free Jvm.Stand Jvm.LawKit Jvm.RoadKit Bundle
/-! OWN LAYER: one bundle (W) for all that a walk knows of the machine; one goal (Go): from this state the method returns as Q says. Every step is a law 'W.step w .. : Go (behind) → Go (before)'. -/
abbrev Ka : Type := Program × Env × State × MethodId × List Frame × Method × Code × Array Value
abbrev kp (κ : Ka) : Program := κ.1
abbrev ke (κ : Ka) : Env := κ.2.1
abbrev ks (κ : Ka) : State := κ.2.2.1
abbrev km (κ : Ka) : MethodId := κ.2.2.2.1
abbrev kb (κ : Ka) : List Frame := κ.2.2.2.2.1
abbrev kt (κ : Ka) : Method := κ.2.2.2.2.2.1
abbrev kc (κ : Ka) : Code := κ.2.2.2.2.2.2.1
abbrev ka (κ : Ka) : Array Value := κ.2.2.2.2.2.2.2
/-- how a walk ends: the wide frame; under nar the narrow one too -/
def EndOk (nw : Bool) (U : State) (o : Outcome) (U' : State) (L : List Loc) (k n : Nat) : Prop := ReturnedEndW U o U' L k n ∧ (nw = true → FrameEnd U o U' L k n)
/-- the places that the walk may write: made since the law's start, and no String constant's -/
def Mut (Z : State) (EL : List (String × Nat)) (vm : Vm) (h : Heap) (M : List Addr) : Prop := ∀ x ∈ M, Z.heap.size ≤ x ∧ x < h.size ∧ Safe Z EL vm h x
def Ctr (l : Launch) (Z : State) (EL : List (String × Nat)) (nw : Bool) (y : MethodName) (bytes : ByteArray) (ml : Nat) (ret : Option FieldType) (rm : Room) (as : List Value) (h0 : Heap) (M : List Addr) (Q : Option Value → Heap → List Addr → Prop) : Prop :=
  MetFree l y (head1 [Cond.code y bytes ml ret] rm) (fun a U => a = as.toArray ∧ Z.Warmed39 U.vm ∧ U.heap = h0 ∧ CHv Z EL U.vm h0 ∧ Mut Z EL U.vm h0 M) (fun _ _ _ _ _ => True)
    (fun _ U o U' => ∃ v L M', o = .returned v ∧ Q v U'.heap M' ∧ Fr Z.heap.size L ∧ CHr Z EL U.vm U.heap U'.vm U'.heap ∧ Mut Z EL U'.vm U'.heap M' ∧ Old Z Z.heap.size U'.heap ∧ EndOk nw U o U' L rm.cells rm.slots)
def W (l : Launch) (Z : State) (a0 : Array Value) (EL : List (String × Nat)) (nw : Bool) (own : String) (bytes : ByteArray) (ml : Nat) (ret : Option FieldType) (R : Room) (κ : Ka) (T : State) (h : Heap) (M : List Addr) (cells slots : Nat) : Prop :=
  ((kp κ).tables.exec = Jvm.exec ∧ (kc κ).code = bytes ∧ (kc κ).maxLocals = ml ∧ (kt κ).sig.returnType = ret ∧ (kt κ).locks = false ∧ EW Z a0 EL) ∧
  ∃ (vm0 : Vm) (k0 : Nat) (locs : List Loc), Stand (kp κ) l (ke κ) R ((ks κ).setVm vm0) (km κ) (ka κ) (kb κ) (kt κ) (kc κ) T locs cells slots ∧ Fr Z.heap.size locs ∧ Z.Warmed39 vm0 ∧ vm0.findClass own = some (km κ).cls ∧ (ks κ).Since vm0 k0 ∧ k0 ≤ h.size ∧ T.heap = h ∧
    CHr Z EL (ks κ).vm (ks κ).heap vm0 h ∧ Mut Z EL vm0 h M ∧ Old Z Z.heap.size h ∧ (nw = true → (ks κ).WarmedH vm0)
def Go (Z : State) (EL : List (String × Nat)) (nw : Bool) (R : Room) (κ : Ka) (Q : Option Value → Heap → List Addr → Prop) (U : State) : Prop :=
  ∃ s₂ o, Steps (kp κ).tables (ke κ) (kb κ) U s₂ ∧ s₂.status = .running ∧ Ended s₂ (kb κ) o ∧ ∃ v L M', o = .returned v ∧ Q v s₂.heap M' ∧ Fr Z.heap.size L ∧ CHr Z EL (ks κ).vm (ks κ).heap s₂.vm s₂.heap ∧ Mut Z EL s₂.vm s₂.heap M' ∧ Old Z Z.heap.size s₂.heap ∧ EndOk nw (ks κ) o s₂ L R.cells R.slots
section Base
variable {l : Launch} {Z : State} {a0 : Array Value} {EL : List (String × Nat)} {nw : Bool} {own : String} {bytes : ByteArray} {ml : Nat} {ret : Option FieldType} {R : Room} {κ : Ka} {T : State} {h : Heap} {M : List Addr} {cells slots : Nat} {Q : Option Value → Heap → List Addr → Prop} {U U' : State} {G : JFrame}
theorem Go.via (st : ∀ t, Steps (kp κ).tables (ke κ) (kb κ) U' t → Steps (kp κ).tables (ke κ) (kb κ) U t) (g : Go Z EL nw R κ Q U') : Go Z EL nw R κ Q U := by
  obtain ⟨s₂, o, h1, r⟩ := g
  exact ⟨s₂, o, st _ h1, r⟩
theorem Go.tr (st : Steps (kp κ).tables (ke κ) (kb κ) U U') (g : Go Z EL nw R κ Q U') : Go Z EL nw R κ Q U := Go.via (fun _ k => st.trans k) g
theorem Go.mono {Q' : Option Value → Heap → List Addr → Prop} (g : Go Z EL nw R κ Q U) (q : ∀ v h M, Q v h M → Q' v h M) : Go Z EL nw R κ Q' U := by
  obtain ⟨s₂, o, h1, h2, h3, v, L, M', h4, h5, r⟩ := g
  exact ⟨s₂, o, h1, h2, h3, v, L, M', h4, q _ _ _ h5, r⟩
theorem W.old (w : W l Z a0 EL nw own bytes ml ret R κ T h M cells slots) : Old Z Z.heap.size h := by
  obtain ⟨-, vm0, k0, locs, -, -, -, -, -, -, -, -, -, hO, -⟩ := w
  exact hO
theorem W.ew (w : W l Z a0 EL nw own bytes ml ret R κ T h M cells slots) : EW Z a0 EL := w.1.2.2.2.2.2
theorem W.mut (w : W l Z a0 EL nw own bytes ml ret R κ T h M cells slots) {x : Addr} (hx : x ∈ M) : Z.heap.size ≤ x ∧ x < h.size := by
  obtain ⟨-, vm0, k0, locs, -, -, -, -, -, -, -, -, hM, -⟩ := w
  exact ⟨(hM x hx).1, (hM x hx).2.1⟩
theorem W.grow (w : W l Z a0 EL nw own bytes ml ret R κ T h M cells slots) {cells' slots' : Nat} (hc : cells ≤ cells') (hs : slots ≤ slots') : W l Z a0 EL nw own bytes ml ret R κ T h M cells' slots' := by
  obtain ⟨hC, vm0, k0, locs, X, r⟩ := w
  exact ⟨hC, vm0, k0, locs, X.mono hc hs, r⟩
theorem W.less (w : W l Z a0 EL nw own bytes ml ret R κ T h M cells slots) {M' : List Addr} (hM : ∀ x ∈ M', x ∈ M) : W l Z a0 EL nw own bytes ml ret R κ T h M' cells slots := by
  obtain ⟨hC, vm0, k0, locs, X, h1, h2, h3, h4, h5, h6, h7, h8, r⟩ := w
  exact ⟨hC, vm0, k0, locs, X, h1, h2, h3, h4, h5, h6, h7, fun x hx => h8 x (hM x hx), r⟩
/-- a pure step -/
theorem W.pure (w : W l Z a0 EL nw own bytes ml ret R κ T h M cells slots) (st : (kp κ).tables.exec = Jvm.exec → (kc κ).code = bytes → At T (km κ) (kc κ) (kb κ) → ∀ t, Steps (kp κ).tables (ke κ) (kb κ) U' t → Steps (kp κ).tables (ke κ) (kb κ) U t) (g : Go Z EL nw R κ Q U') : Go Z EL nw R κ Q U := by
  obtain ⟨⟨hx, hby, -⟩, vm0, k0, locs, X, -⟩ := w
  exact Go.via (st hx hby X.here) g
/-- the tables have moved by a resolution alone -/
theorem W.noted (w : W l Z a0 EL nw own bytes ml ret R κ T h M cells slots) (st : ∀ (s : State) (locs : List Loc), (kp κ).tables.exec = Jvm.exec → (kc κ).code = bytes → (kc κ).maxLocals = ml → Z.Warmed39 s.vm → s.vm.findClass own = some (km κ).cls → T.heap = h → Stand (kp κ) l (ke κ) R s (km κ) (ka κ) (kb κ) (kt κ) (kc κ) T locs cells slots →
      ∃ T', Stand (kp κ) l (ke κ) R s (km κ) (ka κ) (kb κ) (kt κ) (kc κ) T' locs cells slots ∧ T'.heap = h ∧ ∀ t, Steps (kp κ).tables (ke κ) (kb κ) (T'.setTop G) t → Steps (kp κ).tables (ke κ) (kb κ) U t)
    (g : ∀ T', W l Z a0 EL nw own bytes ml ret R κ T' h M cells slots → Go Z EL nw R κ Q (T'.setTop G)) : Go Z EL nw R κ Q U := by
  obtain ⟨hC, vm0, k0, locs, X, h1, h2, h3, h4, h5, h6, r⟩ := w
  obtain ⟨T', X', e', k⟩ := st ((ks κ).setVm vm0) locs hC.1 hC.2.1 hC.2.2.1 h2 h3 h6 X
  exact Go.via k (g T' ⟨hC, vm0, k0, locs, X', h1, h2, h3, h4, h5, e', r⟩)
theorem mem0 {x : Addr} {L : List Addr} : x ∈ x :: L := List.mem_cons_self ..
theorem memS {x y : Addr} {L : List Addr} (q : x ∈ L) : x ∈ y :: L := List.mem_cons_of_mem _ q
theorem memA {x : Addr} {L K : List Addr} (q : x ∈ K) : x ∈ L ++ K := List.mem_append_right _ q
theorem memB {x : Addr} {L K : List Addr} (q : x ∈ L) : x ∈ L ++ K := List.mem_append_left _ q
theorem keepE {h h' : Heap} (E : Ext h h') : Keep h h' [] := (Keep.refl h []).ext E
theorem neL {x a : Addr} {h : Heap} (q : x < h.size) (r : h.size ≤ a) : x ≠ a := Nat.ne_of_lt (Nat.lt_of_lt_of_le q r)
/-- something was made: an object or an array, as Ext says; its place may be written -/
theorem W.made (w : W l Z a0 EL nw own bytes ml ret R κ T h M cells slots) {k n : Nat} {P : Heap → Prop} (st : ∀ (s : State) (locs : List Loc), (kp κ).tables.exec = Jvm.exec → (kc κ).code = bytes → (kc κ).maxLocals = ml → Z.Warmed39 s.vm → s.vm.findClass own = some (km κ).cls → T.heap = h → Stand (kp κ) l (ke κ) R s (km κ) (ka κ) (kb κ) (kt κ) (kc κ) T locs cells slots →
      ∃ T' h', Stand (kp κ) l (ke κ) R s (km κ) (ka κ) (kb κ) (kt κ) (kc κ) T' locs (cells + k) (slots + n) ∧ T'.heap = h' ∧ Ext h h' ∧ h.size < h'.size ∧ P h' ∧ ∀ t, Steps (kp κ).tables (ke κ) (kb κ) (T'.setTop G) t → Steps (kp κ).tables (ke κ) (kb κ) U t)
    (g : ∀ T' h', W l Z a0 EL nw own bytes ml ret R κ T' h' (h.size :: M) (cells + k) (slots + n) → Keep h h' [] → P h' → Go Z EL nw R κ Q (T'.setTop G)) : Go Z EL nw R κ Q U := by
  obtain ⟨hC, vm0, k0, locs, X, h1, h2, h3, h4, h5, h6, h7, h8, h9, r⟩ := w
  obtain ⟨T', h', X', e', E, hlt, hP, k⟩ := st ((ks κ).setVm vm0) locs hC.1 hC.2.1 hC.2.2.1 h2 h3 h6 X
  refine Go.via k (g T' h' ⟨hC, vm0, k0, locs, X', h1, h2, h3, h4, Nat.le_trans h5 E.1, e', h7.trans (CHr.ext E h7.1), fun x hx => ?_, h9.ext E, r⟩ (keepE E) hP)
  rcases List.mem_cons.mp hx with rfl | hx
  · exact ⟨h9.1 ▸ h9.2.1, hlt, Safe.ext E h7.1 (Safe.new (Nat.le_refl _))⟩
  · obtain ⟨a, b, c⟩ := h8 x hx
    exact ⟨a, Nat.lt_of_lt_of_le b E.1, Safe.ext E h7.1 c⟩
/-- one place was written -/
theorem W.wrote (w : W l Z a0 EL nw own bytes ml ret R κ T h M cells slots) {a : Addr} (ha : a ∈ M) {sl : Nat} {v : Value} (st : ∀ (s : State) (locs : List Loc), (kp κ).tables.exec = Jvm.exec → (kc κ).code = bytes → (kc κ).maxLocals = ml → Z.Warmed39 s.vm → s.vm.findClass own = some (km κ).cls → T.heap = h → Stand (kp κ) l (ke κ) R s (km κ) (ka κ) (kb κ) (kt κ) (kc κ) T locs cells slots →
      ∃ T' h', Stand (kp κ) l (ke κ) R s (km κ) (ka κ) (kb κ) (kt κ) (kc κ) T' (locs ++ [⟨a, sl⟩]) cells slots ∧ T'.heap = h' ∧ Wr h h' a sl v ∧ ∀ t, Steps (kp κ).tables (ke κ) (kb κ) (T'.setTop G) t → Steps (kp κ).tables (ke κ) (kb κ) U t)
    (g : ∀ T' h', W l Z a0 EL nw own bytes ml ret R κ T' h' M cells slots → Wr h h' a sl v → Go Z EL nw R κ Q (T'.setTop G)) : Go Z EL nw R κ Q U := by
  obtain ⟨hC, vm0, k0, locs, X, h1, h2, h3, h4, h5, h6, h7, h8, h9, r⟩ := w
  obtain ⟨T', h', X', e', Wr', k⟩ := st ((ks κ).setVm vm0) locs hC.1 hC.2.1 hC.2.2.1 h2 h3 h6 X
  obtain ⟨a1, a2, a3⟩ := h8 a ha
  refine Go.via k (g T' h' ⟨hC, vm0, k0, _, X', Fr.snoc X' h1 a1, h2, h3, h4, by rw [Wr'.size]; exact h5, e', h7.trans (CHr.wr Wr' a3 h7.1), fun x hx => ?_, h9.wr Wr' a1, r⟩ Wr')
  obtain ⟨a, b, c⟩ := h8 x hx
  exact ⟨a, by rw [Wr'.size]; exact b, Safe.wr Wr' a3 h7.1 c⟩
/-- old places among ws were written, at once -/
theorem W.kept (w : W l Z a0 EL nw own bytes ml ret R κ T h M cells slots) {ws : List Addr} (hws : ∀ x ∈ ws, x ∈ M) {P : Heap → Prop} (st : ∀ (s : State) (locs : List Loc), (kp κ).tables.exec = Jvm.exec → (kc κ).code = bytes → (kc κ).maxLocals = ml → Z.Warmed39 s.vm → s.vm.findClass own = some (km κ).cls → T.heap = h → Fr Z.heap.size locs → Stand (kp κ) l (ke κ) R s (km κ) (ka κ) (kb κ) (kt κ) (kc κ) T locs cells slots →
      ∃ T' h' L, Stand (kp κ) l (ke κ) R s (km κ) (ka κ) (kb κ) (kt κ) (kc κ) T' L cells slots ∧ T'.heap = h' ∧ Fr Z.heap.size L ∧ Keep h h' ws ∧ P h' ∧ ∀ t, Steps (kp κ).tables (ke κ) (kb κ) (T'.setTop G) t → Steps (kp κ).tables (ke κ) (kb κ) U t)
    (g : ∀ T' h', W l Z a0 EL nw own bytes ml ret R κ T' h' M cells slots → Keep h h' ws → P h' → Go Z EL nw R κ Q (T'.setTop G)) : Go Z EL nw R κ Q U := by
  obtain ⟨hC, vm0, k0, locs, X, h1, h2, h3, h4, h5, h6, h7, h8, h9, r⟩ := w
  obtain ⟨T', h', L, X', e', N', K, hP, k⟩ := st ((ks κ).setVm vm0) locs hC.1 hC.2.1 hC.2.2.1 h2 h3 h6 h1 X
  have hs : ∀ x ∈ ws, Safe Z EL vm0 h x := fun x hx => (h8 x (hws x hx)).2.2
  refine Go.via k (g T' h' ⟨hC, vm0, k0, L, X', N', h2, h3, h4, Nat.le_trans h5 K.1, e', h7.trans (CHr.keep K hs h7.1), fun x hx => ?_, h9.keep K (fun x hx => (h8 x (hws x hx)).1), r⟩ K hP)
  obtain ⟨a, b, c⟩ := h8 x hx
  exact ⟨a, Nat.lt_of_lt_of_le b K.1, Safe.keep K hs h7.1 c⟩
/-- the walk leaves -/
theorem W.leave (w : W l Z a0 EL nw own bytes ml ret R κ T h M cells slots) {v : Option Value} (hv : ret = none → v = none) (hc : cells ≤ R.cells) (hs : slots ≤ R.slots) {M' : List Addr} (hM : ∀ x ∈ M', x ∈ M) (hq : Q v h M')
    (st : ∀ (s : State) (locs : List Loc) (fs : List Frame), (kp κ).tables.exec = Jvm.exec → (kc κ).code = bytes → (kt κ).sig.returnType = ret → Stand (kp κ) l (ke κ) R s (km κ) (ka κ) (kb κ) (kt κ) (kc κ) T locs cells slots →
      (∀ (f : JFrame) (acts : List Action), f.method = km κ → f.locked = none → f.entered = [] → (doReturn (ke κ) (T.setTop f) acts v).1 = T.setFrames fs) → Steps (kp κ).tables (ke κ) (kb κ) U (T.setFrames fs)) : Go Z EL nw R κ Q U := by
  obtain ⟨⟨hx, hby, hml, hret, hlk, hEL⟩, vm0, k0, locs, X, h1, h2, h3, h4, h5, h6, h7, h8, h9, h10⟩ := w
  obtain ⟨fs, l1, l2, l3, l4, l5⟩ := X.leave (v := v) (fun q => hv (hret.symm.trans q)) hlk
  have A := CHv.at X h2 hEL h7.1
  obtain ⟨b1, b2, b3⟩ := h4.ended (U := T.setFrames fs) l4 (by show k0 ≤ T.heap.size; rw [h6]; exact h5) l5
  refine ⟨T.setFrames fs, _, st _ locs fs hx hby hret X l1, l2, l3, v, locs, M', rfl, ?_, h1, ?_, ?_, ?_, ⟨⟨⟨_, rfl⟩, b1, b2, b3.mono hc hs⟩, fun q => ⟨⟨_, rfl⟩, State.WarmedH.trans (h10 q) l4, b3.mono hc hs⟩⟩⟩
  · show Q v T.heap M'
    rw [h6]; exact hq
  · show CHr Z EL (ks κ).vm (ks κ).heap T.vm T.heap
    rw [h6]; exact h7.trans A
  · intro x hx
    obtain ⟨a, b, c⟩ := h8 x (hM x hx)
    show Z.heap.size ≤ x ∧ x < T.heap.size ∧ Safe Z EL T.vm T.heap x
    rw [h6]; exact ⟨a, b, A.safe b c⟩
  · show Old Z Z.heap.size T.heap
    rw [h6]; exact h9
/-- entering a body -/
theorem of_body {y : MethodName} {rm : Room} {as : List Value} {h0 : Heap} (hp : plainFor y = true) (hEL : EW Z a0 EL) (hO : Old Z Z.heap.size h0) {Ls : Array Slot} (hent : ∀ m, entryFrame m as.toArray ml = mkF m 0 Ls [])
    (body : ∀ (κ : Ka) (T : State), W l Z a0 EL nw y.cls bytes ml ret rm κ T h0 M 0 0 → (kt κ).name = y.name → Go Z EL nw rm κ Q (T.setTop (mkF (km κ) 0 Ls []))) : Ctr l Z EL nw y bytes ml ret rm as h0 M Q := by
  refine MetFree.of_bodySF hp hisR ?_
  intro p e s m args below meth c s₁ Bd hml0 hP hK
  obtain ⟨rfl, hZ, hh, hCH, hMu⟩ := hP
  have X0 : Stand p l e rm s m as.toArray below meth c s₁ [] 0 0 := Stand.of_body Bd
  have e0 : s₁.heap = h0 := by rw [← hh, Bd.state]; rfl
  have hnm := (name_of_methodNamed Bd.named Bd.method).1
  have w : W l Z a0 EL nw y.cls bytes ml ret rm (p, e, s, m, below, meth, c, as.toArray) s₁ h0 M 0 0 :=
    ⟨⟨Bd.exec, Bd.bytes, hml0, Bd.returns, BodyLoose.notSynchronized Bd, hEL⟩, s.vm, 0, [], X0, Fr.nil _, hZ, findClass_of_methodNamed Bd.named, (State.WarmedH.refl s).since 0, Nat.zero_le _, e0, hh ▸ CHr.refl (hh ▸ hCH), hMu, hO, fun _ => State.WarmedH.refl s⟩
  have g := body _ s₁ w hnm
  rw [← hent] at g
  exact g
end Base
section Calls
variable {l : Launch} {Z : State} {a0 : Array Value} {EL : List (String × Nat)} {nw : Bool} {own : String} {bytes : ByteArray} {ml : Nat} {ret : Option FieldType} {R : Room} {κ : Ka} {T : State} {h : Heap} {M : List Addr} {cells slots : Nat} {Q : Option Value → Heap → List Addr → Prop} {U U' : State} {G : JFrame}
/-- who pays a call of y with the arguments as at the heap h -/
def Pay (l : Launch) (Z : State) (EL : List (String × Nat)) (nw : Bool) (y : MethodName) (len kf kl kn kw : Nat) (as : List Value) (h : Heap) (M : List Addr) (Q : Option Value → Heap → List Addr → Prop) : Prop :=
  ∀ (R : Room) (p : Program) (e : Env) (below : List Frame) (s : State) (vm0 : Vm) (args : Array Value) (Wd : Nat), Z.Warmed39 vm0 → CHv Z EL vm0 h → Mut Z EL vm0 h M → kf ≤ R.frames → Wd + kl ≤ R.locals →
    BackS l R p e below (s.setVm vm0) args y len Wd (fun P a => a = as.toArray ∧ P.U.heap = h ∧ P.cells + kn ≤ R.cells ∧ P.slots + kw ≤ R.slots)
      (fun P _ v B => ∃ L M', Q v B.U.heap M' ∧ Fr Z.heap.size L ∧ B.locs = P.locs ++ L ∧ B.cells = P.cells + kn ∧ B.slots = P.slots + kw ∧ CHr Z EL vm0 h B.U.vm B.U.heap ∧ Mut Z EL B.U.vm B.U.heap M' ∧ Old Z Z.heap.size B.U.heap ∧ (nw = true → (s.setVm vm0).WarmedH B.U.vm))
theorem Mut.at {vm0 vm1 : Vm} {h' : Heap} (C : CHr Z EL vm0 h vm1 h') (m : Mut Z EL vm0 h M) : Mut Z EL vm1 h' M := fun x hx => by
  obtain ⟨a, b, c⟩ := m x hx
  exact ⟨a, Nat.lt_of_lt_of_le b C.2.1, C.safe b c⟩
theorem Ctr.pay {y : MethodName} {rm : Room} {as : List Value} {len : Nat} (hM : Ctr l Z EL nw y bytes ml ret rm as h M Q) (hEL : EW Z a0 EL) (wc : (Cond.code y bytes ml ret).before a0 Z = true) (wz : (Cond.initialized y.cls).before a0 Z = true) {kf kl : Nat} (ekf : rm.frames + 1 ≤ kf) (ekl : ml + 11 + rm.locals ≤ kl) :
    Pay l Z EL nw y len kf kl rm.cells rm.slots as h M Q := by
  intro R p e below s vm0 args Wd hZ H hMu hf hl
  refine BackS.of_freeW (bytes := bytes) (maxL := ml) (ret := ret) (E := fun _ first o t L k n => k = rm.cells ∧ n = rm.slots ∧ ∃ v M', o = .returned v ∧ Q v t.heap M' ∧ Fr Z.heap.size L ∧ CHr Z EL first.vm first.heap t.vm t.heap ∧ Mut Z EL t.vm t.heap M' ∧ Old Z Z.heap.size t.heap ∧ (nw = true → first.WarmedH t.vm)) hM (Nat.le_trans ekf hf) (by show Wd + (ml + 11) + rm.locals ≤ R.locals; omega)
    (fun m meth c A a Y hp => have hU : Z.Warmed39 A.U.vm := wtrans (s := s.setVm vm0) hZ Y.warmed
      ⟨by show (Cond.and _ .tt).before a A.U = true; rw [Cond.before_and, mv hU wc]; rfl, mv hU wc, mv hU wz, hp.2.2.1, hp.2.2.2⟩)
    (fun m meth c A a g mk Y hp => ⟨hp.1, wtrans (s := s.setVm vm0) hZ Y.warmed, hp.2.1, (CHv.at Y hZ hEL H).1, (show Mut Z EL A.U.vm h M from hMu.at (CHv.at Y hZ hEL H))⟩) (fun _ _ _ _ _ _ _ _ _ => trivial)
    (fun _ _ _ _ ⟨v, L, M', h1, h2, h3, h4, h5, h6, h7⟩ => ⟨L, _, _, h7.1, rfl, rfl, v, M', h1, h2, h3, h4, h5, h6, fun q => (h7.2 q).2.1⟩)
    (fun m meth c A a g mk v t L k n Y hp _ _ ⟨e1, e2, v', M', e3, e4, e5, e6, e7, e8, e9⟩ => by
      cases e3; subst e1 e2
      refine ⟨L, M', e4, e5, rfl, rfl, rfl, (CHv.at Y hZ hEL H).trans ?_, e7, e8, fun q => State.WarmedH.trans Y.warmed (e9 q)⟩
      rw [← hp.2.1]; exact e6)
theorem Pay.of_back {y : MethodName} {as : List Value} {len kf kl kn kw : Nat} {Q' : Option Value → Heap → List Loc → Prop} {ws : List Addr} (hEL : EW Z a0 EL) (hO : Old Z Z.heap.size h)
    (hB : ∀ (R : Room) (p : Program) (e : Env) (below : List Frame) (s : State) (args : Array Value) (Wd : Nat), Z.Warmed39 s.vm → kf ≤ R.frames → Wd + kl ≤ R.locals →
      Back l R p e below s args y len Wd (fun P a => a = as.toArray ∧ P.U.heap = h ∧ P.cells + kn ≤ R.cells ∧ P.slots + kw ≤ R.slots) (fun P _ v B => ∃ L, Q' v B.U.heap L ∧ B.locs = P.locs ++ L ∧ B.cells = P.cells + kn ∧ B.slots = P.slots + kw))
    (hws : ∀ x ∈ ws, x ∈ M) (hQ : ∀ v h' L, Q' v h' L → Q v h' [] ∧ Fr Z.heap.size L ∧ Keep h h' ws) : Pay l Z EL nw y len kf kl kn kw as h M Q := by
  intro R p e below s vm0 args Wd hZ H hMu hf hl m meth c A g ig mk a X hg hsize hdg hW hn hp
  obtain ⟨v, B, X', ⟨L, q1, q2, q3, q4⟩, st⟩ := hB R p e below (s.setVm vm0) args Wd hZ hf hl m meth c A g ig mk a X hg hsize hdg hW hn hp
  obtain ⟨r1, r2, K⟩ := hQ _ _ _ q1
  have C1 := CHr.keep K (fun x hx => (hMu x (hws x hx)).2.2) H
  have C2 := C1.trans (CHv.at X' hZ hEL C1.1)
  refine ⟨v, B, X'.retabled X'.warmed.wide, X'.warmed.since _, by rw [hp.2.1]; exact K.1, ⟨L, [], r1, r2, q2, q3, q4, C2, (fun x hx => nomatch hx), hO.keep K (fun x hx => (hMu x (hws x hx)).1), fun _ => X'.warmed⟩, st⟩
/-- a call was made and paid -/
theorem W.called (w : W l Z a0 EL nw own bytes ml ret R κ T h M cells slots) {y : MethodName} {len kf kl kn kw : Nat} {as : List Value} {M0 : List Addr} {Qc : Option Value → Heap → List Addr → Prop} (P : Pay l Z EL nw y len kf kl kn kw as h M0 Qc) (hM0 : ∀ x ∈ M0, x ∈ M) {Wd : Nat} (hf : kf ≤ R.frames) (hlo : Wd + kl ≤ R.locals) (hcl : cells + kn ≤ R.cells) (hsl : slots + kw ≤ R.slots) {F : Option Value → JFrame}
    (st : ∀ (s : State) (locs : List Loc) (Post : Pt → Array Value → Option Value → Pt → Prop), (kp κ).tables.exec = Jvm.exec → (kc κ).code = bytes → (kc κ).maxLocals = ml → Z.Warmed39 s.vm → s.vm.findClass own = some (km κ).cls → T.heap = h → Stand (kp κ) l (ke κ) R s (km κ) (ka κ) (kb κ) (kt κ) (kc κ) T locs cells slots →
      BackS l R (kp κ) (ke κ) (kb κ) s (ka κ) y len Wd (fun P a => a = as.toArray ∧ P.U.heap = h ∧ P.cells + kn ≤ R.cells ∧ P.slots + kw ≤ R.slots) Post →
      ∃ (v : Option Value) (vm₁ : Vm) (B : Pt), s.WarmedH vm₁ ∧ Stand (kp κ) l (ke κ) R (s.setVm B.U.vm) (km κ) (ka κ) (kb κ) (kt κ) (kc κ) B.U B.locs B.cells B.slots ∧ s.Since B.U.vm B.U.heap.size ∧ T.heap.size ≤ B.U.heap.size ∧ Post ⟨T.setVm vm₁, locs, cells, slots⟩ as.toArray v B ∧ Steps (kp κ).tables (ke κ) (kb κ) U (B.U.setTop (F v)))
    (g : ∀ v T' h' M', W l Z a0 EL nw own bytes ml ret R κ T' h' (M' ++ M) (cells + kn) (slots + kw) → Qc v h' M' → Go Z EL nw R κ Q (T'.setTop (F v))) : Go Z EL nw R κ Q U := by
  obtain ⟨hC, vm0, k0, locs, X, h1, h2, h3, h4, h5, h6, h7, h8, h9, h10⟩ := w
  have hK := P R (kp κ) (ke κ) (kb κ) (ks κ) vm0 (ka κ) Wd h2 h7.1 (fun x hx => h8 x (hM0 x hx)) hf hlo
  obtain ⟨v, vm₁, ⟨T', L', c', n'⟩, hW, X', hS, hg, ⟨L, M', q1, q2, q3, q4, q5, q6, q7, q8, q9⟩, k⟩ := st ((ks κ).setVm vm0) locs _ hC.1 hC.2.1 hC.2.2.1 h2 h3 h6 X hK
  dsimp only [Pt.U, Pt.locs, Pt.cells, Pt.slots] at X' hS hg q1 q3 q4 q5 q6 q7 q8 q9 k
  subst q3 q4 q5
  refine Go.tr k (g v T' T'.heap M' ⟨hC, T'.vm, T'.heap.size, _, X', h1.app q2, State.Warmed39.trans (t := (ks κ).setVm vm0) h2 hS.1, ?_, h4.trans hS (by rw [← h6] at h5; exact Nat.le_trans h5 hg), Nat.le_refl _, rfl, h7.trans q6, fun x hx => ?_, q8, fun q => State.WarmedH.trans (h10 q) (q9 q)⟩ q1)
  · rw [hS.1.alike.findClass]; exact h3
  · rcases List.mem_append.mp hx with hx | hx
    · exact q7 x hx
    · exact (h8.at q6) x hx
theorem mr0 (m : MethodId) (pc : Nat) (Ls : Array Slot) (S : List Value) : (mkF m pc Ls S).monitorRoom = 0 := rfl
theorem W.callS (w : W l Z a0 EL nw own bytes ml ret R κ T h M cells slots) {index : Nat} {y : MethodName} {yb : ByteArray} {yl : Nat} {yr : Option FieldType} (w1 : (Cond.methodLink own index y).before a0 Z = true) (w2 : (Cond.static y).before a0 Z = true) (w3 : (Cond.initialized y.cls).before a0 Z = true) (w4 : (Cond.code y yb yl yr).before a0 Z = true)
    (hy : y.cls ≠ "java/lang/invoke/MethodHandle" ∧ y.cls ≠ "java/lang/invoke/VarHandle") {ps : List FieldType} {rt : Option FieldType} (hd : parseMethodDescriptor y.desc = some ⟨ps, rt⟩)
    {kf kl kn kw : Nat} {as : List Value} {M0 : List Addr} {Qc : Option Value → Heap → List Addr → Prop} (P : Pay l Z EL nw y 3 kf kl kn kw as h M0 Qc) (hM0 : ∀ x ∈ M0, x ∈ M) {pc pc' : Nat} {Ls : Array Slot} {S rest : List Value} (hdg : decode bytes pc = .ok (.invokestatic index, 3)) (hp : pc + 3 = pc') (hsz : Ls.size = ml) (hln : as.length = ps.length) (hst : S = as.reverse ++ rest)
    {Wd : Nat} (hwd : (rest.map fun v => v.category).sum = Wd) (hf : kf ≤ R.frames) (hlo : Wd + kl ≤ R.locals) (hcl : cells + kn ≤ R.cells) (hsl : slots + kw ≤ R.slots)
    (g : ∀ v T' h' M', W l Z a0 EL nw own bytes ml ret R κ T' h' (M' ++ M) (cells + kn) (slots + kw) → Qc v h' M' → Go Z EL nw R κ Q (T'.setTop (mkF (km κ) pc' Ls (v.toList ++ rest)))) : Go Z EL nw R κ Q (T.setTop (mkF (km κ) pc Ls S)) := by
  subst hp
  refine w.called P hM0 hf hlo hcl hsl (F := fun v => mkF (km κ) (pc + 3) Ls (v.toList ++ rest)) (fun s locs Post hx hby hml hZ hown eT X hK => ?_) g
  exact callSS X hx hown (mvT hZ w1) (mvT hZ w2) (mvT hZ w3) (mvT hZ w4) hy hK (g := mkF (km κ) pc Ls S) rfl (hsz.trans hml.symm) (lenOf hd hln) hst (by rw [mr0]; omega) (hb hby hdg) (fun vm₁ _ => ⟨rfl, eT, hcl, hsl⟩)
theorem W.callI (w : W l Z a0 EL nw own bytes ml ret R κ T h M cells slots) {index : Nat} {y : MethodName} {yb : ByteArray} {yl : Nat} (w1 : (Cond.methodLink own index y).before a0 Z = true) (w2 : (Cond.instanceMethod y).before a0 Z = true) (w4 : (Cond.code y yb yl none).before a0 Z = true) (hy1 : y.name = "<init>")
    (hy : y.cls ≠ "java/lang/invoke/MethodHandle" ∧ y.cls ≠ "java/lang/invoke/VarHandle") {ps : List FieldType} {rt : Option FieldType} (hd : parseMethodDescriptor y.desc = some ⟨ps, rt⟩)
    {kf kl kn kw : Nat} {a : Addr} {as : List Value} {M0 : List Addr} {Qc : Option Value → Heap → List Addr → Prop} (P : Pay l Z EL nw y 3 kf kl kn kw (.ref a :: as) h M0 Qc) (hM0 : ∀ x ∈ M0, x ∈ M) {pc pc' : Nat} {Ls : Array Slot} {S rest : List Value} (hdg : decode bytes pc = .ok (.invokespecial index, 3)) (hp : pc + 3 = pc') (hsz : Ls.size = ml) (hln : as.length = ps.length) (hst : S = as.reverse ++ .ref a :: rest)
    {Wd : Nat} (hwd : (rest.map fun v => v.category).sum = Wd) (hf : kf ≤ R.frames) (hlo : Wd + kl ≤ R.locals) (hcl : cells + kn ≤ R.cells) (hsl : slots + kw ≤ R.slots)
    (g : ∀ v T' h' M', W l Z a0 EL nw own bytes ml ret R κ T' h' (M' ++ M) (cells + kn) (slots + kw) → Qc v h' M' → Go Z EL nw R κ Q (T'.setTop (mkF (km κ) pc' Ls (v.toList ++ rest)))) : Go Z EL nw R κ Q (T.setTop (mkF (km κ) pc Ls S)) := by
  subst hp
  refine w.called P hM0 hf hlo hcl hsl (F := fun v => mkF (km κ) (pc + 3) Ls (v.toList ++ rest)) (fun s locs Post hx hby hml hZ hown eT X hK => ?_) g
  exact X.specialBackS hx hy1 hown (mvT hZ w1) (mvT hZ w2) (mvT hZ w4) hy hK (g := mkF (km κ) pc Ls S) rfl (hsz.trans hml.symm) (Steps.refl _) (lenOf hd hln) hst (by rw [mr0]; omega) (hb hby hdg) (fun vm₁ _ => ⟨rfl, eT, hcl, hsl⟩)
theorem W.callV (w : W l Z a0 EL nw own bytes ml ret R κ T h M cells slots) {index : Nat} {C : String} {y z : MethodName} (w1 : (Cond.methodLink own index y).before a0 Z = true) (w2 : (Cond.declares y).before a0 Z = true) (nf : ∀ (s : State), Z.Warmed39 s.vm → NotFace s y) (w3 : (Cond.selects C y z).before a0 Z = true) (w4 : (Cond.instanceMethod z).before a0 Z = true)
    (hy : y.cls ≠ "java/lang/invoke/MethodHandle" ∧ y.cls ≠ "java/lang/invoke/VarHandle") {ps : List FieldType} {rt : Option FieldType} (hd : parseMethodDescriptor y.desc = some ⟨ps, rt⟩) {a : Addr} (E : Exa Z h a C)
    {kf kl kn kw : Nat} {as : List Value} {M0 : List Addr} {Qc : Option Value → Heap → List Addr → Prop} (P : Pay l Z EL nw z 3 kf kl kn kw (.ref a :: as) h M0 Qc) (hM0 : ∀ x ∈ M0, x ∈ M) {pc pc' : Nat} {Ls : Array Slot} {S rest : List Value} (hdg : decode bytes pc = .ok (.invokevirtual index, 3)) (hp : pc + 3 = pc') (hsz : Ls.size = ml) (hln : as.length = ps.length) (hst : S = as.reverse ++ .ref a :: rest)
    {Wd : Nat} (hwd : (rest.map fun v => v.category).sum = Wd) (hf : kf ≤ R.frames) (hlo : Wd + kl ≤ R.locals) (hcl : cells + kn ≤ R.cells) (hsl : slots + kw ≤ R.slots)
    (g : ∀ v T' h' M', W l Z a0 EL nw own bytes ml ret R κ T' h' (M' ++ M) (cells + kn) (slots + kw) → Qc v h' M' → Go Z EL nw R κ Q (T'.setTop (mkF (km κ) pc' Ls (v.toList ++ rest)))) : Go Z EL nw R κ Q (T.setTop (mkF (km κ) pc Ls S)) := by
  subst hp
  refine w.called P hM0 hf hlo hcl hsl (F := fun v => mkF (km κ) (pc + 3) Ls (v.toList ++ rest)) (fun s locs Post hx hby hml hZ hown eT X hK => ?_) g
  obtain ⟨cB, kB, q1, q2, q3⟩ := isOf hZ eT E
  exact X.virtualBackS hx hown (mvT hZ w1) (mvT hZ w2) (nf s hZ) (mvT hZ w3) (mvT hZ w4) hy hK q1 q3 (g := mkF (km κ) pc Ls S) rfl (hsz.trans hml.symm) (Steps.refl _) (lenOf hd hln) hst (by rw [mr0]; omega) (hb hby hdg) (fun vm₁ _ => ⟨rfl, eT, hcl, hsl⟩)
theorem W.callU (w : W l Z a0 EL nw own bytes ml ret R κ T h M cells slots) {index : Nat} {K : String} {y : MethodName} {yb : ByteArray} {yl : Nat} {yr : Option FieldType} (w1 : (Cond.methodLink own index y).before a0 Z = true) (w2 : (Cond.sameMethod y.cls y.cls y.name y.desc).before a0 Z = true) (w3 : (Cond.instanceMethod y).before a0 Z = true) (w4 : (Cond.superclass own y.cls).before a0 Z = true) (w5 : (Cond.code y yb yl yr).before a0 Z = true) (hn : y.name ≠ "<init>")
    {ps : List FieldType} {rt : Option FieldType} (hd : parseMethodDescriptor y.desc = some ⟨ps, rt⟩) {a : Addr} (F : Ins Z h a K true)
    {kf kl kn kw : Nat} {as : List Value} {M0 : List Addr} {Qc : Option Value → Heap → List Addr → Prop} (P : Pay l Z EL nw y 3 kf kl kn kw (.ref a :: as) h M0 Qc) (hM0 : ∀ x ∈ M0, x ∈ M) {pc pc' : Nat} {Ls : Array Slot} {S rest : List Value} (hdg : decode bytes pc = .ok (.invokespecial index, 3)) (hp : pc + 3 = pc') (hsz : Ls.size = ml) (hln : as.length = ps.length) (hst : S = as.reverse ++ .ref a :: rest)
    {Wd : Nat} (hwd : (rest.map fun v => v.category).sum = Wd) (hf : kf ≤ R.frames) (hlo : Wd + kl ≤ R.locals) (hcl : cells + kn ≤ R.cells) (hsl : slots + kw ≤ R.slots)
    (g : ∀ v T' h' M', W l Z a0 EL nw own bytes ml ret R κ T' h' (M' ++ M) (cells + kn) (slots + kw) → Qc v h' M' → Go Z EL nw R κ Q (T'.setTop (mkF (km κ) pc' Ls (v.toList ++ rest)))) : Go Z EL nw R κ Q (T.setTop (mkF (km κ) pc Ls S)) := by
  subst hp
  refine w.called P hM0 hf hlo hcl hsl (F := fun v => mkF (km κ) (pc + 3) Ls (v.toList ++ rest)) (fun s locs Post hx hby hml hZ hown eT X hK => ?_) g
  exact superBackS X hx hZ hown w1 w2 w3 w4 hn hK eT F (g := mkF (km κ) pc Ls S) rfl (hsz.trans hml.symm) w5 (lenOf hd hln) hst (by rw [mr0]; omega) (hb hby hdg) (fun vm₁ _ => ⟨rfl, eT, hcl, hsl⟩)
theorem W.callF (w : W l Z a0 EL nw own bytes ml ret R κ T h M cells slots) {index count : Nat} {C : String} {y z : MethodName} (w1 : (Cond.methodLink own index y).before a0 Z = true) (w2 : (Cond.declares y).before a0 Z = true) (w3 : (Cond.interfaceMethod y.cls y.cls y.name y.desc).before a0 Z = true) (w4 : (Cond.selects C y z).before a0 Z = true) (w5 : (Cond.instanceMethod z).before a0 Z = true)
    (w6 : (Cond.publicMethod z).before a0 Z = true) (w7 : (Cond.unhidden C y.name y.desc).before a0 Z = true) (w8 : (Cond.castable C y.cls).before a0 Z = true) (k3 : ((Cond.interfaceMethod y.cls y.cls y.name y.desc).onTables && (Cond.interfaceMethod y.cls y.cls y.name y.desc).keepsFace) = true)
    (hy : y.cls ≠ "java/lang/invoke/MethodHandle" ∧ y.cls ≠ "java/lang/invoke/VarHandle") {ps : List FieldType} {rt : Option FieldType} (hd : parseMethodDescriptor y.desc = some ⟨ps, rt⟩) {a : Addr} (E : Exa Z h a C)
    {kf kl kn kw : Nat} {as : List Value} {M0 : List Addr} {Qc : Option Value → Heap → List Addr → Prop} (P : Pay l Z EL nw z 5 kf kl kn kw (.ref a :: as) h M0 Qc) (hM0 : ∀ x ∈ M0, x ∈ M) {pc pc' : Nat} {Ls : Array Slot} {S rest : List Value} (hdg : decode bytes pc = .ok (.invokeinterface index count, 5)) (hp : pc + 5 = pc') (hsz : Ls.size = ml) (hln : as.length = ps.length) (hst : S = as.reverse ++ .ref a :: rest)
    {Wd : Nat} (hwd : (rest.map fun v => v.category).sum = Wd) (hf : kf ≤ R.frames) (hlo : Wd + kl ≤ R.locals) (hcl : cells + kn ≤ R.cells) (hsl : slots + kw ≤ R.slots)
    (g : ∀ v T' h' M', W l Z a0 EL nw own bytes ml ret R κ T' h' (M' ++ M) (cells + kn) (slots + kw) → Qc v h' M' → Go Z EL nw R κ Q (T'.setTop (mkF (km κ) pc' Ls (v.toList ++ rest)))) : Go Z EL nw R κ Q (T.setTop (mkF (km κ) pc Ls S)) := by
  subst hp
  refine w.called P hM0 hf hlo hcl hsl (F := fun v => mkF (km κ) (pc + 5) Ls (v.toList ++ rest)) (fun s locs Post hx hby hml hZ hown eT X hK => ?_) g
  obtain ⟨cB, kB, q1, q2, q3⟩ := isOf hZ eT E
  exact X.interfaceBackS hx hown (mvT hZ w1) (mvT hZ w2) (mvT hZ w3 k3) (mvT hZ w4) (mvT hZ w5) (mvT hZ w6) (mvT hZ w7) (mvT hZ w8) hy hK q1 q2 q3 (g := mkF (km κ) pc Ls S) rfl (hsz.trans hml.symm) (Steps.refl _) (lenOf hd hln) hst (by rw [mr0]; omega) (hb hby hdg) (fun vm₁ _ => ⟨rfl, eT, hcl, hsl⟩)
/-- a private method is declared too -/
theorem decl_of {y : MethodName} {yb : ByteArray} {yl : Nat} {yr : Option FieldType} (w1 : (Cond.instanceMethod y).before a0 Z = true) (w2 : (Cond.code y yb yl yr).before a0 Z = true) : (Cond.declares y).before a0 Z = true := by
  obtain ⟨m, meth, h1, h2, h3, -⟩ := Cond.instanceMethod_spec w1
  obtain ⟨meth', c, q1, -, -, -, -, -, -, hsig⟩ := Cond.code_spec h1 w2
  cases h2.symm.trans q1
  simp [Cond.before, Cond.holds, Cond.value, h1, h2, h3, hsig]
/-- the lookup from a class finds what the class declares itself -/
theorem sm_of {C : String} {y y' : MethodName} (w1 : (Cond.declares y).before a0 Z = true) (w2 : (Cond.selects C y' y').before a0 Z = true) (hc : y'.cls = y.cls) (hy : y.cls ≠ "java/lang/invoke/MethodHandle" ∧ y.cls ≠ "java/lang/invoke/VarHandle") : (Cond.sameMethod y.cls y.cls y.name y.desc).before a0 Z = true := by
  obtain ⟨m, meth, h1, h2, -, -⟩ := Cond.declares_spec w1
  obtain ⟨c2, r2, m2, q1, q2, q3, q4, kP, hkP, hkPi⟩ := Cond.selects_spec w2
  have hf := State.methodFound?_of_named h1 hy
  have hc1 := findClass_of_methodNamed h1
  have hc2 := findClass_of_methodNamed q3
  rw [hc] at hc2
  have e : m2.cls = m.cls := Option.some.inj (hc2.symm.trans hc1)
  rw [e] at hkP
  have h1' : Z.methodNamed? ⟨y.cls, y.name, y.desc⟩ = some m := h1
  simp [Cond.before, Cond.holds, Cond.value, hc1, hf, h1', hkP, hkPi]
theorem nfSel {C : String} {y : MethodName} (w : (Cond.selects C y y).before a0 Z = true) : ∀ (s : State), Z.Warmed39 s.vm → NotFace s y := fun s hZ => notFace_of_selects (args := #[]) (mvT hZ w)
theorem nfCls {C : String} {y y' : MethodName} (w : (Cond.selects C y' y').before a0 Z = true) (hc : y'.cls = y.cls) : ∀ (s : State), Z.Warmed39 s.vm → NotFace s y := fun s hZ r0 h0 => by
  obtain ⟨c2, r2, m2, q1, q2, q3, q4, kP, hkP, hkPi⟩ := Cond.selects_spec (mvT (args := #[]) hZ w)
  have a := findClass_of_methodNamed h0
  have b := findClass_of_methodNamed q3
  rw [hc] at b
  have e : m2.cls = r0.cls := Option.some.inj (b.symm.trans a)
  rw [e] at hkP
  exact ⟨kP, hkP, hkPi⟩
theorem nfSup {S : String} {y : MethodName} (w : (Cond.superclass y.cls S).before a0 Z = true) : ∀ (s : State), Z.Warmed39 s.vm → NotFace s y := fun s hZ => nf_super (args := #[]) (mvT hZ w)
end Calls
section Heap1
variable {l : Launch} {Z : State} {a0 : Array Value} {EL : List (String × Nat)} {nw : Bool} {own : String} {bytes : ByteArray} {ml : Nat} {ret : Option FieldType} {R : Room} {κ : Ka} {T : State} {h : Heap} {M : List Addr} {cells slots : Nat} {Q : Option Value → Heap → List Addr → Prop} {pc pc' : Nat} {Ls : Array Slot} {S rest : List Value}
theorem W.newO (w : W l Z a0 EL nw own bytes ml ret R κ T h M cells slots) {index n : Nat} {C : String} (w1 : (Cond.classLink own index C).before a0 Z = true) (w2 : (Cond.instantiable C n).before a0 Z = true) (w3 : (Cond.initialized C).before a0 Z = true) (hd : decode bytes pc = .ok (.new index, 3)) (hp : pc + 3 = pc') (hc : cells + 1 ≤ R.cells) (hs : slots + n ≤ R.slots)
    (g : ∀ T' h' a, W l Z a0 EL nw own bytes ml ret R κ T' h' (a :: M) (cells + 1) (slots + n) → Keep h h' [] → h.size ≤ a → Exa Z h' a C → (∀ {O nm d : String} {ty : FieldType}, Laid Z a0 C O nm d → parseFieldDescriptor d = some ty → Fld Z h' a O nm d (defaultValue ty)) → Go Z EL nw R κ Q (T'.setTop (mkF (km κ) pc' Ls (.ref a :: S)))) : Go Z EL nw R κ Q (T.setTop (mkF (km κ) pc Ls S)) := by
  subst hp
  refine w.made (k := 1) (n := n) (P := fun h' => Exa Z h' h.size C ∧ (∀ {O nm d : String} {ty : FieldType}, Laid Z a0 C O nm d → parseFieldDescriptor d = some ty → Fld Z h' h.size O nm d (defaultValue ty))) (G := mkF (km κ) (pc + 3) Ls (.ref h.size :: S)) (fun s locs hx hby hml hZ hown eT X => ?_) (fun T' h' w' K hP => g T' h' _ w' K (Nat.le_refl _) hP.1 hP.2)
  obtain ⟨T', h', X', e', E, A, D, -, st⟩ := RoadKit.newO X hx hZ hown w1 w2 w3 eT (g := mkF (km κ) pc Ls S) rfl (hb hby hd) hc hs
  exact ⟨T', h', X', e', E, A.lt, ⟨A, D⟩, st⟩
theorem W.newP (w : W l Z a0 EL nw own bytes ml ret R κ T h M cells slots) {aty : ArrayType} {ty : FieldType} (hty : newarray.typeOf aty = ty) (w1 : (Cond.arrayClass ty).before a0 Z = true) {n : Int32} (hd : decode bytes pc = .ok (.newarray aty, 2)) (hp : pc + 2 = pc') (hn : ¬ n < 0) {cap : Nat} (hcap : n.toNatClampNeg = cap) (hbig : cap ≤ 67108864) (hc : cells + 1 ≤ R.cells) (hs : slots + cap ≤ R.slots)
    (g : ∀ T' h' a k, W l Z a0 EL nw own bytes ml ret R κ T' h' (a :: M) (cells + 1) (slots + cap) → Keep h h' [] → h.size ≤ a → Arv Z h' a k ty n (List.replicate cap (defaultValue ty)) (defaultValue ty) → Go Z EL nw R κ Q (T'.setTop (mkF (km κ) pc' Ls (.ref a :: S)))) : Go Z EL nw R κ Q (T.setTop (mkF (km κ) pc Ls (.int n :: S))) := by
  subst hp hty
  refine w.made (k := 1) (n := cap) (P := fun h' => ∃ k, Arv Z h' h.size k (newarray.typeOf aty) n (List.replicate cap (defaultValue (newarray.typeOf aty))) (defaultValue (newarray.typeOf aty))) (G := mkF (km κ) (pc + 2) Ls (.ref h.size :: S)) (fun s locs hx hby hml hZ hown eT X => ?_) (fun T' h' w' K hP => g T' h' _ _ w' K (Nat.le_refl _) hP.choose_spec)
  obtain ⟨T', h', k, X', e', E, A, st⟩ := RoadKit.newP X hx hZ w1 eT (g := mkF (km κ) pc Ls (.int n :: S)) rfl (hb hby hd) rfl hn (cap := cap) (Nat.le_of_eq hcap) (by omega) hc hs
  exact ⟨T', h', X', e', E, A.lt, ⟨k, (Arv.new A hn).pad (pad_rep [] (defaultValue (newarray.typeOf aty)) cap)⟩, st⟩
theorem W.newPB (w : W l Z a0 EL nw own bytes ml ret R κ T h M cells slots) {aty : ArrayType} {ty : FieldType} (hty : newarray.typeOf aty = ty) (w1 : (Cond.arrayClass ty).before a0 Z = true) {n : Int32} (hd : decode bytes pc = .ok (.newarray aty, 2)) (hp : pc + 2 = pc') (hn : ¬ n < 0) {len cap : Nat} (hlen : n.toNatClampNeg = len) (hcap : len ≤ cap) (hbig : cap ≤ 67108864) (hc : cells + 1 ≤ R.cells) (hs : slots + cap ≤ R.slots)
    (g : ∀ T' h' a k, W l Z a0 EL nw own bytes ml ret R κ T' h' (a :: M) (cells + 1) (slots + cap) → Keep h h' [] → h.size ≤ a → Arv Z h' a k ty n (List.replicate len (defaultValue ty)) (defaultValue ty) → Go Z EL nw R κ Q (T'.setTop (mkF (km κ) pc' Ls (.ref a :: S)))) : Go Z EL nw R κ Q (T.setTop (mkF (km κ) pc Ls (.int n :: S))) := by
  subst hp hty
  refine w.made (k := 1) (n := cap) (P := fun h' => ∃ k, Arv Z h' h.size k (newarray.typeOf aty) n (List.replicate len (defaultValue (newarray.typeOf aty))) (defaultValue (newarray.typeOf aty))) (G := mkF (km κ) (pc + 2) Ls (.ref h.size :: S)) (fun s locs hx hby hml hZ hown eT X => ?_) (fun T' h' w' K hP => g T' h' _ _ w' K (Nat.le_refl _) hP.choose_spec)
  obtain ⟨T', h', k, X', e', E, A, st⟩ := RoadKit.newP X hx hZ w1 eT (g := mkF (km κ) pc Ls (.int n :: S)) rfl (hb hby hd) rfl hn (cap := cap) (by omega) (by omega) hc hs
  exact ⟨T', h', X', e', E, A.lt, ⟨k, (Arv.new A hn).pad (pad_rep [] (defaultValue (newarray.typeOf aty)) len)⟩, st⟩
theorem W.newPE (w : W l Z a0 EL nw own bytes ml ret R κ T h M cells slots) {aty : ArrayType} {ty : FieldType} (hty : newarray.typeOf aty = ty) (w1 : (Cond.arrayClass ty).before a0 Z = true) {ad : String} (had : "[" ++ ty.toString = ad) {n : Int32} (hd : decode bytes pc = .ok (.newarray aty, 2)) (hp : pc + 2 = pc') (hn : ¬ n < 0) {len cap : Nat} (hlen : n.toNatClampNeg = len) (hcap : len ≤ cap) (hbig : cap ≤ 67108864) (hc : cells + 1 ≤ R.cells) (hs : slots + cap ≤ R.slots)
    (g : ∀ T' h' a k, W l Z a0 EL nw own bytes ml ret R κ T' h' (a :: M) (cells + 1) (slots + cap) → Keep h h' [] → h.size ≤ a → Arv Z h' a k ty n (List.replicate len (defaultValue ty)) (defaultValue ty) → Exa Z h' a ad → Go Z EL nw R κ Q (T'.setTop (mkF (km κ) pc' Ls (.ref a :: S)))) : Go Z EL nw R κ Q (T.setTop (mkF (km κ) pc Ls (.int n :: S))) := by
  subst hp hty
  refine w.made (k := 1) (n := cap) (P := fun h' => (∃ k, Arv Z h' h.size k (newarray.typeOf aty) n (List.replicate len (defaultValue (newarray.typeOf aty))) (defaultValue (newarray.typeOf aty))) ∧ Exa Z h' h.size ad) (G := mkF (km κ) (pc + 2) Ls (.ref h.size :: S)) (fun s locs hx hby hml hZ hown eT X => ?_) (fun T' h' w' K hP => g T' h' _ _ w' K (Nat.le_refl _) hP.1.choose_spec hP.2)
  obtain ⟨T', h', k, X', e', E, A, E', st⟩ := RoadKit.newPE X hx hZ w1 eT (g := mkF (km κ) pc Ls (.int n :: S)) rfl (hb hby hd) rfl hn (cap := cap) (by omega) (by omega) hc hs had
  exact ⟨T', h', X', e', E, A.lt, ⟨⟨k, (Arv.new A hn).pad (pad_rep [] (defaultValue (newarray.typeOf aty)) len)⟩, E'⟩, st⟩
theorem W.getF (w : W l Z a0 EL nw own bytes ml ret R κ T h M cells slots) {R0 O n d host : String} {index : Nat} (w1 : (Cond.fieldLink own index R0 n d).before a0 Z = true ∨ (Cond.fieldLinkNest own index R0 n d host).before a0 Z = true) (via : Via Z R0 O n d) {a : Addr} {v : Value} (F : Fld Z h a O n d v) (hd : decode bytes pc = .ok (.getfield index, 3)) (hp : pc + 3 = pc')
    (g : ∀ T', W l Z a0 EL nw own bytes ml ret R κ T' h M cells slots → Go Z EL nw R κ Q (T'.setTop (mkF (km κ) pc' Ls (v :: S)))) : Go Z EL nw R κ Q (T.setTop (mkF (km κ) pc Ls (.ref a :: S))) := by
  subst hp
  exact w.noted (G := mkF (km κ) (pc + 3) Ls (v :: S)) (fun s locs hx hby hml hZ hown eT X => RoadKit.getF X hx hZ hown w1 via eT F (g := mkF (km κ) pc Ls (.ref a :: S)) rfl rfl (hb hby hd)) g
theorem W.getS (w : W l Z a0 EL nw own bytes ml ret R κ T h M cells slots) {R0 O n d : String} {index : Nat} (w1 : (Cond.fieldLink own index R0 n d).before a0 Z = true) (via : Via Z R0 O n d) {v : Value} (F : Sta Z h O n d v) (hd : decode bytes pc = .ok (.getstatic index, 3)) (hp : pc + 3 = pc')
    (g : ∀ T', W l Z a0 EL nw own bytes ml ret R κ T' h M cells slots → Go Z EL nw R κ Q (T'.setTop (mkF (km κ) pc' Ls (v :: S)))) : Go Z EL nw R κ Q (T.setTop (mkF (km κ) pc Ls S)) := by
  subst hp
  exact w.noted (G := mkF (km κ) (pc + 3) Ls (v :: S)) (fun s locs hx hby hml hZ hown eT X => RoadKit.getS (host := "") X hx hZ hown w1 via eT F (g := mkF (km κ) pc Ls S) rfl (hb hby hd)) g
theorem W.putF (w : W l Z a0 EL nw own bytes ml ret R κ T h M cells slots) {R0 O n d host C : String} {index kk : Nat} {ty : FieldType} (w1 : (Cond.fieldLink own index R0 n d).before a0 Z = true ∨ (Cond.fieldLinkNest own index R0 n d host).before a0 Z = true) (via : Via Z R0 O n d) {a : Addr} {v old : Value} (F : Fld Z h a O n d old) (E : Exa Z h a C)
    (L : (Cond.lays C O n d).before a0 Z = true ∨ ((Cond.laysFinal C O n d).before a0 Z = true ∧ own = O ∧ (kt κ).name = "<init>")) (wi : (Cond.instantiable C kk).before a0 Z = true) (hty : parseFieldDescriptor d = some ty) (hn : narrow ty v = v) (hf : fits ty v = true) (ha : a ∈ M) (hd : decode bytes pc = .ok (.putfield index, 3)) (hp : pc + 3 = pc')
    (g : ∀ T' h', W l Z a0 EL nw own bytes ml ret R κ T' h' M cells slots → Wr h h' a (RoadKit.slotOf Z O n d) v → Go Z EL nw R κ Q (T'.setTop (mkF (km κ) pc' Ls S))) : Go Z EL nw R κ Q (T.setTop (mkF (km κ) pc Ls (v :: .ref a :: S))) := by
  subst hp
  exact w.wrote ha (G := mkF (km κ) (pc + 3) Ls S) (fun s locs hx hby hml hZ hown eT X => RoadKit.putF X hx hZ hown w1 via eT F E L wi hty hn hf (g := mkF (km κ) pc Ls (v :: .ref a :: S)) rfl rfl (hb hby hd)) g
theorem W.putFN (w : W l Z a0 EL nw own bytes ml ret R κ T h M cells slots) {R0 O n d C : String} {index kk : Nat} {ty : FieldType} (w1 : (Cond.fieldLink own index R0 n d).before a0 Z = true) (via : Via Z R0 O n d) {a : Addr} {v v' old : Value} (F : Fld Z h a O n d old) (E : Exa Z h a C)
    (L : (Cond.lays C O n d).before a0 Z = true ∨ ((Cond.laysFinal C O n d).before a0 Z = true ∧ own = O ∧ (kt κ).name = "<init>")) (wi : (Cond.instantiable C kk).before a0 Z = true) (hty : parseFieldDescriptor d = some ty) (hn : narrow ty v = v') (hf : fits ty v' = true) (ha : a ∈ M) (hd : decode bytes pc = .ok (.putfield index, 3)) (hp : pc + 3 = pc')
    (g : ∀ T' h', W l Z a0 EL nw own bytes ml ret R κ T' h' M cells slots → Wr h h' a (RoadKit.slotOf Z O n d) v' → Go Z EL nw R κ Q (T'.setTop (mkF (km κ) pc' Ls S))) : Go Z EL nw R κ Q (T.setTop (mkF (km κ) pc Ls (v :: .ref a :: S))) := by
  subst hp
  exact w.wrote ha (G := mkF (km κ) (pc + 3) Ls S) (fun s locs hx hby hml hZ hown eT X => RoadKit.putFN X hx hZ hown w1 via eT F E L wi hty hn hf (g := mkF (km κ) pc Ls (v :: .ref a :: S)) rfl rfl (hb hby hd)) g
theorem W.stC (w : W l Z a0 EL nw own bytes ml ret R κ T h M cells slots) {a : Addr} {k : ClassId} {z j x x' : Int32} (hn : nar .char x = x') {vs : List Value} {dv : Value} (V : Arv Z h a k .char z vs dv) {i : Nat} (hj : j.toNatClampNeg = i) (hj0 : ¬ j < 0 ∧ j < z) (hi : i < vs.length) (ha : a ∈ M) (hd : decode bytes pc = .ok (.castore, 1)) (hp : pc + 1 = pc')
    (g : ∀ T' h', W l Z a0 EL nw own bytes ml ret R κ T' h' M cells slots → Keep h h' [a] → Arv Z h' a k .char z (vs.set i (.int x')) dv → Go Z EL nw R κ Q (T'.setTop (mkF (km κ) pc' Ls S))) : Go Z EL nw R κ Q (T.setTop (mkF (km κ) pc Ls (.int x :: .int j :: .ref a :: S))) := by
  subst hp hn
  obtain ⟨c, A, q, Sz, N, H, Gf⟩ := V
  exact w.wrote ha (G := mkF (km κ) (pc + 1) Ls S) (fun s locs hx hby hml hZ hown eT X => RoadKit.stC X hx hZ eT A (inb_of Sz hj0) (g := mkF (km κ) pc Ls (.int x :: .int j :: .ref a :: S)) rfl rfl (hb hby hd)) (fun T' h' w' W' => g T' h' w' (Keep.of_wr W') (Arv.set A q Sz N H Gf (fits_nar_char _) W' i hj hi))
theorem W.stB (w : W l Z a0 EL nw own bytes ml ret R κ T h M cells slots) {a : Addr} {k : ClassId} {z j x x' : Int32} (hn : nar .byte x = x') {vs : List Value} {dv : Value} (V : Arv Z h a k .byte z vs dv) {i : Nat} (hj : j.toNatClampNeg = i) (hj0 : ¬ j < 0 ∧ j < z) (hi : i < vs.length) (ha : a ∈ M) (hd : decode bytes pc = .ok (.bastore, 1)) (hp : pc + 1 = pc')
    (g : ∀ T' h', W l Z a0 EL nw own bytes ml ret R κ T' h' M cells slots → Keep h h' [a] → Arv Z h' a k .byte z (vs.set i (.int x')) dv → Go Z EL nw R κ Q (T'.setTop (mkF (km κ) pc' Ls S))) : Go Z EL nw R κ Q (T.setTop (mkF (km κ) pc Ls (.int x :: .int j :: .ref a :: S))) := by
  subst hp hn
  obtain ⟨c, A, q, Sz, N, H, Gf⟩ := V
  exact w.wrote ha (G := mkF (km κ) (pc + 1) Ls S) (fun s locs hx hby hml hZ hown eT X => RoadKit.stB X hx hZ eT A (inb_of Sz hj0) (g := mkF (km κ) pc Ls (.int x :: .int j :: .ref a :: S)) rfl rfl (hb hby hd)) (fun T' h' w' W' => g T' h' w' (Keep.of_wr W') (Arv.set A q Sz N H Gf (fits_nar_byte _) W' i hj hi))
theorem W.stI (w : W l Z a0 EL nw own bytes ml ret R κ T h M cells slots) {a : Addr} {k : ClassId} {z j x : Int32} {vs : List Value} {dv : Value} (V : Arv Z h a k .int z vs dv) {i : Nat} (hj : j.toNatClampNeg = i) (hj0 : ¬ j < 0 ∧ j < z) (hi : i < vs.length) (ha : a ∈ M) (hd : decode bytes pc = .ok (.iastore, 1)) (hp : pc + 1 = pc')
    (g : ∀ T' h', W l Z a0 EL nw own bytes ml ret R κ T' h' M cells slots → Keep h h' [a] → Arv Z h' a k .int z (vs.set i (.int x)) dv → Go Z EL nw R κ Q (T'.setTop (mkF (km κ) pc' Ls S))) : Go Z EL nw R κ Q (T.setTop (mkF (km κ) pc Ls (.int x :: .int j :: .ref a :: S))) := by
  subst hp
  obtain ⟨c, A, q, Sz, N, H, Gf⟩ := V
  exact w.wrote ha (G := mkF (km κ) (pc + 1) Ls S) (fun s locs hx hby hml hZ hown eT X => RoadKit.stI X hx hZ eT A (inb_of Sz hj0) (g := mkF (km κ) pc Ls (.int x :: .int j :: .ref a :: S)) rfl rfl (hb hby hd)) (fun T' h' w' W' => g T' h' w' (Keep.of_wr W') (Arv.set A q Sz N H Gf rfl W' i hj hi))
theorem W.stJ (w : W l Z a0 EL nw own bytes ml ret R κ T h M cells slots) {a : Addr} {k : ClassId} {z j : Int32} {x : Int64} {vs : List Value} {dv : Value} (V : Arv Z h a k .long z vs dv) {i : Nat} (hj : j.toNatClampNeg = i) (hj0 : ¬ j < 0 ∧ j < z) (hi : i < vs.length) (ha : a ∈ M) (hd : decode bytes pc = .ok (.lastore, 1)) (hp : pc + 1 = pc')
    (g : ∀ T' h', W l Z a0 EL nw own bytes ml ret R κ T' h' M cells slots → Keep h h' [a] → Arv Z h' a k .long z (vs.set i (.long x)) dv → Go Z EL nw R κ Q (T'.setTop (mkF (km κ) pc' Ls S))) : Go Z EL nw R κ Q (T.setTop (mkF (km κ) pc Ls (.long x :: .int j :: .ref a :: S))) := by
  subst hp
  obtain ⟨c, A, q, Sz, N, H, Gf⟩ := V
  exact w.wrote ha (G := mkF (km κ) (pc + 1) Ls S) (fun s locs hx hby hml hZ hown eT X => RoadKit.stJ X hx hZ eT A (inb_of Sz hj0) (g := mkF (km κ) pc Ls (.long x :: .int j :: .ref a :: S)) rfl rfl (hb hby hd)) (fun T' h' w' W' => g T' h' w' (Keep.of_wr W') (Arv.set A q Sz N H Gf rfl W' i hj hi))
theorem W.alen (w : W l Z a0 EL nw own bytes ml ret R κ T h M cells slots) {a : Addr} {k : ClassId} {ty : FieldType} {z : Int32} {vs : List Value} {dv : Value} (V : Arv Z h a k ty z vs dv) (hd : decode bytes pc = .ok (.arraylength, 1)) (hp : pc + 1 = pc') (g : Go Z EL nw R κ Q (T.setTop (mkF (km κ) pc' Ls (.int z :: S)))) : Go Z EL nw R κ Q (T.setTop (mkF (km κ) pc Ls (.ref a :: S))) := by
  subst hp
  obtain ⟨c, A, q, Sz, N, H, Gf⟩ := V
  obtain ⟨⟨hx, hby, -⟩, vm0, k0, locs, X, -, h2, -, -, -, h6, -⟩ := w
  refine Go.via (X.arraylength hx (by rw [h6]; exact A.1) (State.isArrayOf_alike (T := (ks κ).setVm vm0) h2.alike A.2.1) (g := mkF (km κ) pc Ls (.ref a :: S)) rfl rfl (hb hby hd)) ?_
  rw [len_of Sz N]; exact g
theorem W.ldC (w : W l Z a0 EL nw own bytes ml ret R κ T h M cells slots) {a : Addr} {k : ClassId} {z j : Int32} {vs : List Value} {dv v : Value} (V : Arv Z h a k .char z vs dv) (hj0 : ¬ j < 0 ∧ j < z) (hv : vs.getD j.toNatClampNeg dv = v) (hd : decode bytes pc = .ok (.caload, 1)) (hp : pc + 1 = pc') (g : Go Z EL nw R κ Q (T.setTop (mkF (km κ) pc' Ls (v :: S)))) : Go Z EL nw R κ Q (T.setTop (mkF (km κ) pc Ls (.int j :: .ref a :: S))) := by
  subst hp
  obtain ⟨c, A, q, Sz, N, H, Gf⟩ := V
  obtain ⟨⟨hx, hby, -⟩, vm0, k0, locs, X, -, h2, -, -, -, h6, -⟩ := w
  exact Go.via (X.caload hx (by rw [h6]; exact A.1) (State.isArrayOf_alike (T := (ks κ).setVm vm0) h2.alike A.2.1) A.2.2 (inb_of Sz hj0) (H.at (inb_of Sz hj0) hv) (g := mkF (km κ) pc Ls (.int j :: .ref a :: S)) rfl rfl (hb hby hd)) g
theorem W.ldB (w : W l Z a0 EL nw own bytes ml ret R κ T h M cells slots) {a : Addr} {k : ClassId} {z j : Int32} {vs : List Value} {dv v : Value} (V : Arv Z h a k .byte z vs dv) (hj0 : ¬ j < 0 ∧ j < z) (hv : vs.getD j.toNatClampNeg dv = v) (hd : decode bytes pc = .ok (.baload, 1)) (hp : pc + 1 = pc') (g : Go Z EL nw R κ Q (T.setTop (mkF (km κ) pc' Ls (v :: S)))) : Go Z EL nw R κ Q (T.setTop (mkF (km κ) pc Ls (.int j :: .ref a :: S))) := by
  subst hp
  obtain ⟨c, A, q, Sz, N, H, Gf⟩ := V
  obtain ⟨⟨hx, hby, -⟩, vm0, k0, locs, X, -, h2, -, -, -, h6, -⟩ := w
  exact Go.via (X.baloadBytes hx (by rw [h6]; exact A.1) (State.isArrayOf_alike (T := (ks κ).setVm vm0) h2.alike A.2.1) A.2.2 (inb_of Sz hj0) (H.at (inb_of Sz hj0) hv) (g := mkF (km κ) pc Ls (.int j :: .ref a :: S)) rfl rfl (hb hby hd)) g
theorem W.ldI (w : W l Z a0 EL nw own bytes ml ret R κ T h M cells slots) {a : Addr} {k : ClassId} {z j : Int32} {vs : List Value} {dv v : Value} (V : Arv Z h a k .int z vs dv) (hj0 : ¬ j < 0 ∧ j < z) (hv : vs.getD j.toNatClampNeg dv = v) (hd : decode bytes pc = .ok (.iaload, 1)) (hp : pc + 1 = pc') (g : Go Z EL nw R κ Q (T.setTop (mkF (km κ) pc' Ls (v :: S)))) : Go Z EL nw R κ Q (T.setTop (mkF (km κ) pc Ls (.int j :: .ref a :: S))) := by
  subst hp
  obtain ⟨c, A, q, Sz, N, H, Gf⟩ := V
  obtain ⟨⟨hx, hby, -⟩, vm0, k0, locs, X, -, h2, -, -, -, h6, -⟩ := w
  exact Go.via (X.iaload hx (by rw [h6]; exact A.1) (State.isArrayOf_alike (T := (ks κ).setVm vm0) h2.alike A.2.1) A.2.2 (inb_of Sz hj0) (H.at (inb_of Sz hj0) hv) (g := mkF (km κ) pc Ls (.int j :: .ref a :: S)) rfl rfl (hb hby hd)) g
theorem W.ldJ (w : W l Z a0 EL nw own bytes ml ret R κ T h M cells slots) {a : Addr} {k : ClassId} {z j : Int32} {vs : List Value} {dv v : Value} (V : Arv Z h a k .long z vs dv) (hj0 : ¬ j < 0 ∧ j < z) (hv : vs.getD j.toNatClampNeg dv = v) (hd : decode bytes pc = .ok (.laload, 1)) (hp : pc + 1 = pc') (g : Go Z EL nw R κ Q (T.setTop (mkF (km κ) pc' Ls (v :: S)))) : Go Z EL nw R κ Q (T.setTop (mkF (km κ) pc Ls (.int j :: .ref a :: S))) := by
  subst hp
  obtain ⟨c, A, q, Sz, N, H, Gf⟩ := V
  obtain ⟨⟨hx, hby, -⟩, vm0, k0, locs, X, -, h2, -, -, -, h6, -⟩ := w
  exact Go.via (X.laload hx (by rw [h6]; exact A.1) (State.isArrayOf_alike (T := (ks κ).setVm vm0) h2.alike A.2.1) A.2.2 (inb_of Sz hj0) (H.at (inb_of Sz hj0) hv) (g := mkF (km κ) pc Ls (.int j :: .ref a :: S)) rfl rfl (hb hby hd)) g
theorem W.ldA (w : W l Z a0 EL nw own bytes ml ret R κ T h M cells slots) {a : Addr} {k : ClassId} {ty : FieldType} {z j : Int32} {vs : List Value} {dv v : Value} (V : Arv Z h a k ty z vs dv) (hty : ty.isReference = true) (hj0 : ¬ j < 0 ∧ j < z) (hv : vs.getD j.toNatClampNeg dv = v) (hd : decode bytes pc = .ok (.aaload, 1)) (hp : pc + 1 = pc') (g : Go Z EL nw R κ Q (T.setTop (mkF (km κ) pc' Ls (v :: S)))) : Go Z EL nw R κ Q (T.setTop (mkF (km κ) pc Ls (.int j :: .ref a :: S))) := by
  subst hp
  obtain ⟨c, A, q, Sz, N, H, Gf⟩ := V
  obtain ⟨⟨hx, hby, -⟩, vm0, k0, locs, X, -, h2, -, -, -, h6, -⟩ := w
  exact Go.via (X.aaload hx (by rw [h6]; exact A.1) (State.isArrayOf_alike (T := (ks κ).setVm vm0) h2.alike A.2.1) hty A.2.2 (inb_of Sz hj0) (H.at (inb_of Sz hj0) hv) (g := mkF (km κ) pc Ls (.int j :: .ref a :: S)) rfl rfl (hb hby hd)) g
theorem W.ldcI (w : W l Z a0 EL nw own bytes ml ret R κ T h M cells slots) {index : Nat} {v : Int32} (w1 : (Cond.constant own index v).before a0 Z = true) (hd : decode bytes pc = .ok (.ldc index, 2)) (hp : pc + 2 = pc') (g : Go Z EL nw R κ Q (T.setTop (mkF (km κ) pc' Ls (.int v :: S)))) : Go Z EL nw R κ Q (T.setTop (mkF (km κ) pc Ls S)) := by
  subst hp
  obtain ⟨⟨hx, hby, -⟩, vm0, k0, locs, X, -, h2, h3, -⟩ := w
  exact Go.via (X.ldcInt hx h3 (mvT (s := (ks κ).setVm vm0) h2 w1) (g := mkF (km κ) pc Ls S) rfl (hb hby hd)) g
theorem W.ldcJ (w : W l Z a0 EL nw own bytes ml ret R κ T h M cells slots) {index : Nat} {v : Int64} (w1 : (Cond.constantLong own index v).before a0 Z = true) (hd : decode bytes pc = .ok (.ldc2_w index, 3)) (hp : pc + 3 = pc') (g : Go Z EL nw R κ Q (T.setTop (mkF (km κ) pc' Ls (.long v :: S)))) : Go Z EL nw R κ Q (T.setTop (mkF (km κ) pc Ls S)) := by
  subst hp
  obtain ⟨⟨hx, hby, -⟩, vm0, k0, locs, X, -, h2, h3, -⟩ := w
  exact Go.via (X.ldc2Long hx h3 (mvT (s := (ks κ).setVm vm0) h2 w1) (g := mkF (km κ) pc Ls S) rfl (hb hby hd)) g
theorem W.initO (w : W l Z a0 EL nw own bytes ml ret R κ T h M cells slots) {index : Nat} (w1 : (Cond.methodLink own index Lib.objectInit).before a0 Z = true) (w2 : (Cond.instanceMethod Lib.objectInit).before a0 Z = true) (w3 : (Cond.code Lib.objectInit ⟨#[0xb1]⟩ 1 none).before a0 Z = true) {a : Addr} (hd : decode bytes pc = .ok (.invokespecial index, 3)) (hp : pc + 3 = pc') (hsz : Ls.size = ml) (hf : 1 ≤ R.frames) {Wd : Nat} (hwd : (S.map fun v => v.category).sum = Wd) (hlo : Wd + 12 ≤ R.locals)
    (g : ∀ T', W l Z a0 EL nw own bytes ml ret R κ T' h M cells slots → Go Z EL nw R κ Q (T'.setTop (mkF (km κ) pc' Ls S))) : Go Z EL nw R κ Q (T.setTop (mkF (km κ) pc Ls (.ref a :: S))) := by
  subst hp
  exact w.noted (G := mkF (km κ) (pc + 3) Ls S) (fun s locs hx hby hml hZ hown eT X => RoadKit.initO X hx hZ hown w1 w2 w3 eT (g := mkF (km κ) pc Ls (.ref a :: S)) rfl (hsz.trans hml.symm) rfl (hb hby hd) hf (W := Wd) (by rw [mr0]; omega) hlo) g
theorem W.cast (w : W l Z a0 EL nw own bytes ml ret R κ T h M cells slots) {index : Nat} {K : String} (w1 : (Cond.classLink own index K).before a0 Z = true) {a : Addr} (F : Ins Z h a K true) (hd : decode bytes pc = .ok (.checkcast index, 3)) (hp : pc + 3 = pc')
    (g : ∀ T', W l Z a0 EL nw own bytes ml ret R κ T' h M cells slots → Go Z EL nw R κ Q (T'.setTop (mkF (km κ) pc' Ls (.ref a :: S)))) : Go Z EL nw R κ Q (T.setTop (mkF (km κ) pc Ls (.ref a :: S))) := by
  subst hp
  exact w.noted (G := mkF (km κ) (pc + 3) Ls (.ref a :: S)) (fun s locs hx hby hml hZ hown eT X => RoadKit.castY X hx hZ hown w1 eT F (g := mkF (km κ) pc Ls (.ref a :: S)) rfl rfl (hb hby hd)) g
theorem W.inst (w : W l Z a0 EL nw own bytes ml ret R κ T h M cells slots) {index : Nat} {K : String} (w1 : (Cond.classLink own index K).before a0 Z = true) {a : Addr} (F : Ins Z h a K true) (hd : decode bytes pc = .ok (.instanceof index, 3)) (hp : pc + 3 = pc')
    (g : ∀ T', W l Z a0 EL nw own bytes ml ret R κ T' h M cells slots → Go Z EL nw R κ Q (T'.setTop (mkF (km κ) pc' Ls (.int 1 :: S)))) : Go Z EL nw R κ Q (T.setTop (mkF (km κ) pc Ls (.ref a :: S))) := by
  subst hp
  exact w.noted (G := mkF (km κ) (pc + 3) Ls (.int 1 :: S)) (fun s locs hx hby hml hZ hown eT X => RoadKit.instY X hx hZ hown w1 eT F (g := mkF (km κ) pc Ls (.ref a :: S)) rfl rfl (hb hby hd)) g
theorem W.retI (w : W l Z a0 EL nw own bytes ml ret R κ T h M cells slots) {z : Int32} (hr : ret = some .int) (hd : decode bytes pc = .ok (.ireturn, 1)) {M' : List Addr} (hM : ∀ x ∈ M', x ∈ M) (hc : cells ≤ R.cells) (hs : slots ≤ R.slots) (hq : Q (some (.int z)) h M') : Go Z EL nw R κ Q (T.setTop (mkF (km κ) pc Ls (.int z :: S))) :=
  w.leave (fun q => by rw [hr] at q; cases q) hc hs hM hq (fun s locs fs hx hby hret X hl => retOut X hx (hret.trans hr) rfl (Or.inl ⟨rfl, Or.inl rfl, _, rfl⟩) (hb hby hd) hl)
theorem W.retN (w : W l Z a0 EL nw own bytes ml ret R κ T h M cells slots) {z z' : Int32} {t : FieldType} (hr : ret = some t) (hn : nar t z = z') (ht : t = .boolean ∨ t = .byte ∨ t = .char ∨ t = .short) (hd : decode bytes pc = .ok (.ireturn, 1)) {M' : List Addr} (hM : ∀ x ∈ M', x ∈ M) (hc : cells ≤ R.cells) (hs : slots ≤ R.slots) (hq : Q (some (.int z')) h M') : Go Z EL nw R κ Q (T.setTop (mkF (km κ) pc Ls (.int z :: S))) := by
  subst hn
  exact w.leave (fun q => by rw [hr] at q; cases q) hc hs hM hq (fun s locs fs hx hby hret X hl => RoadKit.retN X hx (hret.trans hr) ht (hb hby hd) hl)
theorem W.retJ (w : W l Z a0 EL nw own bytes ml ret R κ T h M cells slots) {z : Int64} (hr : ret = some .long) (hd : decode bytes pc = .ok (.lreturn, 1)) {M' : List Addr} (hM : ∀ x ∈ M', x ∈ M) (hc : cells ≤ R.cells) (hs : slots ≤ R.slots) (hq : Q (some (.long z)) h M') : Go Z EL nw R κ Q (T.setTop (mkF (km κ) pc Ls (.long z :: S))) :=
  w.leave (fun q => by rw [hr] at q; cases q) hc hs hM hq (fun s locs fs hx hby hret X hl => retOut X hx (hret.trans hr) rfl (Or.inr (Or.inl ⟨rfl, rfl, _, rfl⟩)) (hb hby hd) hl)
theorem nar_ref {t : FieldType} {v : Value} (ht : t.isReference = true) (hv : v.isRef = true) : narrow t v = v := by rcases ref_cases hv with rfl | ⟨a, rfl⟩ <;> cases t <;> first | rfl | (simp [FieldType.isReference] at ht)
theorem W.retR (w : W l Z a0 EL nw own bytes ml ret R κ T h M cells slots) {v : Value} {t : FieldType} (hr : ret = some t) (ht : t.isReference = true) (hv : v.isRef = true) (hd : decode bytes pc = .ok (.areturn, 1)) {M' : List Addr} (hM : ∀ x ∈ M', x ∈ M) (hc : cells ≤ R.cells) (hs : slots ≤ R.slots) (hq : Q (some v) h M') : Go Z EL nw R κ Q (T.setTop (mkF (km κ) pc Ls (v :: S))) :=
  w.leave (fun q => by rw [hr] at q; cases q) hc hs hM hq (fun s locs fs hx hby hret X hl => retOut X hx (hret.trans hr) (nar_ref ht hv) (Or.inr (Or.inr (Or.inr (Or.inr ⟨rfl, ht, hv⟩)))) (hb hby hd) hl)
theorem W.ret0 (w : W l Z a0 EL nw own bytes ml ret R κ T h M cells slots) (hr : ret = none) (hd : decode bytes pc = .ok (.return_, 1)) {M' : List Addr} (hM : ∀ x ∈ M', x ∈ M) (hc : cells ≤ R.cells) (hs : slots ≤ R.slots) (hq : Q none h M') : Go Z EL nw R κ Q (T.setTop (mkF (km κ) pc Ls [])) :=
  w.leave (fun _ => rfl) hc hs hM hq (fun s locs fs hx hby hret X hl => X.returnOut hx (hret.trans hr) (hb hby hd) hl)
theorem W.ldcS (w : W l Z a0 EL nw own bytes ml ret R κ T h M cells slots) (hnw : nw = false) {index : Nat} {text : String} (w1 : (Cond.stringLink own index text).before a0 Z = true) (wS : ∀ a ∈ Bundle.stringAtoms, a.before a0 Z = true) (hmem : (own, index) ∈ EL) {vs : List Value} {z : Int32}
    (ht : (∀ c ∈ text.toList, c.toNat < 256) ∧ text.toList.map (fun c => Value.int (Jvm.Lit.byteI c.toNat.toUInt16)) = vs) (hz : ¬ z < 0) (hl : z.toNatClampNeg = vs.length) (hd : decode bytes pc = .ok (.ldc index, 2)) (hp : pc + 2 = pc') {n : Nat} (hn : 4 * text.toList.length ≤ n) (hbig : n ≤ 536870912) (hc : cells + 2 ≤ R.cells) (hs : slots + (n + 4) ≤ R.slots)
    (g : ∀ T' h' a b k, W l Z a0 EL nw own bytes ml ret R κ T' h' M (cells + 2) (slots + (n + 4)) → Keep h h' [] → Exa Z h' a "java/lang/String" → Fld Z h' a "java/lang/String" "coder" "B" (.int 0) → Fld Z h' a "java/lang/String" "value" "[B" (.ref b) → Arv Z h' b k .byte z vs (.int 0) → (∀ x ∈ M, x ≠ a ∧ x ≠ b) → Go Z EL nw R κ Q (T'.setTop (mkF (km κ) pc' Ls (.ref a :: S)))) : Go Z EL nw R κ Q (T.setTop (mkF (km κ) pc Ls S)) := by
  subst hp
  obtain ⟨hC, vm0, k0, locs, X, h1, h2, h3, h4, h5, h6, h7, h8, h9, h10⟩ := w
  obtain ⟨a, T', h', k1, b, k, X', e', E, hS', hk', hZ', hown', q1, q2, q3, q4, -, -, q7, -, q9, st⟩ := ldcCH X hC.1 h2 h3 w1 wS h6 h4 h5 hC.2.2.2.2.2 hmem h7.1 ht hz hl (g := mkF (km κ) pc Ls S) rfl (hb hC.2.1 hd) hn hbig hc hs
  have hM' := h8.at q7
  exact Go.via st (g T' h' a b k ⟨hC, T'.vm, k1, locs, X', h1, hZ', hown', hS', hk', e', h7.trans q7, hM', h9.ext E, fun q => by rw [hnw] at q; cases q⟩ (keepE E) q1 q2 q3 q4 (fun x hx => q9 x (hM' x hx).2.2))
theorem W.copy (w : W l Z a0 EL nw own bytes ml ret R κ T h M cells slots) {index : Nat} (w1 : (Cond.methodLink own index Jvm.Stand.acN).before a0 Z = true) (w2 : (Cond.native Jvm.Stand.acN).before a0 Z = true) (w3 : (Cond.static Jvm.Stand.acN).before a0 Z = true) (w4 : (Cond.initialized "java/lang/System").before a0 Z = true)
    {a b : Addr} {k k' : ClassId} {ty : FieldType} {z z' sp dp nn : Int32} {vs vd us : List Value} {dv dd : Value} (A : Arv Z h a k ty z vs dv) (B : Arv Z h b k' ty z' vd dd) (hty : refKind ty = false) (h1 : ¬ sp < 0) (h2 : ¬ dp < 0) (h3 : ¬ nn < 0) (h4 : sp.toNatClampNeg + nn.toNatClampNeg ≤ z.toNatClampNeg) (h5 : dp.toNatClampNeg + nn.toNatClampNeg ≤ z'.toNatClampNeg)
    (hus : vd.take dp.toNatClampNeg ++ ((List.range nn.toNatClampNeg).map fun i => vs.getD (sp.toNatClampNeg + i) dv) ++ vd.drop (dp.toNatClampNeg + nn.toNatClampNeg) = us) (hl : dp.toNatClampNeg + nn.toNatClampNeg ≤ vd.length) (hb' : b ∈ M) (hd : decode bytes pc = .ok (.invokestatic index, 3)) (hp : pc + 3 = pc') (hsz : Ls.size = ml) (hf : 1 ≤ R.frames) {Wd : Nat} (hwd : (S.map fun v => v.category).sum = Wd) (hlo : Wd + (nativeFrameWords "java/lang/System" "arraycopy" 5 + 11) ≤ R.locals)
    (g : ∀ T' h', W l Z a0 EL nw own bytes ml ret R κ T' h' M cells slots → Keep h h' [b] → Arv Z h' b k' ty z' us dd → Go Z EL nw R κ Q (T'.setTop (mkF (km κ) pc' Ls S))) : Go Z EL nw R κ Q (T.setTop (mkF (km κ) pc Ls (.int nn :: .int dp :: .ref b :: .int sp :: .ref a :: S))) := by
  subst hp hus
  refine w.kept (ws := [b]) (fun x hx => by rw [List.mem_singleton.mp hx]; exact hb') (G := mkF (km κ) (pc + 3) Ls S) (P := fun h' => Arv Z h' b k' ty z' _ dd) (fun s locs hx hby hml hZ hown eT N X => ?_) g
  obtain ⟨T', h', L, X', e', N', K, A', st⟩ := RoadKit.cpA X hx hZ hown w1 w2 w3 w4 eT A B (Or.inl ⟨rfl, hty⟩) h1 h2 h3 h4 h5 rfl hl N (w.mut hb').1 (g := mkF (km κ) pc Ls (.int nn :: .int dp :: .ref b :: .int sp :: .ref a :: S)) rfl (hsz.trans hml.symm) rfl (hb hby hd) hf (W := Wd) (by rw [mr0]; omega) hlo
  exact ⟨T', h', L, X', e', N', K, A', st⟩
theorem W.copyN (w : W l Z a0 EL nw own bytes ml ret R κ T h M cells slots) {index : Nat} (w1 : (Cond.methodLink own index Jvm.Stand.acN).before a0 Z = true) (w2 : (Cond.native Jvm.Stand.acN).before a0 Z = true) (w3 : (Cond.static Jvm.Stand.acN).before a0 Z = true) (w4 : (Cond.initialized "java/lang/System").before a0 Z = true)
    {a b : Addr} {k k' : ClassId} {ty : FieldType} {z z' sp dp nn : Int32} {vs vd us : List Value} {dv dd : Value} (A : Arv Z h a k ty z vs dv) (B : Arv Z h b k' ty z' vd dd) (hty : refKind ty = false) {a' b' n' L1 L2 : Nat} (h1 : ¬ sp < 0 ∧ sp.toNatClampNeg = a') (h2 : ¬ dp < 0 ∧ dp.toNatClampNeg = b') (h3 : ¬ nn < 0 ∧ nn.toNatClampNeg = n') (hz : z.toNatClampNeg = L1) (hz' : z'.toNatClampNeg = L2) (h4 : a' + n' ≤ L1) (h5 : b' + n' ≤ L2)
    (hus : vd.take b' ++ ((List.range n').map fun i => vs.getD (a' + i) dv) ++ vd.drop (b' + n') = us) (hl : b' + n' ≤ vd.length) (hb' : b ∈ M) (hd : decode bytes pc = .ok (.invokestatic index, 3)) (hp : pc + 3 = pc') (hsz : Ls.size = ml) (hf : 1 ≤ R.frames) {Wd : Nat} (hwd : (S.map fun v => v.category).sum = Wd) (hlo : Wd + 18 ≤ R.locals)
    (g : ∀ T' h', W l Z a0 EL nw own bytes ml ret R κ T' h' M cells slots → Keep h h' [b] → Arv Z h' b k' ty z' us dd → Go Z EL nw R κ Q (T'.setTop (mkF (km κ) pc' Ls S))) : Go Z EL nw R κ Q (T.setTop (mkF (km κ) pc Ls (.int nn :: .int dp :: .ref b :: .int sp :: .ref a :: S))) := by
  obtain ⟨g1, rfl⟩ := h1
  obtain ⟨g2, rfl⟩ := h2
  obtain ⟨g3, rfl⟩ := h3
  subst hz hz'
  exact w.copy w1 w2 w3 w4 A B hty g1 g2 g3 h4 h5 hus hl hb' hd hp hsz hf hwd (by have e : nativeFrameWords "java/lang/System" "arraycopy" 5 = 7 := (by decide); omega) g
theorem W.clone (w : W l Z a0 EL nw own bytes ml ret R κ T h M cells slots) {index : Nat} {ad : String} (w1 : (Cond.methodLink own index ⟨ad, "clone", "()Ljava/lang/Object;"⟩).before a0 Z = true) (w2 : (Cond.sameMethod ad "java/lang/Object" "clone" "()Ljava/lang/Object;").before a0 Z = true) (w3 : (Cond.native ⟨"java/lang/Object", "clone", "()Ljava/lang/Object;"⟩).before a0 Z = true)
    (w4 : (Cond.instanceMethod ⟨"java/lang/Object", "clone", "()Ljava/lang/Object;"⟩).before a0 Z = true) (w5 : (Cond.selects ad ⟨ad, "clone", "()Ljava/lang/Object;"⟩ ⟨"java/lang/Object", "clone", "()Ljava/lang/Object;"⟩).before a0 Z = true) (w6 : (Cond.castable ad "java/lang/Cloneable").before a0 Z = true)
    {a : Addr} {k : ClassId} {ty : FieldType} {z : Int32} {vs : List Value} {dv : Value} (F : Arv Z h a k ty z vs dv) (E : Exa Z h a ad) (hd : decode bytes pc = .ok (.invokevirtual index, 3)) (hp : pc + 3 = pc') (hsz : Ls.size = ml) (hf : 1 ≤ R.frames) {Wd cap : Nat} (hwd : (S.map fun v => v.category).sum = Wd) (hlo : Wd + 14 ≤ R.locals) (hcap : z.toNatClampNeg ≤ cap) (hc : cells + 1 ≤ R.cells) (hs : slots + cap ≤ R.slots)
    (g : ∀ T' h' b, W l Z a0 EL nw own bytes ml ret R κ T' h' (b :: M) (cells + 1) (slots + cap) → Keep h h' [] → h.size ≤ b → Arv Z h' b k ty z vs dv → Exa Z h' b ad → Go Z EL nw R κ Q (T'.setTop (mkF (km κ) pc' Ls (.ref b :: S)))) : Go Z EL nw R κ Q (T.setTop (mkF (km κ) pc Ls (.ref a :: S))) := by
  subst hp
  refine w.made (k := 1) (n := cap) (P := fun h' => Arv Z h' h.size k ty z vs dv ∧ Exa Z h' h.size ad) (G := mkF (km κ) (pc + 3) Ls (.ref h.size :: S)) (fun s locs hx hby hml hZ hown eT X => ?_) (fun T' h' w' K hP => g T' h' _ w' K (Nat.le_refl _) hP.1 hP.2)
  obtain ⟨T', h', X', e', Ex, A, E', st⟩ := cloneH X hx hZ hown w1 w2 w3 w4 w5 w6 eT F.arh E (g := mkF (km κ) pc Ls (.ref a :: S)) rfl (hsz.trans hml.symm) rfl (hb hby hd) hf (W := Wd) (by rw [mr0]; omega) hlo hcap hc hs
  exact ⟨T', h', X', e', Ex, E'.lt, ⟨A, E'⟩, st⟩
theorem mN {M : List Addr} : ∀ x ∈ ([] : List Addr), x ∈ M := fun _ q => nomatch q
theorem mC {a : Addr} {L M : List Addr} (q : a ∈ M) (r : ∀ x ∈ L, x ∈ M) : ∀ x ∈ a :: L, x ∈ M := fun x z => (List.mem_cons.mp z).elim (fun u => u ▸ q) (r x)
end Heap1
section Pure
variable {l : Launch} {Z : State} {a0 : Array Value} {EL : List (String × Nat)} {nw : Bool} {own : String} {bytes : ByteArray} {ml : Nat} {ret : Option FieldType} {R : Room} {κ : Ka} {T : State} {h : Heap} {M : List Addr} {cells slots : Nat} {Q : Option Value → Heap → List Addr → Prop} {pc pc' : Nat} {Ls Ls' : Array Slot} {S : List Value}
theorem W.iloadN (w : W l Z a0 EL nw own bytes ml ret R κ T h M cells slots) {k : Fin 4} {v : Int32} (hd : decode bytes pc = .ok (.iload_n k, 1)) (hp : pc + 1 = pc') (hl : Ls[k.val]? = some (.val (.int v)))
    (g : Go Z EL nw R κ Q (T.setTop (mkF (km κ) pc' Ls (.int v :: S)))) : Go Z EL nw R κ Q (T.setTop (mkF (km κ) pc Ls (S))) := by
  subst hp
  exact w.pure (fun hx hby H t k => XS.iloadN H hx rfl (g := mkF (km κ) pc Ls (S)) (hb hby hd) hl k) g
theorem W.iload (w : W l Z a0 EL nw own bytes ml ret R κ T h M cells slots) {k : Nat} {v : Int32} (hd : decode bytes pc = .ok (.iload k, 2)) (hp : pc + 2 = pc') (hl : Ls[k]? = some (.val (.int v)))
    (g : Go Z EL nw R κ Q (T.setTop (mkF (km κ) pc' Ls (.int v :: S)))) : Go Z EL nw R κ Q (T.setTop (mkF (km κ) pc Ls (S))) := by
  subst hp
  exact w.pure (fun hx hby H t k => XS.iload H hx rfl (g := mkF (km κ) pc Ls (S)) (hb hby hd) hl k) g
theorem W.lloadN (w : W l Z a0 EL nw own bytes ml ret R κ T h M cells slots) {k : Fin 4} {v : Int64} (hd : decode bytes pc = .ok (.lload_n k, 1)) (hp : pc + 1 = pc') (hl : Ls[k.val]? = some (.val (.long v)))
    (g : Go Z EL nw R κ Q (T.setTop (mkF (km κ) pc' Ls (.long v :: S)))) : Go Z EL nw R κ Q (T.setTop (mkF (km κ) pc Ls (S))) := by
  subst hp
  exact w.pure (fun hx hby H t k => XT.lloadN H hx rfl (g := mkF (km κ) pc Ls (S)) (hb hby hd) hl k) g
theorem W.lload (w : W l Z a0 EL nw own bytes ml ret R κ T h M cells slots) {k : Nat} {v : Int64} (hd : decode bytes pc = .ok (.lload k, 2)) (hp : pc + 2 = pc') (hl : Ls[k]? = some (.val (.long v)))
    (g : Go Z EL nw R κ Q (T.setTop (mkF (km κ) pc' Ls (.long v :: S)))) : Go Z EL nw R κ Q (T.setTop (mkF (km κ) pc Ls (S))) := by
  subst hp
  exact w.pure (fun hx hby H t k => XT.lload H hx rfl (g := mkF (km κ) pc Ls (S)) (hb hby hd) hl k) g
theorem W.aloadN (w : W l Z a0 EL nw own bytes ml ret R κ T h M cells slots) {k : Fin 4} {v : Value} (hd : decode bytes pc = .ok (.aload_n k, 1)) (hp : pc + 1 = pc') (hl : Ls[k.val]? = some (.val v)) (hv : v.isRef = true)
    (g : Go Z EL nw R κ Q (T.setTop (mkF (km κ) pc' Ls (v :: S)))) : Go Z EL nw R κ Q (T.setTop (mkF (km κ) pc Ls (S))) := by
  subst hp
  exact w.pure (fun hx hby H t k => XS.aloadN H hx rfl (g := mkF (km κ) pc Ls (S)) (hb hby hd) hl hv k) g
theorem W.aload (w : W l Z a0 EL nw own bytes ml ret R κ T h M cells slots) {k : Nat} {v : Value} (hd : decode bytes pc = .ok (.aload k, 2)) (hp : pc + 2 = pc') (hl : Ls[k]? = some (.val v)) (hv : v.isRef = true)
    (g : Go Z EL nw R κ Q (T.setTop (mkF (km κ) pc' Ls (v :: S)))) : Go Z EL nw R κ Q (T.setTop (mkF (km κ) pc Ls (S))) := by
  subst hp
  exact w.pure (fun hx hby H t k => XS.aload H hx rfl (g := mkF (km κ) pc Ls (S)) (hb hby hd) hl hv k) g
theorem W.istoreN (w : W l Z a0 EL nw own bytes ml ret R κ T h M cells slots) {k : Fin 4} {x : Int32} (hd : decode bytes pc = .ok (.istore_n k, 1)) (hp : pc + 1 = pc') (hl : storeLocals Ls k.val (.int x) = some Ls')
    (g : Go Z EL nw R κ Q (T.setTop (mkF (km κ) pc' Ls' (S)))) : Go Z EL nw R κ Q (T.setTop (mkF (km κ) pc Ls (.int x :: S))) := by
  subst hp
  exact w.pure (fun hx hby H t k => XS.istoreN H hx rfl (g := mkF (km κ) pc Ls (.int x :: S)) (hb hby hd) rfl hl k) g
theorem W.istore (w : W l Z a0 EL nw own bytes ml ret R κ T h M cells slots) {k : Nat} {x : Int32} (hd : decode bytes pc = .ok (.istore k, 2)) (hp : pc + 2 = pc') (hl : storeLocals Ls k (.int x) = some Ls')
    (g : Go Z EL nw R κ Q (T.setTop (mkF (km κ) pc' Ls' (S)))) : Go Z EL nw R κ Q (T.setTop (mkF (km κ) pc Ls (.int x :: S))) := by
  subst hp
  exact w.pure (fun hx hby H t k => XS.istore H hx rfl (g := mkF (km κ) pc Ls (.int x :: S)) (hb hby hd) rfl hl k) g
theorem W.lstoreN (w : W l Z a0 EL nw own bytes ml ret R κ T h M cells slots) {k : Fin 4} {x : Int64} (hd : decode bytes pc = .ok (.lstore_n k, 1)) (hp : pc + 1 = pc') (hl : storeLocals Ls k.val (.long x) = some Ls')
    (g : Go Z EL nw R κ Q (T.setTop (mkF (km κ) pc' Ls' (S)))) : Go Z EL nw R κ Q (T.setTop (mkF (km κ) pc Ls (.long x :: S))) := by
  subst hp
  exact w.pure (fun hx hby H t k => XT.lstoreN H hx rfl (g := mkF (km κ) pc Ls (.long x :: S)) (hb hby hd) rfl hl k) g
theorem W.lstore (w : W l Z a0 EL nw own bytes ml ret R κ T h M cells slots) {k : Nat} {x : Int64} (hd : decode bytes pc = .ok (.lstore k, 2)) (hp : pc + 2 = pc') (hl : storeLocals Ls k (.long x) = some Ls')
    (g : Go Z EL nw R κ Q (T.setTop (mkF (km κ) pc' Ls' (S)))) : Go Z EL nw R κ Q (T.setTop (mkF (km κ) pc Ls (.long x :: S))) := by
  subst hp
  exact w.pure (fun hx hby H t k => XT.lstore H hx rfl (g := mkF (km κ) pc Ls (.long x :: S)) (hb hby hd) rfl hl k) g
theorem W.astoreN (w : W l Z a0 EL nw own bytes ml ret R κ T h M cells slots) {k : Fin 4} {x : Value} (hd : decode bytes pc = .ok (.astore_n k, 1)) (hp : pc + 1 = pc') (hv : x.isRef = true) (hl : storeLocals Ls k.val x = some Ls')
    (g : Go Z EL nw R κ Q (T.setTop (mkF (km κ) pc' Ls' (S)))) : Go Z EL nw R κ Q (T.setTop (mkF (km κ) pc Ls (x :: S))) := by
  subst hp
  exact w.pure (fun hx hby H t k => XS.astoreN H hx rfl (g := mkF (km κ) pc Ls (x :: S)) (hb hby hd) rfl hv hl k) g
theorem W.astore (w : W l Z a0 EL nw own bytes ml ret R κ T h M cells slots) {k : Nat} {x : Value} (hd : decode bytes pc = .ok (.astore k, 2)) (hp : pc + 2 = pc') (hv : x.isRef = true) (hl : storeLocals Ls k x = some Ls')
    (g : Go Z EL nw R κ Q (T.setTop (mkF (km κ) pc' Ls' (S)))) : Go Z EL nw R κ Q (T.setTop (mkF (km κ) pc Ls (x :: S))) := by
  subst hp
  exact w.pure (fun hx hby H t k => XS.astore H hx rfl (g := mkF (km κ) pc Ls (x :: S)) (hb hby hd) rfl hv hl k) g
theorem W.iinc (w : W l Z a0 EL nw own bytes ml ret R κ T h M cells slots) {k : Nat} {cst : Int} {x : Int32} (hd : decode bytes pc = .ok (.iinc k cst, 3)) (hp : pc + 3 = pc') {z : Int32} (hz : x + Int32.ofInt cst = z) (hl : Ls[k]? = some (.val (.int x))) (hl' : storeLocals Ls k (.int z) = some Ls')
    (g : Go Z EL nw R κ Q (T.setTop (mkF (km κ) pc' Ls' (S)))) : Go Z EL nw R κ Q (T.setTop (mkF (km κ) pc Ls (S))) := by
  subst hp hz
  exact w.pure (fun hx hby H t k => XS.iinc H hx rfl (g := mkF (km κ) pc Ls (S)) (hb hby hd) hl hl' k) g
theorem W.iconst (w : W l Z a0 EL nw own bytes ml ret R κ T h M cells slots) {i : Int} (hd : decode bytes pc = .ok (.iconst i, 1)) (hp : pc + 1 = pc') {z : Int32} (hz : Int32.ofInt i = z)
    (g : Go Z EL nw R κ Q (T.setTop (mkF (km κ) pc' Ls (.int z :: S)))) : Go Z EL nw R κ Q (T.setTop (mkF (km κ) pc Ls (S))) := by
  subst hp hz
  exact w.pure (fun hx hby H t k => XS.iconst H hx rfl (g := mkF (km κ) pc Ls (S)) (hb hby hd)  k) g
theorem W.bipush (w : W l Z a0 EL nw own bytes ml ret R κ T h M cells slots) {i : Int} (hd : decode bytes pc = .ok (.bipush i, 2)) (hp : pc + 2 = pc') {z : Int32} (hz : (Int8.ofInt i).toInt32 = z)
    (g : Go Z EL nw R κ Q (T.setTop (mkF (km κ) pc' Ls (.int z :: S)))) : Go Z EL nw R κ Q (T.setTop (mkF (km κ) pc Ls (S))) := by
  subst hp hz
  exact w.pure (fun hx hby H t k => XS.bipush H hx rfl (g := mkF (km κ) pc Ls (S)) (hb hby hd)  k) g
theorem W.sipush (w : W l Z a0 EL nw own bytes ml ret R κ T h M cells slots) {i : Int} (hd : decode bytes pc = .ok (.sipush i, 3)) (hp : pc + 3 = pc') {z : Int32} (hz : (Int16.ofInt i).toInt32 = z)
    (g : Go Z EL nw R κ Q (T.setTop (mkF (km κ) pc' Ls (.int z :: S)))) : Go Z EL nw R κ Q (T.setTop (mkF (km κ) pc Ls (S))) := by
  subst hp hz
  exact w.pure (fun hx hby H t k => XS.sipush H hx rfl (g := mkF (km κ) pc Ls (S)) (hb hby hd)  k) g
theorem W.lconst (w : W l Z a0 EL nw own bytes ml ret R κ T h M cells slots) {k : Fin 2} (hd : decode bytes pc = .ok (.lconst k, 1)) (hp : pc + 1 = pc') {z : Int64} (hz : Int64.ofNat k = z)
    (g : Go Z EL nw R κ Q (T.setTop (mkF (km κ) pc' Ls (.long z :: S)))) : Go Z EL nw R κ Q (T.setTop (mkF (km κ) pc Ls (S))) := by
  subst hp hz
  exact w.pure (fun hx hby H t k => XT.lconst H hx rfl (g := mkF (km κ) pc Ls (S)) (hb hby hd)  k) g
theorem W.aconstNull (w : W l Z a0 EL nw own bytes ml ret R κ T h M cells slots)  (hd : decode bytes pc = .ok (.aconst_null, 1)) (hp : pc + 1 = pc')
    (g : Go Z EL nw R κ Q (T.setTop (mkF (km κ) pc' Ls (.null :: S)))) : Go Z EL nw R κ Q (T.setTop (mkF (km κ) pc Ls (S))) := by
  subst hp
  exact w.pure (fun hx hby H t k => XS.aconstNull H hx rfl (g := mkF (km κ) pc Ls (S)) (hb hby hd)  k) g
theorem W.iadd (w : W l Z a0 EL nw own bytes ml ret R κ T h M cells slots) {x y : Int32} (hd : decode bytes pc = .ok (.iadd, 1)) (hp : pc + 1 = pc') {z : Int32} (hz : x + y = z)
    (g : Go Z EL nw R κ Q (T.setTop (mkF (km κ) pc' Ls (.int z :: S)))) : Go Z EL nw R κ Q (T.setTop (mkF (km κ) pc Ls (.int y :: .int x :: S))) := by
  subst hp hz
  exact w.pure (fun hx hby H t k => XS.iadd H hx rfl (g := mkF (km κ) pc Ls (.int y :: .int x :: S)) (hb hby hd) rfl k) g
theorem W.isub (w : W l Z a0 EL nw own bytes ml ret R κ T h M cells slots) {x y : Int32} (hd : decode bytes pc = .ok (.isub, 1)) (hp : pc + 1 = pc') {z : Int32} (hz : x - y = z)
    (g : Go Z EL nw R κ Q (T.setTop (mkF (km κ) pc' Ls (.int z :: S)))) : Go Z EL nw R κ Q (T.setTop (mkF (km κ) pc Ls (.int y :: .int x :: S))) := by
  subst hp hz
  exact w.pure (fun hx hby H t k => XS.isub H hx rfl (g := mkF (km κ) pc Ls (.int y :: .int x :: S)) (hb hby hd) rfl k) g
theorem W.imul (w : W l Z a0 EL nw own bytes ml ret R κ T h M cells slots) {x y : Int32} (hd : decode bytes pc = .ok (.imul, 1)) (hp : pc + 1 = pc') {z : Int32} (hz : x * y = z)
    (g : Go Z EL nw R κ Q (T.setTop (mkF (km κ) pc' Ls (.int z :: S)))) : Go Z EL nw R κ Q (T.setTop (mkF (km κ) pc Ls (.int y :: .int x :: S))) := by
  subst hp hz
  exact w.pure (fun hx hby H t k => XS.imul H hx rfl (g := mkF (km κ) pc Ls (.int y :: .int x :: S)) (hb hby hd) rfl k) g
theorem W.iand (w : W l Z a0 EL nw own bytes ml ret R κ T h M cells slots) {x y : Int32} (hd : decode bytes pc = .ok (.iand, 1)) (hp : pc + 1 = pc') {z : Int32} (hz : x &&& y = z)
    (g : Go Z EL nw R κ Q (T.setTop (mkF (km κ) pc' Ls (.int z :: S)))) : Go Z EL nw R κ Q (T.setTop (mkF (km κ) pc Ls (.int y :: .int x :: S))) := by
  subst hp hz
  exact w.pure (fun hx hby H t k => XS.iand H hx rfl (g := mkF (km κ) pc Ls (.int y :: .int x :: S)) (hb hby hd) rfl k) g
theorem W.ior (w : W l Z a0 EL nw own bytes ml ret R κ T h M cells slots) {x y : Int32} (hd : decode bytes pc = .ok (.ior, 1)) (hp : pc + 1 = pc') {z : Int32} (hz : x ||| y = z)
    (g : Go Z EL nw R κ Q (T.setTop (mkF (km κ) pc' Ls (.int z :: S)))) : Go Z EL nw R κ Q (T.setTop (mkF (km κ) pc Ls (.int y :: .int x :: S))) := by
  subst hp hz
  exact w.pure (fun hx hby H t k => XT.ior H hx rfl (g := mkF (km κ) pc Ls (.int y :: .int x :: S)) (hb hby hd) rfl k) g
theorem W.ixor (w : W l Z a0 EL nw own bytes ml ret R κ T h M cells slots) {x y : Int32} (hd : decode bytes pc = .ok (.ixor, 1)) (hp : pc + 1 = pc') {z : Int32} (hz : x ^^^ y = z)
    (g : Go Z EL nw R κ Q (T.setTop (mkF (km κ) pc' Ls (.int z :: S)))) : Go Z EL nw R κ Q (T.setTop (mkF (km κ) pc Ls (.int y :: .int x :: S))) := by
  subst hp hz
  exact w.pure (fun hx hby H t k => XT.ixor H hx rfl (g := mkF (km κ) pc Ls (.int y :: .int x :: S)) (hb hby hd) rfl k) g
theorem W.ishl (w : W l Z a0 EL nw own bytes ml ret R κ T h M cells slots) {x y : Int32} (hd : decode bytes pc = .ok (.ishl, 1)) (hp : pc + 1 = pc') {z : Int32} (hz : x <<< (y &&& 31) = z)
    (g : Go Z EL nw R κ Q (T.setTop (mkF (km κ) pc' Ls (.int z :: S)))) : Go Z EL nw R κ Q (T.setTop (mkF (km κ) pc Ls (.int y :: .int x :: S))) := by
  subst hp hz
  exact w.pure (fun hx hby H t k => XT.ishl H hx rfl (g := mkF (km κ) pc Ls (.int y :: .int x :: S)) (hb hby hd) rfl k) g
theorem W.ishr (w : W l Z a0 EL nw own bytes ml ret R κ T h M cells slots) {x y : Int32} (hd : decode bytes pc = .ok (.ishr, 1)) (hp : pc + 1 = pc') {z : Int32} (hz : x >>> (y &&& 31) = z)
    (g : Go Z EL nw R κ Q (T.setTop (mkF (km κ) pc' Ls (.int z :: S)))) : Go Z EL nw R κ Q (T.setTop (mkF (km κ) pc Ls (.int y :: .int x :: S))) := by
  subst hp hz
  exact w.pure (fun hx hby H t k => XT.ishr H hx rfl (g := mkF (km κ) pc Ls (.int y :: .int x :: S)) (hb hby hd) rfl k) g
theorem W.iushr (w : W l Z a0 EL nw own bytes ml ret R κ T h M cells slots) {x y : Int32} (hd : decode bytes pc = .ok (.iushr, 1)) (hp : pc + 1 = pc') {z : Int32} (hz : XT.ushr x y = z)
    (g : Go Z EL nw R κ Q (T.setTop (mkF (km κ) pc' Ls (.int z :: S)))) : Go Z EL nw R κ Q (T.setTop (mkF (km κ) pc Ls (.int y :: .int x :: S))) := by
  subst hp hz
  exact w.pure (fun hx hby H t k => XT.iushr H hx rfl (g := mkF (km κ) pc Ls (.int y :: .int x :: S)) (hb hby hd) rfl k) g
theorem W.ladd (w : W l Z a0 EL nw own bytes ml ret R κ T h M cells slots) {x y : Int64} (hd : decode bytes pc = .ok (.ladd, 1)) (hp : pc + 1 = pc') {z : Int64} (hz : x + y = z)
    (g : Go Z EL nw R κ Q (T.setTop (mkF (km κ) pc' Ls (.long z :: S)))) : Go Z EL nw R κ Q (T.setTop (mkF (km κ) pc Ls (.long y :: .long x :: S))) := by
  subst hp hz
  exact w.pure (fun hx hby H t k => XT.ladd H hx rfl (g := mkF (km κ) pc Ls (.long y :: .long x :: S)) (hb hby hd) rfl k) g
theorem W.lsub (w : W l Z a0 EL nw own bytes ml ret R κ T h M cells slots) {x y : Int64} (hd : decode bytes pc = .ok (.lsub, 1)) (hp : pc + 1 = pc') {z : Int64} (hz : x - y = z)
    (g : Go Z EL nw R κ Q (T.setTop (mkF (km κ) pc' Ls (.long z :: S)))) : Go Z EL nw R κ Q (T.setTop (mkF (km κ) pc Ls (.long y :: .long x :: S))) := by
  subst hp hz
  exact w.pure (fun hx hby H t k => XT.lsub H hx rfl (g := mkF (km κ) pc Ls (.long y :: .long x :: S)) (hb hby hd) rfl k) g
theorem W.lmul (w : W l Z a0 EL nw own bytes ml ret R κ T h M cells slots) {x y : Int64} (hd : decode bytes pc = .ok (.lmul, 1)) (hp : pc + 1 = pc') {z : Int64} (hz : x * y = z)
    (g : Go Z EL nw R κ Q (T.setTop (mkF (km κ) pc' Ls (.long z :: S)))) : Go Z EL nw R κ Q (T.setTop (mkF (km κ) pc Ls (.long y :: .long x :: S))) := by
  subst hp hz
  exact w.pure (fun hx hby H t k => XT.lmul H hx rfl (g := mkF (km κ) pc Ls (.long y :: .long x :: S)) (hb hby hd) rfl k) g
theorem W.land (w : W l Z a0 EL nw own bytes ml ret R κ T h M cells slots) {x y : Int64} (hd : decode bytes pc = .ok (.land, 1)) (hp : pc + 1 = pc') {z : Int64} (hz : x &&& y = z)
    (g : Go Z EL nw R κ Q (T.setTop (mkF (km κ) pc' Ls (.long z :: S)))) : Go Z EL nw R κ Q (T.setTop (mkF (km κ) pc Ls (.long y :: .long x :: S))) := by
  subst hp hz
  exact w.pure (fun hx hby H t k => XT.land H hx rfl (g := mkF (km κ) pc Ls (.long y :: .long x :: S)) (hb hby hd) rfl k) g
theorem W.lor (w : W l Z a0 EL nw own bytes ml ret R κ T h M cells slots) {x y : Int64} (hd : decode bytes pc = .ok (.lor, 1)) (hp : pc + 1 = pc') {z : Int64} (hz : x ||| y = z)
    (g : Go Z EL nw R κ Q (T.setTop (mkF (km κ) pc' Ls (.long z :: S)))) : Go Z EL nw R κ Q (T.setTop (mkF (km κ) pc Ls (.long y :: .long x :: S))) := by
  subst hp hz
  exact w.pure (fun hx hby H t k => XT.lor H hx rfl (g := mkF (km κ) pc Ls (.long y :: .long x :: S)) (hb hby hd) rfl k) g
theorem W.lxor (w : W l Z a0 EL nw own bytes ml ret R κ T h M cells slots) {x y : Int64} (hd : decode bytes pc = .ok (.lxor, 1)) (hp : pc + 1 = pc') {z : Int64} (hz : x ^^^ y = z)
    (g : Go Z EL nw R κ Q (T.setTop (mkF (km κ) pc' Ls (.long z :: S)))) : Go Z EL nw R κ Q (T.setTop (mkF (km κ) pc Ls (.long y :: .long x :: S))) := by
  subst hp hz
  exact w.pure (fun hx hby H t k => XT.lxor H hx rfl (g := mkF (km κ) pc Ls (.long y :: .long x :: S)) (hb hby hd) rfl k) g
theorem W.lshl (w : W l Z a0 EL nw own bytes ml ret R κ T h M cells slots) {x : Int64} {y : Int32} (hd : decode bytes pc = .ok (.lshl, 1)) (hp : pc + 1 = pc') {z : Int64} (hz : x <<< (y.toInt64 &&& 63) = z)
    (g : Go Z EL nw R κ Q (T.setTop (mkF (km κ) pc' Ls (.long z :: S)))) : Go Z EL nw R κ Q (T.setTop (mkF (km κ) pc Ls (.int y :: .long x :: S))) := by
  subst hp hz
  exact w.pure (fun hx hby H t k => XT.lshl H hx rfl (g := mkF (km κ) pc Ls (.int y :: .long x :: S)) (hb hby hd) rfl k) g
theorem W.lshr (w : W l Z a0 EL nw own bytes ml ret R κ T h M cells slots) {x : Int64} {y : Int32} (hd : decode bytes pc = .ok (.lshr, 1)) (hp : pc + 1 = pc') {z : Int64} (hz : x >>> (y.toInt64 &&& 63) = z)
    (g : Go Z EL nw R κ Q (T.setTop (mkF (km κ) pc' Ls (.long z :: S)))) : Go Z EL nw R κ Q (T.setTop (mkF (km κ) pc Ls (.int y :: .long x :: S))) := by
  subst hp hz
  exact w.pure (fun hx hby H t k => XT.lshr H hx rfl (g := mkF (km κ) pc Ls (.int y :: .long x :: S)) (hb hby hd) rfl k) g
theorem W.lushr (w : W l Z a0 EL nw own bytes ml ret R κ T h M cells slots) {x : Int64} {y : Int32} (hd : decode bytes pc = .ok (.lushr, 1)) (hp : pc + 1 = pc') {z : Int64} (hz : XT.ushrL x y = z)
    (g : Go Z EL nw R κ Q (T.setTop (mkF (km κ) pc' Ls (.long z :: S)))) : Go Z EL nw R κ Q (T.setTop (mkF (km κ) pc Ls (.int y :: .long x :: S))) := by
  subst hp hz
  exact w.pure (fun hx hby H t k => XT.lushr H hx rfl (g := mkF (km κ) pc Ls (.int y :: .long x :: S)) (hb hby hd) rfl k) g
theorem W.idiv (w : W l Z a0 EL nw own bytes ml ret R κ T h M cells slots) {x y : Int32} (hd : decode bytes pc = .ok (.idiv, 1)) (hp : pc + 1 = pc') {z : Int32} (hz : x / y = z) (hy : y ≠ 0)
    (g : Go Z EL nw R κ Q (T.setTop (mkF (km κ) pc' Ls (.int z :: S)))) : Go Z EL nw R κ Q (T.setTop (mkF (km κ) pc Ls (.int y :: .int x :: S))) := by
  subst hp hz
  exact w.pure (fun hx hby H t k => XS.idiv H hx rfl (g := mkF (km κ) pc Ls (.int y :: .int x :: S)) (hb hby hd) rfl hy k) g
theorem W.irem (w : W l Z a0 EL nw own bytes ml ret R κ T h M cells slots) {x y : Int32} (hd : decode bytes pc = .ok (.irem, 1)) (hp : pc + 1 = pc') {z : Int32} (hz : x - (x / y) * y = z) (hy : y ≠ 0)
    (g : Go Z EL nw R κ Q (T.setTop (mkF (km κ) pc' Ls (.int z :: S)))) : Go Z EL nw R κ Q (T.setTop (mkF (km κ) pc Ls (.int y :: .int x :: S))) := by
  subst hp hz
  exact w.pure (fun hx hby H t k => XS.irem H hx rfl (g := mkF (km κ) pc Ls (.int y :: .int x :: S)) (hb hby hd) rfl hy k) g
theorem W.ldiv (w : W l Z a0 EL nw own bytes ml ret R κ T h M cells slots) {x y : Int64} (hd : decode bytes pc = .ok (.ldiv, 1)) (hp : pc + 1 = pc') {z : Int64} (hz : x / y = z) (hy : y ≠ 0)
    (g : Go Z EL nw R κ Q (T.setTop (mkF (km κ) pc' Ls (.long z :: S)))) : Go Z EL nw R κ Q (T.setTop (mkF (km κ) pc Ls (.long y :: .long x :: S))) := by
  subst hp hz
  exact w.pure (fun hx hby H t k => XT.ldiv H hx rfl (g := mkF (km κ) pc Ls (.long y :: .long x :: S)) (hb hby hd) rfl hy k) g
theorem W.lrem (w : W l Z a0 EL nw own bytes ml ret R κ T h M cells slots) {x y : Int64} (hd : decode bytes pc = .ok (.lrem, 1)) (hp : pc + 1 = pc') {z : Int64} (hz : x - (x / y) * y = z) (hy : y ≠ 0)
    (g : Go Z EL nw R κ Q (T.setTop (mkF (km κ) pc' Ls (.long z :: S)))) : Go Z EL nw R κ Q (T.setTop (mkF (km κ) pc Ls (.long y :: .long x :: S))) := by
  subst hp hz
  exact w.pure (fun hx hby H t k => XT.lrem H hx rfl (g := mkF (km κ) pc Ls (.long y :: .long x :: S)) (hb hby hd) rfl hy k) g
theorem W.ineg (w : W l Z a0 EL nw own bytes ml ret R κ T h M cells slots) {x : Int32} (hd : decode bytes pc = .ok (.ineg, 1)) (hp : pc + 1 = pc') {z : Int32} (hz : -x = z)
    (g : Go Z EL nw R κ Q (T.setTop (mkF (km κ) pc' Ls (.int z :: S)))) : Go Z EL nw R κ Q (T.setTop (mkF (km κ) pc Ls (.int x :: S))) := by
  subst hp hz
  exact w.pure (fun hx hby H t k => XS.ineg H hx rfl (g := mkF (km κ) pc Ls (.int x :: S)) (hb hby hd) rfl k) g
theorem W.lneg (w : W l Z a0 EL nw own bytes ml ret R κ T h M cells slots) {x : Int64} (hd : decode bytes pc = .ok (.lneg, 1)) (hp : pc + 1 = pc') {z : Int64} (hz : -x = z)
    (g : Go Z EL nw R κ Q (T.setTop (mkF (km κ) pc' Ls (.long z :: S)))) : Go Z EL nw R κ Q (T.setTop (mkF (km κ) pc Ls (.long x :: S))) := by
  subst hp hz
  exact w.pure (fun hx hby H t k => XT.lneg H hx rfl (g := mkF (km κ) pc Ls (.long x :: S)) (hb hby hd) rfl k) g
theorem W.i2l (w : W l Z a0 EL nw own bytes ml ret R κ T h M cells slots) {x : Int32} (hd : decode bytes pc = .ok (.i2l, 1)) (hp : pc + 1 = pc') {z : Int64} (hz : x.toInt64 = z)
    (g : Go Z EL nw R κ Q (T.setTop (mkF (km κ) pc' Ls (.long z :: S)))) : Go Z EL nw R κ Q (T.setTop (mkF (km κ) pc Ls (.int x :: S))) := by
  subst hp hz
  exact w.pure (fun hx hby H t k => XT.i2l H hx rfl (g := mkF (km κ) pc Ls (.int x :: S)) (hb hby hd) rfl k) g
theorem W.l2i (w : W l Z a0 EL nw own bytes ml ret R κ T h M cells slots) {x : Int64} (hd : decode bytes pc = .ok (.l2i, 1)) (hp : pc + 1 = pc') {z : Int32} (hz : x.toInt32 = z)
    (g : Go Z EL nw R κ Q (T.setTop (mkF (km κ) pc' Ls (.int z :: S)))) : Go Z EL nw R κ Q (T.setTop (mkF (km κ) pc Ls (.long x :: S))) := by
  subst hp hz
  exact w.pure (fun hx hby H t k => XT.l2i H hx rfl (g := mkF (km κ) pc Ls (.long x :: S)) (hb hby hd) rfl k) g
theorem W.i2b (w : W l Z a0 EL nw own bytes ml ret R κ T h M cells slots) {x : Int32} (hd : decode bytes pc = .ok (.i2b, 1)) (hp : pc + 1 = pc') {z : Int32} (hz : x.toInt8.toInt32 = z)
    (g : Go Z EL nw R κ Q (T.setTop (mkF (km κ) pc' Ls (.int z :: S)))) : Go Z EL nw R κ Q (T.setTop (mkF (km κ) pc Ls (.int x :: S))) := by
  subst hp hz
  exact w.pure (fun hx hby H t k => XT.i2b H hx rfl (g := mkF (km κ) pc Ls (.int x :: S)) (hb hby hd) rfl k) g
theorem W.i2c (w : W l Z a0 EL nw own bytes ml ret R κ T h M cells slots) {x : Int32} (hd : decode bytes pc = .ok (.i2c, 1)) (hp : pc + 1 = pc') {z : Int32} (hz : x.toUInt32.toUInt16.toUInt32.toInt32 = z)
    (g : Go Z EL nw R κ Q (T.setTop (mkF (km κ) pc' Ls (.int z :: S)))) : Go Z EL nw R κ Q (T.setTop (mkF (km κ) pc Ls (.int x :: S))) := by
  subst hp hz
  exact w.pure (fun hx hby H t k => XT.i2c H hx rfl (g := mkF (km κ) pc Ls (.int x :: S)) (hb hby hd) rfl k) g
theorem W.i2s (w : W l Z a0 EL nw own bytes ml ret R κ T h M cells slots) {x : Int32} (hd : decode bytes pc = .ok (.i2s, 1)) (hp : pc + 1 = pc') {z : Int32} (hz : x.toInt16.toInt32 = z)
    (g : Go Z EL nw R κ Q (T.setTop (mkF (km κ) pc' Ls (.int z :: S)))) : Go Z EL nw R κ Q (T.setTop (mkF (km κ) pc Ls (.int x :: S))) := by
  subst hp hz
  exact w.pure (fun hx hby H t k => XT.i2s H hx rfl (g := mkF (km κ) pc Ls (.int x :: S)) (hb hby hd) rfl k) g
theorem W.lcmp (w : W l Z a0 EL nw own bytes ml ret R κ T h M cells slots) {x y : Int64} (hd : decode bytes pc = .ok (.lcmp, 1)) (hp : pc + 1 = pc') {z : Int32} (hz : XT.cmpL x y = z)
    (g : Go Z EL nw R κ Q (T.setTop (mkF (km κ) pc' Ls (.int z :: S)))) : Go Z EL nw R κ Q (T.setTop (mkF (km κ) pc Ls (.long y :: .long x :: S))) := by
  subst hp hz
  exact w.pure (fun hx hby H t k => XT.lcmp H hx rfl (g := mkF (km κ) pc Ls (.long y :: .long x :: S)) (hb hby hd) rfl k) g
theorem W.dup (w : W l Z a0 EL nw own bytes ml ret R κ T h M cells slots) {x : Value} (hd : decode bytes pc = .ok (.dup, 1)) (hp : pc + 1 = pc') (hc : x.category = 1)
    (g : Go Z EL nw R κ Q (T.setTop (mkF (km κ) pc' Ls (x :: x :: S)))) : Go Z EL nw R κ Q (T.setTop (mkF (km κ) pc Ls (x :: S))) := by
  subst hp
  exact w.pure (fun hx hby H t k => XS.dup H hx rfl (g := mkF (km κ) pc Ls (x :: S)) (hb hby hd) rfl hc k) g
theorem W.pop (w : W l Z a0 EL nw own bytes ml ret R κ T h M cells slots) {x : Value} (hd : decode bytes pc = .ok (.pop, 1)) (hp : pc + 1 = pc') (hc : x.category = 1)
    (g : Go Z EL nw R κ Q (T.setTop (mkF (km κ) pc' Ls (S)))) : Go Z EL nw R κ Q (T.setTop (mkF (km κ) pc Ls (x :: S))) := by
  subst hp
  exact w.pure (fun hx hby H t k => XT.pop H hx rfl (g := mkF (km κ) pc Ls (x :: S)) (hb hby hd) rfl hc k) g
theorem W.dupX1 (w : W l Z a0 EL nw own bytes ml ret R κ T h M cells slots) {x y : Value} (hd : decode bytes pc = .ok (.dup_x1, 1)) (hp : pc + 1 = pc') (hc : x.category = 1) (hc' : y.category = 1)
    (g : Go Z EL nw R κ Q (T.setTop (mkF (km κ) pc' Ls (x :: y :: x :: S)))) : Go Z EL nw R κ Q (T.setTop (mkF (km κ) pc Ls (x :: y :: S))) := by
  subst hp
  exact w.pure (fun hx hby H t k => XT.dupX1 H hx rfl (g := mkF (km κ) pc Ls (x :: y :: S)) (hb hby hd) rfl hc hc' k) g
theorem W.dup2 (w : W l Z a0 EL nw own bytes ml ret R κ T h M cells slots) {x y : Value} (hd : decode bytes pc = .ok (.dup2, 1)) (hp : pc + 1 = pc') (hc : x.category = 1) (hc' : y.category = 1)
    (g : Go Z EL nw R κ Q (T.setTop (mkF (km κ) pc' Ls (x :: y :: x :: y :: S)))) : Go Z EL nw R κ Q (T.setTop (mkF (km κ) pc Ls (x :: y :: S))) := by
  subst hp
  exact w.pure (fun hx hby H t k => XT.dup2 H hx rfl (g := mkF (km κ) pc Ls (x :: y :: S)) (hb hby hd) rfl hc hc' k) g
theorem W.dup2L (w : W l Z a0 EL nw own bytes ml ret R κ T h M cells slots) {x : Int64} (hd : decode bytes pc = .ok (.dup2, 1)) (hp : pc + 1 = pc')
    (g : Go Z EL nw R κ Q (T.setTop (mkF (km κ) pc' Ls (.long x :: .long x :: S)))) : Go Z EL nw R κ Q (T.setTop (mkF (km κ) pc Ls (.long x :: S))) := by
  subst hp
  exact w.pure (fun hx hby H t k => XT.dup2L H hx rfl (g := mkF (km κ) pc Ls (.long x :: S)) (hb hby hd) rfl k) g
theorem W.goto (w : W l Z a0 EL nw own bytes ml ret R κ T h M cells slots) {o : Int} (hd : decode bytes pc = .ok (.goto o, 3)) (ho : 0 ≤ (pc : Int) + o) (hp : ((pc : Int) + o).toNat = pc')
    (g : Go Z EL nw R κ Q (T.setTop (mkF (km κ) pc' Ls (S)))) : Go Z EL nw R κ Q (T.setTop (mkF (km κ) pc Ls (S))) := by
  subst hp
  exact w.pure (fun hx hby H t k => XS.goto H hx rfl (g := mkF (km κ) pc Ls (S)) (pc0 := pc) rfl (hb hby hd) ho rfl k) g
theorem W.ifYes (w : W l Z a0 EL nw own bytes ml ret R κ T h M cells slots) {cd : ClassFile.Cond} {x : Int32} {o : Int} (hd : decode bytes pc = .ok (.ifCond cd o, 3)) (ho : 0 ≤ (pc : Int) + o) (hp : ((pc : Int) + o).toNat = pc') (hc : ifCond.holds cd x = true)
    (g : Go Z EL nw R κ Q (T.setTop (mkF (km κ) pc' Ls (S)))) : Go Z EL nw R κ Q (T.setTop (mkF (km κ) pc Ls (.int x :: S))) := by
  subst hp
  exact w.pure (fun hx hby H t k => XS.ifYes H hx rfl (g := mkF (km κ) pc Ls (.int x :: S)) (pc0 := pc) rfl (hb hby hd) rfl hc ho rfl k) g
theorem W.ifNo (w : W l Z a0 EL nw own bytes ml ret R κ T h M cells slots) {cd : ClassFile.Cond} {x : Int32} {o : Int} (hd : decode bytes pc = .ok (.ifCond cd o, 3)) (hp : pc + 3 = pc') (hc : ifCond.holds cd x = false)
    (g : Go Z EL nw R κ Q (T.setTop (mkF (km κ) pc' Ls (S)))) : Go Z EL nw R κ Q (T.setTop (mkF (km κ) pc Ls (.int x :: S))) := by
  subst hp
  exact w.pure (fun hx hby H t k => XS.ifNo H hx rfl (g := mkF (km κ) pc Ls (.int x :: S)) (hb hby hd) rfl hc k) g
theorem W.icmpYes (w : W l Z a0 EL nw own bytes ml ret R κ T h M cells slots) {cd : ClassFile.Cond} {x y : Int32} {o : Int} (hd : decode bytes pc = .ok (.if_icmp cd o, 3)) (ho : 0 ≤ (pc : Int) + o) (hp : ((pc : Int) + o).toNat = pc') (hc : if_icmp.holds cd x y = true)
    (g : Go Z EL nw R κ Q (T.setTop (mkF (km κ) pc' Ls (S)))) : Go Z EL nw R κ Q (T.setTop (mkF (km κ) pc Ls (.int y :: .int x :: S))) := by
  subst hp
  exact w.pure (fun hx hby H t k => XS.icmpYes H hx rfl (g := mkF (km κ) pc Ls (.int y :: .int x :: S)) (pc0 := pc) rfl (hb hby hd) rfl hc ho rfl k) g
theorem W.icmpNo (w : W l Z a0 EL nw own bytes ml ret R κ T h M cells slots) {cd : ClassFile.Cond} {x y : Int32} {o : Int} (hd : decode bytes pc = .ok (.if_icmp cd o, 3)) (hp : pc + 3 = pc') (hc : if_icmp.holds cd x y = false)
    (g : Go Z EL nw R κ Q (T.setTop (mkF (km κ) pc' Ls (S)))) : Go Z EL nw R κ Q (T.setTop (mkF (km κ) pc Ls (.int y :: .int x :: S))) := by
  subst hp
  exact w.pure (fun hx hby H t k => XS.icmpNo H hx rfl (g := mkF (km κ) pc Ls (.int y :: .int x :: S)) (hb hby hd) rfl hc k) g
theorem W.ifnullYes (w : W l Z a0 EL nw own bytes ml ret R κ T h M cells slots) {o : Int} (hd : decode bytes pc = .ok (.ifnull o, 3)) (ho : 0 ≤ (pc : Int) + o) (hp : ((pc : Int) + o).toNat = pc')
    (g : Go Z EL nw R κ Q (T.setTop (mkF (km κ) pc' Ls (S)))) : Go Z EL nw R κ Q (T.setTop (mkF (km κ) pc Ls (.null :: S))) := by
  subst hp
  exact w.pure (fun hx hby H t k => XS.ifnullYes H hx rfl (g := mkF (km κ) pc Ls (.null :: S)) (pc0 := pc) rfl (hb hby hd) rfl ho rfl k) g
theorem W.ifnullNo (w : W l Z a0 EL nw own bytes ml ret R κ T h M cells slots) {o : Int} {b : Addr} (hd : decode bytes pc = .ok (.ifnull o, 3)) (hp : pc + 3 = pc')
    (g : Go Z EL nw R κ Q (T.setTop (mkF (km κ) pc' Ls (S)))) : Go Z EL nw R κ Q (T.setTop (mkF (km κ) pc Ls (.ref b :: S))) := by
  subst hp
  exact w.pure (fun hx hby H t k => XS.ifnullNo H hx rfl (g := mkF (km κ) pc Ls (.ref b :: S)) (hb hby hd) rfl k) g
theorem W.ifnonnullYes (w : W l Z a0 EL nw own bytes ml ret R κ T h M cells slots) {o : Int} {b : Addr} (hd : decode bytes pc = .ok (.ifnonnull o, 3)) (ho : 0 ≤ (pc : Int) + o) (hp : ((pc : Int) + o).toNat = pc')
    (g : Go Z EL nw R κ Q (T.setTop (mkF (km κ) pc' Ls (S)))) : Go Z EL nw R κ Q (T.setTop (mkF (km κ) pc Ls (.ref b :: S))) := by
  subst hp
  exact w.pure (fun hx hby H t k => XT.ifnonnullYes H hx rfl (g := mkF (km κ) pc Ls (.ref b :: S)) (pc0 := pc) rfl (hb hby hd) rfl ho rfl k) g
theorem W.ifnonnullNo (w : W l Z a0 EL nw own bytes ml ret R κ T h M cells slots) {o : Int} (hd : decode bytes pc = .ok (.ifnonnull o, 3)) (hp : pc + 3 = pc')
    (g : Go Z EL nw R κ Q (T.setTop (mkF (km κ) pc' Ls (S)))) : Go Z EL nw R κ Q (T.setTop (mkF (km κ) pc Ls (.null :: S))) := by
  subst hp
  exact w.pure (fun hx hby H t k => XT.ifnonnullNo H hx rfl (g := mkF (km κ) pc Ls (.null :: S)) (hb hby hd) rfl k) g
theorem W.acmpYes (w : W l Z a0 EL nw own bytes ml ret R κ T h M cells slots) {cd : ClassFile.ACond} {x y : Value} {o : Int} (hd : decode bytes pc = .ok (.if_acmp cd o, 3)) (ho : 0 ≤ (pc : Int) + o) (hp : ((pc : Int) + o).toNat = pc') (hx' : x.isRef = true) (hy' : y.isRef = true) (hc : XT.acmp cd x y = true)
    (g : Go Z EL nw R κ Q (T.setTop (mkF (km κ) pc' Ls (S)))) : Go Z EL nw R κ Q (T.setTop (mkF (km κ) pc Ls (y :: x :: S))) := by
  subst hp
  exact w.pure (fun hx hby H t k => XT.acmpYes H hx rfl (g := mkF (km κ) pc Ls (y :: x :: S)) (pc0 := pc) rfl (hb hby hd) rfl hx' hy' hc ho rfl k) g
theorem W.acmpNo (w : W l Z a0 EL nw own bytes ml ret R κ T h M cells slots) {cd : ClassFile.ACond} {x y : Value} {o : Int} (hd : decode bytes pc = .ok (.if_acmp cd o, 3)) (hp : pc + 3 = pc') (hx' : x.isRef = true) (hy' : y.isRef = true) (hc : XT.acmp cd x y = false)
    (g : Go Z EL nw R κ Q (T.setTop (mkF (km κ) pc' Ls (S)))) : Go Z EL nw R κ Q (T.setTop (mkF (km κ) pc Ls (y :: x :: S))) := by
  subst hp
  exact w.pure (fun hx hby H t k => XT.acmpNo H hx rfl (g := mkF (km κ) pc Ls (y :: x :: S)) (hb hby hd) rfl hx' hy' hc k) g
end Pure
end Jvm.Own
namespace Jvm.Pilot.@@N@@
open Jvm Jvm.ClassFile Sem Op Lib Jvm.Free Jvm.Stand Jvm.LawKit Jvm.RoadKit Bundle Jvm.Own Jvm.Pilot.@@N@@.Jvm.D
/-- what the two statics of the JDK's set hold -/
def Cst (Z : State) : Prop := (∃ z : Int32, Sta Z Z.heap "java/lang/String" "COMPACT_STRINGS" "Z" (.int z) ∧ ¬ z = 0) ∧ ∃ f : Value, Sta Z Z.heap "jdk/internal/util/Preconditions" "SIOOBE_FORMATTER" "Ljava/util/function/BiFunction;" f ∧ f.isRef = true
def XS0 (Z : State) : Prop := Sta Z Z.heap "java/lang/StringUTF16" "$assertionsDisabled" "Z" (.int 1) ∧ Sta Z Z.heap "java/lang/StringUTF16" "HI_BYTE_SHIFT" "I" (.int 0) ∧ Sta Z Z.heap "java/lang/StringUTF16" "LO_BYTE_SHIFT" "I" (.int 8)
def HW (Z : State) (a0 : Array Value) : Prop := (∀ d ∈ tables_1, d.before a0 Z = true) ∧ Cst Z ∧ XS0 Z
theorem ow_0 {Z : State} {a0 : Array Value} (hw : HW Z a0) : (Jvm.Cond.constantLong "com/example/vestledger/vestledger/ledger/HashChainIsHashPinLaw" (7 : Nat) (15 : Int64)).before a0 Z = true := hw.1 _ (List.mem_of_getElem? (i := 0) rfl)
theorem ow_1 {Z : State} {a0 : Array Value} (hw : HW Z a0) : (Jvm.Cond.constantLong "com/example/vestledger/vestledger/ledger/HashChainIsHashPinLaw" (9 : Nat) (7 : Int64)).before a0 Z = true := hw.1 _ (List.mem_of_getElem? (i := 1) rfl)
theorem ow_2 {Z : State} {a0 : Array Value} (hw : HW Z a0) : (Jvm.Cond.arrayClass Jvm.ClassFile.FieldType.char).before a0 Z = true := hw.1 _ (List.mem_of_getElem? (i := 2) rfl)
theorem ow_3 {Z : State} {a0 : Array Value} (hw : HW Z a0) : (Jvm.Cond.methodLink "com/example/vestledger/vestledger/ledger/HashChainIsHashPinLaw" (26 : Nat) ({ cls := "com/example/vestledger/vestledger/ledger/HashChainIsHashPinLaw", name := "isHexDigit", desc := "(C)Z" } : Jvm.MethodName)).before a0 Z = true := hw.1 _ (List.mem_of_getElem? (i := 3) rfl)
theorem ow_4 {Z : State} {a0 : Array Value} (hw : HW Z a0) : (Jvm.Cond.static ({ cls := "com/example/vestledger/vestledger/ledger/HashChainIsHashPinLaw", name := "isHexDigit", desc := "(C)Z" } : Jvm.MethodName)).before a0 Z = true := hw.1 _ (List.mem_of_getElem? (i := 4) rfl)
theorem ow_5 {Z : State} {a0 : Array Value} (hw : HW Z a0) : (Jvm.Cond.initialized "com/example/vestledger/vestledger/ledger/HashChainIsHashPinLaw").before a0 Z = true := hw.1 _ (List.mem_of_getElem? (i := 5) rfl)
theorem ow_6 {Z : State} {a0 : Array Value} (hw : HW Z a0) : (Jvm.Cond.code ({ cls := "com/example/vestledger/vestledger/ledger/HashChainIsHashPinLaw", name := "isHexDigit", desc := "(C)Z" } : Jvm.MethodName) method_3_code (1 : Nat) (Option.some Jvm.ClassFile.FieldType.boolean)).before a0 Z = true := hw.1 _ (List.mem_of_getElem? (i := 6) rfl)
theorem ow_7 {Z : State} {a0 : Array Value} (hw : HW Z a0) : (Jvm.Cond.classLink "com/example/vestledger/vestledger/ledger/HashChainIsHashPinLaw" (11 : Nat) "java/lang/String").before a0 Z = true := hw.1 _ (List.mem_of_getElem? (i := 7) rfl)
theorem ow_8 {Z : State} {a0 : Array Value} (hw : HW Z a0) : (Jvm.Cond.instantiable "java/lang/String" (4 : Nat)).before a0 Z = true := hw.1 _ (List.mem_of_getElem? (i := 8) rfl)
theorem ow_9 {Z : State} {a0 : Array Value} (hw : HW Z a0) : (Jvm.Cond.initialized "java/lang/String").before a0 Z = true := hw.1 _ (List.mem_of_getElem? (i := 9) rfl)
theorem ow_10 {Z : State} {a0 : Array Value} (hw : HW Z a0) : (Jvm.Cond.methodLink "com/example/vestledger/vestledger/ledger/HashChainIsHashPinLaw" (13 : Nat) ({ cls := "java/lang/String", name := "<init>", desc := "([C)V" } : Jvm.MethodName)).before a0 Z = true := hw.1 _ (List.mem_of_getElem? (i := 10) rfl)
theorem ow_11 {Z : State} {a0 : Array Value} (hw : HW Z a0) : (Jvm.Cond.instanceMethod ({ cls := "java/lang/String", name := "<init>", desc := "([C)V" } : Jvm.MethodName)).before a0 Z = true := hw.1 _ (List.mem_of_getElem? (i := 11) rfl)
theorem ow_12 {Z : State} {a0 : Array Value} (hw : HW Z a0) : (Jvm.Cond.code ({ cls := "java/lang/String", name := "<init>", desc := "([C)V" } : Jvm.MethodName) jdk_42_method_3_code (2 : Nat) (Option.none : Option Jvm.ClassFile.FieldType)).before a0 Z = true := hw.1 _ (List.mem_of_getElem? (i := 12) rfl)
theorem ow_13 {Z : State} {a0 : Array Value} (hw : HW Z a0) : (Jvm.Cond.methodLink "java/lang/String" (27 : Nat) ({ cls := "java/lang/String", name := "<init>", desc := "([CIILjava/lang/Void;)V" } : Jvm.MethodName)).before a0 Z = true := hw.1 _ (List.mem_of_getElem? (i := 13) rfl)
theorem ow_14 {Z : State} {a0 : Array Value} (hw : HW Z a0) : (Jvm.Cond.instanceMethod ({ cls := "java/lang/String", name := "<init>", desc := "([CIILjava/lang/Void;)V" } : Jvm.MethodName)).before a0 Z = true := hw.1 _ (List.mem_of_getElem? (i := 14) rfl)
theorem ow_16 {Z : State} {a0 : Array Value} (hw : HW Z a0) : (Jvm.Cond.code ({ cls := "java/lang/String", name := "<init>", desc := "([CIILjava/lang/Void;)V" } : Jvm.MethodName) jdk_42_method_149_code (6 : Nat) (Option.none : Option Jvm.ClassFile.FieldType)).before a0 Z = true := hw.1 _ (List.mem_of_getElem? (i := 16) rfl)
theorem ow_17 {Z : State} {a0 : Array Value} (hw : HW Z a0) : (Jvm.Cond.methodLink "java/lang/String" (1 : Nat) ({ cls := "java/lang/Object", name := "<init>", desc := "()V" } : Jvm.MethodName)).before a0 Z = true := hw.1 _ (List.mem_of_getElem? (i := 17) rfl)
theorem ow_18 {Z : State} {a0 : Array Value} (hw : HW Z a0) : (Jvm.Cond.instanceMethod ({ cls := "java/lang/Object", name := "<init>", desc := "()V" } : Jvm.MethodName)).before a0 Z = true := hw.1 _ (List.mem_of_getElem? (i := 18) rfl)
theorem ow_19 {Z : State} {a0 : Array Value} (hw : HW Z a0) : (Jvm.Cond.code ({ cls := "java/lang/Object", name := "<init>", desc := "()V" } : Jvm.MethodName) object_method_1_code (1 : Nat) (Option.none : Option Jvm.ClassFile.FieldType)).before a0 Z = true := hw.1 _ (List.mem_of_getElem? (i := 19) rfl)
theorem ow_20 {Z : State} {a0 : Array Value} (hw : HW Z a0) : (Jvm.Cond.fieldLink "java/lang/String" (38 : Nat) "java/lang/String" "COMPACT_STRINGS" "Z").before a0 Z = true := hw.1 _ (List.mem_of_getElem? (i := 20) rfl)
theorem ow_21 {Z : State} {a0 : Array Value} (hw : HW Z a0) : (Jvm.Cond.methodLink "java/lang/String" (177 : Nat) ({ cls := "java/lang/StringUTF16", name := "compress", desc := "([CII)[B" } : Jvm.MethodName)).before a0 Z = true := hw.1 _ (List.mem_of_getElem? (i := 21) rfl)
theorem ow_22 {Z : State} {a0 : Array Value} (hw : HW Z a0) : (Jvm.Cond.static ({ cls := "java/lang/StringUTF16", name := "compress", desc := "([CII)[B" } : Jvm.MethodName)).before a0 Z = true := hw.1 _ (List.mem_of_getElem? (i := 22) rfl)
theorem ow_23 {Z : State} {a0 : Array Value} (hw : HW Z a0) : (Jvm.Cond.initialized "java/lang/StringUTF16").before a0 Z = true := hw.1 _ (List.mem_of_getElem? (i := 23) rfl)
theorem ow_24 {Z : State} {a0 : Array Value} (hw : HW Z a0) : (Jvm.Cond.code ({ cls := "java/lang/StringUTF16", name := "compress", desc := "([CII)[B" } : Jvm.MethodName) jdk_52_method_16_code (6 : Nat) (Option.some (Jvm.ClassFile.FieldType.array Jvm.ClassFile.FieldType.byte))).before a0 Z = true := hw.1 _ (List.mem_of_getElem? (i := 24) rfl)
theorem ow_25 {Z : State} {a0 : Array Value} (hw : HW Z a0) : (Jvm.Cond.arrayClass Jvm.ClassFile.FieldType.byte).before a0 Z = true := hw.1 _ (List.mem_of_getElem? (i := 25) rfl)
theorem ow_26 {Z : State} {a0 : Array Value} (hw : HW Z a0) : (Jvm.Cond.methodLink "java/lang/StringUTF16" (115 : Nat) ({ cls := "java/lang/StringUTF16", name := "compress", desc := "([CI[BII)I" } : Jvm.MethodName)).before a0 Z = true := hw.1 _ (List.mem_of_getElem? (i := 26) rfl)
theorem ow_27 {Z : State} {a0 : Array Value} (hw : HW Z a0) : (Jvm.Cond.static ({ cls := "java/lang/StringUTF16", name := "compress", desc := "([CI[BII)I" } : Jvm.MethodName)).before a0 Z = true := hw.1 _ (List.mem_of_getElem? (i := 27) rfl)
theorem ow_28 {Z : State} {a0 : Array Value} (hw : HW Z a0) : (Jvm.Cond.code ({ cls := "java/lang/StringUTF16", name := "compress", desc := "([CI[BII)I" } : Jvm.MethodName) jdk_52_method_21_code (7 : Nat) (Option.some Jvm.ClassFile.FieldType.int)).before a0 Z = true := hw.1 _ (List.mem_of_getElem? (i := 28) rfl)
theorem ow_29 {Z : State} {a0 : Array Value} (hw : HW Z a0) : (Jvm.Cond.methodLink "java/lang/String" (47 : Nat) ({ cls := "java/lang/StringUTF16", name := "coderFromArrayLen", desc := "([BI)B" } : Jvm.MethodName)).before a0 Z = true := hw.1 _ (List.mem_of_getElem? (i := 29) rfl)
theorem ow_30 {Z : State} {a0 : Array Value} (hw : HW Z a0) : (Jvm.Cond.static ({ cls := "java/lang/StringUTF16", name := "coderFromArrayLen", desc := "([BI)B" } : Jvm.MethodName)).before a0 Z = true := hw.1 _ (List.mem_of_getElem? (i := 30) rfl)
theorem ow_31 {Z : State} {a0 : Array Value} (hw : HW Z a0) : (Jvm.Cond.code ({ cls := "java/lang/StringUTF16", name := "coderFromArrayLen", desc := "([BI)B" } : Jvm.MethodName) jdk_52_method_15_code (2 : Nat) (Option.some Jvm.ClassFile.FieldType.byte)).before a0 Z = true := hw.1 _ (List.mem_of_getElem? (i := 31) rfl)
theorem ow_32 {Z : State} {a0 : Array Value} (hw : HW Z a0) : (Jvm.Cond.fieldLink "java/lang/String" (15 : Nat) "java/lang/String" "coder" "B").before a0 Z = true := hw.1 _ (List.mem_of_getElem? (i := 32) rfl)
theorem ow_33 {Z : State} {a0 : Array Value} (hw : HW Z a0) : (Jvm.Cond.laysFinal "java/lang/String" "java/lang/String" "coder" "B").before a0 Z = true := hw.1 _ (List.mem_of_getElem? (i := 33) rfl)
theorem ow_34 {Z : State} {a0 : Array Value} (hw : HW Z a0) : (Jvm.Cond.fieldLink "java/lang/String" (9 : Nat) "java/lang/String" "value" "[B").before a0 Z = true := hw.1 _ (List.mem_of_getElem? (i := 34) rfl)
theorem ow_35 {Z : State} {a0 : Array Value} (hw : HW Z a0) : (Jvm.Cond.laysFinal "java/lang/String" "java/lang/String" "value" "[B").before a0 Z = true := hw.1 _ (List.mem_of_getElem? (i := 35) rfl)
theorem ow_36 {Z : State} {a0 : Array Value} (hw : HW Z a0) : (Jvm.Cond.methodLink "com/example/vestledger/vestledger/ledger/HashChainIsHashPinLaw" (16 : Nat) ({ cls := "com/example/vestledger/vestledger/ledger/HashChain", name := "isHash", desc := "(Ljava/lang/String;)Z" } : Jvm.MethodName)).before a0 Z = true := hw.1 _ (List.mem_of_getElem? (i := 36) rfl)
theorem ow_37 {Z : State} {a0 : Array Value} (hw : HW Z a0) : (Jvm.Cond.static ({ cls := "com/example/vestledger/vestledger/ledger/HashChain", name := "isHash", desc := "(Ljava/lang/String;)Z" } : Jvm.MethodName)).before a0 Z = true := hw.1 _ (List.mem_of_getElem? (i := 37) rfl)
theorem ow_38 {Z : State} {a0 : Array Value} (hw : HW Z a0) : (Jvm.Cond.initialized "com/example/vestledger/vestledger/ledger/HashChain").before a0 Z = true := hw.1 _ (List.mem_of_getElem? (i := 38) rfl)
theorem ow_39 {Z : State} {a0 : Array Value} (hw : HW Z a0) : (Jvm.Cond.code ({ cls := "com/example/vestledger/vestledger/ledger/HashChain", name := "isHash", desc := "(Ljava/lang/String;)Z" } : Jvm.MethodName) prog_8_method_6_code (1 : Nat) (Option.some Jvm.ClassFile.FieldType.boolean)).before a0 Z = true := hw.1 _ (List.mem_of_getElem? (i := 39) rfl)
theorem ow_40 {Z : State} {a0 : Array Value} (hw : HW Z a0) : (Jvm.Cond.methodLink "com/example/vestledger/vestledger/ledger/HashChain" (91 : Nat) ({ cls := "java/lang/String", name := "length", desc := "()I" } : Jvm.MethodName)).before a0 Z = true := hw.1 _ (List.mem_of_getElem? (i := 40) rfl)
theorem ow_41 {Z : State} {a0 : Array Value} (hw : HW Z a0) : (Jvm.Cond.declares ({ cls := "java/lang/String", name := "length", desc := "()I" } : Jvm.MethodName)).before a0 Z = true := hw.1 _ (List.mem_of_getElem? (i := 41) rfl)
theorem ow_42 {Z : State} {a0 : Array Value} (hw : HW Z a0) : (Jvm.Cond.instanceMethod ({ cls := "java/lang/String", name := "length", desc := "()I" } : Jvm.MethodName)).before a0 Z = true := hw.1 _ (List.mem_of_getElem? (i := 42) rfl)
theorem ow_43 {Z : State} {a0 : Array Value} (hw : HW Z a0) : (Jvm.Cond.selects "java/lang/String" ({ cls := "java/lang/String", name := "length", desc := "()I" } : Jvm.MethodName) ({ cls := "java/lang/String", name := "length", desc := "()I" } : Jvm.MethodName)).before a0 Z = true := hw.1 _ (List.mem_of_getElem? (i := 43) rfl)
theorem ow_44 {Z : State} {a0 : Array Value} (hw : HW Z a0) : (Jvm.Cond.code ({ cls := "java/lang/String", name := "length", desc := "()I" } : Jvm.MethodName) jdk_42_method_54_code (1 : Nat) (Option.some Jvm.ClassFile.FieldType.int)).before a0 Z = true := hw.1 _ (List.mem_of_getElem? (i := 44) rfl)
theorem ow_45 {Z : State} {a0 : Array Value} (hw : HW Z a0) : (Jvm.Cond.methodLink "java/lang/String" (335 : Nat) ({ cls := "java/lang/String", name := "coder", desc := "()B" } : Jvm.MethodName)).before a0 Z = true := hw.1 _ (List.mem_of_getElem? (i := 45) rfl)
theorem ow_46 {Z : State} {a0 : Array Value} (hw : HW Z a0) : (Jvm.Cond.declares ({ cls := "java/lang/String", name := "coder", desc := "()B" } : Jvm.MethodName)).before a0 Z = true := hw.1 _ (List.mem_of_getElem? (i := 46) rfl)
theorem ow_47 {Z : State} {a0 : Array Value} (hw : HW Z a0) : (Jvm.Cond.instanceMethod ({ cls := "java/lang/String", name := "coder", desc := "()B" } : Jvm.MethodName)).before a0 Z = true := hw.1 _ (List.mem_of_getElem? (i := 47) rfl)
theorem ow_48 {Z : State} {a0 : Array Value} (hw : HW Z a0) : (Jvm.Cond.selects "java/lang/String" ({ cls := "java/lang/String", name := "coder", desc := "()B" } : Jvm.MethodName) ({ cls := "java/lang/String", name := "coder", desc := "()B" } : Jvm.MethodName)).before a0 Z = true := hw.1 _ (List.mem_of_getElem? (i := 48) rfl)
theorem ow_49 {Z : State} {a0 : Array Value} (hw : HW Z a0) : (Jvm.Cond.code ({ cls := "java/lang/String", name := "coder", desc := "()B" } : Jvm.MethodName) jdk_42_method_152_code (1 : Nat) (Option.some Jvm.ClassFile.FieldType.byte)).before a0 Z = true := hw.1 _ (List.mem_of_getElem? (i := 49) rfl)
theorem ow_50 {Z : State} {a0 : Array Value} (hw : HW Z a0) : (Jvm.Cond.methodLink "com/example/vestledger/vestledger/ledger/HashChain" (95 : Nat) ({ cls := "com/example/vestledger/vestledger/ledger/HashChain", name := "areDigits", desc := "(Ljava/lang/String;I)Z" } : Jvm.MethodName)).before a0 Z = true := hw.1 _ (List.mem_of_getElem? (i := 50) rfl)
theorem ow_51 {Z : State} {a0 : Array Value} (hw : HW Z a0) : (Jvm.Cond.static ({ cls := "com/example/vestledger/vestledger/ledger/HashChain", name := "areDigits", desc := "(Ljava/lang/String;I)Z" } : Jvm.MethodName)).before a0 Z = true := hw.1 _ (List.mem_of_getElem? (i := 51) rfl)
theorem ow_52 {Z : State} {a0 : Array Value} (hw : HW Z a0) : (Jvm.Cond.code ({ cls := "com/example/vestledger/vestledger/ledger/HashChain", name := "areDigits", desc := "(Ljava/lang/String;I)Z" } : Jvm.MethodName) prog_8_method_7_code (4 : Nat) (Option.some Jvm.ClassFile.FieldType.boolean)).before a0 Z = true := hw.1 _ (List.mem_of_getElem? (i := 52) rfl)
theorem ow_53 {Z : State} {a0 : Array Value} (hw : HW Z a0) : (Jvm.Cond.methodLink "com/example/vestledger/vestledger/ledger/HashChain" (99 : Nat) ({ cls := "java/lang/String", name := "charAt", desc := "(I)C" } : Jvm.MethodName)).before a0 Z = true := hw.1 _ (List.mem_of_getElem? (i := 53) rfl)
theorem ow_54 {Z : State} {a0 : Array Value} (hw : HW Z a0) : (Jvm.Cond.declares ({ cls := "java/lang/String", name := "charAt", desc := "(I)C" } : Jvm.MethodName)).before a0 Z = true := hw.1 _ (List.mem_of_getElem? (i := 54) rfl)
theorem ow_55 {Z : State} {a0 : Array Value} (hw : HW Z a0) : (Jvm.Cond.instanceMethod ({ cls := "java/lang/String", name := "charAt", desc := "(I)C" } : Jvm.MethodName)).before a0 Z = true := hw.1 _ (List.mem_of_getElem? (i := 55) rfl)
theorem ow_56 {Z : State} {a0 : Array Value} (hw : HW Z a0) : (Jvm.Cond.selects "java/lang/String" ({ cls := "java/lang/String", name := "charAt", desc := "(I)C" } : Jvm.MethodName) ({ cls := "java/lang/String", name := "charAt", desc := "(I)C" } : Jvm.MethodName)).before a0 Z = true := hw.1 _ (List.mem_of_getElem? (i := 56) rfl)
theorem ow_57 {Z : State} {a0 : Array Value} (hw : HW Z a0) : (Jvm.Cond.code ({ cls := "java/lang/String", name := "charAt", desc := "(I)C" } : Jvm.MethodName) jdk_42_method_56_code (2 : Nat) (Option.some Jvm.ClassFile.FieldType.char)).before a0 Z = true := hw.1 _ (List.mem_of_getElem? (i := 57) rfl)
theorem ow_58 {Z : State} {a0 : Array Value} (hw : HW Z a0) : (Jvm.Cond.methodLink "java/lang/String" (492 : Nat) ({ cls := "java/lang/String", name := "isLatin1", desc := "()Z" } : Jvm.MethodName)).before a0 Z = true := hw.1 _ (List.mem_of_getElem? (i := 58) rfl)
theorem ow_59 {Z : State} {a0 : Array Value} (hw : HW Z a0) : (Jvm.Cond.declares ({ cls := "java/lang/String", name := "isLatin1", desc := "()Z" } : Jvm.MethodName)).before a0 Z = true := hw.1 _ (List.mem_of_getElem? (i := 59) rfl)
theorem ow_60 {Z : State} {a0 : Array Value} (hw : HW Z a0) : (Jvm.Cond.instanceMethod ({ cls := "java/lang/String", name := "isLatin1", desc := "()Z" } : Jvm.MethodName)).before a0 Z = true := hw.1 _ (List.mem_of_getElem? (i := 60) rfl)
theorem ow_61 {Z : State} {a0 : Array Value} (hw : HW Z a0) : (Jvm.Cond.selects "java/lang/String" ({ cls := "java/lang/String", name := "isLatin1", desc := "()Z" } : Jvm.MethodName) ({ cls := "java/lang/String", name := "isLatin1", desc := "()Z" } : Jvm.MethodName)).before a0 Z = true := hw.1 _ (List.mem_of_getElem? (i := 61) rfl)
theorem ow_62 {Z : State} {a0 : Array Value} (hw : HW Z a0) : (Jvm.Cond.code ({ cls := "java/lang/String", name := "isLatin1", desc := "()Z" } : Jvm.MethodName) jdk_42_method_154_code (1 : Nat) (Option.some Jvm.ClassFile.FieldType.boolean)).before a0 Z = true := hw.1 _ (List.mem_of_getElem? (i := 62) rfl)
theorem ow_63 {Z : State} {a0 : Array Value} (hw : HW Z a0) : (Jvm.Cond.methodLink "java/lang/String" (495 : Nat) ({ cls := "java/lang/StringLatin1", name := "charAt", desc := "([BI)C" } : Jvm.MethodName)).before a0 Z = true := hw.1 _ (List.mem_of_getElem? (i := 63) rfl)
theorem ow_64 {Z : State} {a0 : Array Value} (hw : HW Z a0) : (Jvm.Cond.static ({ cls := "java/lang/StringLatin1", name := "charAt", desc := "([BI)C" } : Jvm.MethodName)).before a0 Z = true := hw.1 _ (List.mem_of_getElem? (i := 64) rfl)
theorem ow_65 {Z : State} {a0 : Array Value} (hw : HW Z a0) : (Jvm.Cond.initialized "java/lang/StringLatin1").before a0 Z = true := hw.1 _ (List.mem_of_getElem? (i := 65) rfl)
theorem ow_66 {Z : State} {a0 : Array Value} (hw : HW Z a0) : (Jvm.Cond.code ({ cls := "java/lang/StringLatin1", name := "charAt", desc := "([BI)C" } : Jvm.MethodName) jdk_43_method_2_code (2 : Nat) (Option.some Jvm.ClassFile.FieldType.char)).before a0 Z = true := hw.1 _ (List.mem_of_getElem? (i := 66) rfl)
theorem ow_67 {Z : State} {a0 : Array Value} (hw : HW Z a0) : (Jvm.Cond.methodLink "java/lang/StringLatin1" (9 : Nat) ({ cls := "java/lang/String", name := "checkIndex", desc := "(II)V" } : Jvm.MethodName)).before a0 Z = true := hw.1 _ (List.mem_of_getElem? (i := 67) rfl)
theorem ow_68 {Z : State} {a0 : Array Value} (hw : HW Z a0) : (Jvm.Cond.static ({ cls := "java/lang/String", name := "checkIndex", desc := "(II)V" } : Jvm.MethodName)).before a0 Z = true := hw.1 _ (List.mem_of_getElem? (i := 68) rfl)
theorem ow_69 {Z : State} {a0 : Array Value} (hw : HW Z a0) : (Jvm.Cond.code ({ cls := "java/lang/String", name := "checkIndex", desc := "(II)V" } : Jvm.MethodName) jdk_42_method_155_code (2 : Nat) (Option.none : Option Jvm.ClassFile.FieldType)).before a0 Z = true := hw.1 _ (List.mem_of_getElem? (i := 69) rfl)
theorem ow_70 {Z : State} {a0 : Array Value} (hw : HW Z a0) : (Jvm.Cond.fieldLink "java/lang/String" (1053 : Nat) "jdk/internal/util/Preconditions" "SIOOBE_FORMATTER" "Ljava/util/function/BiFunction;").before a0 Z = true := hw.1 _ (List.mem_of_getElem? (i := 70) rfl)
theorem ow_71 {Z : State} {a0 : Array Value} (hw : HW Z a0) : (Jvm.Cond.initialized "jdk/internal/util/Preconditions").before a0 Z = true := hw.1 _ (List.mem_of_getElem? (i := 71) rfl)
theorem ow_72 {Z : State} {a0 : Array Value} (hw : HW Z a0) : (Jvm.Cond.methodLink "java/lang/String" (1059 : Nat) ({ cls := "jdk/internal/util/Preconditions", name := "checkIndex", desc := "(IILjava/util/function/BiFunction;)I" } : Jvm.MethodName)).before a0 Z = true := hw.1 _ (List.mem_of_getElem? (i := 72) rfl)
theorem ow_73 {Z : State} {a0 : Array Value} (hw : HW Z a0) : (Jvm.Cond.static ({ cls := "jdk/internal/util/Preconditions", name := "checkIndex", desc := "(IILjava/util/function/BiFunction;)I" } : Jvm.MethodName)).before a0 Z = true := hw.1 _ (List.mem_of_getElem? (i := 73) rfl)
theorem ow_74 {Z : State} {a0 : Array Value} (hw : HW Z a0) : (Jvm.Cond.code ({ cls := "jdk/internal/util/Preconditions", name := "checkIndex", desc := "(IILjava/util/function/BiFunction;)I" } : Jvm.MethodName) jdk_41_method_11_code (3 : Nat) (Option.some Jvm.ClassFile.FieldType.int)).before a0 Z = true := hw.1 _ (List.mem_of_getElem? (i := 74) rfl)
theorem ow_75 {Z : State} {a0 : Array Value} (hw : HW Z a0) : (Jvm.Cond.methodLink "com/example/vestledger/vestledger/ledger/HashChainIsHashPinLaw" (22 : Nat) ({ cls := "java/lang/String", name := "valueOf", desc := "(C)Ljava/lang/String;" } : Jvm.MethodName)).before a0 Z = true := hw.1 _ (List.mem_of_getElem? (i := 75) rfl)
theorem ow_76 {Z : State} {a0 : Array Value} (hw : HW Z a0) : (Jvm.Cond.static ({ cls := "java/lang/String", name := "valueOf", desc := "(C)Ljava/lang/String;" } : Jvm.MethodName)).before a0 Z = true := hw.1 _ (List.mem_of_getElem? (i := 76) rfl)
theorem ow_77 {Z : State} {a0 : Array Value} (hw : HW Z a0) : (Jvm.Cond.code ({ cls := "java/lang/String", name := "valueOf", desc := "(C)Ljava/lang/String;" } : Jvm.MethodName) jdk_42_method_139_code (1 : Nat) (Option.some (Jvm.ClassFile.FieldType.object "java/lang/String"))).before a0 Z = true := hw.1 _ (List.mem_of_getElem? (i := 77) rfl)
theorem ow_78 {Z : State} {a0 : Array Value} (hw : HW Z a0) : (Jvm.Cond.methodLink "java/lang/String" (1015 : Nat) ({ cls := "java/lang/StringLatin1", name := "canEncode", desc := "(C)Z" } : Jvm.MethodName)).before a0 Z = true := hw.1 _ (List.mem_of_getElem? (i := 78) rfl)
theorem ow_79 {Z : State} {a0 : Array Value} (hw : HW Z a0) : (Jvm.Cond.static ({ cls := "java/lang/StringLatin1", name := "canEncode", desc := "(C)Z" } : Jvm.MethodName)).before a0 Z = true := hw.1 _ (List.mem_of_getElem? (i := 79) rfl)
theorem ow_80 {Z : State} {a0 : Array Value} (hw : HW Z a0) : (Jvm.Cond.code ({ cls := "java/lang/StringLatin1", name := "canEncode", desc := "(C)Z" } : Jvm.MethodName) jdk_43_method_3_code (1 : Nat) (Option.some Jvm.ClassFile.FieldType.boolean)).before a0 Z = true := hw.1 _ (List.mem_of_getElem? (i := 80) rfl)
theorem ow_81 {Z : State} {a0 : Array Value} (hw : HW Z a0) : (Jvm.Cond.classLink "java/lang/String" (10 : Nat) "java/lang/String").before a0 Z = true := hw.1 _ (List.mem_of_getElem? (i := 81) rfl)
theorem ow_82 {Z : State} {a0 : Array Value} (hw : HW Z a0) : (Jvm.Cond.methodLink "java/lang/String" (1018 : Nat) ({ cls := "java/lang/StringLatin1", name := "toBytes", desc := "(C)[B" } : Jvm.MethodName)).before a0 Z = true := hw.1 _ (List.mem_of_getElem? (i := 82) rfl)
theorem ow_83 {Z : State} {a0 : Array Value} (hw : HW Z a0) : (Jvm.Cond.static ({ cls := "java/lang/StringLatin1", name := "toBytes", desc := "(C)[B" } : Jvm.MethodName)).before a0 Z = true := hw.1 _ (List.mem_of_getElem? (i := 83) rfl)
theorem ow_84 {Z : State} {a0 : Array Value} (hw : HW Z a0) : (Jvm.Cond.code ({ cls := "java/lang/StringLatin1", name := "toBytes", desc := "(C)[B" } : Jvm.MethodName) jdk_43_method_46_code (1 : Nat) (Option.some (Jvm.ClassFile.FieldType.array Jvm.ClassFile.FieldType.byte))).before a0 Z = true := hw.1 _ (List.mem_of_getElem? (i := 84) rfl)
theorem ow_85 {Z : State} {a0 : Array Value} (hw : HW Z a0) : (Jvm.Cond.methodLink "java/lang/String" (209 : Nat) ({ cls := "java/lang/String", name := "<init>", desc := "([BB)V" } : Jvm.MethodName)).before a0 Z = true := hw.1 _ (List.mem_of_getElem? (i := 85) rfl)
theorem ow_86 {Z : State} {a0 : Array Value} (hw : HW Z a0) : (Jvm.Cond.instanceMethod ({ cls := "java/lang/String", name := "<init>", desc := "([BB)V" } : Jvm.MethodName)).before a0 Z = true := hw.1 _ (List.mem_of_getElem? (i := 86) rfl)
theorem ow_87 {Z : State} {a0 : Array Value} (hw : HW Z a0) : (Jvm.Cond.code ({ cls := "java/lang/String", name := "<init>", desc := "([BB)V" } : Jvm.MethodName) jdk_42_method_151_code (3 : Nat) (Option.none : Option Jvm.ClassFile.FieldType)).before a0 Z = true := hw.1 _ (List.mem_of_getElem? (i := 87) rfl)
theorem ow_88 {Z : State} {a0 : Array Value} (hw : HW Z a0) : (Jvm.Cond.methodLink "java/lang/StringUTF16" (119 : Nat) ({ cls := "java/lang/StringUTF16", name := "toBytes", desc := "([CII)[B" } : Jvm.MethodName)).before a0 Z = true := hw.1 _ (List.mem_of_getElem? (i := 88) rfl)
theorem ow_89 {Z : State} {a0 : Array Value} (hw : HW Z a0) : (Jvm.Cond.static ({ cls := "java/lang/StringUTF16", name := "toBytes", desc := "([CII)[B" } : Jvm.MethodName)).before a0 Z = true := hw.1 _ (List.mem_of_getElem? (i := 89) rfl)
theorem ow_90 {Z : State} {a0 : Array Value} (hw : HW Z a0) : (Jvm.Cond.code ({ cls := "java/lang/StringUTF16", name := "toBytes", desc := "([CII)[B" } : Jvm.MethodName) jdk_52_method_14_code (5 : Nat) (Option.some (Jvm.ClassFile.FieldType.array Jvm.ClassFile.FieldType.byte))).before a0 Z = true := hw.1 _ (List.mem_of_getElem? (i := 90) rfl)
theorem ow_91 {Z : State} {a0 : Array Value} (hw : HW Z a0) : (Jvm.Cond.methodLink "java/lang/StringUTF16" (107 : Nat) ({ cls := "java/lang/StringUTF16", name := "newBytesFor", desc := "(I)[B" } : Jvm.MethodName)).before a0 Z = true := hw.1 _ (List.mem_of_getElem? (i := 91) rfl)
theorem ow_92 {Z : State} {a0 : Array Value} (hw : HW Z a0) : (Jvm.Cond.static ({ cls := "java/lang/StringUTF16", name := "newBytesFor", desc := "(I)[B" } : Jvm.MethodName)).before a0 Z = true := hw.1 _ (List.mem_of_getElem? (i := 92) rfl)
theorem ow_93 {Z : State} {a0 : Array Value} (hw : HW Z a0) : (Jvm.Cond.code ({ cls := "java/lang/StringUTF16", name := "newBytesFor", desc := "(I)[B" } : Jvm.MethodName) jdk_52_method_2_code (1 : Nat) (Option.some (Jvm.ClassFile.FieldType.array Jvm.ClassFile.FieldType.byte))).before a0 Z = true := hw.1 _ (List.mem_of_getElem? (i := 93) rfl)
theorem ow_94 {Z : State} {a0 : Array Value} (hw : HW Z a0) : (Jvm.Cond.methodLink "java/lang/StringUTF16" (11 : Nat) ({ cls := "java/lang/StringUTF16", name := "newBytesLength", desc := "(I)I" } : Jvm.MethodName)).before a0 Z = true := hw.1 _ (List.mem_of_getElem? (i := 94) rfl)
theorem ow_95 {Z : State} {a0 : Array Value} (hw : HW Z a0) : (Jvm.Cond.static ({ cls := "java/lang/StringUTF16", name := "newBytesLength", desc := "(I)I" } : Jvm.MethodName)).before a0 Z = true := hw.1 _ (List.mem_of_getElem? (i := 95) rfl)
theorem ow_96 {Z : State} {a0 : Array Value} (hw : HW Z a0) : (Jvm.Cond.code ({ cls := "java/lang/StringUTF16", name := "newBytesLength", desc := "(I)I" } : Jvm.MethodName) jdk_52_method_3_code (1 : Nat) (Option.some Jvm.ClassFile.FieldType.int)).before a0 Z = true := hw.1 _ (List.mem_of_getElem? (i := 96) rfl)
theorem ow_97 {Z : State} {a0 : Array Value} (hw : HW Z a0) : (Jvm.Cond.constant "java/lang/StringUTF16" (20 : Nat) (1073741823 : Int32)).before a0 Z = true := hw.1 _ (List.mem_of_getElem? (i := 97) rfl)
theorem ow_98 {Z : State} {a0 : Array Value} (hw : HW Z a0) : (Jvm.Cond.methodLink "java/lang/StringUTF16" (111 : Nat) ({ cls := "java/lang/StringUTF16", name := "putChar", desc := "([BII)V" } : Jvm.MethodName)).before a0 Z = true := hw.1 _ (List.mem_of_getElem? (i := 98) rfl)
theorem ow_99 {Z : State} {a0 : Array Value} (hw : HW Z a0) : (Jvm.Cond.static ({ cls := "java/lang/StringUTF16", name := "putChar", desc := "([BII)V" } : Jvm.MethodName)).before a0 Z = true := hw.1 _ (List.mem_of_getElem? (i := 99) rfl)
theorem ow_100 {Z : State} {a0 : Array Value} (hw : HW Z a0) : (Jvm.Cond.code ({ cls := "java/lang/StringUTF16", name := "putChar", desc := "([BII)V" } : Jvm.MethodName) jdk_52_method_4_code (3 : Nat) (Option.none : Option Jvm.ClassFile.FieldType)).before a0 Z = true := hw.1 _ (List.mem_of_getElem? (i := 100) rfl)
theorem ow_101 {Z : State} {a0 : Array Value} (hw : HW Z a0) : (Jvm.Cond.fieldLink "java/lang/StringUTF16" (44 : Nat) "java/lang/StringUTF16" "$assertionsDisabled" "Z").before a0 Z = true := hw.1 _ (List.mem_of_getElem? (i := 101) rfl)
theorem ow_102 {Z : State} {a0 : Array Value} (hw : HW Z a0) : (Jvm.Cond.fieldLink "java/lang/StringUTF16" (59 : Nat) "java/lang/StringUTF16" "HI_BYTE_SHIFT" "I").before a0 Z = true := hw.1 _ (List.mem_of_getElem? (i := 102) rfl)
theorem ow_103 {Z : State} {a0 : Array Value} (hw : HW Z a0) : (Jvm.Cond.fieldLink "java/lang/StringUTF16" (63 : Nat) "java/lang/StringUTF16" "LO_BYTE_SHIFT" "I").before a0 Z = true := hw.1 _ (List.mem_of_getElem? (i := 103) rfl)
theorem ow_104 {Z : State} {a0 : Array Value} (hw : HW Z a0) : (Jvm.Cond.methodLink "java/lang/StringUTF16" (71 : Nat) ({ cls := "java/lang/StringUTF16", name := "getChar", desc := "([BI)C" } : Jvm.MethodName)).before a0 Z = true := hw.1 _ (List.mem_of_getElem? (i := 104) rfl)
theorem ow_105 {Z : State} {a0 : Array Value} (hw : HW Z a0) : (Jvm.Cond.static ({ cls := "java/lang/StringUTF16", name := "getChar", desc := "([BI)C" } : Jvm.MethodName)).before a0 Z = true := hw.1 _ (List.mem_of_getElem? (i := 105) rfl)
theorem ow_106 {Z : State} {a0 : Array Value} (hw : HW Z a0) : (Jvm.Cond.code ({ cls := "java/lang/StringUTF16", name := "getChar", desc := "([BI)C" } : Jvm.MethodName) jdk_52_method_5_code (2 : Nat) (Option.some Jvm.ClassFile.FieldType.char)).before a0 Z = true := hw.1 _ (List.mem_of_getElem? (i := 106) rfl)
theorem ow_107 {Z : State} {a0 : Array Value} (hw : HW Z a0) : (Jvm.Cond.methodLink "java/lang/String" (498 : Nat) ({ cls := "java/lang/StringUTF16", name := "charAt", desc := "([BI)C" } : Jvm.MethodName)).before a0 Z = true := hw.1 _ (List.mem_of_getElem? (i := 107) rfl)
theorem ow_108 {Z : State} {a0 : Array Value} (hw : HW Z a0) : (Jvm.Cond.static ({ cls := "java/lang/StringUTF16", name := "charAt", desc := "([BI)C" } : Jvm.MethodName)).before a0 Z = true := hw.1 _ (List.mem_of_getElem? (i := 108) rfl)
theorem ow_109 {Z : State} {a0 : Array Value} (hw : HW Z a0) : (Jvm.Cond.code ({ cls := "java/lang/StringUTF16", name := "charAt", desc := "([BI)C" } : Jvm.MethodName) jdk_52_method_83_code (2 : Nat) (Option.some Jvm.ClassFile.FieldType.char)).before a0 Z = true := hw.1 _ (List.mem_of_getElem? (i := 109) rfl)
theorem ow_110 {Z : State} {a0 : Array Value} (hw : HW Z a0) : (Jvm.Cond.methodLink "java/lang/StringUTF16" (67 : Nat) ({ cls := "java/lang/StringUTF16", name := "checkIndex", desc := "(I[B)V" } : Jvm.MethodName)).before a0 Z = true := hw.1 _ (List.mem_of_getElem? (i := 110) rfl)
theorem ow_111 {Z : State} {a0 : Array Value} (hw : HW Z a0) : (Jvm.Cond.static ({ cls := "java/lang/StringUTF16", name := "checkIndex", desc := "(I[B)V" } : Jvm.MethodName)).before a0 Z = true := hw.1 _ (List.mem_of_getElem? (i := 111) rfl)
theorem ow_112 {Z : State} {a0 : Array Value} (hw : HW Z a0) : (Jvm.Cond.code ({ cls := "java/lang/StringUTF16", name := "checkIndex", desc := "(I[B)V" } : Jvm.MethodName) jdk_52_method_91_code (2 : Nat) (Option.none : Option Jvm.ClassFile.FieldType)).before a0 Z = true := hw.1 _ (List.mem_of_getElem? (i := 112) rfl)
theorem ow_113 {Z : State} {a0 : Array Value} (hw : HW Z a0) : (Jvm.Cond.methodLink "java/lang/StringUTF16" (48 : Nat) ({ cls := "java/lang/StringUTF16", name := "length", desc := "([B)I" } : Jvm.MethodName)).before a0 Z = true := hw.1 _ (List.mem_of_getElem? (i := 113) rfl)
theorem ow_114 {Z : State} {a0 : Array Value} (hw : HW Z a0) : (Jvm.Cond.static ({ cls := "java/lang/StringUTF16", name := "length", desc := "([B)I" } : Jvm.MethodName)).before a0 Z = true := hw.1 _ (List.mem_of_getElem? (i := 114) rfl)
theorem ow_115 {Z : State} {a0 : Array Value} (hw : HW Z a0) : (Jvm.Cond.code ({ cls := "java/lang/StringUTF16", name := "length", desc := "([B)I" } : Jvm.MethodName) jdk_52_method_6_code (1 : Nat) (Option.some Jvm.ClassFile.FieldType.int)).before a0 Z = true := hw.1 _ (List.mem_of_getElem? (i := 115) rfl)
theorem ow_116 {Z : State} {a0 : Array Value} (hw : HW Z a0) : (Jvm.Cond.methodLink "java/lang/StringUTF16" (414 : Nat) ({ cls := "java/lang/String", name := "checkIndex", desc := "(II)V" } : Jvm.MethodName)).before a0 Z = true := hw.1 _ (List.mem_of_getElem? (i := 116) rfl)
theorem ow_117 {Z : State} {a0 : Array Value} (hw : HW Z a0) : (Jvm.Cond.methodLink "java/lang/String" (1021 : Nat) ({ cls := "java/lang/StringUTF16", name := "toBytes", desc := "(C)[B" } : Jvm.MethodName)).before a0 Z = true := hw.1 _ (List.mem_of_getElem? (i := 117) rfl)
theorem ow_118 {Z : State} {a0 : Array Value} (hw : HW Z a0) : (Jvm.Cond.static ({ cls := "java/lang/StringUTF16", name := "toBytes", desc := "(C)[B" } : Jvm.MethodName)).before a0 Z = true := hw.1 _ (List.mem_of_getElem? (i := 118) rfl)
theorem ow_119 {Z : State} {a0 : Array Value} (hw : HW Z a0) : (Jvm.Cond.code ({ cls := "java/lang/StringUTF16", name := "toBytes", desc := "(C)[B" } : Jvm.MethodName) jdk_52_method_24_code (2 : Nat) (Option.some (Jvm.ClassFile.FieldType.array Jvm.ClassFile.FieldType.byte))).before a0 Z = true := hw.1 _ (List.mem_of_getElem? (i := 119) rfl)
theorem own_wS {Z : State} {a0 : Array Value} (hw : HW Z a0) : (Jvm.Cond.instantiable "java/lang/String" (4 : Nat)).before a0 Z = true := (ow_8 hw)
abbrev EL0 : List (String × Nat) := []
abbrev nw0 : Bool := true
theorem own_ew {Z : State} {a0 : Array Value} (hw : HW Z a0) : EW Z a0 EL0 := EW.nil
theorem od_16_0 : decode jdk_41_method_11_code 0 = .ok (.iload_n 0, 1) := by decide +kernel
theorem od_16_1 : decode jdk_41_method_11_code 1 = .ok (.ifCond .lt 8, 3) := by decide +kernel
theorem od_16_4 : decode jdk_41_method_11_code 4 = .ok (.iload_n 0, 1) := by decide +kernel
theorem od_16_5 : decode jdk_41_method_11_code 5 = .ok (.iload_n 1, 1) := by decide +kernel
theorem od_16_6 : decode jdk_41_method_11_code 6 = .ok (.if_icmp .lt 10, 3) := by decide +kernel
theorem od_16_16 : decode jdk_41_method_11_code 16 = .ok (.iload_n 0, 1) := by decide +kernel
theorem od_16_17 : decode jdk_41_method_11_code 17 = .ok (.ireturn, 1) := by decide +kernel
theorem od_15_0 : decode jdk_42_method_155_code 0 = .ok (.iload_n 0, 1) := by decide +kernel
theorem od_15_1 : decode jdk_42_method_155_code 1 = .ok (.iload_n 1, 1) := by decide +kernel
theorem od_15_2 : decode jdk_42_method_155_code 2 = .ok (.getstatic 1053, 3) := by decide +kernel
theorem od_15_5 : decode jdk_42_method_155_code 5 = .ok (.invokestatic 1059, 3) := by decide +kernel
theorem od_15_8 : decode jdk_42_method_155_code 8 = .ok (.pop, 1) := by decide +kernel
theorem od_15_9 : decode jdk_42_method_155_code 9 = .ok (.return_, 1) := by decide +kernel
theorem od_28_0 : decode jdk_52_method_6_code 0 = .ok (.aload_n 0, 1) := by decide +kernel
theorem od_28_1 : decode jdk_52_method_6_code 1 = .ok (.arraylength, 1) := by decide +kernel
theorem od_28_2 : decode jdk_52_method_6_code 2 = .ok (.iconst 1, 1) := by decide +kernel
theorem od_28_3 : decode jdk_52_method_6_code 3 = .ok (.ishr, 1) := by decide +kernel
theorem od_28_4 : decode jdk_52_method_6_code 4 = .ok (.ireturn, 1) := by decide +kernel
theorem od_27_0 : decode jdk_52_method_91_code 0 = .ok (.iload_n 0, 1) := by decide +kernel
theorem od_27_1 : decode jdk_52_method_91_code 1 = .ok (.aload_n 1, 1) := by decide +kernel
theorem od_27_2 : decode jdk_52_method_91_code 2 = .ok (.invokestatic 48, 3) := by decide +kernel
theorem od_27_5 : decode jdk_52_method_91_code 5 = .ok (.invokestatic 414, 3) := by decide +kernel
theorem od_27_8 : decode jdk_52_method_91_code 8 = .ok (.return_, 1) := by decide +kernel
theorem od_25_0 : decode jdk_52_method_5_code 0 = .ok (.getstatic 44, 3) := by decide +kernel
theorem od_25_3 : decode jdk_52_method_5_code 3 = .ok (.ifCond .ne 25, 3) := by decide +kernel
theorem od_25_28 : decode jdk_52_method_5_code 28 = .ok (.iload_n 1, 1) := by decide +kernel
theorem od_25_29 : decode jdk_52_method_5_code 29 = .ok (.iconst 1, 1) := by decide +kernel
theorem od_25_30 : decode jdk_52_method_5_code 30 = .ok (.ishl, 1) := by decide +kernel
theorem od_25_31 : decode jdk_52_method_5_code 31 = .ok (.istore_n 1, 1) := by decide +kernel
theorem od_25_32 : decode jdk_52_method_5_code 32 = .ok (.aload_n 0, 1) := by decide +kernel
theorem od_25_33 : decode jdk_52_method_5_code 33 = .ok (.iload_n 1, 1) := by decide +kernel
theorem od_25_34 : decode jdk_52_method_5_code 34 = .ok (.iinc 1 1, 3) := by decide +kernel
theorem od_25_37 : decode jdk_52_method_5_code 37 = .ok (.baload, 1) := by decide +kernel
theorem od_25_38 : decode jdk_52_method_5_code 38 = .ok (.sipush 255, 3) := by decide +kernel
theorem od_25_41 : decode jdk_52_method_5_code 41 = .ok (.iand, 1) := by decide +kernel
theorem od_25_42 : decode jdk_52_method_5_code 42 = .ok (.getstatic 59, 3) := by decide +kernel
theorem od_25_45 : decode jdk_52_method_5_code 45 = .ok (.ishl, 1) := by decide +kernel
theorem od_25_46 : decode jdk_52_method_5_code 46 = .ok (.aload_n 0, 1) := by decide +kernel
theorem od_25_47 : decode jdk_52_method_5_code 47 = .ok (.iload_n 1, 1) := by decide +kernel
theorem od_25_48 : decode jdk_52_method_5_code 48 = .ok (.baload, 1) := by decide +kernel
theorem od_25_49 : decode jdk_52_method_5_code 49 = .ok (.sipush 255, 3) := by decide +kernel
theorem od_25_52 : decode jdk_52_method_5_code 52 = .ok (.iand, 1) := by decide +kernel
theorem od_25_53 : decode jdk_52_method_5_code 53 = .ok (.getstatic 63, 3) := by decide +kernel
theorem od_25_56 : decode jdk_52_method_5_code 56 = .ok (.ishl, 1) := by decide +kernel
theorem od_25_57 : decode jdk_52_method_5_code 57 = .ok (.ior, 1) := by decide +kernel
theorem od_25_58 : decode jdk_52_method_5_code 58 = .ok (.i2c, 1) := by decide +kernel
theorem od_25_59 : decode jdk_52_method_5_code 59 = .ok (.ireturn, 1) := by decide +kernel
theorem od_26_0 : decode jdk_52_method_83_code 0 = .ok (.iload_n 1, 1) := by decide +kernel
theorem od_26_1 : decode jdk_52_method_83_code 1 = .ok (.aload_n 0, 1) := by decide +kernel
theorem od_26_2 : decode jdk_52_method_83_code 2 = .ok (.invokestatic 67, 3) := by decide +kernel
theorem od_26_5 : decode jdk_52_method_83_code 5 = .ok (.aload_n 0, 1) := by decide +kernel
theorem od_26_6 : decode jdk_52_method_83_code 6 = .ok (.iload_n 1, 1) := by decide +kernel
theorem od_26_7 : decode jdk_52_method_83_code 7 = .ok (.invokestatic 71, 3) := by decide +kernel
theorem od_26_10 : decode jdk_52_method_83_code 10 = .ok (.ireturn, 1) := by decide +kernel
theorem od_14_0 : decode jdk_43_method_2_code 0 = .ok (.iload_n 1, 1) := by decide +kernel
theorem od_14_1 : decode jdk_43_method_2_code 1 = .ok (.aload_n 0, 1) := by decide +kernel
theorem od_14_2 : decode jdk_43_method_2_code 2 = .ok (.arraylength, 1) := by decide +kernel
theorem od_14_3 : decode jdk_43_method_2_code 3 = .ok (.invokestatic 9, 3) := by decide +kernel
theorem od_14_6 : decode jdk_43_method_2_code 6 = .ok (.aload_n 0, 1) := by decide +kernel
theorem od_14_7 : decode jdk_43_method_2_code 7 = .ok (.iload_n 1, 1) := by decide +kernel
theorem od_14_8 : decode jdk_43_method_2_code 8 = .ok (.baload, 1) := by decide +kernel
theorem od_14_9 : decode jdk_43_method_2_code 9 = .ok (.sipush 255, 3) := by decide +kernel
theorem od_14_12 : decode jdk_43_method_2_code 12 = .ok (.iand, 1) := by decide +kernel
theorem od_14_13 : decode jdk_43_method_2_code 13 = .ok (.i2c, 1) := by decide +kernel
theorem od_14_14 : decode jdk_43_method_2_code 14 = .ok (.ireturn, 1) := by decide +kernel
theorem od_10_0 : decode jdk_42_method_152_code 0 = .ok (.getstatic 38, 3) := by decide +kernel
theorem od_10_3 : decode jdk_42_method_152_code 3 = .ok (.ifCond .eq 10, 3) := by decide +kernel
theorem od_10_6 : decode jdk_42_method_152_code 6 = .ok (.aload_n 0, 1) := by decide +kernel
theorem od_10_7 : decode jdk_42_method_152_code 7 = .ok (.getfield 15, 3) := by decide +kernel
theorem od_10_10 : decode jdk_42_method_152_code 10 = .ok (.goto 4, 3) := by decide +kernel
theorem od_10_14 : decode jdk_42_method_152_code 14 = .ok (.ireturn, 1) := by decide +kernel
theorem od_13_0 : decode jdk_42_method_154_code 0 = .ok (.getstatic 38, 3) := by decide +kernel
theorem od_13_3 : decode jdk_42_method_154_code 3 = .ok (.ifCond .eq 14, 3) := by decide +kernel
theorem od_13_6 : decode jdk_42_method_154_code 6 = .ok (.aload_n 0, 1) := by decide +kernel
theorem od_13_7 : decode jdk_42_method_154_code 7 = .ok (.getfield 15, 3) := by decide +kernel
theorem od_13_10 : decode jdk_42_method_154_code 10 = .ok (.ifCond .ne 7, 3) := by decide +kernel
theorem od_13_13 : decode jdk_42_method_154_code 13 = .ok (.iconst 1, 1) := by decide +kernel
theorem od_13_14 : decode jdk_42_method_154_code 14 = .ok (.goto 4, 3) := by decide +kernel
theorem od_13_18 : decode jdk_42_method_154_code 18 = .ok (.ireturn, 1) := by decide +kernel
theorem od_13_17 : decode jdk_42_method_154_code 17 = .ok (.iconst 0, 1) := by decide +kernel
theorem od_9_0 : decode jdk_42_method_54_code 0 = .ok (.aload_n 0, 1) := by decide +kernel
theorem od_9_1 : decode jdk_42_method_54_code 1 = .ok (.getfield 9, 3) := by decide +kernel
theorem od_9_4 : decode jdk_42_method_54_code 4 = .ok (.arraylength, 1) := by decide +kernel
theorem od_9_5 : decode jdk_42_method_54_code 5 = .ok (.aload_n 0, 1) := by decide +kernel
theorem od_9_6 : decode jdk_42_method_54_code 6 = .ok (.invokevirtual 335, 3) := by decide +kernel
theorem od_9_9 : decode jdk_42_method_54_code 9 = .ok (.ishr, 1) := by decide +kernel
theorem od_9_10 : decode jdk_42_method_54_code 10 = .ok (.ireturn, 1) := by decide +kernel
theorem od_12_0 : decode jdk_42_method_56_code 0 = .ok (.aload_n 0, 1) := by decide +kernel
theorem od_12_1 : decode jdk_42_method_56_code 1 = .ok (.invokevirtual 492, 3) := by decide +kernel
theorem od_12_4 : decode jdk_42_method_56_code 4 = .ok (.ifCond .eq 12, 3) := by decide +kernel
theorem od_12_7 : decode jdk_42_method_56_code 7 = .ok (.aload_n 0, 1) := by decide +kernel
theorem od_12_8 : decode jdk_42_method_56_code 8 = .ok (.getfield 9, 3) := by decide +kernel
theorem od_12_11 : decode jdk_42_method_56_code 11 = .ok (.iload_n 1, 1) := by decide +kernel
theorem od_12_12 : decode jdk_42_method_56_code 12 = .ok (.invokestatic 495, 3) := by decide +kernel
theorem od_12_15 : decode jdk_42_method_56_code 15 = .ok (.ireturn, 1) := by decide +kernel
theorem od_12_16 : decode jdk_42_method_56_code 16 = .ok (.aload_n 0, 1) := by decide +kernel
theorem od_12_17 : decode jdk_42_method_56_code 17 = .ok (.getfield 9, 3) := by decide +kernel
theorem od_12_20 : decode jdk_42_method_56_code 20 = .ok (.iload_n 1, 1) := by decide +kernel
theorem od_12_21 : decode jdk_42_method_56_code 21 = .ok (.invokestatic 498, 3) := by decide +kernel
theorem od_12_24 : decode jdk_42_method_56_code 24 = .ok (.ireturn, 1) := by decide +kernel
theorem od_1_0 : decode method_3_code 0 = .ok (.iload_n 0, 1) := by decide +kernel
theorem od_1_1 : decode method_3_code 1 = .ok (.bipush 48, 2) := by decide +kernel
theorem od_1_3 : decode method_3_code 3 = .ok (.if_icmp .lt 11, 3) := by decide +kernel
theorem od_1_14 : decode method_3_code 14 = .ok (.iload_n 0, 1) := by decide +kernel
theorem od_1_15 : decode method_3_code 15 = .ok (.bipush 97, 2) := by decide +kernel
theorem od_1_17 : decode method_3_code 17 = .ok (.if_icmp .lt 13, 3) := by decide +kernel
theorem od_1_30 : decode method_3_code 30 = .ok (.iconst 0, 1) := by decide +kernel
theorem od_1_31 : decode method_3_code 31 = .ok (.ireturn, 1) := by decide +kernel
theorem od_1_20 : decode method_3_code 20 = .ok (.iload_n 0, 1) := by decide +kernel
theorem od_1_21 : decode method_3_code 21 = .ok (.bipush 102, 2) := by decide +kernel
theorem od_1_23 : decode method_3_code 23 = .ok (.if_icmp .gt 7, 3) := by decide +kernel
theorem od_1_26 : decode method_3_code 26 = .ok (.iconst 1, 1) := by decide +kernel
theorem od_1_27 : decode method_3_code 27 = .ok (.goto 4, 3) := by decide +kernel
theorem od_1_6 : decode method_3_code 6 = .ok (.iload_n 0, 1) := by decide +kernel
theorem od_1_7 : decode method_3_code 7 = .ok (.bipush 57, 2) := by decide +kernel
theorem od_1_9 : decode method_3_code 9 = .ok (.if_icmp .gt 5, 3) := by decide +kernel
theorem od_1_12 : decode method_3_code 12 = .ok (.iconst 1, 1) := by decide +kernel
theorem od_1_13 : decode method_3_code 13 = .ok (.ireturn, 1) := by decide +kernel
theorem od_11_0 : decode prog_8_method_7_code 0 = .ok (.iload_n 1, 1) := by decide +kernel
theorem od_11_1 : decode prog_8_method_7_code 1 = .ok (.istore_n 2, 1) := by decide +kernel
theorem od_11_2 : decode prog_8_method_7_code 2 = .ok (.iload_n 2, 1) := by decide +kernel
theorem od_11_3 : decode prog_8_method_7_code 3 = .ok (.iload_n 1, 1) := by decide +kernel
theorem od_11_4 : decode prog_8_method_7_code 4 = .ok (.bipush 64, 2) := by decide +kernel
theorem od_11_6 : decode prog_8_method_7_code 6 = .ok (.iadd, 1) := by decide +kernel
theorem od_11_7 : decode prog_8_method_7_code 7 = .ok (.if_icmp .ge 41, 3) := by decide +kernel
theorem od_11_48 : decode prog_8_method_7_code 48 = .ok (.iconst 1, 1) := by decide +kernel
theorem od_11_49 : decode prog_8_method_7_code 49 = .ok (.ireturn, 1) := by decide +kernel
theorem od_11_10 : decode prog_8_method_7_code 10 = .ok (.aload_n 0, 1) := by decide +kernel
theorem od_11_11 : decode prog_8_method_7_code 11 = .ok (.iload_n 2, 1) := by decide +kernel
theorem od_11_12 : decode prog_8_method_7_code 12 = .ok (.invokevirtual 99, 3) := by decide +kernel
theorem od_11_15 : decode prog_8_method_7_code 15 = .ok (.istore_n 3, 1) := by decide +kernel
theorem od_11_16 : decode prog_8_method_7_code 16 = .ok (.iload_n 3, 1) := by decide +kernel
theorem od_11_17 : decode prog_8_method_7_code 17 = .ok (.bipush 48, 2) := by decide +kernel
theorem od_11_19 : decode prog_8_method_7_code 19 = .ok (.if_icmp .lt 9, 3) := by decide +kernel
theorem od_11_28 : decode prog_8_method_7_code 28 = .ok (.iload_n 3, 1) := by decide +kernel
theorem od_11_29 : decode prog_8_method_7_code 29 = .ok (.bipush 97, 2) := by decide +kernel
theorem od_11_31 : decode prog_8_method_7_code 31 = .ok (.if_icmp .lt 9, 3) := by decide +kernel
theorem od_11_40 : decode prog_8_method_7_code 40 = .ok (.iconst 0, 1) := by decide +kernel
theorem od_11_41 : decode prog_8_method_7_code 41 = .ok (.ireturn, 1) := by decide +kernel
theorem od_11_34 : decode prog_8_method_7_code 34 = .ok (.iload_n 3, 1) := by decide +kernel
theorem od_11_35 : decode prog_8_method_7_code 35 = .ok (.bipush 102, 2) := by decide +kernel
theorem od_11_37 : decode prog_8_method_7_code 37 = .ok (.if_icmp .le 5, 3) := by decide +kernel
theorem od_11_42 : decode prog_8_method_7_code 42 = .ok (.iinc 2 1, 3) := by decide +kernel
theorem od_11_45 : decode prog_8_method_7_code 45 = .ok (.goto (-43), 3) := by decide +kernel
theorem od_11_22 : decode prog_8_method_7_code 22 = .ok (.iload_n 3, 1) := by decide +kernel
theorem od_11_23 : decode prog_8_method_7_code 23 = .ok (.bipush 57, 2) := by decide +kernel
theorem od_11_25 : decode prog_8_method_7_code 25 = .ok (.if_icmp .le 17, 3) := by decide +kernel
theorem od_8_0 : decode prog_8_method_6_code 0 = .ok (.aload_n 0, 1) := by decide +kernel
theorem od_8_1 : decode prog_8_method_6_code 1 = .ok (.invokevirtual 91, 3) := by decide +kernel
theorem od_8_4 : decode prog_8_method_6_code 4 = .ok (.bipush 64, 2) := by decide +kernel
theorem od_8_6 : decode prog_8_method_6_code 6 = .ok (.if_icmp .ne 15, 3) := by decide +kernel
theorem od_8_9 : decode prog_8_method_6_code 9 = .ok (.aload_n 0, 1) := by decide +kernel
theorem od_8_10 : decode prog_8_method_6_code 10 = .ok (.iconst 0, 1) := by decide +kernel
theorem od_8_11 : decode prog_8_method_6_code 11 = .ok (.invokestatic 95, 3) := by decide +kernel
theorem od_8_14 : decode prog_8_method_6_code 14 = .ok (.ifCond .eq 7, 3) := by decide +kernel
theorem od_8_21 : decode prog_8_method_6_code 21 = .ok (.iconst 0, 1) := by decide +kernel
theorem od_8_22 : decode prog_8_method_6_code 22 = .ok (.ireturn, 1) := by decide +kernel
theorem od_8_17 : decode prog_8_method_6_code 17 = .ok (.iconst 1, 1) := by decide +kernel
theorem od_8_18 : decode prog_8_method_6_code 18 = .ok (.goto 4, 3) := by decide +kernel
theorem od_6_0 : decode jdk_52_method_21_code 0 = .ok (.iconst 0, 1) := by decide +kernel
theorem od_6_1 : decode jdk_52_method_21_code 1 = .ok (.istore 5, 2) := by decide +kernel
theorem od_6_3 : decode jdk_52_method_21_code 3 = .ok (.iload 5, 2) := by decide +kernel
theorem od_6_5 : decode jdk_52_method_21_code 5 = .ok (.iload 4, 2) := by decide +kernel
theorem od_6_7 : decode jdk_52_method_21_code 7 = .ok (.if_icmp .ge 37, 3) := by decide +kernel
theorem od_6_44 : decode jdk_52_method_21_code 44 = .ok (.iload 4, 2) := by decide +kernel
theorem od_6_46 : decode jdk_52_method_21_code 46 = .ok (.ireturn, 1) := by decide +kernel
theorem od_6_10 : decode jdk_52_method_21_code 10 = .ok (.aload_n 0, 1) := by decide +kernel
theorem od_6_11 : decode jdk_52_method_21_code 11 = .ok (.iload_n 1, 1) := by decide +kernel
theorem od_6_12 : decode jdk_52_method_21_code 12 = .ok (.caload, 1) := by decide +kernel
theorem od_6_13 : decode jdk_52_method_21_code 13 = .ok (.istore 6, 2) := by decide +kernel
theorem od_6_15 : decode jdk_52_method_21_code 15 = .ok (.iload 6, 2) := by decide +kernel
theorem od_6_17 : decode jdk_52_method_21_code 17 = .ok (.sipush 255, 3) := by decide +kernel
theorem od_6_20 : decode jdk_52_method_21_code 20 = .ok (.if_icmp .le 6, 3) := by decide +kernel
theorem od_6_23 : decode jdk_52_method_21_code 23 = .ok (.iload 5, 2) := by decide +kernel
theorem od_6_25 : decode jdk_52_method_21_code 25 = .ok (.ireturn, 1) := by decide +kernel
theorem od_6_26 : decode jdk_52_method_21_code 26 = .ok (.aload_n 2, 1) := by decide +kernel
theorem od_6_27 : decode jdk_52_method_21_code 27 = .ok (.iload_n 3, 1) := by decide +kernel
theorem od_6_28 : decode jdk_52_method_21_code 28 = .ok (.iload 6, 2) := by decide +kernel
theorem od_6_30 : decode jdk_52_method_21_code 30 = .ok (.i2b, 1) := by decide +kernel
theorem od_6_31 : decode jdk_52_method_21_code 31 = .ok (.bastore, 1) := by decide +kernel
theorem od_6_32 : decode jdk_52_method_21_code 32 = .ok (.iinc 1 1, 3) := by decide +kernel
theorem od_6_35 : decode jdk_52_method_21_code 35 = .ok (.iinc 3 1, 3) := by decide +kernel
theorem od_6_38 : decode jdk_52_method_21_code 38 = .ok (.iinc 5 1, 3) := by decide +kernel
theorem od_6_41 : decode jdk_52_method_21_code 41 = .ok (.goto (-38), 3) := by decide +kernel
theorem od_23_0 : decode jdk_52_method_3_code 0 = .ok (.iload_n 0, 1) := by decide +kernel
theorem od_23_1 : decode jdk_52_method_3_code 1 = .ok (.ifCond .ge 11, 3) := by decide +kernel
theorem od_23_12 : decode jdk_52_method_3_code 12 = .ok (.iload_n 0, 1) := by decide +kernel
theorem od_23_13 : decode jdk_52_method_3_code 13 = .ok (.ldc 20, 2) := by decide +kernel
theorem od_23_15 : decode jdk_52_method_3_code 15 = .ok (.if_icmp .lt 40, 3) := by decide +kernel
theorem od_23_55 : decode jdk_52_method_3_code 55 = .ok (.iload_n 0, 1) := by decide +kernel
theorem od_23_56 : decode jdk_52_method_3_code 56 = .ok (.iconst 1, 1) := by decide +kernel
theorem od_23_57 : decode jdk_52_method_3_code 57 = .ok (.ishl, 1) := by decide +kernel
theorem od_23_58 : decode jdk_52_method_3_code 58 = .ok (.ireturn, 1) := by decide +kernel
theorem od_22_0 : decode jdk_52_method_2_code 0 = .ok (.iload_n 0, 1) := by decide +kernel
theorem od_22_1 : decode jdk_52_method_2_code 1 = .ok (.invokestatic 11, 3) := by decide +kernel
theorem od_22_4 : decode jdk_52_method_2_code 4 = .ok (.newarray .byte, 2) := by decide +kernel
theorem od_22_6 : decode jdk_52_method_2_code 6 = .ok (.areturn, 1) := by decide +kernel
theorem od_24_0 : decode jdk_52_method_4_code 0 = .ok (.getstatic 44, 3) := by decide +kernel
theorem od_24_3 : decode jdk_52_method_4_code 3 = .ok (.ifCond .ne 25, 3) := by decide +kernel
theorem od_24_28 : decode jdk_52_method_4_code 28 = .ok (.iload_n 1, 1) := by decide +kernel
theorem od_24_29 : decode jdk_52_method_4_code 29 = .ok (.iconst 1, 1) := by decide +kernel
theorem od_24_30 : decode jdk_52_method_4_code 30 = .ok (.ishl, 1) := by decide +kernel
theorem od_24_31 : decode jdk_52_method_4_code 31 = .ok (.istore_n 1, 1) := by decide +kernel
theorem od_24_32 : decode jdk_52_method_4_code 32 = .ok (.aload_n 0, 1) := by decide +kernel
theorem od_24_33 : decode jdk_52_method_4_code 33 = .ok (.iload_n 1, 1) := by decide +kernel
theorem od_24_34 : decode jdk_52_method_4_code 34 = .ok (.iinc 1 1, 3) := by decide +kernel
theorem od_24_37 : decode jdk_52_method_4_code 37 = .ok (.iload_n 2, 1) := by decide +kernel
theorem od_24_38 : decode jdk_52_method_4_code 38 = .ok (.getstatic 59, 3) := by decide +kernel
theorem od_24_41 : decode jdk_52_method_4_code 41 = .ok (.ishr, 1) := by decide +kernel
theorem od_24_42 : decode jdk_52_method_4_code 42 = .ok (.i2b, 1) := by decide +kernel
theorem od_24_43 : decode jdk_52_method_4_code 43 = .ok (.bastore, 1) := by decide +kernel
theorem od_24_44 : decode jdk_52_method_4_code 44 = .ok (.aload_n 0, 1) := by decide +kernel
theorem od_24_45 : decode jdk_52_method_4_code 45 = .ok (.iload_n 1, 1) := by decide +kernel
theorem od_24_46 : decode jdk_52_method_4_code 46 = .ok (.iload_n 2, 1) := by decide +kernel
theorem od_24_47 : decode jdk_52_method_4_code 47 = .ok (.getstatic 63, 3) := by decide +kernel
theorem od_24_50 : decode jdk_52_method_4_code 50 = .ok (.ishr, 1) := by decide +kernel
theorem od_24_51 : decode jdk_52_method_4_code 51 = .ok (.i2b, 1) := by decide +kernel
theorem od_24_52 : decode jdk_52_method_4_code 52 = .ok (.bastore, 1) := by decide +kernel
theorem od_24_53 : decode jdk_52_method_4_code 53 = .ok (.return_, 1) := by decide +kernel
theorem od_21_0 : decode jdk_52_method_14_code 0 = .ok (.iload_n 2, 1) := by decide +kernel
theorem od_21_1 : decode jdk_52_method_14_code 1 = .ok (.invokestatic 107, 3) := by decide +kernel
theorem od_21_4 : decode jdk_52_method_14_code 4 = .ok (.astore_n 3, 1) := by decide +kernel
theorem od_21_5 : decode jdk_52_method_14_code 5 = .ok (.iconst 0, 1) := by decide +kernel
theorem od_21_6 : decode jdk_52_method_14_code 6 = .ok (.istore 4, 2) := by decide +kernel
theorem od_21_8 : decode jdk_52_method_14_code 8 = .ok (.iload 4, 2) := by decide +kernel
theorem od_21_10 : decode jdk_52_method_14_code 10 = .ok (.iload_n 2, 1) := by decide +kernel
theorem od_21_11 : decode jdk_52_method_14_code 11 = .ok (.if_icmp .ge 21, 3) := by decide +kernel
theorem od_21_32 : decode jdk_52_method_14_code 32 = .ok (.aload_n 3, 1) := by decide +kernel
theorem od_21_33 : decode jdk_52_method_14_code 33 = .ok (.areturn, 1) := by decide +kernel
theorem od_21_14 : decode jdk_52_method_14_code 14 = .ok (.aload_n 3, 1) := by decide +kernel
theorem od_21_15 : decode jdk_52_method_14_code 15 = .ok (.iload 4, 2) := by decide +kernel
theorem od_21_17 : decode jdk_52_method_14_code 17 = .ok (.aload_n 0, 1) := by decide +kernel
theorem od_21_18 : decode jdk_52_method_14_code 18 = .ok (.iload_n 1, 1) := by decide +kernel
theorem od_21_19 : decode jdk_52_method_14_code 19 = .ok (.caload, 1) := by decide +kernel
theorem od_21_20 : decode jdk_52_method_14_code 20 = .ok (.invokestatic 111, 3) := by decide +kernel
theorem od_21_23 : decode jdk_52_method_14_code 23 = .ok (.iinc 1 1, 3) := by decide +kernel
theorem od_21_26 : decode jdk_52_method_14_code 26 = .ok (.iinc 4 1, 3) := by decide +kernel
theorem od_21_29 : decode jdk_52_method_14_code 29 = .ok (.goto (-21), 3) := by decide +kernel
theorem od_5_0 : decode jdk_52_method_16_code 0 = .ok (.iload_n 2, 1) := by decide +kernel
theorem od_5_1 : decode jdk_52_method_16_code 1 = .ok (.newarray .byte, 2) := by decide +kernel
theorem od_5_3 : decode jdk_52_method_16_code 3 = .ok (.astore_n 3, 1) := by decide +kernel
theorem od_5_4 : decode jdk_52_method_16_code 4 = .ok (.aload_n 0, 1) := by decide +kernel
theorem od_5_5 : decode jdk_52_method_16_code 5 = .ok (.iload_n 1, 1) := by decide +kernel
theorem od_5_6 : decode jdk_52_method_16_code 6 = .ok (.aload_n 3, 1) := by decide +kernel
theorem od_5_7 : decode jdk_52_method_16_code 7 = .ok (.iconst 0, 1) := by decide +kernel
theorem od_5_8 : decode jdk_52_method_16_code 8 = .ok (.iload_n 2, 1) := by decide +kernel
theorem od_5_9 : decode jdk_52_method_16_code 9 = .ok (.invokestatic 115, 3) := by decide +kernel
theorem od_5_12 : decode jdk_52_method_16_code 12 = .ok (.istore 4, 2) := by decide +kernel
theorem od_5_14 : decode jdk_52_method_16_code 14 = .ok (.iload 4, 2) := by decide +kernel
theorem od_5_16 : decode jdk_52_method_16_code 16 = .ok (.iload_n 2, 1) := by decide +kernel
theorem od_5_17 : decode jdk_52_method_16_code 17 = .ok (.if_icmp .eq 40, 3) := by decide +kernel
theorem od_5_57 : decode jdk_52_method_16_code 57 = .ok (.aload_n 3, 1) := by decide +kernel
theorem od_5_58 : decode jdk_52_method_16_code 58 = .ok (.areturn, 1) := by decide +kernel
theorem od_5_20 : decode jdk_52_method_16_code 20 = .ok (.aload_n 0, 1) := by decide +kernel
theorem od_5_21 : decode jdk_52_method_16_code 21 = .ok (.iload_n 1, 1) := by decide +kernel
theorem od_5_22 : decode jdk_52_method_16_code 22 = .ok (.iload_n 2, 1) := by decide +kernel
theorem od_5_23 : decode jdk_52_method_16_code 23 = .ok (.invokestatic 119, 3) := by decide +kernel
theorem od_5_26 : decode jdk_52_method_16_code 26 = .ok (.astore 5, 2) := by decide +kernel
theorem od_5_28 : decode jdk_52_method_16_code 28 = .ok (.aload 5, 2) := by decide +kernel
theorem od_5_30 : decode jdk_52_method_16_code 30 = .ok (.iload 4, 2) := by decide +kernel
theorem od_5_32 : decode jdk_52_method_16_code 32 = .ok (.invokestatic 71, 3) := by decide +kernel
theorem od_5_35 : decode jdk_52_method_16_code 35 = .ok (.sipush 255, 3) := by decide +kernel
theorem od_5_38 : decode jdk_52_method_16_code 38 = .ok (.if_icmp .gt 16, 3) := by decide +kernel
theorem od_5_54 : decode jdk_52_method_16_code 54 = .ok (.aload 5, 2) := by decide +kernel
theorem od_5_56 : decode jdk_52_method_16_code 56 = .ok (.areturn, 1) := by decide +kernel
theorem od_7_0 : decode jdk_52_method_15_code 0 = .ok (.iload_n 1, 1) := by decide +kernel
theorem od_7_1 : decode jdk_52_method_15_code 1 = .ok (.aload_n 0, 1) := by decide +kernel
theorem od_7_2 : decode jdk_52_method_15_code 2 = .ok (.arraylength, 1) := by decide +kernel
theorem od_7_3 : decode jdk_52_method_15_code 3 = .ok (.isub, 1) := by decide +kernel
theorem od_7_4 : decode jdk_52_method_15_code 4 = .ok (.bipush 31, 2) := by decide +kernel
theorem od_7_6 : decode jdk_52_method_15_code 6 = .ok (.iushr, 1) := by decide +kernel
theorem od_7_7 : decode jdk_52_method_15_code 7 = .ok (.i2b, 1) := by decide +kernel
theorem od_7_8 : decode jdk_52_method_15_code 8 = .ok (.ireturn, 1) := by decide +kernel
theorem od_3_0 : decode jdk_42_method_149_code 0 = .ok (.aload_n 0, 1) := by decide +kernel
theorem od_3_1 : decode jdk_42_method_149_code 1 = .ok (.invokespecial 1, 3) := by decide +kernel
theorem od_3_4 : decode jdk_42_method_149_code 4 = .ok (.iload_n 3, 1) := by decide +kernel
theorem od_3_5 : decode jdk_42_method_149_code 5 = .ok (.ifCond .ne 22, 3) := by decide +kernel
theorem od_3_27 : decode jdk_42_method_149_code 27 = .ok (.getstatic 38, 3) := by decide +kernel
theorem od_3_30 : decode jdk_42_method_149_code 30 = .ok (.ifCond .eq 28, 3) := by decide +kernel
theorem od_3_33 : decode jdk_42_method_149_code 33 = .ok (.aload_n 1, 1) := by decide +kernel
theorem od_3_34 : decode jdk_42_method_149_code 34 = .ok (.iload_n 2, 1) := by decide +kernel
theorem od_3_35 : decode jdk_42_method_149_code 35 = .ok (.iload_n 3, 1) := by decide +kernel
theorem od_3_36 : decode jdk_42_method_149_code 36 = .ok (.invokestatic 177, 3) := by decide +kernel
theorem od_3_39 : decode jdk_42_method_149_code 39 = .ok (.astore 5, 2) := by decide +kernel
theorem od_3_41 : decode jdk_42_method_149_code 41 = .ok (.aload_n 0, 1) := by decide +kernel
theorem od_3_42 : decode jdk_42_method_149_code 42 = .ok (.aload 5, 2) := by decide +kernel
theorem od_3_44 : decode jdk_42_method_149_code 44 = .ok (.iload_n 3, 1) := by decide +kernel
theorem od_3_45 : decode jdk_42_method_149_code 45 = .ok (.invokestatic 47, 3) := by decide +kernel
theorem od_3_48 : decode jdk_42_method_149_code 48 = .ok (.putfield 15, 3) := by decide +kernel
theorem od_3_51 : decode jdk_42_method_149_code 51 = .ok (.aload_n 0, 1) := by decide +kernel
theorem od_3_52 : decode jdk_42_method_149_code 52 = .ok (.aload 5, 2) := by decide +kernel
theorem od_3_54 : decode jdk_42_method_149_code 54 = .ok (.putfield 9, 3) := by decide +kernel
theorem od_3_57 : decode jdk_42_method_149_code 57 = .ok (.return_, 1) := by decide +kernel
theorem od_2_0 : decode jdk_42_method_3_code 0 = .ok (.aload_n 0, 1) := by decide +kernel
theorem od_2_1 : decode jdk_42_method_3_code 1 = .ok (.aload_n 1, 1) := by decide +kernel
theorem od_2_2 : decode jdk_42_method_3_code 2 = .ok (.iconst 0, 1) := by decide +kernel
theorem od_2_3 : decode jdk_42_method_3_code 3 = .ok (.aload_n 1, 1) := by decide +kernel
theorem od_2_4 : decode jdk_42_method_3_code 4 = .ok (.arraylength, 1) := by decide +kernel
theorem od_2_5 : decode jdk_42_method_3_code 5 = .ok (.aconst_null, 1) := by decide +kernel
theorem od_2_6 : decode jdk_42_method_3_code 6 = .ok (.invokespecial 27, 3) := by decide +kernel
theorem od_2_9 : decode jdk_42_method_3_code 9 = .ok (.return_, 1) := by decide +kernel
theorem od_18_0 : decode jdk_43_method_3_code 0 = .ok (.iload_n 0, 1) := by decide +kernel
theorem od_18_1 : decode jdk_43_method_3_code 1 = .ok (.sipush 255, 3) := by decide +kernel
theorem od_18_4 : decode jdk_43_method_3_code 4 = .ok (.if_icmp .gt 7, 3) := by decide +kernel
theorem od_18_11 : decode jdk_43_method_3_code 11 = .ok (.iconst 0, 1) := by decide +kernel
theorem od_18_12 : decode jdk_43_method_3_code 12 = .ok (.ireturn, 1) := by decide +kernel
theorem od_18_7 : decode jdk_43_method_3_code 7 = .ok (.iconst 1, 1) := by decide +kernel
theorem od_18_8 : decode jdk_43_method_3_code 8 = .ok (.goto 4, 3) := by decide +kernel
theorem od_19_0 : decode jdk_43_method_46_code 0 = .ok (.iconst 1, 1) := by decide +kernel
theorem od_19_1 : decode jdk_43_method_46_code 1 = .ok (.newarray .byte, 2) := by decide +kernel
theorem od_19_3 : decode jdk_43_method_46_code 3 = .ok (.dup, 1) := by decide +kernel
theorem od_19_4 : decode jdk_43_method_46_code 4 = .ok (.iconst 0, 1) := by decide +kernel
theorem od_19_5 : decode jdk_43_method_46_code 5 = .ok (.iload_n 0, 1) := by decide +kernel
theorem od_19_6 : decode jdk_43_method_46_code 6 = .ok (.i2b, 1) := by decide +kernel
theorem od_19_7 : decode jdk_43_method_46_code 7 = .ok (.bastore, 1) := by decide +kernel
theorem od_19_8 : decode jdk_43_method_46_code 8 = .ok (.areturn, 1) := by decide +kernel
theorem od_29_0 : decode jdk_52_method_24_code 0 = .ok (.iconst 2, 1) := by decide +kernel
theorem od_29_1 : decode jdk_52_method_24_code 1 = .ok (.newarray .byte, 2) := by decide +kernel
theorem od_29_3 : decode jdk_52_method_24_code 3 = .ok (.astore_n 1, 1) := by decide +kernel
theorem od_29_4 : decode jdk_52_method_24_code 4 = .ok (.aload_n 1, 1) := by decide +kernel
theorem od_29_5 : decode jdk_52_method_24_code 5 = .ok (.iconst 0, 1) := by decide +kernel
theorem od_29_6 : decode jdk_52_method_24_code 6 = .ok (.iload_n 0, 1) := by decide +kernel
theorem od_29_7 : decode jdk_52_method_24_code 7 = .ok (.invokestatic 111, 3) := by decide +kernel
theorem od_29_10 : decode jdk_52_method_24_code 10 = .ok (.aload_n 1, 1) := by decide +kernel
theorem od_29_11 : decode jdk_52_method_24_code 11 = .ok (.areturn, 1) := by decide +kernel
theorem od_20_0 : decode jdk_42_method_151_code 0 = .ok (.aload_n 0, 1) := by decide +kernel
theorem od_20_1 : decode jdk_42_method_151_code 1 = .ok (.invokespecial 1, 3) := by decide +kernel
theorem od_20_4 : decode jdk_42_method_151_code 4 = .ok (.aload_n 0, 1) := by decide +kernel
theorem od_20_5 : decode jdk_42_method_151_code 5 = .ok (.aload_n 1, 1) := by decide +kernel
theorem od_20_6 : decode jdk_42_method_151_code 6 = .ok (.putfield 9, 3) := by decide +kernel
theorem od_20_9 : decode jdk_42_method_151_code 9 = .ok (.aload_n 0, 1) := by decide +kernel
theorem od_20_10 : decode jdk_42_method_151_code 10 = .ok (.iload_n 2, 1) := by decide +kernel
theorem od_20_11 : decode jdk_42_method_151_code 11 = .ok (.putfield 15, 3) := by decide +kernel
theorem od_20_14 : decode jdk_42_method_151_code 14 = .ok (.return_, 1) := by decide +kernel
theorem od_17_0 : decode jdk_42_method_139_code 0 = .ok (.getstatic 38, 3) := by decide +kernel
theorem od_17_3 : decode jdk_42_method_139_code 3 = .ok (.ifCond .eq 23, 3) := by decide +kernel
theorem od_17_6 : decode jdk_42_method_139_code 6 = .ok (.iload_n 0, 1) := by decide +kernel
theorem od_17_7 : decode jdk_42_method_139_code 7 = .ok (.invokestatic 1015, 3) := by decide +kernel
theorem od_17_10 : decode jdk_42_method_139_code 10 = .ok (.ifCond .eq 16, 3) := by decide +kernel
theorem od_17_26 : decode jdk_42_method_139_code 26 = .ok (.new 10, 3) := by decide +kernel
theorem od_17_29 : decode jdk_42_method_139_code 29 = .ok (.dup, 1) := by decide +kernel
theorem od_17_30 : decode jdk_42_method_139_code 30 = .ok (.iload_n 0, 1) := by decide +kernel
theorem od_17_31 : decode jdk_42_method_139_code 31 = .ok (.invokestatic 1021, 3) := by decide +kernel
theorem od_17_34 : decode jdk_42_method_139_code 34 = .ok (.iconst 1, 1) := by decide +kernel
theorem od_17_35 : decode jdk_42_method_139_code 35 = .ok (.invokespecial 209, 3) := by decide +kernel
theorem od_17_38 : decode jdk_42_method_139_code 38 = .ok (.areturn, 1) := by decide +kernel
theorem od_17_13 : decode jdk_42_method_139_code 13 = .ok (.new 10, 3) := by decide +kernel
theorem od_17_16 : decode jdk_42_method_139_code 16 = .ok (.dup, 1) := by decide +kernel
theorem od_17_17 : decode jdk_42_method_139_code 17 = .ok (.iload_n 0, 1) := by decide +kernel
theorem od_17_18 : decode jdk_42_method_139_code 18 = .ok (.invokestatic 1018, 3) := by decide +kernel
theorem od_17_21 : decode jdk_42_method_139_code 21 = .ok (.iconst 0, 1) := by decide +kernel
theorem od_17_22 : decode jdk_42_method_139_code 22 = .ok (.invokespecial 209, 3) := by decide +kernel
theorem od_17_25 : decode jdk_42_method_139_code 25 = .ok (.areturn, 1) := by decide +kernel
theorem od_0_73 : decode code 73 = .ok (.bipush 65, 2) := by decide +kernel
theorem od_0_75 : decode code 75 = .ok (.newarray .char, 2) := by decide +kernel
theorem od_0_77 : decode code 77 = .ok (.dup, 1) := by decide +kernel
theorem od_0_78 : decode code 78 = .ok (.iconst 0, 1) := by decide +kernel
theorem od_0_79 : decode code 79 = .ok (.iload 11, 2) := by decide +kernel
theorem od_0_81 : decode code 81 = .ok (.castore, 1) := by decide +kernel
theorem od_0_82 : decode code 82 = .ok (.dup, 1) := by decide +kernel
theorem od_0_83 : decode code 83 = .ok (.iconst 1, 1) := by decide +kernel
theorem od_0_84 : decode code 84 = .ok (.iload 11, 2) := by decide +kernel
theorem od_0_86 : decode code 86 = .ok (.castore, 1) := by decide +kernel
theorem od_0_87 : decode code 87 = .ok (.dup, 1) := by decide +kernel
theorem od_0_88 : decode code 88 = .ok (.iconst 2, 1) := by decide +kernel
theorem od_0_89 : decode code 89 = .ok (.iload 11, 2) := by decide +kernel
theorem od_0_91 : decode code 91 = .ok (.castore, 1) := by decide +kernel
theorem od_0_92 : decode code 92 = .ok (.dup, 1) := by decide +kernel
theorem od_0_93 : decode code 93 = .ok (.iconst 3, 1) := by decide +kernel
theorem od_0_94 : decode code 94 = .ok (.iload 11, 2) := by decide +kernel
theorem od_0_96 : decode code 96 = .ok (.castore, 1) := by decide +kernel
theorem od_0_97 : decode code 97 = .ok (.dup, 1) := by decide +kernel
theorem od_0_98 : decode code 98 = .ok (.iconst 4, 1) := by decide +kernel
theorem od_0_99 : decode code 99 = .ok (.iload 11, 2) := by decide +kernel
theorem od_0_101 : decode code 101 = .ok (.castore, 1) := by decide +kernel
theorem od_0_102 : decode code 102 = .ok (.dup, 1) := by decide +kernel
theorem od_0_103 : decode code 103 = .ok (.iconst 5, 1) := by decide +kernel
theorem od_0_104 : decode code 104 = .ok (.iload 11, 2) := by decide +kernel
theorem od_0_106 : decode code 106 = .ok (.castore, 1) := by decide +kernel
theorem od_0_107 : decode code 107 = .ok (.dup, 1) := by decide +kernel
theorem od_0_108 : decode code 108 = .ok (.bipush 6, 2) := by decide +kernel
theorem od_0_110 : decode code 110 = .ok (.iload 11, 2) := by decide +kernel
theorem od_0_112 : decode code 112 = .ok (.castore, 1) := by decide +kernel
theorem od_0_113 : decode code 113 = .ok (.dup, 1) := by decide +kernel
theorem od_0_114 : decode code 114 = .ok (.bipush 7, 2) := by decide +kernel
theorem od_0_116 : decode code 116 = .ok (.iload 11, 2) := by decide +kernel
theorem od_0_118 : decode code 118 = .ok (.castore, 1) := by decide +kernel
theorem od_0_119 : decode code 119 = .ok (.dup, 1) := by decide +kernel
theorem od_0_120 : decode code 120 = .ok (.bipush 8, 2) := by decide +kernel
theorem od_0_122 : decode code 122 = .ok (.iload 11, 2) := by decide +kernel
theorem od_0_124 : decode code 124 = .ok (.castore, 1) := by decide +kernel
theorem od_0_125 : decode code 125 = .ok (.dup, 1) := by decide +kernel
theorem od_0_126 : decode code 126 = .ok (.bipush 9, 2) := by decide +kernel
theorem od_0_128 : decode code 128 = .ok (.iload 11, 2) := by decide +kernel
theorem od_0_130 : decode code 130 = .ok (.castore, 1) := by decide +kernel
theorem od_0_131 : decode code 131 = .ok (.dup, 1) := by decide +kernel
theorem od_0_132 : decode code 132 = .ok (.bipush 10, 2) := by decide +kernel
theorem od_0_134 : decode code 134 = .ok (.iload 11, 2) := by decide +kernel
theorem od_0_136 : decode code 136 = .ok (.castore, 1) := by decide +kernel
theorem od_0_137 : decode code 137 = .ok (.dup, 1) := by decide +kernel
theorem od_0_138 : decode code 138 = .ok (.bipush 11, 2) := by decide +kernel
theorem od_0_140 : decode code 140 = .ok (.iload 11, 2) := by decide +kernel
theorem od_0_142 : decode code 142 = .ok (.castore, 1) := by decide +kernel
theorem od_0_143 : decode code 143 = .ok (.dup, 1) := by decide +kernel
theorem od_0_144 : decode code 144 = .ok (.bipush 12, 2) := by decide +kernel
theorem od_0_146 : decode code 146 = .ok (.iload 11, 2) := by decide +kernel
theorem od_0_148 : decode code 148 = .ok (.castore, 1) := by decide +kernel
theorem od_0_149 : decode code 149 = .ok (.dup, 1) := by decide +kernel
theorem od_0_150 : decode code 150 = .ok (.bipush 13, 2) := by decide +kernel
theorem od_0_152 : decode code 152 = .ok (.iload 11, 2) := by decide +kernel
theorem od_0_154 : decode code 154 = .ok (.castore, 1) := by decide +kernel
theorem od_0_155 : decode code 155 = .ok (.dup, 1) := by decide +kernel
theorem od_0_156 : decode code 156 = .ok (.bipush 14, 2) := by decide +kernel
theorem od_0_158 : decode code 158 = .ok (.iload 11, 2) := by decide +kernel
theorem od_0_160 : decode code 160 = .ok (.castore, 1) := by decide +kernel
theorem od_0_161 : decode code 161 = .ok (.dup, 1) := by decide +kernel
theorem od_0_162 : decode code 162 = .ok (.bipush 15, 2) := by decide +kernel
theorem od_0_164 : decode code 164 = .ok (.iload 11, 2) := by decide +kernel
theorem od_0_166 : decode code 166 = .ok (.castore, 1) := by decide +kernel
theorem od_0_167 : decode code 167 = .ok (.dup, 1) := by decide +kernel
theorem od_0_168 : decode code 168 = .ok (.bipush 16, 2) := by decide +kernel
theorem od_0_170 : decode code 170 = .ok (.iload 11, 2) := by decide +kernel
theorem od_0_172 : decode code 172 = .ok (.castore, 1) := by decide +kernel
theorem od_0_173 : decode code 173 = .ok (.dup, 1) := by decide +kernel
theorem od_0_174 : decode code 174 = .ok (.bipush 17, 2) := by decide +kernel
theorem od_0_176 : decode code 176 = .ok (.iload 11, 2) := by decide +kernel
theorem od_0_178 : decode code 178 = .ok (.castore, 1) := by decide +kernel
theorem od_0_179 : decode code 179 = .ok (.dup, 1) := by decide +kernel
theorem od_0_180 : decode code 180 = .ok (.bipush 18, 2) := by decide +kernel
theorem od_0_182 : decode code 182 = .ok (.iload 11, 2) := by decide +kernel
theorem od_0_184 : decode code 184 = .ok (.castore, 1) := by decide +kernel
theorem od_0_185 : decode code 185 = .ok (.dup, 1) := by decide +kernel
theorem od_0_186 : decode code 186 = .ok (.bipush 19, 2) := by decide +kernel
theorem od_0_188 : decode code 188 = .ok (.iload 11, 2) := by decide +kernel
theorem od_0_190 : decode code 190 = .ok (.castore, 1) := by decide +kernel
theorem od_0_191 : decode code 191 = .ok (.dup, 1) := by decide +kernel
theorem od_0_192 : decode code 192 = .ok (.bipush 20, 2) := by decide +kernel
theorem od_0_194 : decode code 194 = .ok (.iload 11, 2) := by decide +kernel
theorem od_0_196 : decode code 196 = .ok (.castore, 1) := by decide +kernel
theorem od_0_197 : decode code 197 = .ok (.dup, 1) := by decide +kernel
theorem od_0_198 : decode code 198 = .ok (.bipush 21, 2) := by decide +kernel
theorem od_0_200 : decode code 200 = .ok (.iload 11, 2) := by decide +kernel
theorem od_0_202 : decode code 202 = .ok (.castore, 1) := by decide +kernel
theorem od_0_203 : decode code 203 = .ok (.dup, 1) := by decide +kernel
theorem od_0_204 : decode code 204 = .ok (.bipush 22, 2) := by decide +kernel
theorem od_0_206 : decode code 206 = .ok (.iload 11, 2) := by decide +kernel
theorem od_0_208 : decode code 208 = .ok (.castore, 1) := by decide +kernel
theorem od_0_209 : decode code 209 = .ok (.dup, 1) := by decide +kernel
theorem od_0_210 : decode code 210 = .ok (.bipush 23, 2) := by decide +kernel
theorem od_0_212 : decode code 212 = .ok (.iload 11, 2) := by decide +kernel
theorem od_0_214 : decode code 214 = .ok (.castore, 1) := by decide +kernel
theorem od_0_215 : decode code 215 = .ok (.dup, 1) := by decide +kernel
theorem od_0_216 : decode code 216 = .ok (.bipush 24, 2) := by decide +kernel
theorem od_0_218 : decode code 218 = .ok (.iload 11, 2) := by decide +kernel
theorem od_0_220 : decode code 220 = .ok (.castore, 1) := by decide +kernel
theorem od_0_221 : decode code 221 = .ok (.dup, 1) := by decide +kernel
theorem od_0_222 : decode code 222 = .ok (.bipush 25, 2) := by decide +kernel
theorem od_0_224 : decode code 224 = .ok (.iload 11, 2) := by decide +kernel
theorem od_0_226 : decode code 226 = .ok (.castore, 1) := by decide +kernel
theorem od_0_227 : decode code 227 = .ok (.dup, 1) := by decide +kernel
theorem od_0_228 : decode code 228 = .ok (.bipush 26, 2) := by decide +kernel
theorem od_0_230 : decode code 230 = .ok (.iload 11, 2) := by decide +kernel
theorem od_0_232 : decode code 232 = .ok (.castore, 1) := by decide +kernel
theorem od_0_233 : decode code 233 = .ok (.dup, 1) := by decide +kernel
theorem od_0_234 : decode code 234 = .ok (.bipush 27, 2) := by decide +kernel
theorem od_0_236 : decode code 236 = .ok (.iload 11, 2) := by decide +kernel
theorem od_0_238 : decode code 238 = .ok (.castore, 1) := by decide +kernel
theorem od_0_239 : decode code 239 = .ok (.dup, 1) := by decide +kernel
theorem od_0_240 : decode code 240 = .ok (.bipush 28, 2) := by decide +kernel
theorem od_0_242 : decode code 242 = .ok (.iload 11, 2) := by decide +kernel
theorem od_0_244 : decode code 244 = .ok (.castore, 1) := by decide +kernel
theorem od_0_245 : decode code 245 = .ok (.dup, 1) := by decide +kernel
theorem od_0_246 : decode code 246 = .ok (.bipush 29, 2) := by decide +kernel
theorem od_0_248 : decode code 248 = .ok (.iload 11, 2) := by decide +kernel
theorem od_0_250 : decode code 250 = .ok (.castore, 1) := by decide +kernel
theorem od_0_251 : decode code 251 = .ok (.dup, 1) := by decide +kernel
theorem od_0_252 : decode code 252 = .ok (.bipush 30, 2) := by decide +kernel
theorem od_0_254 : decode code 254 = .ok (.iload 11, 2) := by decide +kernel
theorem od_0_256 : decode code 256 = .ok (.castore, 1) := by decide +kernel
theorem od_0_257 : decode code 257 = .ok (.dup, 1) := by decide +kernel
theorem od_0_258 : decode code 258 = .ok (.bipush 31, 2) := by decide +kernel
theorem od_0_260 : decode code 260 = .ok (.iload 11, 2) := by decide +kernel
theorem od_0_262 : decode code 262 = .ok (.castore, 1) := by decide +kernel
theorem od_0_263 : decode code 263 = .ok (.dup, 1) := by decide +kernel
theorem od_0_264 : decode code 264 = .ok (.bipush 32, 2) := by decide +kernel
theorem od_0_266 : decode code 266 = .ok (.iload 11, 2) := by decide +kernel
theorem od_0_268 : decode code 268 = .ok (.castore, 1) := by decide +kernel
theorem od_0_269 : decode code 269 = .ok (.dup, 1) := by decide +kernel
theorem od_0_270 : decode code 270 = .ok (.bipush 33, 2) := by decide +kernel
theorem od_0_272 : decode code 272 = .ok (.iload 11, 2) := by decide +kernel
theorem od_0_274 : decode code 274 = .ok (.castore, 1) := by decide +kernel
theorem od_0_275 : decode code 275 = .ok (.dup, 1) := by decide +kernel
theorem od_0_276 : decode code 276 = .ok (.bipush 34, 2) := by decide +kernel
theorem od_0_278 : decode code 278 = .ok (.iload 11, 2) := by decide +kernel
theorem od_0_280 : decode code 280 = .ok (.castore, 1) := by decide +kernel
theorem od_0_281 : decode code 281 = .ok (.dup, 1) := by decide +kernel
theorem od_0_282 : decode code 282 = .ok (.bipush 35, 2) := by decide +kernel
theorem od_0_284 : decode code 284 = .ok (.iload 11, 2) := by decide +kernel
theorem od_0_286 : decode code 286 = .ok (.castore, 1) := by decide +kernel
theorem od_0_287 : decode code 287 = .ok (.dup, 1) := by decide +kernel
theorem od_0_288 : decode code 288 = .ok (.bipush 36, 2) := by decide +kernel
theorem od_0_290 : decode code 290 = .ok (.iload 11, 2) := by decide +kernel
theorem od_0_292 : decode code 292 = .ok (.castore, 1) := by decide +kernel
theorem od_0_293 : decode code 293 = .ok (.dup, 1) := by decide +kernel
theorem od_0_294 : decode code 294 = .ok (.bipush 37, 2) := by decide +kernel
theorem od_0_296 : decode code 296 = .ok (.iload 11, 2) := by decide +kernel
theorem od_0_298 : decode code 298 = .ok (.castore, 1) := by decide +kernel
theorem od_0_299 : decode code 299 = .ok (.dup, 1) := by decide +kernel
theorem od_0_300 : decode code 300 = .ok (.bipush 38, 2) := by decide +kernel
theorem od_0_302 : decode code 302 = .ok (.iload 11, 2) := by decide +kernel
theorem od_0_304 : decode code 304 = .ok (.castore, 1) := by decide +kernel
theorem od_0_305 : decode code 305 = .ok (.dup, 1) := by decide +kernel
theorem od_0_306 : decode code 306 = .ok (.bipush 39, 2) := by decide +kernel
theorem od_0_308 : decode code 308 = .ok (.iload 11, 2) := by decide +kernel
theorem od_0_310 : decode code 310 = .ok (.castore, 1) := by decide +kernel
theorem od_0_311 : decode code 311 = .ok (.dup, 1) := by decide +kernel
theorem od_0_312 : decode code 312 = .ok (.bipush 40, 2) := by decide +kernel
theorem od_0_314 : decode code 314 = .ok (.iload 11, 2) := by decide +kernel
theorem od_0_316 : decode code 316 = .ok (.castore, 1) := by decide +kernel
theorem od_0_317 : decode code 317 = .ok (.dup, 1) := by decide +kernel
theorem od_0_318 : decode code 318 = .ok (.bipush 41, 2) := by decide +kernel
theorem od_0_320 : decode code 320 = .ok (.iload 11, 2) := by decide +kernel
theorem od_0_322 : decode code 322 = .ok (.castore, 1) := by decide +kernel
theorem od_0_323 : decode code 323 = .ok (.dup, 1) := by decide +kernel
theorem od_0_324 : decode code 324 = .ok (.bipush 42, 2) := by decide +kernel
theorem od_0_326 : decode code 326 = .ok (.iload 11, 2) := by decide +kernel
theorem od_0_328 : decode code 328 = .ok (.castore, 1) := by decide +kernel
theorem od_0_329 : decode code 329 = .ok (.dup, 1) := by decide +kernel
theorem od_0_330 : decode code 330 = .ok (.bipush 43, 2) := by decide +kernel
theorem od_0_332 : decode code 332 = .ok (.iload 11, 2) := by decide +kernel
theorem od_0_334 : decode code 334 = .ok (.castore, 1) := by decide +kernel
theorem od_0_335 : decode code 335 = .ok (.dup, 1) := by decide +kernel
theorem od_0_336 : decode code 336 = .ok (.bipush 44, 2) := by decide +kernel
theorem od_0_338 : decode code 338 = .ok (.iload 11, 2) := by decide +kernel
theorem od_0_340 : decode code 340 = .ok (.castore, 1) := by decide +kernel
theorem od_0_341 : decode code 341 = .ok (.dup, 1) := by decide +kernel
theorem od_0_342 : decode code 342 = .ok (.bipush 45, 2) := by decide +kernel
theorem od_0_344 : decode code 344 = .ok (.iload 11, 2) := by decide +kernel
theorem od_0_346 : decode code 346 = .ok (.castore, 1) := by decide +kernel
theorem od_0_347 : decode code 347 = .ok (.dup, 1) := by decide +kernel
theorem od_0_348 : decode code 348 = .ok (.bipush 46, 2) := by decide +kernel
theorem od_0_350 : decode code 350 = .ok (.iload 11, 2) := by decide +kernel
theorem od_0_352 : decode code 352 = .ok (.castore, 1) := by decide +kernel
theorem od_0_353 : decode code 353 = .ok (.dup, 1) := by decide +kernel
theorem od_0_354 : decode code 354 = .ok (.bipush 47, 2) := by decide +kernel
theorem od_0_356 : decode code 356 = .ok (.iload 11, 2) := by decide +kernel
theorem od_0_358 : decode code 358 = .ok (.castore, 1) := by decide +kernel
theorem od_0_359 : decode code 359 = .ok (.dup, 1) := by decide +kernel
theorem od_0_360 : decode code 360 = .ok (.bipush 48, 2) := by decide +kernel
theorem od_0_362 : decode code 362 = .ok (.iload 11, 2) := by decide +kernel
theorem od_0_364 : decode code 364 = .ok (.castore, 1) := by decide +kernel
theorem od_0_365 : decode code 365 = .ok (.dup, 1) := by decide +kernel
theorem od_0_366 : decode code 366 = .ok (.bipush 49, 2) := by decide +kernel
theorem od_0_368 : decode code 368 = .ok (.iload 11, 2) := by decide +kernel
theorem od_0_370 : decode code 370 = .ok (.castore, 1) := by decide +kernel
theorem od_0_371 : decode code 371 = .ok (.dup, 1) := by decide +kernel
theorem od_0_372 : decode code 372 = .ok (.bipush 50, 2) := by decide +kernel
theorem od_0_374 : decode code 374 = .ok (.iload 11, 2) := by decide +kernel
theorem od_0_376 : decode code 376 = .ok (.castore, 1) := by decide +kernel
theorem od_0_377 : decode code 377 = .ok (.dup, 1) := by decide +kernel
theorem od_0_378 : decode code 378 = .ok (.bipush 51, 2) := by decide +kernel
theorem od_0_380 : decode code 380 = .ok (.iload 11, 2) := by decide +kernel
theorem od_0_382 : decode code 382 = .ok (.castore, 1) := by decide +kernel
theorem od_0_383 : decode code 383 = .ok (.dup, 1) := by decide +kernel
theorem od_0_384 : decode code 384 = .ok (.bipush 52, 2) := by decide +kernel
theorem od_0_386 : decode code 386 = .ok (.iload 11, 2) := by decide +kernel
theorem od_0_388 : decode code 388 = .ok (.castore, 1) := by decide +kernel
theorem od_0_389 : decode code 389 = .ok (.dup, 1) := by decide +kernel
theorem od_0_390 : decode code 390 = .ok (.bipush 53, 2) := by decide +kernel
theorem od_0_392 : decode code 392 = .ok (.iload 11, 2) := by decide +kernel
theorem od_0_394 : decode code 394 = .ok (.castore, 1) := by decide +kernel
theorem od_0_395 : decode code 395 = .ok (.dup, 1) := by decide +kernel
theorem od_0_396 : decode code 396 = .ok (.bipush 54, 2) := by decide +kernel
theorem od_0_398 : decode code 398 = .ok (.iload 11, 2) := by decide +kernel
theorem od_0_400 : decode code 400 = .ok (.castore, 1) := by decide +kernel
theorem od_0_401 : decode code 401 = .ok (.dup, 1) := by decide +kernel
theorem od_0_402 : decode code 402 = .ok (.bipush 55, 2) := by decide +kernel
theorem od_0_404 : decode code 404 = .ok (.iload 11, 2) := by decide +kernel
theorem od_0_406 : decode code 406 = .ok (.castore, 1) := by decide +kernel
theorem od_0_407 : decode code 407 = .ok (.dup, 1) := by decide +kernel
theorem od_0_408 : decode code 408 = .ok (.bipush 56, 2) := by decide +kernel
theorem od_0_410 : decode code 410 = .ok (.iload 11, 2) := by decide +kernel
theorem od_0_412 : decode code 412 = .ok (.castore, 1) := by decide +kernel
theorem od_0_413 : decode code 413 = .ok (.dup, 1) := by decide +kernel
theorem od_0_414 : decode code 414 = .ok (.bipush 57, 2) := by decide +kernel
theorem od_0_416 : decode code 416 = .ok (.iload 11, 2) := by decide +kernel
theorem od_0_418 : decode code 418 = .ok (.castore, 1) := by decide +kernel
theorem od_0_419 : decode code 419 = .ok (.dup, 1) := by decide +kernel
theorem od_0_420 : decode code 420 = .ok (.bipush 58, 2) := by decide +kernel
theorem od_0_422 : decode code 422 = .ok (.iload 11, 2) := by decide +kernel
theorem od_0_424 : decode code 424 = .ok (.castore, 1) := by decide +kernel
theorem od_0_425 : decode code 425 = .ok (.dup, 1) := by decide +kernel
theorem od_0_426 : decode code 426 = .ok (.bipush 59, 2) := by decide +kernel
theorem od_0_428 : decode code 428 = .ok (.iload 11, 2) := by decide +kernel
theorem od_0_430 : decode code 430 = .ok (.castore, 1) := by decide +kernel
theorem od_0_431 : decode code 431 = .ok (.dup, 1) := by decide +kernel
theorem od_0_432 : decode code 432 = .ok (.bipush 60, 2) := by decide +kernel
theorem od_0_434 : decode code 434 = .ok (.iload 11, 2) := by decide +kernel
theorem od_0_436 : decode code 436 = .ok (.castore, 1) := by decide +kernel
theorem od_0_437 : decode code 437 = .ok (.dup, 1) := by decide +kernel
theorem od_0_438 : decode code 438 = .ok (.bipush 61, 2) := by decide +kernel
theorem od_0_440 : decode code 440 = .ok (.iload 11, 2) := by decide +kernel
theorem od_0_442 : decode code 442 = .ok (.castore, 1) := by decide +kernel
theorem od_0_443 : decode code 443 = .ok (.dup, 1) := by decide +kernel
theorem od_0_444 : decode code 444 = .ok (.bipush 62, 2) := by decide +kernel
theorem od_0_446 : decode code 446 = .ok (.iload 11, 2) := by decide +kernel
theorem od_0_448 : decode code 448 = .ok (.castore, 1) := by decide +kernel
theorem od_0_449 : decode code 449 = .ok (.dup, 1) := by decide +kernel
theorem od_0_450 : decode code 450 = .ok (.bipush 63, 2) := by decide +kernel
theorem od_0_452 : decode code 452 = .ok (.iload 11, 2) := by decide +kernel
theorem od_0_454 : decode code 454 = .ok (.castore, 1) := by decide +kernel
theorem od_0_455 : decode code 455 = .ok (.dup, 1) := by decide +kernel
theorem od_0_456 : decode code 456 = .ok (.bipush 64, 2) := by decide +kernel
theorem od_0_458 : decode code 458 = .ok (.iload 11, 2) := by decide +kernel
theorem od_0_460 : decode code 460 = .ok (.castore, 1) := by decide +kernel
theorem od_0_461 : decode code 461 = .ok (.astore 13, 2) := by decide +kernel
theorem od_0_463 : decode code 463 = .ok (.new 11, 3) := by decide +kernel
theorem od_0_466 : decode code 466 = .ok (.dup, 1) := by decide +kernel
theorem od_0_467 : decode code 467 = .ok (.aload 13, 2) := by decide +kernel
theorem od_0_469 : decode code 469 = .ok (.invokespecial 13, 3) := by decide +kernel
theorem od_0_472 : decode code 472 = .ok (.invokestatic 16, 3) := by decide +kernel
theorem od_0_475 : decode code 475 = .ok (.ifCond .ne 7, 3) := by decide +kernel
theorem od_0_478 : decode code 478 = .ok (.iconst 1, 1) := by decide +kernel
theorem od_0_479 : decode code 479 = .ok (.goto 4, 3) := by decide +kernel
theorem od_0_483 : decode code 483 = .ok (.ireturn, 1) := by decide +kernel
theorem od_0_491 : decode code 491 = .ok (.bipush 63, 2) := by decide +kernel
theorem od_0_493 : decode code 493 = .ok (.newarray .char, 2) := by decide +kernel
theorem od_0_495 : decode code 495 = .ok (.dup, 1) := by decide +kernel
theorem od_0_496 : decode code 496 = .ok (.iconst 0, 1) := by decide +kernel
theorem od_0_497 : decode code 497 = .ok (.iload 11, 2) := by decide +kernel
theorem od_0_499 : decode code 499 = .ok (.castore, 1) := by decide +kernel
theorem od_0_500 : decode code 500 = .ok (.dup, 1) := by decide +kernel
theorem od_0_501 : decode code 501 = .ok (.iconst 1, 1) := by decide +kernel
theorem od_0_502 : decode code 502 = .ok (.iload 11, 2) := by decide +kernel
theorem od_0_504 : decode code 504 = .ok (.castore, 1) := by decide +kernel
theorem od_0_505 : decode code 505 = .ok (.dup, 1) := by decide +kernel
theorem od_0_506 : decode code 506 = .ok (.iconst 2, 1) := by decide +kernel
theorem od_0_507 : decode code 507 = .ok (.iload 11, 2) := by decide +kernel
theorem od_0_509 : decode code 509 = .ok (.castore, 1) := by decide +kernel
theorem od_0_510 : decode code 510 = .ok (.dup, 1) := by decide +kernel
theorem od_0_511 : decode code 511 = .ok (.iconst 3, 1) := by decide +kernel
theorem od_0_512 : decode code 512 = .ok (.iload 11, 2) := by decide +kernel
theorem od_0_514 : decode code 514 = .ok (.castore, 1) := by decide +kernel
theorem od_0_515 : decode code 515 = .ok (.dup, 1) := by decide +kernel
theorem od_0_516 : decode code 516 = .ok (.iconst 4, 1) := by decide +kernel
theorem od_0_517 : decode code 517 = .ok (.iload 11, 2) := by decide +kernel
theorem od_0_519 : decode code 519 = .ok (.castore, 1) := by decide +kernel
theorem od_0_520 : decode code 520 = .ok (.dup, 1) := by decide +kernel
theorem od_0_521 : decode code 521 = .ok (.iconst 5, 1) := by decide +kernel
theorem od_0_522 : decode code 522 = .ok (.iload 11, 2) := by decide +kernel
theorem od_0_524 : decode code 524 = .ok (.castore, 1) := by decide +kernel
theorem od_0_525 : decode code 525 = .ok (.dup, 1) := by decide +kernel
theorem od_0_526 : decode code 526 = .ok (.bipush 6, 2) := by decide +kernel
theorem od_0_528 : decode code 528 = .ok (.iload 11, 2) := by decide +kernel
theorem od_0_530 : decode code 530 = .ok (.castore, 1) := by decide +kernel
theorem od_0_531 : decode code 531 = .ok (.dup, 1) := by decide +kernel
theorem od_0_532 : decode code 532 = .ok (.bipush 7, 2) := by decide +kernel
theorem od_0_534 : decode code 534 = .ok (.iload 11, 2) := by decide +kernel
theorem od_0_536 : decode code 536 = .ok (.castore, 1) := by decide +kernel
theorem od_0_537 : decode code 537 = .ok (.dup, 1) := by decide +kernel
theorem od_0_538 : decode code 538 = .ok (.bipush 8, 2) := by decide +kernel
theorem od_0_540 : decode code 540 = .ok (.iload 11, 2) := by decide +kernel
theorem od_0_542 : decode code 542 = .ok (.castore, 1) := by decide +kernel
theorem od_0_543 : decode code 543 = .ok (.dup, 1) := by decide +kernel
theorem od_0_544 : decode code 544 = .ok (.bipush 9, 2) := by decide +kernel
theorem od_0_546 : decode code 546 = .ok (.iload 11, 2) := by decide +kernel
theorem od_0_548 : decode code 548 = .ok (.castore, 1) := by decide +kernel
theorem od_0_549 : decode code 549 = .ok (.dup, 1) := by decide +kernel
theorem od_0_550 : decode code 550 = .ok (.bipush 10, 2) := by decide +kernel
theorem od_0_552 : decode code 552 = .ok (.iload 11, 2) := by decide +kernel
theorem od_0_554 : decode code 554 = .ok (.castore, 1) := by decide +kernel
theorem od_0_555 : decode code 555 = .ok (.dup, 1) := by decide +kernel
theorem od_0_556 : decode code 556 = .ok (.bipush 11, 2) := by decide +kernel
theorem od_0_558 : decode code 558 = .ok (.iload 11, 2) := by decide +kernel
theorem od_0_560 : decode code 560 = .ok (.castore, 1) := by decide +kernel
theorem od_0_561 : decode code 561 = .ok (.dup, 1) := by decide +kernel
theorem od_0_562 : decode code 562 = .ok (.bipush 12, 2) := by decide +kernel
theorem od_0_564 : decode code 564 = .ok (.iload 11, 2) := by decide +kernel
theorem od_0_566 : decode code 566 = .ok (.castore, 1) := by decide +kernel
theorem od_0_567 : decode code 567 = .ok (.dup, 1) := by decide +kernel
theorem od_0_568 : decode code 568 = .ok (.bipush 13, 2) := by decide +kernel
theorem od_0_570 : decode code 570 = .ok (.iload 11, 2) := by decide +kernel
theorem od_0_572 : decode code 572 = .ok (.castore, 1) := by decide +kernel
theorem od_0_573 : decode code 573 = .ok (.dup, 1) := by decide +kernel
theorem od_0_574 : decode code 574 = .ok (.bipush 14, 2) := by decide +kernel
theorem od_0_576 : decode code 576 = .ok (.iload 11, 2) := by decide +kernel
theorem od_0_578 : decode code 578 = .ok (.castore, 1) := by decide +kernel
theorem od_0_579 : decode code 579 = .ok (.dup, 1) := by decide +kernel
theorem od_0_580 : decode code 580 = .ok (.bipush 15, 2) := by decide +kernel
theorem od_0_582 : decode code 582 = .ok (.iload 11, 2) := by decide +kernel
theorem od_0_584 : decode code 584 = .ok (.castore, 1) := by decide +kernel
theorem od_0_585 : decode code 585 = .ok (.dup, 1) := by decide +kernel
theorem od_0_586 : decode code 586 = .ok (.bipush 16, 2) := by decide +kernel
theorem od_0_588 : decode code 588 = .ok (.iload 11, 2) := by decide +kernel
theorem od_0_590 : decode code 590 = .ok (.castore, 1) := by decide +kernel
theorem od_0_591 : decode code 591 = .ok (.dup, 1) := by decide +kernel
theorem od_0_592 : decode code 592 = .ok (.bipush 17, 2) := by decide +kernel
theorem od_0_594 : decode code 594 = .ok (.iload 11, 2) := by decide +kernel
theorem od_0_596 : decode code 596 = .ok (.castore, 1) := by decide +kernel
theorem od_0_597 : decode code 597 = .ok (.dup, 1) := by decide +kernel
theorem od_0_598 : decode code 598 = .ok (.bipush 18, 2) := by decide +kernel
theorem od_0_600 : decode code 600 = .ok (.iload 11, 2) := by decide +kernel
theorem od_0_602 : decode code 602 = .ok (.castore, 1) := by decide +kernel
theorem od_0_603 : decode code 603 = .ok (.dup, 1) := by decide +kernel
theorem od_0_604 : decode code 604 = .ok (.bipush 19, 2) := by decide +kernel
theorem od_0_606 : decode code 606 = .ok (.iload 11, 2) := by decide +kernel
theorem od_0_608 : decode code 608 = .ok (.castore, 1) := by decide +kernel
theorem od_0_609 : decode code 609 = .ok (.dup, 1) := by decide +kernel
theorem od_0_610 : decode code 610 = .ok (.bipush 20, 2) := by decide +kernel
theorem od_0_612 : decode code 612 = .ok (.iload 11, 2) := by decide +kernel
theorem od_0_614 : decode code 614 = .ok (.castore, 1) := by decide +kernel
theorem od_0_615 : decode code 615 = .ok (.dup, 1) := by decide +kernel
theorem od_0_616 : decode code 616 = .ok (.bipush 21, 2) := by decide +kernel
theorem od_0_618 : decode code 618 = .ok (.iload 11, 2) := by decide +kernel
theorem od_0_620 : decode code 620 = .ok (.castore, 1) := by decide +kernel
theorem od_0_621 : decode code 621 = .ok (.dup, 1) := by decide +kernel
theorem od_0_622 : decode code 622 = .ok (.bipush 22, 2) := by decide +kernel
theorem od_0_624 : decode code 624 = .ok (.iload 11, 2) := by decide +kernel
theorem od_0_626 : decode code 626 = .ok (.castore, 1) := by decide +kernel
theorem od_0_627 : decode code 627 = .ok (.dup, 1) := by decide +kernel
theorem od_0_628 : decode code 628 = .ok (.bipush 23, 2) := by decide +kernel
theorem od_0_630 : decode code 630 = .ok (.iload 11, 2) := by decide +kernel
theorem od_0_632 : decode code 632 = .ok (.castore, 1) := by decide +kernel
theorem od_0_633 : decode code 633 = .ok (.dup, 1) := by decide +kernel
theorem od_0_634 : decode code 634 = .ok (.bipush 24, 2) := by decide +kernel
theorem od_0_636 : decode code 636 = .ok (.iload 11, 2) := by decide +kernel
theorem od_0_638 : decode code 638 = .ok (.castore, 1) := by decide +kernel
theorem od_0_639 : decode code 639 = .ok (.dup, 1) := by decide +kernel
theorem od_0_640 : decode code 640 = .ok (.bipush 25, 2) := by decide +kernel
theorem od_0_642 : decode code 642 = .ok (.iload 11, 2) := by decide +kernel
theorem od_0_644 : decode code 644 = .ok (.castore, 1) := by decide +kernel
theorem od_0_645 : decode code 645 = .ok (.dup, 1) := by decide +kernel
theorem od_0_646 : decode code 646 = .ok (.bipush 26, 2) := by decide +kernel
theorem od_0_648 : decode code 648 = .ok (.iload 11, 2) := by decide +kernel
theorem od_0_650 : decode code 650 = .ok (.castore, 1) := by decide +kernel
theorem od_0_651 : decode code 651 = .ok (.dup, 1) := by decide +kernel
theorem od_0_652 : decode code 652 = .ok (.bipush 27, 2) := by decide +kernel
theorem od_0_654 : decode code 654 = .ok (.iload 11, 2) := by decide +kernel
theorem od_0_656 : decode code 656 = .ok (.castore, 1) := by decide +kernel
theorem od_0_657 : decode code 657 = .ok (.dup, 1) := by decide +kernel
theorem od_0_658 : decode code 658 = .ok (.bipush 28, 2) := by decide +kernel
theorem od_0_660 : decode code 660 = .ok (.iload 11, 2) := by decide +kernel
theorem od_0_662 : decode code 662 = .ok (.castore, 1) := by decide +kernel
theorem od_0_663 : decode code 663 = .ok (.dup, 1) := by decide +kernel
theorem od_0_664 : decode code 664 = .ok (.bipush 29, 2) := by decide +kernel
theorem od_0_666 : decode code 666 = .ok (.iload 11, 2) := by decide +kernel
theorem od_0_668 : decode code 668 = .ok (.castore, 1) := by decide +kernel
theorem od_0_669 : decode code 669 = .ok (.dup, 1) := by decide +kernel
theorem od_0_670 : decode code 670 = .ok (.bipush 30, 2) := by decide +kernel
theorem od_0_672 : decode code 672 = .ok (.iload 11, 2) := by decide +kernel
theorem od_0_674 : decode code 674 = .ok (.castore, 1) := by decide +kernel
theorem od_0_675 : decode code 675 = .ok (.dup, 1) := by decide +kernel
theorem od_0_676 : decode code 676 = .ok (.bipush 31, 2) := by decide +kernel
theorem od_0_678 : decode code 678 = .ok (.iload 11, 2) := by decide +kernel
theorem od_0_680 : decode code 680 = .ok (.castore, 1) := by decide +kernel
theorem od_0_681 : decode code 681 = .ok (.dup, 1) := by decide +kernel
theorem od_0_682 : decode code 682 = .ok (.bipush 32, 2) := by decide +kernel
theorem od_0_684 : decode code 684 = .ok (.iload 11, 2) := by decide +kernel
theorem od_0_686 : decode code 686 = .ok (.castore, 1) := by decide +kernel
theorem od_0_687 : decode code 687 = .ok (.dup, 1) := by decide +kernel
theorem od_0_688 : decode code 688 = .ok (.bipush 33, 2) := by decide +kernel
theorem od_0_690 : decode code 690 = .ok (.iload 11, 2) := by decide +kernel
theorem od_0_692 : decode code 692 = .ok (.castore, 1) := by decide +kernel
theorem od_0_693 : decode code 693 = .ok (.dup, 1) := by decide +kernel
theorem od_0_694 : decode code 694 = .ok (.bipush 34, 2) := by decide +kernel
theorem od_0_696 : decode code 696 = .ok (.iload 11, 2) := by decide +kernel
theorem od_0_698 : decode code 698 = .ok (.castore, 1) := by decide +kernel
theorem od_0_699 : decode code 699 = .ok (.dup, 1) := by decide +kernel
theorem od_0_700 : decode code 700 = .ok (.bipush 35, 2) := by decide +kernel
theorem od_0_702 : decode code 702 = .ok (.iload 11, 2) := by decide +kernel
theorem od_0_704 : decode code 704 = .ok (.castore, 1) := by decide +kernel
theorem od_0_705 : decode code 705 = .ok (.dup, 1) := by decide +kernel
theorem od_0_706 : decode code 706 = .ok (.bipush 36, 2) := by decide +kernel
theorem od_0_708 : decode code 708 = .ok (.iload 11, 2) := by decide +kernel
theorem od_0_710 : decode code 710 = .ok (.castore, 1) := by decide +kernel
theorem od_0_711 : decode code 711 = .ok (.dup, 1) := by decide +kernel
theorem od_0_712 : decode code 712 = .ok (.bipush 37, 2) := by decide +kernel
theorem od_0_714 : decode code 714 = .ok (.iload 11, 2) := by decide +kernel
theorem od_0_716 : decode code 716 = .ok (.castore, 1) := by decide +kernel
theorem od_0_717 : decode code 717 = .ok (.dup, 1) := by decide +kernel
theorem od_0_718 : decode code 718 = .ok (.bipush 38, 2) := by decide +kernel
theorem od_0_720 : decode code 720 = .ok (.iload 11, 2) := by decide +kernel
theorem od_0_722 : decode code 722 = .ok (.castore, 1) := by decide +kernel
theorem od_0_723 : decode code 723 = .ok (.dup, 1) := by decide +kernel
theorem od_0_724 : decode code 724 = .ok (.bipush 39, 2) := by decide +kernel
theorem od_0_726 : decode code 726 = .ok (.iload 11, 2) := by decide +kernel
theorem od_0_728 : decode code 728 = .ok (.castore, 1) := by decide +kernel
theorem od_0_729 : decode code 729 = .ok (.dup, 1) := by decide +kernel
theorem od_0_730 : decode code 730 = .ok (.bipush 40, 2) := by decide +kernel
theorem od_0_732 : decode code 732 = .ok (.iload 11, 2) := by decide +kernel
theorem od_0_734 : decode code 734 = .ok (.castore, 1) := by decide +kernel
theorem od_0_735 : decode code 735 = .ok (.dup, 1) := by decide +kernel
theorem od_0_736 : decode code 736 = .ok (.bipush 41, 2) := by decide +kernel
theorem od_0_738 : decode code 738 = .ok (.iload 11, 2) := by decide +kernel
theorem od_0_740 : decode code 740 = .ok (.castore, 1) := by decide +kernel
theorem od_0_741 : decode code 741 = .ok (.dup, 1) := by decide +kernel
theorem od_0_742 : decode code 742 = .ok (.bipush 42, 2) := by decide +kernel
theorem od_0_744 : decode code 744 = .ok (.iload 11, 2) := by decide +kernel
theorem od_0_746 : decode code 746 = .ok (.castore, 1) := by decide +kernel
theorem od_0_747 : decode code 747 = .ok (.dup, 1) := by decide +kernel
theorem od_0_748 : decode code 748 = .ok (.bipush 43, 2) := by decide +kernel
theorem od_0_750 : decode code 750 = .ok (.iload 11, 2) := by decide +kernel
theorem od_0_752 : decode code 752 = .ok (.castore, 1) := by decide +kernel
theorem od_0_753 : decode code 753 = .ok (.dup, 1) := by decide +kernel
theorem od_0_754 : decode code 754 = .ok (.bipush 44, 2) := by decide +kernel
theorem od_0_756 : decode code 756 = .ok (.iload 11, 2) := by decide +kernel
theorem od_0_758 : decode code 758 = .ok (.castore, 1) := by decide +kernel
theorem od_0_759 : decode code 759 = .ok (.dup, 1) := by decide +kernel
theorem od_0_760 : decode code 760 = .ok (.bipush 45, 2) := by decide +kernel
theorem od_0_762 : decode code 762 = .ok (.iload 11, 2) := by decide +kernel
theorem od_0_764 : decode code 764 = .ok (.castore, 1) := by decide +kernel
theorem od_0_765 : decode code 765 = .ok (.dup, 1) := by decide +kernel
theorem od_0_766 : decode code 766 = .ok (.bipush 46, 2) := by decide +kernel
theorem od_0_768 : decode code 768 = .ok (.iload 11, 2) := by decide +kernel
theorem od_0_770 : decode code 770 = .ok (.castore, 1) := by decide +kernel
theorem od_0_771 : decode code 771 = .ok (.dup, 1) := by decide +kernel
theorem od_0_772 : decode code 772 = .ok (.bipush 47, 2) := by decide +kernel
theorem od_0_774 : decode code 774 = .ok (.iload 11, 2) := by decide +kernel
theorem od_0_776 : decode code 776 = .ok (.castore, 1) := by decide +kernel
theorem od_0_777 : decode code 777 = .ok (.dup, 1) := by decide +kernel
theorem od_0_778 : decode code 778 = .ok (.bipush 48, 2) := by decide +kernel
theorem od_0_780 : decode code 780 = .ok (.iload 11, 2) := by decide +kernel
theorem od_0_782 : decode code 782 = .ok (.castore, 1) := by decide +kernel
theorem od_0_783 : decode code 783 = .ok (.dup, 1) := by decide +kernel
theorem od_0_784 : decode code 784 = .ok (.bipush 49, 2) := by decide +kernel
theorem od_0_786 : decode code 786 = .ok (.iload 11, 2) := by decide +kernel
theorem od_0_788 : decode code 788 = .ok (.castore, 1) := by decide +kernel
theorem od_0_789 : decode code 789 = .ok (.dup, 1) := by decide +kernel
theorem od_0_790 : decode code 790 = .ok (.bipush 50, 2) := by decide +kernel
theorem od_0_792 : decode code 792 = .ok (.iload 11, 2) := by decide +kernel
theorem od_0_794 : decode code 794 = .ok (.castore, 1) := by decide +kernel
theorem od_0_795 : decode code 795 = .ok (.dup, 1) := by decide +kernel
theorem od_0_796 : decode code 796 = .ok (.bipush 51, 2) := by decide +kernel
theorem od_0_798 : decode code 798 = .ok (.iload 11, 2) := by decide +kernel
theorem od_0_800 : decode code 800 = .ok (.castore, 1) := by decide +kernel
theorem od_0_801 : decode code 801 = .ok (.dup, 1) := by decide +kernel
theorem od_0_802 : decode code 802 = .ok (.bipush 52, 2) := by decide +kernel
theorem od_0_804 : decode code 804 = .ok (.iload 11, 2) := by decide +kernel
theorem od_0_806 : decode code 806 = .ok (.castore, 1) := by decide +kernel
theorem od_0_807 : decode code 807 = .ok (.dup, 1) := by decide +kernel
theorem od_0_808 : decode code 808 = .ok (.bipush 53, 2) := by decide +kernel
theorem od_0_810 : decode code 810 = .ok (.iload 11, 2) := by decide +kernel
theorem od_0_812 : decode code 812 = .ok (.castore, 1) := by decide +kernel
theorem od_0_813 : decode code 813 = .ok (.dup, 1) := by decide +kernel
theorem od_0_814 : decode code 814 = .ok (.bipush 54, 2) := by decide +kernel
theorem od_0_816 : decode code 816 = .ok (.iload 11, 2) := by decide +kernel
theorem od_0_818 : decode code 818 = .ok (.castore, 1) := by decide +kernel
theorem od_0_819 : decode code 819 = .ok (.dup, 1) := by decide +kernel
theorem od_0_820 : decode code 820 = .ok (.bipush 55, 2) := by decide +kernel
theorem od_0_822 : decode code 822 = .ok (.iload 11, 2) := by decide +kernel
theorem od_0_824 : decode code 824 = .ok (.castore, 1) := by decide +kernel
theorem od_0_825 : decode code 825 = .ok (.dup, 1) := by decide +kernel
theorem od_0_826 : decode code 826 = .ok (.bipush 56, 2) := by decide +kernel
theorem od_0_828 : decode code 828 = .ok (.iload 11, 2) := by decide +kernel
theorem od_0_830 : decode code 830 = .ok (.castore, 1) := by decide +kernel
theorem od_0_831 : decode code 831 = .ok (.dup, 1) := by decide +kernel
theorem od_0_832 : decode code 832 = .ok (.bipush 57, 2) := by decide +kernel
theorem od_0_834 : decode code 834 = .ok (.iload 11, 2) := by decide +kernel
theorem od_0_836 : decode code 836 = .ok (.castore, 1) := by decide +kernel
theorem od_0_837 : decode code 837 = .ok (.dup, 1) := by decide +kernel
theorem od_0_838 : decode code 838 = .ok (.bipush 58, 2) := by decide +kernel
theorem od_0_840 : decode code 840 = .ok (.iload 11, 2) := by decide +kernel
theorem od_0_842 : decode code 842 = .ok (.castore, 1) := by decide +kernel
theorem od_0_843 : decode code 843 = .ok (.dup, 1) := by decide +kernel
theorem od_0_844 : decode code 844 = .ok (.bipush 59, 2) := by decide +kernel
theorem od_0_846 : decode code 846 = .ok (.iload 11, 2) := by decide +kernel
theorem od_0_848 : decode code 848 = .ok (.castore, 1) := by decide +kernel
theorem od_0_849 : decode code 849 = .ok (.dup, 1) := by decide +kernel
theorem od_0_850 : decode code 850 = .ok (.bipush 60, 2) := by decide +kernel
theorem od_0_852 : decode code 852 = .ok (.iload 11, 2) := by decide +kernel
theorem od_0_854 : decode code 854 = .ok (.castore, 1) := by decide +kernel
theorem od_0_855 : decode code 855 = .ok (.dup, 1) := by decide +kernel
theorem od_0_856 : decode code 856 = .ok (.bipush 61, 2) := by decide +kernel
theorem od_0_858 : decode code 858 = .ok (.iload 11, 2) := by decide +kernel
theorem od_0_860 : decode code 860 = .ok (.castore, 1) := by decide +kernel
theorem od_0_861 : decode code 861 = .ok (.dup, 1) := by decide +kernel
theorem od_0_862 : decode code 862 = .ok (.bipush 62, 2) := by decide +kernel
theorem od_0_864 : decode code 864 = .ok (.iload 11, 2) := by decide +kernel
theorem od_0_866 : decode code 866 = .ok (.castore, 1) := by decide +kernel
theorem od_0_867 : decode code 867 = .ok (.astore 13, 2) := by decide +kernel
theorem od_0_869 : decode code 869 = .ok (.new 11, 3) := by decide +kernel
theorem od_0_872 : decode code 872 = .ok (.dup, 1) := by decide +kernel
theorem od_0_873 : decode code 873 = .ok (.aload 13, 2) := by decide +kernel
theorem od_0_875 : decode code 875 = .ok (.invokespecial 13, 3) := by decide +kernel
theorem od_0_878 : decode code 878 = .ok (.invokestatic 16, 3) := by decide +kernel
theorem od_0_881 : decode code 881 = .ok (.ifCond .ne 7, 3) := by decide +kernel
theorem od_0_884 : decode code 884 = .ok (.iconst 1, 1) := by decide +kernel
theorem od_0_885 : decode code 885 = .ok (.goto 4, 3) := by decide +kernel
theorem od_0_889 : decode code 889 = .ok (.ireturn, 1) := by decide +kernel
theorem od_0_1340 : decode code 1340 = .ok (.istore 14, 2) := by decide +kernel
theorem od_0_1342 : decode code 1342 = .ok (.new 11, 3) := by decide +kernel
theorem od_0_1345 : decode code 1345 = .ok (.dup, 1) := by decide +kernel
theorem od_0_1346 : decode code 1346 = .ok (.aload 13, 2) := by decide +kernel
theorem od_0_1348 : decode code 1348 = .ok (.invokespecial 13, 3) := by decide +kernel
theorem od_0_1351 : decode code 1351 = .ok (.invokestatic 16, 3) := by decide +kernel
theorem od_0_1354 : decode code 1354 = .ok (.iload 14, 2) := by decide +kernel
theorem od_0_1356 : decode code 1356 = .ok (.if_icmp .ne 7, 3) := by decide +kernel
theorem od_0_1359 : decode code 1359 = .ok (.iconst 1, 1) := by decide +kernel
theorem od_0_1360 : decode code 1360 = .ok (.goto 4, 3) := by decide +kernel
theorem od_0_1364 : decode code 1364 = .ok (.ireturn, 1) := by decide +kernel
theorem od_0_914 : decode code 914 = .ok (.bipush 64, 2) := by decide +kernel
theorem od_0_916 : decode code 916 = .ok (.newarray .char, 2) := by decide +kernel
theorem od_0_918 : decode code 918 = .ok (.dup, 1) := by decide +kernel
theorem od_0_919 : decode code 919 = .ok (.iconst 0, 1) := by decide +kernel
theorem od_0_920 : decode code 920 = .ok (.iload 11, 2) := by decide +kernel
theorem od_0_922 : decode code 922 = .ok (.castore, 1) := by decide +kernel
theorem od_0_923 : decode code 923 = .ok (.dup, 1) := by decide +kernel
theorem od_0_924 : decode code 924 = .ok (.iconst 1, 1) := by decide +kernel
theorem od_0_925 : decode code 925 = .ok (.iload 11, 2) := by decide +kernel
theorem od_0_927 : decode code 927 = .ok (.castore, 1) := by decide +kernel
theorem od_0_928 : decode code 928 = .ok (.dup, 1) := by decide +kernel
theorem od_0_929 : decode code 929 = .ok (.iconst 2, 1) := by decide +kernel
theorem od_0_930 : decode code 930 = .ok (.iload 11, 2) := by decide +kernel
theorem od_0_932 : decode code 932 = .ok (.castore, 1) := by decide +kernel
theorem od_0_933 : decode code 933 = .ok (.dup, 1) := by decide +kernel
theorem od_0_934 : decode code 934 = .ok (.iconst 3, 1) := by decide +kernel
theorem od_0_935 : decode code 935 = .ok (.iload 11, 2) := by decide +kernel
theorem od_0_937 : decode code 937 = .ok (.castore, 1) := by decide +kernel
theorem od_0_938 : decode code 938 = .ok (.dup, 1) := by decide +kernel
theorem od_0_939 : decode code 939 = .ok (.iconst 4, 1) := by decide +kernel
theorem od_0_940 : decode code 940 = .ok (.iload 11, 2) := by decide +kernel
theorem od_0_942 : decode code 942 = .ok (.castore, 1) := by decide +kernel
theorem od_0_943 : decode code 943 = .ok (.dup, 1) := by decide +kernel
theorem od_0_944 : decode code 944 = .ok (.iconst 5, 1) := by decide +kernel
theorem od_0_945 : decode code 945 = .ok (.iload 11, 2) := by decide +kernel
theorem od_0_947 : decode code 947 = .ok (.castore, 1) := by decide +kernel
theorem od_0_948 : decode code 948 = .ok (.dup, 1) := by decide +kernel
theorem od_0_949 : decode code 949 = .ok (.bipush 6, 2) := by decide +kernel
theorem od_0_951 : decode code 951 = .ok (.iload 11, 2) := by decide +kernel
theorem od_0_953 : decode code 953 = .ok (.castore, 1) := by decide +kernel
theorem od_0_954 : decode code 954 = .ok (.dup, 1) := by decide +kernel
theorem od_0_955 : decode code 955 = .ok (.bipush 7, 2) := by decide +kernel
theorem od_0_957 : decode code 957 = .ok (.iload 11, 2) := by decide +kernel
theorem od_0_959 : decode code 959 = .ok (.castore, 1) := by decide +kernel
theorem od_0_960 : decode code 960 = .ok (.dup, 1) := by decide +kernel
theorem od_0_961 : decode code 961 = .ok (.bipush 8, 2) := by decide +kernel
theorem od_0_963 : decode code 963 = .ok (.iload 11, 2) := by decide +kernel
theorem od_0_965 : decode code 965 = .ok (.castore, 1) := by decide +kernel
theorem od_0_966 : decode code 966 = .ok (.dup, 1) := by decide +kernel
theorem od_0_967 : decode code 967 = .ok (.bipush 9, 2) := by decide +kernel
theorem od_0_969 : decode code 969 = .ok (.iload 11, 2) := by decide +kernel
theorem od_0_971 : decode code 971 = .ok (.castore, 1) := by decide +kernel
theorem od_0_972 : decode code 972 = .ok (.dup, 1) := by decide +kernel
theorem od_0_973 : decode code 973 = .ok (.bipush 10, 2) := by decide +kernel
theorem od_0_975 : decode code 975 = .ok (.iload 11, 2) := by decide +kernel
theorem od_0_977 : decode code 977 = .ok (.castore, 1) := by decide +kernel
theorem od_0_978 : decode code 978 = .ok (.dup, 1) := by decide +kernel
theorem od_0_979 : decode code 979 = .ok (.bipush 11, 2) := by decide +kernel
theorem od_0_981 : decode code 981 = .ok (.iload 11, 2) := by decide +kernel
theorem od_0_983 : decode code 983 = .ok (.castore, 1) := by decide +kernel
theorem od_0_984 : decode code 984 = .ok (.dup, 1) := by decide +kernel
theorem od_0_985 : decode code 985 = .ok (.bipush 12, 2) := by decide +kernel
theorem od_0_987 : decode code 987 = .ok (.iload 11, 2) := by decide +kernel
theorem od_0_989 : decode code 989 = .ok (.castore, 1) := by decide +kernel
theorem od_0_990 : decode code 990 = .ok (.dup, 1) := by decide +kernel
theorem od_0_991 : decode code 991 = .ok (.bipush 13, 2) := by decide +kernel
theorem od_0_993 : decode code 993 = .ok (.iload 11, 2) := by decide +kernel
theorem od_0_995 : decode code 995 = .ok (.castore, 1) := by decide +kernel
theorem od_0_996 : decode code 996 = .ok (.dup, 1) := by decide +kernel
theorem od_0_997 : decode code 997 = .ok (.bipush 14, 2) := by decide +kernel
theorem od_0_999 : decode code 999 = .ok (.iload 11, 2) := by decide +kernel
theorem od_0_1001 : decode code 1001 = .ok (.castore, 1) := by decide +kernel
theorem od_0_1002 : decode code 1002 = .ok (.dup, 1) := by decide +kernel
theorem od_0_1003 : decode code 1003 = .ok (.bipush 15, 2) := by decide +kernel
theorem od_0_1005 : decode code 1005 = .ok (.iload 11, 2) := by decide +kernel
theorem od_0_1007 : decode code 1007 = .ok (.castore, 1) := by decide +kernel
theorem od_0_1008 : decode code 1008 = .ok (.dup, 1) := by decide +kernel
theorem od_0_1009 : decode code 1009 = .ok (.bipush 16, 2) := by decide +kernel
theorem od_0_1011 : decode code 1011 = .ok (.iload 11, 2) := by decide +kernel
theorem od_0_1013 : decode code 1013 = .ok (.castore, 1) := by decide +kernel
theorem od_0_1014 : decode code 1014 = .ok (.dup, 1) := by decide +kernel
theorem od_0_1015 : decode code 1015 = .ok (.bipush 17, 2) := by decide +kernel
theorem od_0_1017 : decode code 1017 = .ok (.iload 11, 2) := by decide +kernel
theorem od_0_1019 : decode code 1019 = .ok (.castore, 1) := by decide +kernel
theorem od_0_1020 : decode code 1020 = .ok (.dup, 1) := by decide +kernel
theorem od_0_1021 : decode code 1021 = .ok (.bipush 18, 2) := by decide +kernel
theorem od_0_1023 : decode code 1023 = .ok (.iload 11, 2) := by decide +kernel
theorem od_0_1025 : decode code 1025 = .ok (.castore, 1) := by decide +kernel
theorem od_0_1026 : decode code 1026 = .ok (.dup, 1) := by decide +kernel
theorem od_0_1027 : decode code 1027 = .ok (.bipush 19, 2) := by decide +kernel
theorem od_0_1029 : decode code 1029 = .ok (.iload 11, 2) := by decide +kernel
theorem od_0_1031 : decode code 1031 = .ok (.castore, 1) := by decide +kernel
theorem od_0_1032 : decode code 1032 = .ok (.dup, 1) := by decide +kernel
theorem od_0_1033 : decode code 1033 = .ok (.bipush 20, 2) := by decide +kernel
theorem od_0_1035 : decode code 1035 = .ok (.iload 11, 2) := by decide +kernel
theorem od_0_1037 : decode code 1037 = .ok (.castore, 1) := by decide +kernel
theorem od_0_1038 : decode code 1038 = .ok (.dup, 1) := by decide +kernel
theorem od_0_1039 : decode code 1039 = .ok (.bipush 21, 2) := by decide +kernel
theorem od_0_1041 : decode code 1041 = .ok (.iload 11, 2) := by decide +kernel
theorem od_0_1043 : decode code 1043 = .ok (.castore, 1) := by decide +kernel
theorem od_0_1044 : decode code 1044 = .ok (.dup, 1) := by decide +kernel
theorem od_0_1045 : decode code 1045 = .ok (.bipush 22, 2) := by decide +kernel
theorem od_0_1047 : decode code 1047 = .ok (.iload 11, 2) := by decide +kernel
theorem od_0_1049 : decode code 1049 = .ok (.castore, 1) := by decide +kernel
theorem od_0_1050 : decode code 1050 = .ok (.dup, 1) := by decide +kernel
theorem od_0_1051 : decode code 1051 = .ok (.bipush 23, 2) := by decide +kernel
theorem od_0_1053 : decode code 1053 = .ok (.iload 11, 2) := by decide +kernel
theorem od_0_1055 : decode code 1055 = .ok (.castore, 1) := by decide +kernel
theorem od_0_1056 : decode code 1056 = .ok (.dup, 1) := by decide +kernel
theorem od_0_1057 : decode code 1057 = .ok (.bipush 24, 2) := by decide +kernel
theorem od_0_1059 : decode code 1059 = .ok (.iload 11, 2) := by decide +kernel
theorem od_0_1061 : decode code 1061 = .ok (.castore, 1) := by decide +kernel
theorem od_0_1062 : decode code 1062 = .ok (.dup, 1) := by decide +kernel
theorem od_0_1063 : decode code 1063 = .ok (.bipush 25, 2) := by decide +kernel
theorem od_0_1065 : decode code 1065 = .ok (.iload 11, 2) := by decide +kernel
theorem od_0_1067 : decode code 1067 = .ok (.castore, 1) := by decide +kernel
theorem od_0_1068 : decode code 1068 = .ok (.dup, 1) := by decide +kernel
theorem od_0_1069 : decode code 1069 = .ok (.bipush 26, 2) := by decide +kernel
theorem od_0_1071 : decode code 1071 = .ok (.iload 11, 2) := by decide +kernel
theorem od_0_1073 : decode code 1073 = .ok (.castore, 1) := by decide +kernel
theorem od_0_1074 : decode code 1074 = .ok (.dup, 1) := by decide +kernel
theorem od_0_1075 : decode code 1075 = .ok (.bipush 27, 2) := by decide +kernel
theorem od_0_1077 : decode code 1077 = .ok (.iload 11, 2) := by decide +kernel
theorem od_0_1079 : decode code 1079 = .ok (.castore, 1) := by decide +kernel
theorem od_0_1080 : decode code 1080 = .ok (.dup, 1) := by decide +kernel
theorem od_0_1081 : decode code 1081 = .ok (.bipush 28, 2) := by decide +kernel
theorem od_0_1083 : decode code 1083 = .ok (.iload 11, 2) := by decide +kernel
theorem od_0_1085 : decode code 1085 = .ok (.castore, 1) := by decide +kernel
theorem od_0_1086 : decode code 1086 = .ok (.dup, 1) := by decide +kernel
theorem od_0_1087 : decode code 1087 = .ok (.bipush 29, 2) := by decide +kernel
theorem od_0_1089 : decode code 1089 = .ok (.iload 11, 2) := by decide +kernel
theorem od_0_1091 : decode code 1091 = .ok (.castore, 1) := by decide +kernel
theorem od_0_1092 : decode code 1092 = .ok (.dup, 1) := by decide +kernel
theorem od_0_1093 : decode code 1093 = .ok (.bipush 30, 2) := by decide +kernel
theorem od_0_1095 : decode code 1095 = .ok (.iload 11, 2) := by decide +kernel
theorem od_0_1097 : decode code 1097 = .ok (.castore, 1) := by decide +kernel
theorem od_0_1098 : decode code 1098 = .ok (.dup, 1) := by decide +kernel
theorem od_0_1099 : decode code 1099 = .ok (.bipush 31, 2) := by decide +kernel
theorem od_0_1101 : decode code 1101 = .ok (.iload 11, 2) := by decide +kernel
theorem od_0_1103 : decode code 1103 = .ok (.castore, 1) := by decide +kernel
theorem od_0_1104 : decode code 1104 = .ok (.dup, 1) := by decide +kernel
theorem od_0_1105 : decode code 1105 = .ok (.bipush 32, 2) := by decide +kernel
theorem od_0_1107 : decode code 1107 = .ok (.iload 11, 2) := by decide +kernel
theorem od_0_1109 : decode code 1109 = .ok (.castore, 1) := by decide +kernel
theorem od_0_1110 : decode code 1110 = .ok (.dup, 1) := by decide +kernel
theorem od_0_1111 : decode code 1111 = .ok (.bipush 33, 2) := by decide +kernel
theorem od_0_1113 : decode code 1113 = .ok (.iload 11, 2) := by decide +kernel
theorem od_0_1115 : decode code 1115 = .ok (.castore, 1) := by decide +kernel
theorem od_0_1116 : decode code 1116 = .ok (.dup, 1) := by decide +kernel
theorem od_0_1117 : decode code 1117 = .ok (.bipush 34, 2) := by decide +kernel
theorem od_0_1119 : decode code 1119 = .ok (.iload 11, 2) := by decide +kernel
theorem od_0_1121 : decode code 1121 = .ok (.castore, 1) := by decide +kernel
theorem od_0_1122 : decode code 1122 = .ok (.dup, 1) := by decide +kernel
theorem od_0_1123 : decode code 1123 = .ok (.bipush 35, 2) := by decide +kernel
theorem od_0_1125 : decode code 1125 = .ok (.iload 11, 2) := by decide +kernel
theorem od_0_1127 : decode code 1127 = .ok (.castore, 1) := by decide +kernel
theorem od_0_1128 : decode code 1128 = .ok (.dup, 1) := by decide +kernel
theorem od_0_1129 : decode code 1129 = .ok (.bipush 36, 2) := by decide +kernel
theorem od_0_1131 : decode code 1131 = .ok (.iload 11, 2) := by decide +kernel
theorem od_0_1133 : decode code 1133 = .ok (.castore, 1) := by decide +kernel
theorem od_0_1134 : decode code 1134 = .ok (.dup, 1) := by decide +kernel
theorem od_0_1135 : decode code 1135 = .ok (.bipush 37, 2) := by decide +kernel
theorem od_0_1137 : decode code 1137 = .ok (.iload 11, 2) := by decide +kernel
theorem od_0_1139 : decode code 1139 = .ok (.castore, 1) := by decide +kernel
theorem od_0_1140 : decode code 1140 = .ok (.dup, 1) := by decide +kernel
theorem od_0_1141 : decode code 1141 = .ok (.bipush 38, 2) := by decide +kernel
theorem od_0_1143 : decode code 1143 = .ok (.iload 11, 2) := by decide +kernel
theorem od_0_1145 : decode code 1145 = .ok (.castore, 1) := by decide +kernel
theorem od_0_1146 : decode code 1146 = .ok (.dup, 1) := by decide +kernel
theorem od_0_1147 : decode code 1147 = .ok (.bipush 39, 2) := by decide +kernel
theorem od_0_1149 : decode code 1149 = .ok (.iload 11, 2) := by decide +kernel
theorem od_0_1151 : decode code 1151 = .ok (.castore, 1) := by decide +kernel
theorem od_0_1152 : decode code 1152 = .ok (.dup, 1) := by decide +kernel
theorem od_0_1153 : decode code 1153 = .ok (.bipush 40, 2) := by decide +kernel
theorem od_0_1155 : decode code 1155 = .ok (.iload 11, 2) := by decide +kernel
theorem od_0_1157 : decode code 1157 = .ok (.castore, 1) := by decide +kernel
theorem od_0_1158 : decode code 1158 = .ok (.dup, 1) := by decide +kernel
theorem od_0_1159 : decode code 1159 = .ok (.bipush 41, 2) := by decide +kernel
theorem od_0_1161 : decode code 1161 = .ok (.iload 11, 2) := by decide +kernel
theorem od_0_1163 : decode code 1163 = .ok (.castore, 1) := by decide +kernel
theorem od_0_1164 : decode code 1164 = .ok (.dup, 1) := by decide +kernel
theorem od_0_1165 : decode code 1165 = .ok (.bipush 42, 2) := by decide +kernel
theorem od_0_1167 : decode code 1167 = .ok (.iload 11, 2) := by decide +kernel
theorem od_0_1169 : decode code 1169 = .ok (.castore, 1) := by decide +kernel
theorem od_0_1170 : decode code 1170 = .ok (.dup, 1) := by decide +kernel
theorem od_0_1171 : decode code 1171 = .ok (.bipush 43, 2) := by decide +kernel
theorem od_0_1173 : decode code 1173 = .ok (.iload 11, 2) := by decide +kernel
theorem od_0_1175 : decode code 1175 = .ok (.castore, 1) := by decide +kernel
theorem od_0_1176 : decode code 1176 = .ok (.dup, 1) := by decide +kernel
theorem od_0_1177 : decode code 1177 = .ok (.bipush 44, 2) := by decide +kernel
theorem od_0_1179 : decode code 1179 = .ok (.iload 11, 2) := by decide +kernel
theorem od_0_1181 : decode code 1181 = .ok (.castore, 1) := by decide +kernel
theorem od_0_1182 : decode code 1182 = .ok (.dup, 1) := by decide +kernel
theorem od_0_1183 : decode code 1183 = .ok (.bipush 45, 2) := by decide +kernel
theorem od_0_1185 : decode code 1185 = .ok (.iload 11, 2) := by decide +kernel
theorem od_0_1187 : decode code 1187 = .ok (.castore, 1) := by decide +kernel
theorem od_0_1188 : decode code 1188 = .ok (.dup, 1) := by decide +kernel
theorem od_0_1189 : decode code 1189 = .ok (.bipush 46, 2) := by decide +kernel
theorem od_0_1191 : decode code 1191 = .ok (.iload 11, 2) := by decide +kernel
theorem od_0_1193 : decode code 1193 = .ok (.castore, 1) := by decide +kernel
theorem od_0_1194 : decode code 1194 = .ok (.dup, 1) := by decide +kernel
theorem od_0_1195 : decode code 1195 = .ok (.bipush 47, 2) := by decide +kernel
theorem od_0_1197 : decode code 1197 = .ok (.iload 11, 2) := by decide +kernel
theorem od_0_1199 : decode code 1199 = .ok (.castore, 1) := by decide +kernel
theorem od_0_1200 : decode code 1200 = .ok (.dup, 1) := by decide +kernel
theorem od_0_1201 : decode code 1201 = .ok (.bipush 48, 2) := by decide +kernel
theorem od_0_1203 : decode code 1203 = .ok (.iload 11, 2) := by decide +kernel
theorem od_0_1205 : decode code 1205 = .ok (.castore, 1) := by decide +kernel
theorem od_0_1206 : decode code 1206 = .ok (.dup, 1) := by decide +kernel
theorem od_0_1207 : decode code 1207 = .ok (.bipush 49, 2) := by decide +kernel
theorem od_0_1209 : decode code 1209 = .ok (.iload 11, 2) := by decide +kernel
theorem od_0_1211 : decode code 1211 = .ok (.castore, 1) := by decide +kernel
theorem od_0_1212 : decode code 1212 = .ok (.dup, 1) := by decide +kernel
theorem od_0_1213 : decode code 1213 = .ok (.bipush 50, 2) := by decide +kernel
theorem od_0_1215 : decode code 1215 = .ok (.iload 11, 2) := by decide +kernel
theorem od_0_1217 : decode code 1217 = .ok (.castore, 1) := by decide +kernel
theorem od_0_1218 : decode code 1218 = .ok (.dup, 1) := by decide +kernel
theorem od_0_1219 : decode code 1219 = .ok (.bipush 51, 2) := by decide +kernel
theorem od_0_1221 : decode code 1221 = .ok (.iload 11, 2) := by decide +kernel
theorem od_0_1223 : decode code 1223 = .ok (.castore, 1) := by decide +kernel
theorem od_0_1224 : decode code 1224 = .ok (.dup, 1) := by decide +kernel
theorem od_0_1225 : decode code 1225 = .ok (.bipush 52, 2) := by decide +kernel
theorem od_0_1227 : decode code 1227 = .ok (.iload 11, 2) := by decide +kernel
theorem od_0_1229 : decode code 1229 = .ok (.castore, 1) := by decide +kernel
theorem od_0_1230 : decode code 1230 = .ok (.dup, 1) := by decide +kernel
theorem od_0_1231 : decode code 1231 = .ok (.bipush 53, 2) := by decide +kernel
theorem od_0_1233 : decode code 1233 = .ok (.iload 11, 2) := by decide +kernel
theorem od_0_1235 : decode code 1235 = .ok (.castore, 1) := by decide +kernel
theorem od_0_1236 : decode code 1236 = .ok (.dup, 1) := by decide +kernel
theorem od_0_1237 : decode code 1237 = .ok (.bipush 54, 2) := by decide +kernel
theorem od_0_1239 : decode code 1239 = .ok (.iload 11, 2) := by decide +kernel
theorem od_0_1241 : decode code 1241 = .ok (.castore, 1) := by decide +kernel
theorem od_0_1242 : decode code 1242 = .ok (.dup, 1) := by decide +kernel
theorem od_0_1243 : decode code 1243 = .ok (.bipush 55, 2) := by decide +kernel
theorem od_0_1245 : decode code 1245 = .ok (.iload 11, 2) := by decide +kernel
theorem od_0_1247 : decode code 1247 = .ok (.castore, 1) := by decide +kernel
theorem od_0_1248 : decode code 1248 = .ok (.dup, 1) := by decide +kernel
theorem od_0_1249 : decode code 1249 = .ok (.bipush 56, 2) := by decide +kernel
theorem od_0_1251 : decode code 1251 = .ok (.iload 11, 2) := by decide +kernel
theorem od_0_1253 : decode code 1253 = .ok (.castore, 1) := by decide +kernel
theorem od_0_1254 : decode code 1254 = .ok (.dup, 1) := by decide +kernel
theorem od_0_1255 : decode code 1255 = .ok (.bipush 57, 2) := by decide +kernel
theorem od_0_1257 : decode code 1257 = .ok (.iload 11, 2) := by decide +kernel
theorem od_0_1259 : decode code 1259 = .ok (.castore, 1) := by decide +kernel
theorem od_0_1260 : decode code 1260 = .ok (.dup, 1) := by decide +kernel
theorem od_0_1261 : decode code 1261 = .ok (.bipush 58, 2) := by decide +kernel
theorem od_0_1263 : decode code 1263 = .ok (.iload 11, 2) := by decide +kernel
theorem od_0_1265 : decode code 1265 = .ok (.castore, 1) := by decide +kernel
theorem od_0_1266 : decode code 1266 = .ok (.dup, 1) := by decide +kernel
theorem od_0_1267 : decode code 1267 = .ok (.bipush 59, 2) := by decide +kernel
theorem od_0_1269 : decode code 1269 = .ok (.iload 11, 2) := by decide +kernel
theorem od_0_1271 : decode code 1271 = .ok (.castore, 1) := by decide +kernel
theorem od_0_1272 : decode code 1272 = .ok (.dup, 1) := by decide +kernel
theorem od_0_1273 : decode code 1273 = .ok (.bipush 60, 2) := by decide +kernel
theorem od_0_1275 : decode code 1275 = .ok (.iload 11, 2) := by decide +kernel
theorem od_0_1277 : decode code 1277 = .ok (.castore, 1) := by decide +kernel
theorem od_0_1278 : decode code 1278 = .ok (.dup, 1) := by decide +kernel
theorem od_0_1279 : decode code 1279 = .ok (.bipush 61, 2) := by decide +kernel
theorem od_0_1281 : decode code 1281 = .ok (.iload 11, 2) := by decide +kernel
theorem od_0_1283 : decode code 1283 = .ok (.castore, 1) := by decide +kernel
theorem od_0_1284 : decode code 1284 = .ok (.dup, 1) := by decide +kernel
theorem od_0_1285 : decode code 1285 = .ok (.bipush 62, 2) := by decide +kernel
theorem od_0_1287 : decode code 1287 = .ok (.iload 11, 2) := by decide +kernel
theorem od_0_1289 : decode code 1289 = .ok (.castore, 1) := by decide +kernel
theorem od_0_1290 : decode code 1290 = .ok (.dup, 1) := by decide +kernel
theorem od_0_1291 : decode code 1291 = .ok (.bipush 63, 2) := by decide +kernel
theorem od_0_1293 : decode code 1293 = .ok (.iload 11, 2) := by decide +kernel
theorem od_0_1295 : decode code 1295 = .ok (.castore, 1) := by decide +kernel
theorem od_0_1296 : decode code 1296 = .ok (.astore 13, 2) := by decide +kernel
theorem od_0_1298 : decode code 1298 = .ok (.aload 13, 2) := by decide +kernel
theorem od_0_1300 : decode code 1300 = .ok (.iload 6, 2) := by decide +kernel
theorem od_0_1302 : decode code 1302 = .ok (.iload 8, 2) := by decide +kernel
theorem od_0_1304 : decode code 1304 = .ok (.castore, 1) := by decide +kernel
theorem od_0_1305 : decode code 1305 = .ok (.aload 13, 2) := by decide +kernel
theorem od_0_1307 : decode code 1307 = .ok (.iload 7, 2) := by decide +kernel
theorem od_0_1309 : decode code 1309 = .ok (.iload 9, 2) := by decide +kernel
theorem od_0_1311 : decode code 1311 = .ok (.castore, 1) := by decide +kernel
theorem od_0_1312 : decode code 1312 = .ok (.iload 9, 2) := by decide +kernel
theorem od_0_1314 : decode code 1314 = .ok (.invokestatic 26, 3) := by decide +kernel
theorem od_0_1317 : decode code 1317 = .ok (.ifCond .eq 22, 3) := by decide +kernel
theorem od_0_1339 : decode code 1339 = .ok (.iconst 0, 1) := by decide +kernel
theorem od_0_1320 : decode code 1320 = .ok (.iload 6, 2) := by decide +kernel
theorem od_0_1322 : decode code 1322 = .ok (.iload 7, 2) := by decide +kernel
theorem od_0_1324 : decode code 1324 = .ok (.if_icmp .eq 11, 3) := by decide +kernel
theorem od_0_1335 : decode code 1335 = .ok (.iconst 1, 1) := by decide +kernel
theorem od_0_1336 : decode code 1336 = .ok (.goto 4, 3) := by decide +kernel
theorem od_0_1327 : decode code 1327 = .ok (.iload 8, 2) := by decide +kernel
theorem od_0_1329 : decode code 1329 = .ok (.invokestatic 26, 3) := by decide +kernel
theorem od_0_1332 : decode code 1332 = .ok (.ifCond .eq 7, 3) := by decide +kernel
theorem od_0_54 : decode code 54 = .ok (.istore 11, 2) := by decide +kernel
theorem od_0_56 : decode code 56 = .ok (.lload 4, 2) := by decide +kernel
theorem od_0_58 : decode code 58 = .ok (.iconst 4, 1) := by decide +kernel
theorem od_0_59 : decode code 59 = .ok (.lushr, 1) := by decide +kernel
theorem od_0_60 : decode code 60 = .ok (.ldc2_w 9, 3) := by decide +kernel
theorem od_0_63 : decode code 63 = .ok (.land, 1) := by decide +kernel
theorem od_0_64 : decode code 64 = .ok (.l2i, 1) := by decide +kernel
theorem od_0_65 : decode code 65 = .ok (.istore 12, 2) := by decide +kernel
theorem od_0_67 : decode code 67 = .ok (.iload 12, 2) := by decide +kernel
theorem od_0_69 : decode code 69 = .ok (.iconst 5, 1) := by decide +kernel
theorem od_0_70 : decode code 70 = .ok (.if_icmp .ne 414, 3) := by decide +kernel
theorem od_0_484 : decode code 484 = .ok (.iload 12, 2) := by decide +kernel
theorem od_0_486 : decode code 486 = .ok (.bipush 6, 2) := by decide +kernel
theorem od_0_488 : decode code 488 = .ok (.if_icmp .ne 402, 3) := by decide +kernel
theorem od_0_890 : decode code 890 = .ok (.iload 12, 2) := by decide +kernel
theorem od_0_892 : decode code 892 = .ok (.bipush 7, 2) := by decide +kernel
theorem od_0_894 : decode code 894 = .ok (.if_icmp .ne 20, 3) := by decide +kernel
theorem od_0_897 : decode code 897 = .ok (.iload 8, 2) := by decide +kernel
theorem od_0_899 : decode code 899 = .ok (.invokestatic 22, 3) := by decide +kernel
theorem od_0_902 : decode code 902 = .ok (.invokestatic 16, 3) := by decide +kernel
theorem od_0_905 : decode code 905 = .ok (.ifCond .ne 7, 3) := by decide +kernel
theorem od_0_908 : decode code 908 = .ok (.iconst 1, 1) := by decide +kernel
theorem od_0_909 : decode code 909 = .ok (.goto 4, 3) := by decide +kernel
theorem od_0_913 : decode code 913 = .ok (.ireturn, 1) := by decide +kernel
theorem od_0_0 : decode code 0 = .ok (.iload_n 0, 1) := by decide +kernel
theorem od_0_1 : decode code 1 = .ok (.bipush 63, 2) := by decide +kernel
theorem od_0_3 : decode code 3 = .ok (.iand, 1) := by decide +kernel
theorem od_0_4 : decode code 4 = .ok (.istore 6, 2) := by decide +kernel
theorem od_0_6 : decode code 6 = .ok (.iload_n 1, 1) := by decide +kernel
theorem od_0_7 : decode code 7 = .ok (.bipush 63, 2) := by decide +kernel
theorem od_0_9 : decode code 9 = .ok (.iand, 1) := by decide +kernel
theorem od_0_10 : decode code 10 = .ok (.istore 7, 2) := by decide +kernel
theorem od_0_12 : decode code 12 = .ok (.iload_n 2, 1) := by decide +kernel
theorem od_0_13 : decode code 13 = .ok (.i2c, 1) := by decide +kernel
theorem od_0_14 : decode code 14 = .ok (.istore 8, 2) := by decide +kernel
theorem od_0_16 : decode code 16 = .ok (.iload_n 3, 1) := by decide +kernel
theorem od_0_17 : decode code 17 = .ok (.i2c, 1) := by decide +kernel
theorem od_0_18 : decode code 18 = .ok (.istore 9, 2) := by decide +kernel
theorem od_0_20 : decode code 20 = .ok (.lload 4, 2) := by decide +kernel
theorem od_0_22 : decode code 22 = .ok (.ldc2_w 7, 3) := by decide +kernel
theorem od_0_25 : decode code 25 = .ok (.land, 1) := by decide +kernel
theorem od_0_26 : decode code 26 = .ok (.l2i, 1) := by decide +kernel
theorem od_0_27 : decode code 27 = .ok (.istore 10, 2) := by decide +kernel
theorem od_0_29 : decode code 29 = .ok (.iload 10, 2) := by decide +kernel
theorem od_0_31 : decode code 31 = .ok (.bipush 10, 2) := by decide +kernel
theorem od_0_33 : decode code 33 = .ok (.if_icmp .ge 12, 3) := by decide +kernel
theorem od_0_36 : decode code 36 = .ok (.bipush 48, 2) := by decide +kernel
theorem od_0_38 : decode code 38 = .ok (.iload 10, 2) := by decide +kernel
theorem od_0_40 : decode code 40 = .ok (.iadd, 1) := by decide +kernel
theorem od_0_41 : decode code 41 = .ok (.i2c, 1) := by decide +kernel
theorem od_0_42 : decode code 42 = .ok (.goto 12, 3) := by decide +kernel
theorem od_0_45 : decode code 45 = .ok (.bipush 97, 2) := by decide +kernel
theorem od_0_47 : decode code 47 = .ok (.iload 10, 2) := by decide +kernel
theorem od_0_49 : decode code 49 = .ok (.iadd, 1) := by decide +kernel
theorem od_0_50 : decode code 50 = .ok (.bipush 10, 2) := by decide +kernel
theorem od_0_52 : decode code 52 = .ok (.isub, 1) := by decide +kernel
theorem od_0_53 : decode code 53 = .ok (.i2c, 1) := by decide +kernel
theorem opd_0 : parseMethodDescriptor "(IILjava/util/function/BiFunction;)I" = some ⟨[.int, .int, (.object "java/util/function/BiFunction")], some .int⟩ := by decide +kernel
theorem opd_1 : parseMethodDescriptor "([B)I" = some ⟨[(.array .byte)], some .int⟩ := by decide +kernel
theorem opd_2 : parseMethodDescriptor "(II)V" = some ⟨[.int, .int], none⟩ := by decide +kernel
theorem opd_3 : parseMethodDescriptor "(I[B)V" = some ⟨[.int, (.array .byte)], none⟩ := by decide +kernel
theorem opd_4 : parseMethodDescriptor "([BI)C" = some ⟨[(.array .byte), .int], some .char⟩ := by decide +kernel
theorem opd_5 : parseMethodDescriptor "()B" = some ⟨[], some .byte⟩ := by decide +kernel
theorem opd_6 : parseMethodDescriptor "()Z" = some ⟨[], some .boolean⟩ := by decide +kernel
theorem opd_7 : parseMethodDescriptor "(I)C" = some ⟨[.int], some .char⟩ := by decide +kernel
theorem opd_8 : parseMethodDescriptor "()I" = some ⟨[], some .int⟩ := by decide +kernel
theorem opd_9 : parseMethodDescriptor "(Ljava/lang/String;I)Z" = some ⟨[(.object "java/lang/String"), .int], some .boolean⟩ := by decide +kernel
theorem opd_10 : parseMethodDescriptor "(I)I" = some ⟨[.int], some .int⟩ := by decide +kernel
theorem opd_11 : parseMethodDescriptor "(I)[B" = some ⟨[.int], some (.array .byte)⟩ := by decide +kernel
theorem opd_12 : parseMethodDescriptor "([BII)V" = some ⟨[(.array .byte), .int, .int], none⟩ := by decide +kernel
theorem opd_13 : parseMethodDescriptor "([CI[BII)I" = some ⟨[(.array .char), .int, (.array .byte), .int, .int], some .int⟩ := by decide +kernel
theorem opd_14 : parseMethodDescriptor "([CII)[B" = some ⟨[(.array .char), .int, .int], some (.array .byte)⟩ := by decide +kernel
theorem opd_15 : parseMethodDescriptor "([BI)B" = some ⟨[(.array .byte), .int], some .byte⟩ := by decide +kernel
theorem opd_16 : parseMethodDescriptor "([CIILjava/lang/Void;)V" = some ⟨[(.array .char), .int, .int, (.object "java/lang/Void")], none⟩ := by decide +kernel
theorem opd_17 : parseMethodDescriptor "(C)Z" = some ⟨[.char], some .boolean⟩ := by decide +kernel
theorem opd_18 : parseMethodDescriptor "(C)[B" = some ⟨[.char], some (.array .byte)⟩ := by decide +kernel
theorem opd_19 : parseMethodDescriptor "([BB)V" = some ⟨[(.array .byte), .byte], none⟩ := by decide +kernel
theorem opd_20 : parseMethodDescriptor "([C)V" = some ⟨[(.array .char)], none⟩ := by decide +kernel
theorem opd_21 : parseMethodDescriptor "(Ljava/lang/String;)Z" = some ⟨[(.object "java/lang/String")], some .boolean⟩ := by decide +kernel
theorem opd_22 : parseMethodDescriptor "(C)Ljava/lang/String;" = some ⟨[.char], some (.object "java/lang/String")⟩ := by decide +kernel
theorem opn_0 : plainFor ({ cls := "jdk/internal/util/Preconditions", name := "checkIndex", desc := "(IILjava/util/function/BiFunction;)I" } : Jvm.MethodName) = true := by decide +kernel
theorem opn_1 : plainFor ({ cls := "java/lang/String", name := "checkIndex", desc := "(II)V" } : Jvm.MethodName) = true := by decide +kernel
theorem opn_2 : plainFor ({ cls := "java/lang/StringUTF16", name := "length", desc := "([B)I" } : Jvm.MethodName) = true := by decide +kernel
theorem opn_3 : plainFor ({ cls := "java/lang/StringUTF16", name := "checkIndex", desc := "(I[B)V" } : Jvm.MethodName) = true := by decide +kernel
theorem opn_4 : plainFor ({ cls := "java/lang/StringUTF16", name := "getChar", desc := "([BI)C" } : Jvm.MethodName) = true := by decide +kernel
theorem opn_5 : plainFor ({ cls := "java/lang/StringUTF16", name := "charAt", desc := "([BI)C" } : Jvm.MethodName) = true := by decide +kernel
theorem opn_6 : plainFor ({ cls := "java/lang/StringLatin1", name := "charAt", desc := "([BI)C" } : Jvm.MethodName) = true := by decide +kernel
theorem opn_7 : plainFor ({ cls := "java/lang/String", name := "coder", desc := "()B" } : Jvm.MethodName) = true := by decide +kernel
theorem opn_8 : plainFor ({ cls := "java/lang/String", name := "isLatin1", desc := "()Z" } : Jvm.MethodName) = true := by decide +kernel
theorem opn_9 : plainFor ({ cls := "java/lang/String", name := "length", desc := "()I" } : Jvm.MethodName) = true := by decide +kernel
theorem opn_10 : plainFor ({ cls := "java/lang/String", name := "charAt", desc := "(I)C" } : Jvm.MethodName) = true := by decide +kernel
theorem opn_11 : plainFor ({ cls := "com/example/vestledger/vestledger/ledger/HashChainIsHashPinLaw", name := "isHexDigit", desc := "(C)Z" } : Jvm.MethodName) = true := by decide +kernel
theorem opn_12 : plainFor ({ cls := "com/example/vestledger/vestledger/ledger/HashChain", name := "areDigits", desc := "(Ljava/lang/String;I)Z" } : Jvm.MethodName) = true := by decide +kernel
theorem opn_13 : plainFor ({ cls := "com/example/vestledger/vestledger/ledger/HashChain", name := "isHash", desc := "(Ljava/lang/String;)Z" } : Jvm.MethodName) = true := by decide +kernel
theorem opn_14 : plainFor ({ cls := "java/lang/StringUTF16", name := "compress", desc := "([CI[BII)I" } : Jvm.MethodName) = true := by decide +kernel
theorem opn_15 : plainFor ({ cls := "java/lang/StringUTF16", name := "newBytesLength", desc := "(I)I" } : Jvm.MethodName) = true := by decide +kernel
theorem opn_16 : plainFor ({ cls := "java/lang/StringUTF16", name := "newBytesFor", desc := "(I)[B" } : Jvm.MethodName) = true := by decide +kernel
theorem opn_17 : plainFor ({ cls := "java/lang/StringUTF16", name := "putChar", desc := "([BII)V" } : Jvm.MethodName) = true := by decide +kernel
theorem opn_18 : plainFor ({ cls := "java/lang/StringUTF16", name := "toBytes", desc := "([CII)[B" } : Jvm.MethodName) = true := by decide +kernel
theorem opn_19 : plainFor ({ cls := "java/lang/StringUTF16", name := "compress", desc := "([CII)[B" } : Jvm.MethodName) = true := by decide +kernel
theorem opn_20 : plainFor ({ cls := "java/lang/StringUTF16", name := "coderFromArrayLen", desc := "([BI)B" } : Jvm.MethodName) = true := by decide +kernel
theorem opn_21 : plainFor ({ cls := "java/lang/String", name := "<init>", desc := "([CIILjava/lang/Void;)V" } : Jvm.MethodName) = true := by decide +kernel
theorem opn_22 : plainFor ({ cls := "java/lang/String", name := "<init>", desc := "([C)V" } : Jvm.MethodName) = true := by decide +kernel
theorem opn_23 : plainFor ({ cls := "java/lang/StringLatin1", name := "canEncode", desc := "(C)Z" } : Jvm.MethodName) = true := by decide +kernel
theorem opn_24 : plainFor ({ cls := "java/lang/StringLatin1", name := "toBytes", desc := "(C)[B" } : Jvm.MethodName) = true := by decide +kernel
theorem opn_25 : plainFor ({ cls := "java/lang/StringUTF16", name := "toBytes", desc := "(C)[B" } : Jvm.MethodName) = true := by decide +kernel
theorem opn_26 : plainFor ({ cls := "java/lang/String", name := "<init>", desc := "([BB)V" } : Jvm.MethodName) = true := by decide +kernel
theorem opn_27 : plainFor ({ cls := "java/lang/String", name := "valueOf", desc := "(C)Ljava/lang/String;" } : Jvm.MethodName) = true := by decide +kernel
theorem opn_28 : plainFor ({ cls := "com/example/vestledger/vestledger/ledger/HashChainIsHashPinLaw", name := "law", desc := "(IIIIJ)Z" } : Jvm.MethodName) = true := by decide +kernel
theorem lat_fin {c : Int32} (h : ¬ c < 0 ∧ ¬ (255 : Int32) < c) : ∃ k : Fin 256, c = Int32.ofNat k.val := by
  have e0 : (0 : Int32).toInt = 0 := rfl
  have e1 : (255 : Int32).toInt = 255 := rfl
  rw [Int32.lt_iff_toInt_lt, Int32.lt_iff_toInt_lt, e0, e1] at h
  refine ⟨⟨c.toInt.toNat, by omega⟩, ?_⟩
  apply Int32.toInt_inj.mp
  rw [Int32.toInt_ofNat_of_lt (by show c.toInt.toNat < 2 ^ 31; omega)]
  show c.toInt = (c.toInt.toNat : Int)
  omega
theorem l255 (x : Int64) : ¬ (x &&& 255).toInt32 < 0 ∧ ¬ (255 : Int32) < (x &&& 255).toInt32 := by
  have q := c_maskL x 255 8 (by decide) (by decide)
  have q2 := c_l2i (x &&& 255)
  have r := rng32 (x &&& 255).toInt32
  have e0 : (0 : Int32).toInt = 0 := rfl
  have e1 : (255 : Int32).toInt = 255 := rfl
  rw [Int32.lt_iff_toInt_lt, Int32.lt_iff_toInt_lt, e0, e1]
  have : ((2 ^ 8 : Nat) : Int) = 256 := rfl
  rw [this] at q
  omega
theorem i2c_lat {c : Int32} (h : ¬ c < 0 ∧ ¬ (255 : Int32) < c) : c.toUInt32.toUInt16.toUInt32.toInt32 = c := by
  obtain ⟨k, rfl⟩ := lat_fin h
  revert k
  decide +kernel
theorem nar_lat {c : Int32} (h : ¬ c < 0 ∧ ¬ (255 : Int32) < c) : nar .char c = c := i2c_lat h
section Nums
theorem n_val {a : Nat} (h : a < 2147483648) : (Int32.ofNat a).toInt = a := Int32.toInt_ofNat_of_lt h
theorem n_add (a b : Nat) : Int32.ofNat a + Int32.ofNat b = Int32.ofNat (a + b) := by
  apply Int32.toBitVec_inj.mp
  show BitVec.ofNat 32 a + BitVec.ofNat 32 b = BitVec.ofNat 32 (a + b)
  rw [BitVec.ofNat_add]
theorem n_sub {a b : Nat} (h : b ≤ a) : Int32.ofNat a - Int32.ofNat b = Int32.ofNat (a - b) := by
  have e := n_add (a - b) b
  rw [Nat.sub_add_cancel h] at e
  rw [← e, Int32.add_sub_cancel]
theorem n_lt {a b : Nat} (ha : a < 2147483648) (hb : b < 2147483648) : (Int32.ofNat a < Int32.ofNat b) ↔ a < b := by
  rw [Int32.lt_iff_toInt_lt, n_val ha, n_val hb]; omega
theorem n_eq {a b : Nat} (ha : a < 2147483648) (hb : b < 2147483648) : (Int32.ofNat a = Int32.ofNat b) ↔ a = b := by
  rw [← Int32.toInt_inj, n_val ha, n_val hb]; omega
theorem n_nat {a : Nat} (ha : a < 2147483648) : (Int32.ofNat a).toNatClampNeg = a := by
  simp only [Int32.toNatClampNeg, n_val ha]; omega
theorem n_nn {a : Nat} (ha : a < 2147483648) : ¬ Int32.ofNat a < 0 := by
  have e : (0 : Int32).toInt = 0 := rfl
  rw [Int32.lt_iff_toInt_lt, n_val ha, e]; omega
theorem n_in {a b : Nat} (h : a < b) (hb : b < 2147483648) : ¬ Int32.ofNat a < 0 ∧ Int32.ofNat a < Int32.ofNat b := ⟨n_nn (by omega), (n_lt (by omega) hb).mpr h⟩
theorem shl00 (x : Int32) : x <<< ((0 : Int32) &&& 31) = x := by
  have e : (0 : Int32) &&& 31 = 0 := by decide
  rw [e]; apply Int32.toBitVec_inj.mp; simp
theorem shr00 (x : Int32) : x >>> ((0 : Int32) &&& 31) = x := by
  have e : (0 : Int32) &&& 31 = 0 := by decide
  rw [e]; apply Int32.toBitVec_inj.mp; simp
theorem i_lt {x y : Int32} {a b : Int} (hx : x.toInt = a) (hy : y.toInt = b) : (x < y) ↔ a < b := by rw [Int32.lt_iff_toInt_lt, hx, hy]
theorem i_eq {x y : Int32} {a b : Int} (hx : x.toInt = a) (hy : y.toInt = b) : (x = y) ↔ a = b := by rw [← Int32.toInt_inj, hx, hy]
end Nums
/-- the bytes of Latin-1 chars -/
def by8 (cs : List Int32) : List Value := (cs.map fun c => c.toInt8.toInt32).map Value.int
theorem by8_len (cs : List Int32) : (by8 cs).length = cs.length := by simp [by8]
theorem by8_app (cs ds : List Int32) : by8 (cs ++ ds) = by8 cs ++ by8 ds := by simp [by8]
theorem getD_mem {cs : List Int32} {i : Nat} (h : i < cs.length) : cs.getD i 0 ∈ cs := by
  simp [List.getD_eq_getElem?_getD, h]
theorem by8_get {cs : List Int32} {i : Nat} (h : i < cs.length) (d : Value) : (by8 cs).getD i d = .int (cs.getD i 0).toInt8.toInt32 := by
  simp [by8, List.getD_eq_getElem?_getD, h]
section U16
theorem u_lt {a b : Int32} : a < b ↔ a.toInt < b.toInt := Int32.lt_iff_toInt_lt
/-- a char, as an int -/
def chr16 (c : Int32) : Prop := ¬ c < 0 ∧ ¬ (65535 : Int32) < c
theorem chr16_nat {c : Int32} (h : chr16 c) : ∃ k : Nat, k < 65536 ∧ c = Int32.ofNat k := by
  have e0 : (0 : Int32).toInt = 0 := rfl
  have e1 : (65535 : Int32).toInt = 65535 := rfl
  obtain ⟨h1, h2⟩ := h
  rw [u_lt, e0] at h1
  rw [u_lt, e1] at h2
  refine ⟨c.toInt.toNat, by omega, ?_⟩
  apply Int32.toInt_inj.mp
  rw [Int32.toInt_ofNat_of_lt (by show c.toInt.toNat < 2 ^ 31; omega)]
  omega
theorem lat_16 {c : Int32} (h : ¬ c < 0 ∧ ¬ (255 : Int32) < c) : chr16 c := by
  have e0 : (255 : Int32).toInt = 255 := rfl
  have e1 : (65535 : Int32).toInt = 65535 := rfl
  refine ⟨h.1, fun q => h.2 ?_⟩
  rw [u_lt, e1] at q
  rw [u_lt, e0]; omega
def lo8 (c : Int32) : Int32 := c.toInt8.toInt32
def hi8 (c : Int32) : Int32 := (c >>> ((8 : Int32) &&& 31)).toInt8.toInt32
def by16 : List Int32 → List Value
  | [] => []
  | c :: r => .int (lo8 c) :: .int (hi8 c) :: by16 r
theorem by16_len : ∀ cs : List Int32, (by16 cs).length = 2 * cs.length
  | [] => rfl
  | c :: r => by show (by16 r).length + 1 + 1 = 2 * (r.length + 1); rw [by16_len r]; omega
theorem by16_get0 : ∀ {cs : List Int32} {i : Nat}, i < cs.length → ∀ d, (by16 cs).getD (2 * i) d = .int (lo8 (cs.getD i 0))
  | [], _, h, _ => absurd h (Nat.not_lt_zero _)
  | _ :: _, 0, _, _ => rfl
  | c :: r, i + 1, h, d => by
    have e : 2 * (i + 1) = 2 * i + 1 + 1 := by omega
    rw [e]
    exact by16_get0 (cs := r) (Nat.lt_of_succ_lt_succ h) d
theorem by16_get1 : ∀ {cs : List Int32} {i : Nat}, i < cs.length → ∀ d, (by16 cs).getD (2 * i + 1) d = .int (hi8 (cs.getD i 0))
  | [], _, h, _ => absurd h (Nat.not_lt_zero _)
  | _ :: _, 0, _, _ => rfl
  | c :: r, i + 1, h, d => by
    have e : 2 * (i + 1) + 1 = 2 * i + 1 + 1 + 1 := by omega
    rw [e]
    exact by16_get1 (cs := r) (Nat.lt_of_succ_lt_succ h) d
theorem m255 : ∀ i, i < 32 → (255#32).getLsbD i = decide (i < 8) := by decide
theorem t255 : ∀ i, i < 32 → Nat.testBit 255 i = decide (i < 8) := by decide
theorem lo8_and (x : Int32) : x.toInt8.toInt32 &&& (255 : Int32) = x &&& 255 := by
  apply Int32.toBitVec_inj.mp
  show (BitVec.signExtend 32 (BitVec.signExtend 8 x.toBitVec)) &&& 255#32 = x.toBitVec &&& 255#32
  apply BitVec.eq_of_getLsbD_eq
  intro i hi
  rw [BitVec.getLsbD_and, BitVec.getLsbD_and, m255 i hi]
  by_cases h : i < 8
  · rw [BitVec.getLsbD_signExtend, BitVec.getLsbD_signExtend]; simp [h, hi]
  · simp [h]
theorem u16c {k : Nat} (hk : k < 65536) : (((Int32.ofNat k &&& (255 : Int32)) <<< ((0 : Int32) &&& 31)) ||| (((Int32.ofNat k >>> ((8 : Int32) &&& 31)) &&& (255 : Int32)) <<< ((8 : Int32) &&& 31))) = Int32.ofNat k := by
  apply Int32.toBitVec_inj.mp
  show ((BitVec.ofNat 32 k &&& 255#32) <<< 0) ||| (((BitVec.sshiftRight (BitVec.ofNat 32 k) 8) &&& 255#32) <<< 8) = BitVec.ofNat 32 k
  apply BitVec.eq_of_getLsbD_eq
  intro i hi
  have hk2 : 16 ≤ i → k.testBit i = false := fun q => Nat.testBit_lt_two_pow (Nat.lt_of_lt_of_le hk (Nat.pow_le_pow_right (n := 2) (by decide) q))
  rw [BitVec.getLsbD_or, BitVec.getLsbD_shiftLeft, BitVec.getLsbD_shiftLeft, BitVec.getLsbD_and, BitVec.getLsbD_and, BitVec.getLsbD_sshiftRight, Nat.sub_zero, BitVec.getLsbD_ofNat, m255 i hi]
  rcases Nat.lt_or_ge i 8 with h | h
  · simp [hi, h]
  · rw [m255 (i - 8) (by omega)]
    rcases Nat.lt_or_ge i 16 with h2 | h2
    · have e : 8 + (i - 8) = i := by omega
      have h3 : ¬ i < 8 := by omega
      have h4 : i - 8 < 8 := by omega
      have h5 : ¬ 32 ≤ i - 8 := by omega
      rw [e, BitVec.getLsbD_ofNat]; simp [hi, h3, h4, h5]
    · have h3 : ¬ i < 8 := by omega
      have h4 : ¬ i - 8 < 8 := by omega
      simp [h3, h4, hk2 h2]
theorem i2c_nat {k : Nat} (hk : k < 65536) : (Int32.ofNat k).toUInt32.toUInt16.toUInt32.toInt32 = Int32.ofNat k := by
  apply Int32.toBitVec_inj.mp
  show BitVec.setWidth 32 (BitVec.setWidth 16 (BitVec.ofNat 32 k)) = BitVec.ofNat 32 k
  apply BitVec.eq_of_toNat_eq
  simp
  omega
theorem i2c_is (x : Int32) : x.toUInt32.toUInt16.toUInt32.toInt32 = Int32.ofNat (x.toUInt32.toNat % 65536) := by
  apply Int32.toBitVec_inj.mp
  show BitVec.setWidth 32 (BitVec.setWidth 16 x.toBitVec) = BitVec.ofNat 32 (x.toBitVec.toNat % 65536)
  apply BitVec.eq_of_toNat_eq
  simp
theorem shl0 (x : Int32) : x <<< ((0 : Int32) &&& 31) = x := by
  apply Int32.toBitVec_inj.mp
  show x.toBitVec <<< 0 = x.toBitVec
  simp
theorem u16_get {c : Int32} (h : chr16 c) : (((lo8 c &&& (255 : Int32)) <<< ((0 : Int32) &&& 31)) ||| ((hi8 c &&& (255 : Int32)) <<< ((8 : Int32) &&& 31))).toUInt32.toUInt16.toUInt32.toInt32 = c := by
  obtain ⟨k, hk, rfl⟩ := chr16_nat h
  rw [lo8, hi8, lo8_and, lo8_and, u16c hk, i2c_nat hk]
theorem u16_get2 {c : Int32} (h : chr16 c) : ((lo8 c &&& (255 : Int32)) ||| ((hi8 c &&& (255 : Int32)) <<< ((8 : Int32) &&& 31))).toUInt32.toUInt16.toUInt32.toInt32 = c := by
  have q := u16_get h
  rwa [shl0] at q
theorem i2c_16 {c : Int32} (h : chr16 c) : c.toUInt32.toUInt16.toUInt32.toInt32 = c := by
  obtain ⟨k, hk, rfl⟩ := chr16_nat h
  exact i2c_nat hk
theorem nar_16 {c : Int32} (h : chr16 c) : nar .char c = c := i2c_16 h
theorem i2c_chr (x : Int32) : chr16 x.toUInt32.toUInt16.toUInt32.toInt32 := by
  have e0 : (0 : Int32).toInt = 0 := rfl
  have e1 : (65535 : Int32).toInt = 65535 := rfl
  have hl : x.toUInt32.toNat % 65536 < 65536 := Nat.mod_lt _ (by decide)
  rw [i2c_is]
  refine ⟨fun z => ?_, fun z => ?_⟩
  · rw [u_lt, n_val (by omega), e0] at z; omega
  · rw [u_lt, n_val (by omega), e1] at z; omega
theorem shl1 (i : Nat) : Int32.ofNat i <<< ((1 : Int32) &&& 31) = Int32.ofNat (2 * i) := by
  apply Int32.toBitVec_inj.mp
  show (BitVec.ofNat 32 i) <<< 1 = BitVec.ofNat 32 (2 * i)
  apply BitVec.eq_of_toNat_eq
  simp [BitVec.toNat_shiftLeft, Nat.shiftLeft_eq]
  omega
theorem shr0 (x : Int32) : x >>> ((0 : Int32) &&& 31) = x := by
  apply Int32.toBitVec_inj.mp
  show x.toBitVec.sshiftRight 0 = x.toBitVec
  simp
theorem shr1 {n : Nat} (h : n < 1073741824) : Int32.ofNat (2 * n) >>> ((1 : Int32) &&& 31) = Int32.ofNat n := by
  have q : (Int32.ofNat (2 * n)).toInt = ((2 * n : Nat) : Int) := n_val (by omega)
  apply Int32.toInt_inj.mp
  rw [n_val (by omega)]
  have e : (Int32.ofNat (2 * n) >>> ((1 : Int32) &&& 31)).toInt = (Int32.ofNat (2 * n)).toInt >>> 1 := by
    show (BitVec.sshiftRight (Int32.ofNat (2 * n)).toBitVec 1).toInt = _
    rw [BitVec.toInt_sshiftRight]; rfl
  rw [e, q, Int.shiftRight_eq_div_pow]
  omega
/-- the byte[] that compress fills -/
def cpL (cs : List Int32) (i : Nat) : List Value := by8 (cs.take i) ++ List.replicate (cs.length - i) (.int 0)
theorem cpL_len {cs : List Int32} {i : Nat} (h : i ≤ cs.length) : (cpL cs i).length = cs.length := by
  rw [cpL, List.length_append, by8_len, List.length_take, List.length_replicate]; omega
theorem cpL_0 (cs : List Int32) : cpL cs 0 = List.replicate cs.length (.int 0) := by simp [cpL, by8]
theorem cpL_end (cs : List Int32) : cpL cs cs.length = by8 cs := by simp [cpL]
theorem take_snoc {α} [Inhabited α] {cs : List α} {i : Nat} (h : i < cs.length) (d : α) : cs.take (i + 1) = cs.take i ++ [cs.getD i d] := by
  rw [List.take_add_one]
  simp [List.getD_eq_getElem?_getD, h]
theorem cpL_set {cs : List Int32} {i : Nat} (h : i < cs.length) : (cpL cs i).set i (.int (cs.getD i 0).toInt8.toInt32) = cpL cs (i + 1) := by
  rw [cpL, cpL, List.set_append, if_neg (by rw [by8_len, List.length_take]; omega), by8_len, List.length_take, Nat.min_eq_left (Nat.le_of_lt h), Nat.sub_self, take_snoc h 0, by8_app, List.append_assoc]
  congr 1
  obtain ⟨m, hm⟩ : ∃ m, cs.length - i = m + 1 := ⟨cs.length - i - 1, by omega⟩
  rw [hm, show cs.length - (i + 1) = m by omega]
  rfl
/-- the byte[] that toBytes fills -/
def utL (cs : List Int32) (i : Nat) : List Value := by16 (cs.take i) ++ List.replicate (2 * (cs.length - i)) (.int 0)
theorem utL_len {cs : List Int32} {i : Nat} (h : i ≤ cs.length) : (utL cs i).length = 2 * cs.length := by
  rw [utL, List.length_append, by16_len, List.length_take, List.length_replicate]; omega
theorem utL_0 (cs : List Int32) : utL cs 0 = List.replicate (2 * cs.length) (.int 0) := by simp [utL, by16]
theorem utL_end (cs : List Int32) : utL cs cs.length = by16 cs := by simp [utL]
theorem by16_app : ∀ cs ds : List Int32, by16 (cs ++ ds) = by16 cs ++ by16 ds
  | [], _ => rfl
  | c :: r, ds => by show _ :: _ :: by16 (r ++ ds) = _ :: _ :: (by16 r ++ by16 ds); rw [by16_app r ds]
theorem utL_set {cs : List Int32} {i : Nat} (h : i < cs.length) : ((utL cs i).set (2 * i) (.int (lo8 (cs.getD i 0)))).set (2 * i + 1) (.int (hi8 (cs.getD i 0))) = utL cs (i + 1) := by
  have hl : (by16 (cs.take i)).length = 2 * i := by rw [by16_len, List.length_take, Nat.min_eq_left (Nat.le_of_lt h)]
  obtain ⟨m, hm⟩ : ∃ m, cs.length - i = m + 1 := ⟨cs.length - i - 1, by omega⟩
  have e2 : 2 * (cs.length - i) = 2 * m + 1 + 1 := by omega
  rw [utL, utL, List.set_append, if_neg (by omega), hl, Nat.sub_self, e2, List.replicate_succ, List.replicate_succ, List.set_cons_zero, List.set_append, if_neg (by omega), hl, show 2 * i + 1 - 2 * i = 1 by omega, List.set_cons_succ, List.set_cons_zero, take_snoc h 0, by16_app, List.append_assoc, show 2 * (cs.length - (i + 1)) = 2 * m by omega]
  rfl
theorem lch_get {c : Int32} (h : ¬ c < 0 ∧ ¬ (255 : Int32) < c) : (c.toInt8.toInt32 &&& (255 : Int32)).toUInt32.toUInt16.toUInt32.toInt32 = c := by
  obtain ⟨k, rfl⟩ := lat_fin h
  revert k
  decide +kernel
theorem cfal1 {n : Nat} (h0 : 0 < n) (h : n < 1073741824) : (XT.ushr (Int32.ofNat n - Int32.ofNat (2 * n)) (31 : Int32)).toInt8.toInt32 = 1 := by
  have e : XT.ushr (Int32.ofNat n - Int32.ofNat (2 * n)) (31 : Int32) = 1 := by
    apply Int32.toBitVec_inj.mp
    show (BitVec.ofNat 32 n - BitVec.ofNat 32 (2 * n)) >>> 31 = 1#32
    apply BitVec.eq_of_toNat_eq
    rw [BitVec.toNat_ushiftRight, BitVec.toNat_sub, BitVec.toNat_ofNat, BitVec.toNat_ofNat, Nat.shiftRight_eq_div_pow]
    simp
    omega
  rw [e]; rfl
theorem cfal0 (x : Int32) : (XT.ushr (x - x) (31 : Int32)).toInt8.toInt32 = 0 := by
  have e : x - x = 0 := by simp
  rw [e]; rfl
end U16
/-- a String of any chars -/
def StrU (Z : State) (h : Heap) (x t : Addr) (cs : List Int32) : Prop := Exa Z h x "java/lang/String" ∧ Fld Z h x "java/lang/String" "value" "[B" (.ref t) ∧ ((Fld Z h x "java/lang/String" "coder" "B" (.int 0) ∧ (∃ k, Arv Z h t k .byte (Int32.ofNat cs.length) (by8 cs) (.int 0)) ∧ ∀ c ∈ cs, ¬ c < 0 ∧ ¬ (255 : Int32) < c) ∨ (Fld Z h x "java/lang/String" "coder" "B" (.int 1) ∧ ∃ k, Arv Z h t k .byte (Int32.ofNat (2 * cs.length)) (by16 cs) (.int 0))) ∧ (∀ c ∈ cs, chr16 c) ∧ cs.length ≤ 100
section Rp
/-- a char[] that is being filled with one value -/
def rp (k : Nat) (v : Int32) (n : Nat) : List Value := List.replicate k (.int v) ++ List.replicate (n - k) (.int 0)
theorem rp_0 (v : Int32) (n : Nat) : rp 0 v n = List.replicate n (.int 0) := by simp [rp]
theorem rp_len {k n : Nat} (v : Int32) (h : k ≤ n) : (rp k v n).length = n := by simp [rp]; omega
theorem rp_set {k n : Nat} (v : Int32) (h : k < n) : (rp k v n).set k (.int v) = rp (k + 1) v n := by
  obtain ⟨m, hm⟩ : ∃ m, n - k = m + 1 := ⟨n - k - 1, by omega⟩
  rw [rp, rp, List.set_append, if_neg (by simp), List.length_replicate, Nat.sub_self, hm, show n - (k + 1) = m by omega, List.replicate_succ, List.set_cons_zero, List.replicate_succ', List.append_assoc]
  rfl
theorem rp_end (v : Int32) (n : Nat) : rp n v n = (List.replicate n v).map Value.int := by simp [rp]
def hexd (c : Int32) : Prop := (¬ c < 48 ∧ ¬ (57 : Int32) < c) ∨ (¬ c < 97 ∧ ¬ (102 : Int32) < c)
theorem all_get {P : Int32 → Prop} {cs : List Int32} (h : ∀ j, j < cs.length → P (cs.getD j 0)) : ∀ c ∈ cs, P c := by
  intro c hc
  obtain ⟨j, hj, rfl⟩ := List.getElem_of_mem hc
  have := h j hj
  rwa [List.getD_eq_getElem?_getD, List.getElem?_eq_getElem hj, Option.getD_some] at this
theorem map_get {cs : List Int32} {i : Nat} (h : i < cs.length) (d : Value) : (cs.map Value.int).getD i d = .int (cs.getD i 0) := by
  simp [List.getD_eq_getElem?_getD, h]
theorem stb_nar (x : Int32) : nar .byte x.toInt8.toInt32 = x.toInt8.toInt32 := by simp [nar]
theorem stb_nar2 (x : Int32) : nar .byte x.toInt8.toInt32 = x.toInt8.toInt32 := stb_nar x
theorem lo8_nar (p : Int32) : nar .byte p.toInt8.toInt32 = lo8 p := stb_nar p
theorem hi8_nar (p : Int32) : nar .byte (p >>> ((8 : Int32) &&& 31)).toInt8.toInt32 = hi8 p := stb_nar _
theorem all_set {P : Int32 → Prop} {l : List Int32} {i j : Nat} {ca cb : Int32} (hl : ∀ c ∈ l, P c) (hi : i < l.length) (hj : j < l.length) : (∀ c ∈ (l.set i ca).set j cb, P c) ↔ P cb ∧ (i = j ∨ P ca) := by
  constructor
  · intro h
    refine ⟨h cb (List.mem_of_getElem? (i := j) (by simp [List.getElem?_set, hj])), ?_⟩
    by_cases e : i = j
    · exact Or.inl e
    · exact Or.inr (h ca (List.mem_of_getElem? (i := i) (by simp [List.getElem?_set, hi, Ne.symm e])))
  · rintro ⟨hb, h⟩ c hc
    rcases h with rfl | ha
    · rw [List.set_set] at hc
      rcases List.mem_or_eq_of_mem_set hc with q | rfl
      · exact hl c q
      · exact hb
    · rcases List.mem_or_eq_of_mem_set hc with q | rfl
      · rcases List.mem_or_eq_of_mem_set q with q | rfl
        · exact hl c q
        · exact ha
      · exact hb
end Rp
section Start
variable {args : Array Value} {first s : State} {o : Option Outcome} {idx : List Nat} {a b t : Term}
theorem eqI_v {k : Int32} (h : (Jvm.Cond.eq a (Term.int k)).value args first o s idx = some true) : a.eval args first o idx s = some (.int k) := by
  simp only [Cond.value, Term.eval] at h
  cases ha : a.eval args first o idx s with
  | none => simp [ha] at h
  | some x => cases x <;> simp [ha] at h ⊢; exact h
theorem eqR_v {x : Addr} (h : (Jvm.Cond.eq a b).value args first o s idx = some true) (hb : b.eval args first o idx s = some (.ref x)) : a.eval args first o idx s = some (.ref x) := by
  simp only [Cond.value, hb] at h
  cases ha : a.eval args first o idx s with
  | none => simp [ha] at h
  | some y => cases y <;> simp [ha] at h ⊢; exact h
theorem lenI_v {k : Int32} {x : Addr} {cl : Cell} {ty : FieldType} (h : (Term.length t).eval args s o idx s = some (.int k)) (ht : t.eval args s o idx s = some (.ref x)) (A : Arr s s.heap x cl ty) : cl.slots.size < 2 ^ 31 ∧ cl.slots.size.toInt32 = k := by
  have ha := A.fin (U := s) (Vm.Alike.refl _)
  simp only [Term.eval, ht, Option.bind_eq_bind, Option.bind_some, ha] at h
  split at h
  · rename_i q
    exact ⟨q, by simpa using h⟩
  · cases h
theorem elI_v {j : Int32} {v : Value} {x : Addr} {cl : Cell} {ty : FieldType} (h : (Term.elem t (Term.int j)).eval args s o idx s = some v) (ht : t.eval args s o idx s = some (.ref x)) (A : Arr s s.heap x cl ty) {i : Nat} (hi : j.toNatClampNeg = i) : cl.slots[i]? = some v := by
  subst hi
  exact (elem_in h ht rfl A.1).2
end Start
theorem hex_nat {n : Nat} (h : (48 ≤ n ∧ n ≤ 57) ∨ (97 ≤ n ∧ n ≤ 102)) : hexd (Int32.ofNat n) := by
  unfold hexd
  rw [u_lt, u_lt, u_lt, u_lt, n_val (by omega), show (48 : Int32).toInt = 48 from rfl, show (57 : Int32).toInt = 57 from rfl, show (97 : Int32).toInt = 97 from rfl, show (102 : Int32).toInt = 102 from rfl]
  omega
theorem chr_nat {n : Nat} (h : n < 65536) : chr16 (Int32.ofNat n) := by
  unfold chr16
  rw [u_lt, u_lt, n_val (by omega), show (0 : Int32).toInt = 0 from rfl, show (65535 : Int32).toInt = 65535 from rfl]
  omega
theorem and63 (x : Int32) : ∃ i : Nat, x &&& (63 : Int32) = Int32.ofNat i ∧ i < 64 := by
  have h := c_and x 63 (by decide)
  have e7 : (63 : Int32).toInt = 63 := rfl
  rw [e7] at h
  refine ⟨(x &&& 63).toInt.toNat, ?_, by omega⟩
  apply Int32.toInt_inj.mp
  rw [n_val (by omega)]
  omega
theorem and15L (x : Int64) : ∃ n : Nat, (x &&& (15 : Int64)).toInt32 = Int32.ofNat n ∧ n < 16 := by
  have q := c_maskL x 15 4 (by decide) (by decide)
  have q2 := c_l2i (x &&& 15)
  have r := rng32 (x &&& 15).toInt32
  have e : ((2 ^ 4 : Nat) : Int) = 16 := rfl
  rw [e] at q
  refine ⟨(x &&& 15).toInt32.toInt.toNat, ?_, by omega⟩
  apply Int32.toInt_inj.mp
  rw [n_val (by omega)]
  omega
set_option maxRecDepth 65536 in
set_option maxHeartbeats 40000000 in
theorem c_ckN {l : Launch} {Z : State} {a0 : Array Value} (hw : HW Z a0) {h0 : Heap} {i n : Nat} {fa : Addr} (hi : i < n) (hn : n ≤ 4000) (hO : Old Z Z.heap.size h0) : Ctr l Z EL0 nw0 ({ cls := "jdk/internal/util/Preconditions", name := "checkIndex", desc := "(IILjava/util/function/BiFunction;)I" } : Jvm.MethodName) jdk_41_method_11_code 3 (some .int) ({ frames := 0, cells := 0, slots := 0, locals := 0 } : Room) [.int (Int32.ofNat i), .int (Int32.ofNat n), .null] h0 [] (fun v h M' => v = some (.int (Int32.ofNat i)) ∧ M' = [] ∧ h = h0) := by
  refine of_body (a0 := a0) opn_0 (own_ew hw) hO (Ls := #[.val (.int (Int32.ofNat (i))), .val (.int (Int32.ofNat (n))), .val .null]) (fun m => by first | (simp [entryFrame, mkF, argsToLocals, Value.category]; done) | rfl) (fun κ T0 w0 hnm => ?_)
  refine W.iloadN w0 od_16_0 (pc' := 1) rfl rfl ?_
  refine W.ifNo w0 od_16_1 (pc' := 4) rfl ((if0 _ _).trans (flt (n_nn (by omega))).1) ?_
  refine W.iloadN w0 od_16_4 (pc' := 5) rfl rfl ?_
  refine W.iloadN w0 od_16_5 (pc' := 6) rfl rfl ?_
  refine W.icmpYes w0 od_16_6 (pc' := 16) (by decide) (by decide) (tlt (show (Int32.ofNat (i)) < (Int32.ofNat (n)) from (i_lt (n_val (a := i) (by omega)) (n_val (a := n) (by omega))).mpr (by omega))).1 ?_
  refine W.iloadN w0 od_16_16 (pc' := 17) rfl rfl ?_
  exact W.retI w0 rfl od_16_17 (M' := []) mN (by decide) (by decide) ⟨rfl, rfl, rfl⟩
set_option maxRecDepth 65536 in
set_option maxHeartbeats 40000000 in
theorem c_ckR {l : Launch} {Z : State} {a0 : Array Value} (hw : HW Z a0) {h0 : Heap} {i n : Nat} {fa : Addr} (hi : i < n) (hn : n ≤ 4000) (hO : Old Z Z.heap.size h0) : Ctr l Z EL0 nw0 ({ cls := "jdk/internal/util/Preconditions", name := "checkIndex", desc := "(IILjava/util/function/BiFunction;)I" } : Jvm.MethodName) jdk_41_method_11_code 3 (some .int) ({ frames := 0, cells := 0, slots := 0, locals := 0 } : Room) [.int (Int32.ofNat i), .int (Int32.ofNat n), (.ref fa)] h0 [] (fun v h M' => v = some (.int (Int32.ofNat i)) ∧ M' = [] ∧ h = h0) := by
  refine of_body (a0 := a0) opn_0 (own_ew hw) hO (Ls := #[.val (.int (Int32.ofNat (i))), .val (.int (Int32.ofNat (n))), .val (.ref fa)]) (fun m => by first | (simp [entryFrame, mkF, argsToLocals, Value.category]; done) | rfl) (fun κ T0 w0 hnm => ?_)
  refine W.iloadN w0 od_16_0 (pc' := 1) rfl rfl ?_
  refine W.ifNo w0 od_16_1 (pc' := 4) rfl ((if0 _ _).trans (flt (n_nn (by omega))).1) ?_
  refine W.iloadN w0 od_16_4 (pc' := 5) rfl rfl ?_
  refine W.iloadN w0 od_16_5 (pc' := 6) rfl rfl ?_
  refine W.icmpYes w0 od_16_6 (pc' := 16) (by decide) (by decide) (tlt (show (Int32.ofNat (i)) < (Int32.ofNat (n)) from (i_lt (n_val (a := i) (by omega)) (n_val (a := n) (by omega))).mpr (by omega))).1 ?_
  refine W.iloadN w0 od_16_16 (pc' := 17) rfl rfl ?_
  exact W.retI w0 rfl od_16_17 (M' := []) mN (by decide) (by decide) ⟨rfl, rfl, rfl⟩
set_option maxRecDepth 65536 in
set_option maxHeartbeats 40000000 in
theorem c_sck {l : Launch} {Z : State} {a0 : Array Value} (hw : HW Z a0) {h0 : Heap} {i n : Nat} (hi : i < n) (hn : n ≤ 4000) (hO : Old Z Z.heap.size h0) : Ctr l Z EL0 nw0 ({ cls := "java/lang/String", name := "checkIndex", desc := "(II)V" } : Jvm.MethodName) jdk_42_method_155_code 2 none ({ frames := 1, cells := 0, slots := 0, locals := 14 } : Room) [.int (Int32.ofNat i), .int (Int32.ofNat n)] h0 [] (fun v h M' => v = none ∧ M' = [] ∧ h = h0) := by
  refine of_body (a0 := a0) opn_1 (own_ew hw) hO (Ls := #[.val (.int (Int32.ofNat (i))), .val (.int (Int32.ofNat (n)))]) (fun m => by first | (simp [entryFrame, mkF, argsToLocals, Value.category]; done) | rfl) (fun κ T0 w0 hnm => ?_)
  obtain ⟨ff, Sff, hff⟩ := hw.2.1.2
  rcases ref_cases hff with rfl | ⟨fa, rfl⟩
  · refine W.iloadN w0 od_15_0 (pc' := 1) rfl rfl ?_
    refine W.iloadN w0 od_15_1 (pc' := 2) rfl rfl ?_
    refine W.getS w0 (ow_70 hw) Via.refl (Sff.ext w0.old.2) od_15_2 (pc' := 5) rfl fun T1 w2 => ?_
    refine W.callS w2 (ow_72 hw) (ow_73 hw) (ow_71 hw) (ow_74 hw) (by decide) opd_0 (Ctr.pay (c_ckN hw (fa := 0) hi hn w2.old) (own_ew hw) (ow_74 hw) (ow_71 hw) (kf := 1) (kl := 14) (by decide) (by decide)) mN od_15_5 (pc' := 8) rfl rfl rfl (rest := []) rfl (Wd := 0) rfl (by decide) (by decide) (by decide) (by decide) fun v5 T3 h4 M6 w7 q8 => ?_
    obtain ⟨rfl, rfl, e9⟩ := q8
    obtain rfl := e9.symm
    show Go Z _ _ _ κ _ (T3.setTop (mkF (km κ) 8 #[.val (.int (Int32.ofNat (i))), .val (.int (Int32.ofNat (n)))] [(.int (Int32.ofNat (i)))]))
    refine Jvm.Own.W.pop w7 od_15_8 rfl rfl ?_
    exact W.ret0 w7 rfl od_15_9 (M' := []) mN (by decide) (by decide) ⟨rfl, rfl, rfl⟩
  · refine W.iloadN w0 od_15_0 (pc' := 1) rfl rfl ?_
    refine W.iloadN w0 od_15_1 (pc' := 2) rfl rfl ?_
    refine W.getS w0 (ow_70 hw) Via.refl (Sff.ext w0.old.2) od_15_2 (pc' := 5) rfl fun T10 w11 => ?_
    refine W.callS w11 (ow_72 hw) (ow_73 hw) (ow_71 hw) (ow_74 hw) (by decide) opd_0 (Ctr.pay (c_ckR hw hi hn w11.old) (own_ew hw) (ow_74 hw) (ow_71 hw) (kf := 1) (kl := 14) (by decide) (by decide)) mN od_15_5 (pc' := 8) rfl rfl rfl (rest := []) rfl (Wd := 0) rfl (by decide) (by decide) (by decide) (by decide) fun v14 T12 h13 M15 w16 q17 => ?_
    obtain ⟨rfl, rfl, e18⟩ := q17
    obtain rfl := e18.symm
    show Go Z _ _ _ κ _ (T12.setTop (mkF (km κ) 8 #[.val (.int (Int32.ofNat (i))), .val (.int (Int32.ofNat (n)))] [(.int (Int32.ofNat (i)))]))
    refine Jvm.Own.W.pop w16 od_15_8 rfl rfl ?_
    exact W.ret0 w16 rfl od_15_9 (M' := []) mN (by decide) (by decide) ⟨rfl, rfl, rfl⟩
set_option maxRecDepth 65536 in
set_option maxHeartbeats 40000000 in
theorem c_ulen {l : Launch} {Z : State} {a0 : Array Value} (hw : HW Z a0) {h0 : Heap} {t : Addr} {k : ClassId} {cs : List Int32} (V_t : Arv Z h0 t k .byte (Int32.ofNat (2 * cs.length)) (by16 cs) (.int 0)) (hn : cs.length ≤ 100) (hO : Old Z Z.heap.size h0) : Ctr l Z EL0 nw0 ({ cls := "java/lang/StringUTF16", name := "length", desc := "([B)I" } : Jvm.MethodName) jdk_52_method_6_code 1 (some .int) ({ frames := 0, cells := 0, slots := 0, locals := 0 } : Room) [.ref t] h0 [] (fun v h M' => v = some (.int (Int32.ofNat cs.length)) ∧ M' = [] ∧ h = h0) := by
  refine of_body (a0 := a0) opn_2 (own_ew hw) hO (Ls := #[.val (.ref t)]) (fun m => by first | (simp [entryFrame, mkF, argsToLocals, Value.category]; done) | rfl) (fun κ T0 w0 hnm => ?_)
  refine W.aloadN w0 od_28_0 (pc' := 1) rfl rfl rfl ?_
  refine W.alen w0 V_t od_28_1 (pc' := 2) rfl ?_
  refine W.iconst w0 od_28_2 (pc' := 3) rfl (z := (1 : Int32)) rfl ?_
  refine W.ishr w0 od_28_3 (pc' := 4) rfl (z := (Int32.ofNat (cs.length))) (shr1 (by omega)) ?_
  exact W.retI w0 rfl od_28_4 (M' := []) mN (by decide) (by decide) ⟨rfl, rfl, rfl⟩
set_option maxRecDepth 65536 in
set_option maxHeartbeats 40000000 in
theorem c_uck {l : Launch} {Z : State} {a0 : Array Value} (hw : HW Z a0) {h0 : Heap} {t : Addr} {k : ClassId} {cs : List Int32} (V_t : Arv Z h0 t k .byte (Int32.ofNat (2 * cs.length)) (by16 cs) (.int 0)) (hn : cs.length ≤ 100) {i : Nat} (hi : i < cs.length) (hO : Old Z Z.heap.size h0) : Ctr l Z EL0 nw0 ({ cls := "java/lang/StringUTF16", name := "checkIndex", desc := "(I[B)V" } : Jvm.MethodName) jdk_52_method_91_code 2 none ({ frames := 2, cells := 0, slots := 0, locals := 27 } : Room) [.int (Int32.ofNat i), .ref t] h0 [] (fun v h M' => v = none ∧ M' = [] ∧ h = h0) := by
  refine of_body (a0 := a0) opn_3 (own_ew hw) hO (Ls := #[.val (.int (Int32.ofNat (i))), .val (.ref t)]) (fun m => by first | (simp [entryFrame, mkF, argsToLocals, Value.category]; done) | rfl) (fun κ T0 w0 hnm => ?_)
  refine W.iloadN w0 od_27_0 (pc' := 1) rfl rfl ?_
  refine W.aloadN w0 od_27_1 (pc' := 2) rfl rfl rfl ?_
  refine W.callS w0 (ow_113 hw) (ow_114 hw) (ow_23 hw) (ow_115 hw) (by decide) opd_1 (Ctr.pay (c_ulen hw V_t hn w0.old) (own_ew hw) (ow_115 hw) (ow_23 hw) (kf := 1) (kl := 12) (by decide) (by decide)) mN od_27_2 (pc' := 5) rfl rfl rfl (rest := [(.int (Int32.ofNat (i)))]) rfl (Wd := 1) rfl (by decide) (by decide) (by decide) (by decide) fun v3 T1 h2 M4 w5 q6 => ?_
  obtain ⟨rfl, rfl, e7⟩ := q6
  obtain rfl := e7.symm
  show Go Z _ _ _ κ _ (T1.setTop (mkF (km κ) 5 #[.val (.int (Int32.ofNat (i))), .val (.ref t)] [(.int (Int32.ofNat (cs.length))), (.int (Int32.ofNat (i)))]))
  refine W.callS w5 (ow_116 hw) (ow_68 hw) (ow_9 hw) (ow_69 hw) (by decide) opd_2 (Ctr.pay (c_sck hw hi (by omega) w5.old) (own_ew hw) (ow_69 hw) (ow_9 hw) (kf := 2) (kl := 27) (by decide) (by decide)) mN od_27_5 (pc' := 8) rfl rfl rfl (rest := []) rfl (Wd := 0) rfl (by decide) (by decide) (by decide) (by decide) fun v10 T8 h9 M11 w12 q13 => ?_
  obtain ⟨rfl, rfl, e14⟩ := q13
  obtain rfl := e14.symm
  show Go Z _ _ _ κ _ (T8.setTop (mkF (km κ) 8 #[.val (.int (Int32.ofNat (i))), .val (.ref t)] []))
  exact W.ret0 w12 rfl od_27_8 (M' := []) mN (by decide) (by decide) ⟨rfl, rfl, rfl⟩
set_option maxRecDepth 65536 in
set_option maxHeartbeats 40000000 in
theorem c_getChar {l : Launch} {Z : State} {a0 : Array Value} (hw : HW Z a0) {h0 : Heap} {t : Addr} {k : ClassId} {cs : List Int32} (V_t : Arv Z h0 t k .byte (Int32.ofNat (2 * cs.length)) (by16 cs) (.int 0)) (hn : cs.length ≤ 100) {i : Nat} (hi : i < cs.length) (h16 : ∀ c ∈ cs, chr16 c) (hO : Old Z Z.heap.size h0) : Ctr l Z EL0 nw0 ({ cls := "java/lang/StringUTF16", name := "getChar", desc := "([BI)C" } : Jvm.MethodName) jdk_52_method_5_code 2 (some .char) ({ frames := 0, cells := 0, slots := 0, locals := 0 } : Room) [.ref t, .int (Int32.ofNat i)] h0 [] (fun v h M' => v = some (.int (cs.getD i 0)) ∧ M' = [] ∧ h = h0) := by
  refine of_body (a0 := a0) opn_4 (own_ew hw) hO (Ls := #[.val (.ref t), .val (.int (Int32.ofNat (i)))]) (fun m => by first | (simp [entryFrame, mkF, argsToLocals, Value.category]; done) | rfl) (fun κ T0 w0 hnm => ?_)
  refine W.getS w0 (ow_101 hw) Via.refl (hw.2.2.1.ext w0.old.2) od_25_0 (pc' := 3) rfl fun T1 w2 => ?_
  refine W.ifYes w2 od_25_3 (pc' := 28) (by decide) (by decide) ((if0 _ _).trans (feq (by decide : ¬ ((1 : Int32) = (0 : Int32)))).2) ?_
  refine W.iloadN w2 od_25_28 (pc' := 29) rfl rfl ?_
  refine W.iconst w2 od_25_29 (pc' := 30) rfl (z := (1 : Int32)) rfl ?_
  refine W.ishl w2 od_25_30 (pc' := 31) rfl (z := (Int32.ofNat (2 * i))) (shl1 _) ?_
  refine W.istoreN w2 od_25_31 (pc' := 32) rfl (Ls' := #[.val (.ref t), .val (.int (Int32.ofNat (2 * i)))]) rfl ?_
  refine W.aloadN w2 od_25_32 (pc' := 33) rfl rfl rfl ?_
  refine W.iloadN w2 od_25_33 (pc' := 34) rfl rfl ?_
  refine W.iinc w2 od_25_34 (pc' := 37) rfl (z := (Int32.ofNat (2 * i + 1))) (n_add _ 1) (Ls' := #[.val (.ref t), .val (.int (Int32.ofNat (2 * i + 1)))]) rfl rfl ?_
  refine W.ldB w2 V_t ⟨n_nn (by omega), (n_lt (by omega) (by omega)).mpr (by omega)⟩ (v := (.int (lo8 (cs.getD i 0)))) (by rw [n_nat (by omega)]; exact by16_get0 hi _) od_25_37 (pc' := 38) rfl ?_
  refine W.sipush w2 od_25_38 (pc' := 41) rfl (z := (255 : Int32)) rfl ?_
  refine W.iand w2 od_25_41 (pc' := 42) rfl (z := ((lo8 (cs.getD i 0)) &&& (255 : Int32))) rfl ?_
  refine W.getS w2 (ow_102 hw) Via.refl (hw.2.2.2.1.ext w2.old.2) od_25_42 (pc' := 45) rfl fun T3 w4 => ?_
  refine W.ishl w4 od_25_45 (pc' := 46) rfl (z := ((lo8 (cs.getD i 0)) &&& (255 : Int32))) (shl00 _) ?_
  refine W.aloadN w4 od_25_46 (pc' := 47) rfl rfl rfl ?_
  refine W.iloadN w4 od_25_47 (pc' := 48) rfl rfl ?_
  refine W.ldB w4 V_t ⟨n_nn (by omega), (n_lt (by omega) (by omega)).mpr (by omega)⟩ (v := (.int (hi8 (cs.getD i 0)))) (by rw [n_nat (by omega)]; exact by16_get1 hi _) od_25_48 (pc' := 49) rfl ?_
  refine W.sipush w4 od_25_49 (pc' := 52) rfl (z := (255 : Int32)) rfl ?_
  refine W.iand w4 od_25_52 (pc' := 53) rfl (z := ((hi8 (cs.getD i 0)) &&& (255 : Int32))) rfl ?_
  refine W.getS w4 (ow_103 hw) Via.refl (hw.2.2.2.2.ext w4.old.2) od_25_53 (pc' := 56) rfl fun T5 w6 => ?_
  refine W.ishl w6 od_25_56 (pc' := 57) rfl (z := (((hi8 (cs.getD i 0)) &&& (255 : Int32)) <<< ((8 : Int32) &&& 31))) rfl ?_
  refine W.ior w6 od_25_57 (pc' := 58) rfl (z := (((lo8 (cs.getD i 0)) &&& (255 : Int32)) ||| (((hi8 (cs.getD i 0)) &&& (255 : Int32)) <<< ((8 : Int32) &&& 31)))) rfl ?_
  refine W.i2c w6 od_25_58 (pc' := 59) rfl (z := (cs.getD i 0)) (u16_get2 (h16 _ (getD_mem hi))) ?_
  exact W.retN w6 (t := .char) (z' := (cs.getD i 0)) rfl (nar_16 (h16 _ (getD_mem hi))) (by simp) od_25_59 (M' := []) mN (by decide) (by decide) ⟨rfl, rfl, rfl⟩
set_option maxRecDepth 65536 in
set_option maxHeartbeats 40000000 in
theorem c_uchr {l : Launch} {Z : State} {a0 : Array Value} (hw : HW Z a0) {h0 : Heap} {t : Addr} {k : ClassId} {cs : List Int32} (V_t : Arv Z h0 t k .byte (Int32.ofNat (2 * cs.length)) (by16 cs) (.int 0)) (hn : cs.length ≤ 100) {i : Nat} (hi : i < cs.length) (h16 : ∀ c ∈ cs, chr16 c) (hO : Old Z Z.heap.size h0) : Ctr l Z EL0 nw0 ({ cls := "java/lang/StringUTF16", name := "charAt", desc := "([BI)C" } : Jvm.MethodName) jdk_52_method_83_code 2 (some .char) ({ frames := 3, cells := 0, slots := 0, locals := 40 } : Room) [.ref t, .int (Int32.ofNat i)] h0 [] (fun v h M' => v = some (.int (cs.getD i 0)) ∧ M' = [] ∧ h = h0) := by
  refine of_body (a0 := a0) opn_5 (own_ew hw) hO (Ls := #[.val (.ref t), .val (.int (Int32.ofNat (i)))]) (fun m => by first | (simp [entryFrame, mkF, argsToLocals, Value.category]; done) | rfl) (fun κ T0 w0 hnm => ?_)
  refine W.iloadN w0 od_26_0 (pc' := 1) rfl rfl ?_
  refine W.aloadN w0 od_26_1 (pc' := 2) rfl rfl rfl ?_
  refine W.callS w0 (ow_110 hw) (ow_111 hw) (ow_23 hw) (ow_112 hw) (by decide) opd_3 (Ctr.pay (c_uck hw V_t hn hi w0.old) (own_ew hw) (ow_112 hw) (ow_23 hw) (kf := 3) (kl := 40) (by decide) (by decide)) mN od_26_2 (pc' := 5) rfl rfl rfl (rest := []) rfl (Wd := 0) rfl (by decide) (by decide) (by decide) (by decide) fun v3 T1 h2 M4 w5 q6 => ?_
  obtain ⟨rfl, rfl, e7⟩ := q6
  obtain rfl := e7.symm
  show Go Z _ _ _ κ _ (T1.setTop (mkF (km κ) 5 #[.val (.ref t), .val (.int (Int32.ofNat (i)))] []))
  refine W.aloadN w5 od_26_5 (pc' := 6) rfl rfl rfl ?_
  refine W.iloadN w5 od_26_6 (pc' := 7) rfl rfl ?_
  refine W.callS w5 (ow_104 hw) (ow_105 hw) (ow_23 hw) (ow_106 hw) (by decide) opd_4 (Ctr.pay (c_getChar hw V_t hn hi h16 w5.old) (own_ew hw) (ow_106 hw) (ow_23 hw) (kf := 1) (kl := 13) (by decide) (by decide)) mN od_26_7 (pc' := 10) rfl rfl rfl (rest := []) rfl (Wd := 0) rfl (by decide) (by decide) (by decide) (by decide) fun v10 T8 h9 M11 w12 q13 => ?_
  obtain ⟨rfl, rfl, e14⟩ := q13
  obtain rfl := e14.symm
  show Go Z _ _ _ κ _ (T8.setTop (mkF (km κ) 10 #[.val (.ref t), .val (.int (Int32.ofNat (i)))] [(.int (cs.getD i 0))]))
  exact W.retN w12 (t := .char) (z' := (cs.getD i 0)) rfl (nar_16 (h16 _ (getD_mem hi))) (by simp) od_26_10 (M' := []) mN (by decide) (by decide) ⟨rfl, rfl, rfl⟩
set_option maxRecDepth 65536 in
set_option maxHeartbeats 40000000 in
theorem c_lchr {l : Launch} {Z : State} {a0 : Array Value} (hw : HW Z a0) {h0 : Heap} {t : Addr} {k : ClassId} {cs : List Int32} (V_t : Arv Z h0 t k .byte (Int32.ofNat cs.length) (by8 cs) (.int 0)) (hn : cs.length ≤ 100) {i : Nat} (hi : i < cs.length) (hlat : ∀ c ∈ cs, ¬ c < 0 ∧ ¬ (255 : Int32) < c) (hO : Old Z Z.heap.size h0) : Ctr l Z EL0 nw0 ({ cls := "java/lang/StringLatin1", name := "charAt", desc := "([BI)C" } : Jvm.MethodName) jdk_43_method_2_code 2 (some .char) ({ frames := 2, cells := 0, slots := 0, locals := 27 } : Room) [.ref t, .int (Int32.ofNat i)] h0 [] (fun v h M' => v = some (.int (cs.getD i 0)) ∧ M' = [] ∧ h = h0) := by
  refine of_body (a0 := a0) opn_6 (own_ew hw) hO (Ls := #[.val (.ref t), .val (.int (Int32.ofNat (i)))]) (fun m => by first | (simp [entryFrame, mkF, argsToLocals, Value.category]; done) | rfl) (fun κ T0 w0 hnm => ?_)
  refine W.iloadN w0 od_14_0 (pc' := 1) rfl rfl ?_
  refine W.aloadN w0 od_14_1 (pc' := 2) rfl rfl rfl ?_
  refine W.alen w0 V_t od_14_2 (pc' := 3) rfl ?_
  refine W.callS w0 (ow_67 hw) (ow_68 hw) (ow_9 hw) (ow_69 hw) (by decide) opd_2 (Ctr.pay (c_sck hw hi (by omega) w0.old) (own_ew hw) (ow_69 hw) (ow_9 hw) (kf := 2) (kl := 27) (by decide) (by decide)) mN od_14_3 (pc' := 6) rfl rfl rfl (rest := []) rfl (Wd := 0) rfl (by decide) (by decide) (by decide) (by decide) fun v3 T1 h2 M4 w5 q6 => ?_
  obtain ⟨rfl, rfl, e7⟩ := q6
  obtain rfl := e7.symm
  show Go Z _ _ _ κ _ (T1.setTop (mkF (km κ) 6 #[.val (.ref t), .val (.int (Int32.ofNat (i)))] []))
  refine W.aloadN w5 od_14_6 (pc' := 7) rfl rfl rfl ?_
  refine W.iloadN w5 od_14_7 (pc' := 8) rfl rfl ?_
  refine W.ldB w5 V_t ⟨n_nn (by omega), (n_lt (by omega) (by omega)).mpr (by omega)⟩ (v := (.int (cs.getD i 0).toInt8.toInt32)) (by rw [n_nat (by omega)]; exact by8_get hi _) od_14_8 (pc' := 9) rfl ?_
  refine W.sipush w5 od_14_9 (pc' := 12) rfl (z := (255 : Int32)) rfl ?_
  refine W.iand w5 od_14_12 (pc' := 13) rfl (z := ((cs.getD i 0).toInt8.toInt32 &&& (255 : Int32))) rfl ?_
  refine W.i2c w5 od_14_13 (pc' := 14) rfl (z := (cs.getD i 0)) (lch_get (hlat _ (getD_mem hi))) ?_
  exact W.retN w5 (t := .char) (z' := (cs.getD i 0)) rfl (nar_16 (lat_16 (hlat _ (getD_mem hi)))) (by simp) od_14_14 (M' := []) mN (by decide) (by decide) ⟨rfl, rfl, rfl⟩
set_option maxRecDepth 65536 in
set_option maxHeartbeats 40000000 in
theorem c_coder0 {l : Launch} {Z : State} {a0 : Array Value} (hw : HW Z a0) {h0 : Heap} {x : Addr} (F_c : Fld Z h0 x "java/lang/String" "coder" "B" (.int 0)) (hO : Old Z Z.heap.size h0) : Ctr l Z EL0 nw0 ({ cls := "java/lang/String", name := "coder", desc := "()B" } : Jvm.MethodName) jdk_42_method_152_code 1 (some .byte) ({ frames := 0, cells := 0, slots := 0, locals := 0 } : Room) [.ref x] h0 [] (fun v h M' => v = some (.int 0) ∧ M' = [] ∧ h = h0) := by
  refine of_body (a0 := a0) opn_7 (own_ew hw) hO (Ls := #[.val (.ref x)]) (fun m => by first | (simp [entryFrame, mkF, argsToLocals, Value.category]; done) | rfl) (fun κ T0 w0 hnm => ?_)
  obtain ⟨zC, SC, hzC⟩ := hw.2.1.1
  refine W.getS w0 (ow_20 hw) Via.refl (SC.ext w0.old.2) od_10_0 (pc' := 3) rfl fun T1 w2 => ?_
  refine W.ifNo w2 od_10_3 (pc' := 6) rfl ((if0 _ _).trans (feq hzC).1) ?_
  refine W.aloadN w2 od_10_6 (pc' := 7) rfl rfl rfl ?_
  refine W.getF w2 (host := "") (Or.inl (ow_32 hw)) Via.refl F_c od_10_7 (pc' := 10) rfl fun T3 w4 => ?_
  refine W.goto w4 od_10_10 (pc' := 14) (by decide) (by decide) ?_
  exact W.retN w4 (t := .byte) (z' := (0 : Int32)) rfl rfl (by simp) od_10_14 (M' := []) mN (by decide) (by decide) ⟨rfl, rfl, rfl⟩
set_option maxRecDepth 65536 in
set_option maxHeartbeats 40000000 in
theorem c_isl0 {l : Launch} {Z : State} {a0 : Array Value} (hw : HW Z a0) {h0 : Heap} {x : Addr} (F_c : Fld Z h0 x "java/lang/String" "coder" "B" (.int 0)) (hO : Old Z Z.heap.size h0) : Ctr l Z EL0 nw0 ({ cls := "java/lang/String", name := "isLatin1", desc := "()Z" } : Jvm.MethodName) jdk_42_method_154_code 1 (some .boolean) ({ frames := 0, cells := 0, slots := 0, locals := 0 } : Room) [.ref x] h0 [] (fun v h M' => v = some (.int 1) ∧ M' = [] ∧ h = h0) := by
  refine of_body (a0 := a0) opn_8 (own_ew hw) hO (Ls := #[.val (.ref x)]) (fun m => by first | (simp [entryFrame, mkF, argsToLocals, Value.category]; done) | rfl) (fun κ T0 w0 hnm => ?_)
  obtain ⟨zC, SC, hzC⟩ := hw.2.1.1
  refine W.getS w0 (ow_20 hw) Via.refl (SC.ext w0.old.2) od_13_0 (pc' := 3) rfl fun T1 w2 => ?_
  refine W.ifNo w2 od_13_3 (pc' := 6) rfl ((if0 _ _).trans (feq hzC).1) ?_
  refine W.aloadN w2 od_13_6 (pc' := 7) rfl rfl rfl ?_
  refine W.getF w2 (host := "") (Or.inl (ow_32 hw)) Via.refl F_c od_13_7 (pc' := 10) rfl fun T3 w4 => ?_
  refine W.ifNo w4 od_13_10 (pc' := 13) rfl ((if0 _ _).trans (teq (by decide : (0 : Int32) = (0 : Int32))).2) ?_
  refine W.iconst w4 od_13_13 (pc' := 14) rfl (z := (1 : Int32)) rfl ?_
  refine W.goto w4 od_13_14 (pc' := 18) (by decide) (by decide) ?_
  exact W.retN w4 (t := .boolean) (z' := (1 : Int32)) rfl rfl (by simp) od_13_18 (M' := []) mN (by decide) (by decide) ⟨rfl, rfl, rfl⟩
set_option maxRecDepth 65536 in
set_option maxHeartbeats 40000000 in
theorem c_coder1 {l : Launch} {Z : State} {a0 : Array Value} (hw : HW Z a0) {h0 : Heap} {x : Addr} (F_c : Fld Z h0 x "java/lang/String" "coder" "B" (.int 1)) (hO : Old Z Z.heap.size h0) : Ctr l Z EL0 nw0 ({ cls := "java/lang/String", name := "coder", desc := "()B" } : Jvm.MethodName) jdk_42_method_152_code 1 (some .byte) ({ frames := 0, cells := 0, slots := 0, locals := 0 } : Room) [.ref x] h0 [] (fun v h M' => v = some (.int 1) ∧ M' = [] ∧ h = h0) := by
  refine of_body (a0 := a0) opn_7 (own_ew hw) hO (Ls := #[.val (.ref x)]) (fun m => by first | (simp [entryFrame, mkF, argsToLocals, Value.category]; done) | rfl) (fun κ T0 w0 hnm => ?_)
  obtain ⟨zC, SC, hzC⟩ := hw.2.1.1
  refine W.getS w0 (ow_20 hw) Via.refl (SC.ext w0.old.2) od_10_0 (pc' := 3) rfl fun T1 w2 => ?_
  refine W.ifNo w2 od_10_3 (pc' := 6) rfl ((if0 _ _).trans (feq hzC).1) ?_
  refine W.aloadN w2 od_10_6 (pc' := 7) rfl rfl rfl ?_
  refine W.getF w2 (host := "") (Or.inl (ow_32 hw)) Via.refl F_c od_10_7 (pc' := 10) rfl fun T3 w4 => ?_
  refine W.goto w4 od_10_10 (pc' := 14) (by decide) (by decide) ?_
  exact W.retN w4 (t := .byte) (z' := (1 : Int32)) rfl rfl (by simp) od_10_14 (M' := []) mN (by decide) (by decide) ⟨rfl, rfl, rfl⟩
set_option maxRecDepth 65536 in
set_option maxHeartbeats 40000000 in
theorem c_isl1 {l : Launch} {Z : State} {a0 : Array Value} (hw : HW Z a0) {h0 : Heap} {x : Addr} (F_c : Fld Z h0 x "java/lang/String" "coder" "B" (.int 1)) (hO : Old Z Z.heap.size h0) : Ctr l Z EL0 nw0 ({ cls := "java/lang/String", name := "isLatin1", desc := "()Z" } : Jvm.MethodName) jdk_42_method_154_code 1 (some .boolean) ({ frames := 0, cells := 0, slots := 0, locals := 0 } : Room) [.ref x] h0 [] (fun v h M' => v = some (.int 0) ∧ M' = [] ∧ h = h0) := by
  refine of_body (a0 := a0) opn_8 (own_ew hw) hO (Ls := #[.val (.ref x)]) (fun m => by first | (simp [entryFrame, mkF, argsToLocals, Value.category]; done) | rfl) (fun κ T0 w0 hnm => ?_)
  obtain ⟨zC, SC, hzC⟩ := hw.2.1.1
  refine W.getS w0 (ow_20 hw) Via.refl (SC.ext w0.old.2) od_13_0 (pc' := 3) rfl fun T1 w2 => ?_
  refine W.ifNo w2 od_13_3 (pc' := 6) rfl ((if0 _ _).trans (feq hzC).1) ?_
  refine W.aloadN w2 od_13_6 (pc' := 7) rfl rfl rfl ?_
  refine W.getF w2 (host := "") (Or.inl (ow_32 hw)) Via.refl F_c od_13_7 (pc' := 10) rfl fun T3 w4 => ?_
  refine W.ifYes w4 od_13_10 (pc' := 17) (by decide) (by decide) ((if0 _ _).trans (feq (by decide : ¬ ((1 : Int32) = (0 : Int32)))).2) ?_
  refine W.iconst w4 od_13_17 (pc' := 18) rfl (z := (0 : Int32)) rfl ?_
  exact W.retN w4 (t := .boolean) (z' := (0 : Int32)) rfl rfl (by simp) od_13_18 (M' := []) mN (by decide) (by decide) ⟨rfl, rfl, rfl⟩
set_option maxRecDepth 65536 in
set_option maxHeartbeats 40000000 in
theorem c_len {l : Launch} {Z : State} {a0 : Array Value} (hw : HW Z a0) {h0 : Heap} {x t : Addr} {cs : List Int32} (F_x : StrU Z h0 x t cs) (hO : Old Z Z.heap.size h0) : Ctr l Z EL0 nw0 ({ cls := "java/lang/String", name := "length", desc := "()I" } : Jvm.MethodName) jdk_42_method_54_code 1 (some .int) ({ frames := 1, cells := 0, slots := 0, locals := 13 } : Room) [.ref x] h0 [] (fun v h M' => v = some (.int (Int32.ofNat cs.length)) ∧ M' = [] ∧ h = h0) := by
  refine of_body (a0 := a0) opn_9 (own_ew hw) hO (Ls := #[.val (.ref x)]) (fun m => by first | (simp [entryFrame, mkF, argsToLocals, Value.category]; done) | rfl) (fun κ T0 w0 hnm => ?_)
  obtain ⟨E_x, F_v, F_k, h16, hn⟩ := F_x
  rcases F_k with ⟨F_c, ⟨k, V_t⟩, hlat⟩ | ⟨F_c, k, V_t⟩
  · refine W.aloadN w0 od_9_0 (pc' := 1) rfl rfl rfl ?_
    refine W.getF w0 (host := "") (Or.inl (ow_34 hw)) Via.refl F_v od_9_1 (pc' := 4) rfl fun T1 w2 => ?_
    refine W.alen w2 V_t od_9_4 (pc' := 5) rfl ?_
    refine W.aloadN w2 od_9_5 (pc' := 6) rfl rfl rfl ?_
    refine W.callV w2 (ow_45 hw) (ow_46 hw) (nfSel (ow_48 hw)) (ow_48 hw) (ow_47 hw) (by decide) opd_5 E_x (Ctr.pay (c_coder0 hw F_c w2.old) (own_ew hw) (ow_49 hw) (ow_9 hw) (kf := 1) (kl := 12) (by decide) (by decide)) mN od_9_6 (pc' := 9) rfl rfl rfl (rest := [(.int (Int32.ofNat (cs.length)))]) rfl (Wd := 1) rfl (by decide) (by decide) (by decide) (by decide) fun v5 T3 h4 M6 w7 q8 => ?_
    obtain ⟨rfl, rfl, e9⟩ := q8
    obtain rfl := e9.symm
    show Go Z _ _ _ κ _ (T3.setTop (mkF (km κ) 9 #[.val (.ref x)] [(.int (0 : Int32)), (.int (Int32.ofNat (cs.length)))]))
    refine W.ishr w7 od_9_9 (pc' := 10) rfl (z := (Int32.ofNat (cs.length))) (shr00 _) ?_
    exact W.retI w7 rfl od_9_10 (M' := []) mN (by decide) (by decide) ⟨rfl, rfl, rfl⟩
  · refine W.aloadN w0 od_9_0 (pc' := 1) rfl rfl rfl ?_
    refine W.getF w0 (host := "") (Or.inl (ow_34 hw)) Via.refl F_v od_9_1 (pc' := 4) rfl fun T10 w11 => ?_
    refine W.alen w11 V_t od_9_4 (pc' := 5) rfl ?_
    refine W.aloadN w11 od_9_5 (pc' := 6) rfl rfl rfl ?_
    refine W.callV w11 (ow_45 hw) (ow_46 hw) (nfSel (ow_48 hw)) (ow_48 hw) (ow_47 hw) (by decide) opd_5 E_x (Ctr.pay (c_coder1 hw F_c w11.old) (own_ew hw) (ow_49 hw) (ow_9 hw) (kf := 1) (kl := 12) (by decide) (by decide)) mN od_9_6 (pc' := 9) rfl rfl rfl (rest := [(.int (Int32.ofNat (2 * cs.length)))]) rfl (Wd := 1) rfl (by decide) (by decide) (by decide) (by decide) fun v14 T12 h13 M15 w16 q17 => ?_
    obtain ⟨rfl, rfl, e18⟩ := q17
    obtain rfl := e18.symm
    show Go Z _ _ _ κ _ (T12.setTop (mkF (km κ) 9 #[.val (.ref x)] [(.int (1 : Int32)), (.int (Int32.ofNat (2 * cs.length)))]))
    refine W.ishr w16 od_9_9 (pc' := 10) rfl (z := (Int32.ofNat (cs.length))) (shr1 (by omega)) ?_
    exact W.retI w16 rfl od_9_10 (M' := []) mN (by decide) (by decide) ⟨rfl, rfl, rfl⟩
set_option maxRecDepth 65536 in
set_option maxHeartbeats 40000000 in
theorem c_chr {l : Launch} {Z : State} {a0 : Array Value} (hw : HW Z a0) {h0 : Heap} {x t : Addr} {cs : List Int32} (F_x : StrU Z h0 x t cs) {i : Nat} (hi : i < cs.length) (hO : Old Z Z.heap.size h0) : Ctr l Z EL0 nw0 ({ cls := "java/lang/String", name := "charAt", desc := "(I)C" } : Jvm.MethodName) jdk_42_method_56_code 2 (some .char) ({ frames := 4, cells := 0, slots := 0, locals := 53 } : Room) [.ref x, .int (Int32.ofNat i)] h0 [] (fun v h M' => v = some (.int (cs.getD i 0)) ∧ M' = [] ∧ h = h0) := by
  refine of_body (a0 := a0) opn_10 (own_ew hw) hO (Ls := #[.val (.ref x), .val (.int (Int32.ofNat (i)))]) (fun m => by first | (simp [entryFrame, mkF, argsToLocals, Value.category]; done) | rfl) (fun κ T0 w0 hnm => ?_)
  obtain ⟨E_x, F_v, F_k, h16, hn⟩ := F_x
  rcases F_k with ⟨F_c, ⟨k, V_t⟩, hlat⟩ | ⟨F_c, k, V_t⟩
  · refine W.aloadN w0 od_12_0 (pc' := 1) rfl rfl rfl ?_
    refine W.callV w0 (ow_58 hw) (ow_59 hw) (nfSel (ow_61 hw)) (ow_61 hw) (ow_60 hw) (by decide) opd_6 E_x (Ctr.pay (c_isl0 hw F_c w0.old) (own_ew hw) (ow_62 hw) (ow_9 hw) (kf := 1) (kl := 12) (by decide) (by decide)) mN od_12_1 (pc' := 4) rfl rfl rfl (rest := []) rfl (Wd := 0) rfl (by decide) (by decide) (by decide) (by decide) fun v3 T1 h2 M4 w5 q6 => ?_
    obtain ⟨rfl, rfl, e7⟩ := q6
    obtain rfl := e7.symm
    show Go Z _ _ _ κ _ (T1.setTop (mkF (km κ) 4 #[.val (.ref x), .val (.int (Int32.ofNat (i)))] [(.int (1 : Int32))]))
    refine W.ifNo w5 od_12_4 (pc' := 7) rfl ((if0 _ _).trans (feq (by decide : ¬ ((1 : Int32) = (0 : Int32)))).1) ?_
    refine W.aloadN w5 od_12_7 (pc' := 8) rfl rfl rfl ?_
    refine W.getF w5 (host := "") (Or.inl (ow_34 hw)) Via.refl F_v od_12_8 (pc' := 11) rfl fun T8 w9 => ?_
    refine W.iloadN w9 od_12_11 (pc' := 12) rfl rfl ?_
    refine W.callS w9 (ow_63 hw) (ow_64 hw) (ow_65 hw) (ow_66 hw) (by decide) opd_4 (Ctr.pay (c_lchr hw V_t hn hi hlat w9.old) (own_ew hw) (ow_66 hw) (ow_65 hw) (kf := 3) (kl := 40) (by decide) (by decide)) mN od_12_12 (pc' := 15) rfl rfl rfl (rest := []) rfl (Wd := 0) rfl (by decide) (by decide) (by decide) (by decide) fun v12 T10 h11 M13 w14 q15 => ?_
    obtain ⟨rfl, rfl, e16⟩ := q15
    obtain rfl := e16.symm
    show Go Z _ _ _ κ _ (T10.setTop (mkF (km κ) 15 #[.val (.ref x), .val (.int (Int32.ofNat (i)))] [(.int (cs.getD i 0))]))
    exact W.retN w14 (t := .char) (z' := (cs.getD i 0)) rfl (nar_16 (h16 _ (getD_mem hi))) (by simp) od_12_15 (M' := []) mN (by decide) (by decide) ⟨rfl, rfl, rfl⟩
  · refine W.aloadN w0 od_12_0 (pc' := 1) rfl rfl rfl ?_
    refine W.callV w0 (ow_58 hw) (ow_59 hw) (nfSel (ow_61 hw)) (ow_61 hw) (ow_60 hw) (by decide) opd_6 E_x (Ctr.pay (c_isl1 hw F_c w0.old) (own_ew hw) (ow_62 hw) (ow_9 hw) (kf := 1) (kl := 12) (by decide) (by decide)) mN od_12_1 (pc' := 4) rfl rfl rfl (rest := []) rfl (Wd := 0) rfl (by decide) (by decide) (by decide) (by decide) fun v19 T17 h18 M20 w21 q22 => ?_
    obtain ⟨rfl, rfl, e23⟩ := q22
    obtain rfl := e23.symm
    show Go Z _ _ _ κ _ (T17.setTop (mkF (km κ) 4 #[.val (.ref x), .val (.int (Int32.ofNat (i)))] [(.int (0 : Int32))]))
    refine W.ifYes w21 od_12_4 (pc' := 16) (by decide) (by decide) ((if0 _ _).trans (teq (by decide : (0 : Int32) = (0 : Int32))).1) ?_
    refine W.aloadN w21 od_12_16 (pc' := 17) rfl rfl rfl ?_
    refine W.getF w21 (host := "") (Or.inl (ow_34 hw)) Via.refl F_v od_12_17 (pc' := 20) rfl fun T24 w25 => ?_
    refine W.iloadN w25 od_12_20 (pc' := 21) rfl rfl ?_
    refine W.callS w25 (ow_107 hw) (ow_108 hw) (ow_23 hw) (ow_109 hw) (by decide) opd_4 (Ctr.pay (c_uchr hw V_t hn hi h16 w25.old) (own_ew hw) (ow_109 hw) (ow_23 hw) (kf := 4) (kl := 53) (by decide) (by decide)) mN od_12_21 (pc' := 24) rfl rfl rfl (rest := []) rfl (Wd := 0) rfl (by decide) (by decide) (by decide) (by decide) fun v28 T26 h27 M29 w30 q31 => ?_
    obtain ⟨rfl, rfl, e32⟩ := q31
    obtain rfl := e32.symm
    show Go Z _ _ _ κ _ (T26.setTop (mkF (km κ) 24 #[.val (.ref x), .val (.int (Int32.ofNat (i)))] [(.int (cs.getD i 0))]))
    exact W.retN w30 (t := .char) (z' := (cs.getD i 0)) rfl (nar_16 (h16 _ (getD_mem hi))) (by simp) od_12_24 (M' := []) mN (by decide) (by decide) ⟨rfl, rfl, rfl⟩
set_option maxRecDepth 65536 in
set_option maxHeartbeats 40000000 in
theorem c_hexd {l : Launch} {Z : State} {a0 : Array Value} (hw : HW Z a0) {h0 : Heap} {p0 : Int32} (hO : Old Z Z.heap.size h0) : Ctr l Z EL0 nw0 ({ cls := "com/example/vestledger/vestledger/ledger/HashChainIsHashPinLaw", name := "isHexDigit", desc := "(C)Z" } : Jvm.MethodName) method_3_code 1 (some .boolean) ({ frames := 0, cells := 0, slots := 0, locals := 0 } : Room) [.int p0] h0 [] (fun v h M' => ∃ z : Int32, v = some (.int z) ∧ M' = [] ∧ h = h0 ∧ ((z = 1 ∧ hexd p0) ∨ (z = 0 ∧ ¬ hexd p0))) := by
  refine of_body (a0 := a0) opn_11 (own_ew hw) hO (Ls := #[.val (.int p0)]) (fun m => by first | (simp [entryFrame, mkF, argsToLocals, Value.category]; done) | rfl) (fun κ T0 w0 hnm => ?_)
  refine W.iloadN w0 od_1_0 (pc' := 1) rfl rfl ?_
  refine W.bipush w0 od_1_1 (pc' := 3) rfl (z := (48 : Int32)) rfl ?_
  rcases Decidable.em (p0 < (48 : Int32)) with hc1 | hc1
  · refine W.icmpYes w0 od_1_3 (pc' := 14) (by decide) (by decide) (tlt hc1).1 ?_
    refine W.iloadN w0 od_1_14 (pc' := 15) rfl rfl ?_
    refine W.bipush w0 od_1_15 (pc' := 17) rfl (z := (97 : Int32)) rfl ?_
    rcases Decidable.em (p0 < (97 : Int32)) with hc2 | hc2
    · refine W.icmpYes w0 od_1_17 (pc' := 30) (by decide) (by decide) (tlt hc2).1 ?_
      refine W.iconst w0 od_1_30 (pc' := 31) rfl (z := (0 : Int32)) rfl ?_
      exact W.retN w0 (t := .boolean) (z' := (0 : Int32)) rfl rfl (by simp) od_1_31 (M' := []) mN (by decide) (by decide) ⟨_, rfl, rfl, rfl, Or.inr ⟨rfl, by unfold hexd; simp [hc1, hc2]⟩⟩
    · refine W.icmpNo w0 od_1_17 (pc' := 20) rfl (flt hc2).1 ?_
      refine W.iloadN w0 od_1_20 (pc' := 21) rfl rfl ?_
      refine W.bipush w0 od_1_21 (pc' := 23) rfl (z := (102 : Int32)) rfl ?_
      rcases Decidable.em ((102 : Int32) < p0) with hc3 | hc3
      · refine W.icmpYes w0 od_1_23 (pc' := 30) (by decide) (by decide) (tlt hc3).2.2.1 ?_
        refine W.iconst w0 od_1_30 (pc' := 31) rfl (z := (0 : Int32)) rfl ?_
        exact W.retN w0 (t := .boolean) (z' := (0 : Int32)) rfl rfl (by simp) od_1_31 (M' := []) mN (by decide) (by decide) ⟨_, rfl, rfl, rfl, Or.inr ⟨rfl, by unfold hexd; simp [hc1, hc2, hc3]⟩⟩
      · refine W.icmpNo w0 od_1_23 (pc' := 26) rfl (flt hc3).2.2.1 ?_
        refine W.iconst w0 od_1_26 (pc' := 27) rfl (z := (1 : Int32)) rfl ?_
        refine W.goto w0 od_1_27 (pc' := 31) (by decide) (by decide) ?_
        exact W.retN w0 (t := .boolean) (z' := (1 : Int32)) rfl rfl (by simp) od_1_31 (M' := []) mN (by decide) (by decide) ⟨_, rfl, rfl, rfl, Or.inl ⟨rfl, by unfold hexd; simp [hc1, hc2, hc3]⟩⟩
  · refine W.icmpNo w0 od_1_3 (pc' := 6) rfl (flt hc1).1 ?_
    refine W.iloadN w0 od_1_6 (pc' := 7) rfl rfl ?_
    refine W.bipush w0 od_1_7 (pc' := 9) rfl (z := (57 : Int32)) rfl ?_
    rcases Decidable.em ((57 : Int32) < p0) with hc4 | hc4
    · refine W.icmpYes w0 od_1_9 (pc' := 14) (by decide) (by decide) (tlt hc4).2.2.1 ?_
      refine W.iloadN w0 od_1_14 (pc' := 15) rfl rfl ?_
      refine W.bipush w0 od_1_15 (pc' := 17) rfl (z := (97 : Int32)) rfl ?_
      rcases Decidable.em (p0 < (97 : Int32)) with hc5 | hc5
      · refine W.icmpYes w0 od_1_17 (pc' := 30) (by decide) (by decide) (tlt hc5).1 ?_
        refine W.iconst w0 od_1_30 (pc' := 31) rfl (z := (0 : Int32)) rfl ?_
        exact W.retN w0 (t := .boolean) (z' := (0 : Int32)) rfl rfl (by simp) od_1_31 (M' := []) mN (by decide) (by decide) ⟨_, rfl, rfl, rfl, Or.inr ⟨rfl, by unfold hexd; simp [hc1, hc4, hc5]⟩⟩
      · refine W.icmpNo w0 od_1_17 (pc' := 20) rfl (flt hc5).1 ?_
        refine W.iloadN w0 od_1_20 (pc' := 21) rfl rfl ?_
        refine W.bipush w0 od_1_21 (pc' := 23) rfl (z := (102 : Int32)) rfl ?_
        rcases Decidable.em ((102 : Int32) < p0) with hc6 | hc6
        · refine W.icmpYes w0 od_1_23 (pc' := 30) (by decide) (by decide) (tlt hc6).2.2.1 ?_
          refine W.iconst w0 od_1_30 (pc' := 31) rfl (z := (0 : Int32)) rfl ?_
          exact W.retN w0 (t := .boolean) (z' := (0 : Int32)) rfl rfl (by simp) od_1_31 (M' := []) mN (by decide) (by decide) ⟨_, rfl, rfl, rfl, Or.inr ⟨rfl, by unfold hexd; simp [hc1, hc4, hc5, hc6]⟩⟩
        · refine W.icmpNo w0 od_1_23 (pc' := 26) rfl (flt hc6).2.2.1 ?_
          refine W.iconst w0 od_1_26 (pc' := 27) rfl (z := (1 : Int32)) rfl ?_
          refine W.goto w0 od_1_27 (pc' := 31) (by decide) (by decide) ?_
          exact W.retN w0 (t := .boolean) (z' := (1 : Int32)) rfl rfl (by simp) od_1_31 (M' := []) mN (by decide) (by decide) ⟨_, rfl, rfl, rfl, Or.inl ⟨rfl, by unfold hexd; simp [hc1, hc4, hc5, hc6]⟩⟩
    · refine W.icmpNo w0 od_1_9 (pc' := 12) rfl (flt hc4).2.2.1 ?_
      refine W.iconst w0 od_1_12 (pc' := 13) rfl (z := (1 : Int32)) rfl ?_
      exact W.retN w0 (t := .boolean) (z' := (1 : Int32)) rfl rfl (by simp) od_1_13 (M' := []) mN (by decide) (by decide) ⟨_, rfl, rfl, rfl, Or.inl ⟨rfl, by unfold hexd; simp [hc1, hc4]⟩⟩
set_option maxRecDepth 65536 in
set_option maxHeartbeats 40000000 in
theorem c_areD {l : Launch} {Z : State} {a0 : Array Value} (hw : HW Z a0) {h0 : Heap} {x t : Addr} {cs : List Int32} (F_x : StrU Z h0 x t cs) (h64 : cs.length = 64) (hO : Old Z Z.heap.size h0) : Ctr l Z EL0 nw0 ({ cls := "com/example/vestledger/vestledger/ledger/HashChain", name := "areDigits", desc := "(Ljava/lang/String;I)Z" } : Jvm.MethodName) prog_8_method_7_code 4 (some .boolean) ({ frames := 5, cells := 0, slots := 0, locals := 66 } : Room) [.ref x, .int 0] h0 [] (fun v h M' => ∃ z : Int32, v = some (.int z) ∧ M' = [] ∧ h = h0 ∧ ((z = 1 ∧ ∀ c ∈ cs, hexd c) ∨ (z = 0 ∧ ¬ ∀ c ∈ cs, hexd c))) := by
  refine of_body (a0 := a0) opn_12 (own_ew hw) hO (Ls := #[.val (.ref x), .val (.int (0 : Int32)), .unset, .unset]) (fun m => by first | (simp [entryFrame, mkF, argsToLocals, Value.category]; done) | rfl) (fun κ T0 w0 hnm => ?_)
  refine W.iloadN w0 od_11_0 (pc' := 1) rfl rfl ?_
  refine W.istoreN w0 od_11_1 (pc' := 2) rfl (Ls' := #[.val (.ref x), .val (.int (0 : Int32)), .val (.int (0 : Int32)), .unset]) rfl ?_
  have loop : ∀ (m i : Nat) (T : State) (s3 : Slot), s3 = .unset ∨ (∃ z, s3 = .val (.int z)) → i + m = 64 → (∀ j, j < i → hexd (cs.getD j 0)) → W l Z a0 EL0 nw0 "com/example/vestledger/vestledger/ledger/HashChain" prog_8_method_7_code 4 (some .boolean) ({ frames := 5, cells := 0, slots := 0, locals := 66 } : Room) κ T h0 [] 0 0 → Go Z EL0 nw0 ({ frames := 5, cells := 0, slots := 0, locals := 66 } : Room) κ (fun v h M' => ∃ z : Int32, v = some (.int z) ∧ M' = [] ∧ h = h0 ∧ ((z = 1 ∧ ∀ c ∈ cs, hexd c) ∨ (z = 0 ∧ ¬ ∀ c ∈ cs, hexd c))) (T.setTop (mkF (km κ) 2 #[.val (.ref x), .val (.int (0 : Int32)), .val (.int (Int32.ofNat (i))), s3] [])) := by
    intro m
    induction m with
    | zero =>
      intro i T s3 hs him hj w1
      refine W.iloadN w1 od_11_2 (pc' := 3) rfl rfl ?_
      refine W.iloadN w1 od_11_3 (pc' := 4) rfl rfl ?_
      refine W.bipush w1 od_11_4 (pc' := 6) rfl (z := (64 : Int32)) rfl ?_
      refine W.iadd w1 od_11_6 (pc' := 7) rfl (z := (64 : Int32)) rfl ?_
      refine W.icmpYes w1 od_11_7 (pc' := 48) (by decide) (by decide) (flt (show ¬ ((Int32.ofNat (i)) < (64 : Int32)) from fun hlt_ => absurd ((i_lt (n_val (a := i) (by omega)) (show (64 : Int32).toInt = 64 by decide)).mp hlt_) (by omega))).2.1 ?_
      refine W.iconst w1 od_11_48 (pc' := 49) rfl (z := (1 : Int32)) rfl ?_
      exact W.retN w1 (t := .boolean) (z' := (1 : Int32)) rfl rfl (by simp) od_11_49 (M' := []) mN (by decide) (by decide) ⟨_, rfl, rfl, rfl, Or.inl ⟨rfl, all_get (fun j hj' => hj j (by omega))⟩⟩
    | succ m ih =>
      intro i T s3 hs him hj w1
      have hi' : i < cs.length := by omega
      rcases hs with rfl | ⟨zz, rfl⟩
      · refine W.iloadN w1 od_11_2 (pc' := 3) rfl rfl ?_
        refine W.iloadN w1 od_11_3 (pc' := 4) rfl rfl ?_
        refine W.bipush w1 od_11_4 (pc' := 6) rfl (z := (64 : Int32)) rfl ?_
        refine W.iadd w1 od_11_6 (pc' := 7) rfl (z := (64 : Int32)) rfl ?_
        refine W.icmpNo w1 od_11_7 (pc' := 10) rfl (tlt (show (Int32.ofNat (i)) < (64 : Int32) from (i_lt (n_val (a := i) (by omega)) (show (64 : Int32).toInt = 64 by decide)).mpr (by omega))).2.1 ?_
        refine W.aloadN w1 od_11_10 (pc' := 11) rfl rfl rfl ?_
        refine W.iloadN w1 od_11_11 (pc' := 12) rfl rfl ?_
        refine W.callV w1 (ow_53 hw) (ow_54 hw) (nfSel (ow_56 hw)) (ow_56 hw) (ow_55 hw) (by decide) opd_7 F_x.1 (Ctr.pay (c_chr hw F_x hi' w1.old) (own_ew hw) (ow_57 hw) (ow_9 hw) (kf := 5) (kl := 66) (by decide) (by decide)) mN od_11_12 (pc' := 15) rfl rfl rfl (rest := []) rfl (Wd := 0) rfl (by decide) (by decide) (by decide) (by decide) fun v3 T1 h2 M4 w5 q6 => ?_
        obtain ⟨rfl, rfl, e7⟩ := q6
        obtain rfl := e7.symm
        show Go Z _ _ _ κ _ (T1.setTop (mkF (km κ) 15 #[.val (.ref x), .val (.int (0 : Int32)), .val (.int (Int32.ofNat (i))), .unset] [(.int (cs.getD i 0))]))
        refine W.istoreN w5 od_11_15 (pc' := 16) rfl (Ls' := #[.val (.ref x), .val (.int (0 : Int32)), .val (.int (Int32.ofNat (i))), .val (.int (cs.getD i 0))]) rfl ?_
        refine W.iloadN w5 od_11_16 (pc' := 17) rfl rfl ?_
        refine W.bipush w5 od_11_17 (pc' := 19) rfl (z := (48 : Int32)) rfl ?_
        rcases Decidable.em ((cs.getD i 0) < (48 : Int32)) with hc8 | hc8
        · refine W.icmpYes w5 od_11_19 (pc' := 28) (by decide) (by decide) (tlt hc8).1 ?_
          refine W.iloadN w5 od_11_28 (pc' := 29) rfl rfl ?_
          refine W.bipush w5 od_11_29 (pc' := 31) rfl (z := (97 : Int32)) rfl ?_
          rcases Decidable.em ((cs.getD i 0) < (97 : Int32)) with hc9 | hc9
          · refine W.icmpYes w5 od_11_31 (pc' := 40) (by decide) (by decide) (tlt hc9).1 ?_
            refine W.iconst w5 od_11_40 (pc' := 41) rfl (z := (0 : Int32)) rfl ?_
            exact W.retN w5 (t := .boolean) (z' := (0 : Int32)) rfl rfl (by simp) od_11_41 (M' := []) mN (by decide) (by decide) ⟨_, rfl, rfl, rfl, Or.inr ⟨rfl, fun q => absurd (q _ (getD_mem hi')) (by rintro (⟨q1, q2⟩ | ⟨q1, q2⟩) <;> first | exact absurd (by assumption) q1 | exact absurd (by assumption) q2)⟩⟩
          · refine W.icmpNo w5 od_11_31 (pc' := 34) rfl (flt hc9).1 ?_
            refine W.iloadN w5 od_11_34 (pc' := 35) rfl rfl ?_
            refine W.bipush w5 od_11_35 (pc' := 37) rfl (z := (102 : Int32)) rfl ?_
            rcases Decidable.em ((102 : Int32) < (cs.getD i 0)) with hc10 | hc10
            · refine W.icmpNo w5 od_11_37 (pc' := 40) rfl (tlt hc10).2.2.2 ?_
              refine W.iconst w5 od_11_40 (pc' := 41) rfl (z := (0 : Int32)) rfl ?_
              exact W.retN w5 (t := .boolean) (z' := (0 : Int32)) rfl rfl (by simp) od_11_41 (M' := []) mN (by decide) (by decide) ⟨_, rfl, rfl, rfl, Or.inr ⟨rfl, fun q => absurd (q _ (getD_mem hi')) (by rintro (⟨q1, q2⟩ | ⟨q1, q2⟩) <;> first | exact absurd (by assumption) q1 | exact absurd (by assumption) q2)⟩⟩
            · refine W.icmpYes w5 od_11_37 (pc' := 42) (by decide) (by decide) (flt hc10).2.2.2 ?_
              refine W.iinc w5 od_11_42 (pc' := 45) rfl (z := (Int32.ofNat (i + 1))) (n_add i 1) (Ls' := #[.val (.ref x), .val (.int (0 : Int32)), .val (.int (Int32.ofNat (i + 1))), .val (.int (cs.getD i 0))]) rfl rfl ?_
              refine W.goto w5 od_11_45 (pc' := 2) (by decide) (by decide) ?_
              have hx : hexd (cs.getD i 0) := by first | exact Or.inl ⟨by assumption, by assumption⟩ | exact Or.inr ⟨by assumption, by assumption⟩
              exact ih (i + 1) _ _ (Or.inr ⟨_, rfl⟩) (by omega) (fun j hj' => (Nat.lt_succ_iff_lt_or_eq.mp hj').elim (hj j) (fun q => q ▸ hx)) (w5.less mN)
        · refine W.icmpNo w5 od_11_19 (pc' := 22) rfl (flt hc8).1 ?_
          refine W.iloadN w5 od_11_22 (pc' := 23) rfl rfl ?_
          refine W.bipush w5 od_11_23 (pc' := 25) rfl (z := (57 : Int32)) rfl ?_
          rcases Decidable.em ((57 : Int32) < (cs.getD i 0)) with hc11 | hc11
          · refine W.icmpNo w5 od_11_25 (pc' := 28) rfl (tlt hc11).2.2.2 ?_
            refine W.iloadN w5 od_11_28 (pc' := 29) rfl rfl ?_
            refine W.bipush w5 od_11_29 (pc' := 31) rfl (z := (97 : Int32)) rfl ?_
            rcases Decidable.em ((cs.getD i 0) < (97 : Int32)) with hc12 | hc12
            · refine W.icmpYes w5 od_11_31 (pc' := 40) (by decide) (by decide) (tlt hc12).1 ?_
              refine W.iconst w5 od_11_40 (pc' := 41) rfl (z := (0 : Int32)) rfl ?_
              exact W.retN w5 (t := .boolean) (z' := (0 : Int32)) rfl rfl (by simp) od_11_41 (M' := []) mN (by decide) (by decide) ⟨_, rfl, rfl, rfl, Or.inr ⟨rfl, fun q => absurd (q _ (getD_mem hi')) (by rintro (⟨q1, q2⟩ | ⟨q1, q2⟩) <;> first | exact absurd (by assumption) q1 | exact absurd (by assumption) q2)⟩⟩
            · refine W.icmpNo w5 od_11_31 (pc' := 34) rfl (flt hc12).1 ?_
              refine W.iloadN w5 od_11_34 (pc' := 35) rfl rfl ?_
              refine W.bipush w5 od_11_35 (pc' := 37) rfl (z := (102 : Int32)) rfl ?_
              rcases Decidable.em ((102 : Int32) < (cs.getD i 0)) with hc13 | hc13
              · refine W.icmpNo w5 od_11_37 (pc' := 40) rfl (tlt hc13).2.2.2 ?_
                refine W.iconst w5 od_11_40 (pc' := 41) rfl (z := (0 : Int32)) rfl ?_
                exact W.retN w5 (t := .boolean) (z' := (0 : Int32)) rfl rfl (by simp) od_11_41 (M' := []) mN (by decide) (by decide) ⟨_, rfl, rfl, rfl, Or.inr ⟨rfl, fun q => absurd (q _ (getD_mem hi')) (by rintro (⟨q1, q2⟩ | ⟨q1, q2⟩) <;> first | exact absurd (by assumption) q1 | exact absurd (by assumption) q2)⟩⟩
              · refine W.icmpYes w5 od_11_37 (pc' := 42) (by decide) (by decide) (flt hc13).2.2.2 ?_
                refine W.iinc w5 od_11_42 (pc' := 45) rfl (z := (Int32.ofNat (i + 1))) (n_add i 1) (Ls' := #[.val (.ref x), .val (.int (0 : Int32)), .val (.int (Int32.ofNat (i + 1))), .val (.int (cs.getD i 0))]) rfl rfl ?_
                refine W.goto w5 od_11_45 (pc' := 2) (by decide) (by decide) ?_
                have hx : hexd (cs.getD i 0) := by first | exact Or.inl ⟨by assumption, by assumption⟩ | exact Or.inr ⟨by assumption, by assumption⟩
                exact ih (i + 1) _ _ (Or.inr ⟨_, rfl⟩) (by omega) (fun j hj' => (Nat.lt_succ_iff_lt_or_eq.mp hj').elim (hj j) (fun q => q ▸ hx)) (w5.less mN)
          · refine W.icmpYes w5 od_11_25 (pc' := 42) (by decide) (by decide) (flt hc11).2.2.2 ?_
            refine W.iinc w5 od_11_42 (pc' := 45) rfl (z := (Int32.ofNat (i + 1))) (n_add i 1) (Ls' := #[.val (.ref x), .val (.int (0 : Int32)), .val (.int (Int32.ofNat (i + 1))), .val (.int (cs.getD i 0))]) rfl rfl ?_
            refine W.goto w5 od_11_45 (pc' := 2) (by decide) (by decide) ?_
            have hx : hexd (cs.getD i 0) := by first | exact Or.inl ⟨by assumption, by assumption⟩ | exact Or.inr ⟨by assumption, by assumption⟩
            exact ih (i + 1) _ _ (Or.inr ⟨_, rfl⟩) (by omega) (fun j hj' => (Nat.lt_succ_iff_lt_or_eq.mp hj').elim (hj j) (fun q => q ▸ hx)) (w5.less mN)
      · refine W.iloadN w1 od_11_2 (pc' := 3) rfl rfl ?_
        refine W.iloadN w1 od_11_3 (pc' := 4) rfl rfl ?_
        refine W.bipush w1 od_11_4 (pc' := 6) rfl (z := (64 : Int32)) rfl ?_
        refine W.iadd w1 od_11_6 (pc' := 7) rfl (z := (64 : Int32)) rfl ?_
        refine W.icmpNo w1 od_11_7 (pc' := 10) rfl (tlt (show (Int32.ofNat (i)) < (64 : Int32) from (i_lt (n_val (a := i) (by omega)) (show (64 : Int32).toInt = 64 by decide)).mpr (by omega))).2.1 ?_
        refine W.aloadN w1 od_11_10 (pc' := 11) rfl rfl rfl ?_
        refine W.iloadN w1 od_11_11 (pc' := 12) rfl rfl ?_
        refine W.callV w1 (ow_53 hw) (ow_54 hw) (nfSel (ow_56 hw)) (ow_56 hw) (ow_55 hw) (by decide) opd_7 F_x.1 (Ctr.pay (c_chr hw F_x hi' w1.old) (own_ew hw) (ow_57 hw) (ow_9 hw) (kf := 5) (kl := 66) (by decide) (by decide)) mN od_11_12 (pc' := 15) rfl rfl rfl (rest := []) rfl (Wd := 0) rfl (by decide) (by decide) (by decide) (by decide) fun v16 T14 h15 M17 w18 q19 => ?_
        obtain ⟨rfl, rfl, e20⟩ := q19
        obtain rfl := e20.symm
        show Go Z _ _ _ κ _ (T14.setTop (mkF (km κ) 15 #[.val (.ref x), .val (.int (0 : Int32)), .val (.int (Int32.ofNat (i))), .val (.int zz)] [(.int (cs.getD i 0))]))
        refine W.istoreN w18 od_11_15 (pc' := 16) rfl (Ls' := #[.val (.ref x), .val (.int (0 : Int32)), .val (.int (Int32.ofNat (i))), .val (.int (cs.getD i 0))]) rfl ?_
        refine W.iloadN w18 od_11_16 (pc' := 17) rfl rfl ?_
        refine W.bipush w18 od_11_17 (pc' := 19) rfl (z := (48 : Int32)) rfl ?_
        rcases Decidable.em ((cs.getD i 0) < (48 : Int32)) with hc21 | hc21
        · refine W.icmpYes w18 od_11_19 (pc' := 28) (by decide) (by decide) (tlt hc21).1 ?_
          refine W.iloadN w18 od_11_28 (pc' := 29) rfl rfl ?_
          refine W.bipush w18 od_11_29 (pc' := 31) rfl (z := (97 : Int32)) rfl ?_
          rcases Decidable.em ((cs.getD i 0) < (97 : Int32)) with hc22 | hc22
          · refine W.icmpYes w18 od_11_31 (pc' := 40) (by decide) (by decide) (tlt hc22).1 ?_
            refine W.iconst w18 od_11_40 (pc' := 41) rfl (z := (0 : Int32)) rfl ?_
            exact W.retN w18 (t := .boolean) (z' := (0 : Int32)) rfl rfl (by simp) od_11_41 (M' := []) mN (by decide) (by decide) ⟨_, rfl, rfl, rfl, Or.inr ⟨rfl, fun q => absurd (q _ (getD_mem hi')) (by rintro (⟨q1, q2⟩ | ⟨q1, q2⟩) <;> first | exact absurd (by assumption) q1 | exact absurd (by assumption) q2)⟩⟩
          · refine W.icmpNo w18 od_11_31 (pc' := 34) rfl (flt hc22).1 ?_
            refine W.iloadN w18 od_11_34 (pc' := 35) rfl rfl ?_
            refine W.bipush w18 od_11_35 (pc' := 37) rfl (z := (102 : Int32)) rfl ?_
            rcases Decidable.em ((102 : Int32) < (cs.getD i 0)) with hc23 | hc23
            · refine W.icmpNo w18 od_11_37 (pc' := 40) rfl (tlt hc23).2.2.2 ?_
              refine W.iconst w18 od_11_40 (pc' := 41) rfl (z := (0 : Int32)) rfl ?_
              exact W.retN w18 (t := .boolean) (z' := (0 : Int32)) rfl rfl (by simp) od_11_41 (M' := []) mN (by decide) (by decide) ⟨_, rfl, rfl, rfl, Or.inr ⟨rfl, fun q => absurd (q _ (getD_mem hi')) (by rintro (⟨q1, q2⟩ | ⟨q1, q2⟩) <;> first | exact absurd (by assumption) q1 | exact absurd (by assumption) q2)⟩⟩
            · refine W.icmpYes w18 od_11_37 (pc' := 42) (by decide) (by decide) (flt hc23).2.2.2 ?_
              refine W.iinc w18 od_11_42 (pc' := 45) rfl (z := (Int32.ofNat (i + 1))) (n_add i 1) (Ls' := #[.val (.ref x), .val (.int (0 : Int32)), .val (.int (Int32.ofNat (i + 1))), .val (.int (cs.getD i 0))]) rfl rfl ?_
              refine W.goto w18 od_11_45 (pc' := 2) (by decide) (by decide) ?_
              have hx : hexd (cs.getD i 0) := by first | exact Or.inl ⟨by assumption, by assumption⟩ | exact Or.inr ⟨by assumption, by assumption⟩
              exact ih (i + 1) _ _ (Or.inr ⟨_, rfl⟩) (by omega) (fun j hj' => (Nat.lt_succ_iff_lt_or_eq.mp hj').elim (hj j) (fun q => q ▸ hx)) (w18.less mN)
        · refine W.icmpNo w18 od_11_19 (pc' := 22) rfl (flt hc21).1 ?_
          refine W.iloadN w18 od_11_22 (pc' := 23) rfl rfl ?_
          refine W.bipush w18 od_11_23 (pc' := 25) rfl (z := (57 : Int32)) rfl ?_
          rcases Decidable.em ((57 : Int32) < (cs.getD i 0)) with hc24 | hc24
          · refine W.icmpNo w18 od_11_25 (pc' := 28) rfl (tlt hc24).2.2.2 ?_
            refine W.iloadN w18 od_11_28 (pc' := 29) rfl rfl ?_
            refine W.bipush w18 od_11_29 (pc' := 31) rfl (z := (97 : Int32)) rfl ?_
            rcases Decidable.em ((cs.getD i 0) < (97 : Int32)) with hc25 | hc25
            · refine W.icmpYes w18 od_11_31 (pc' := 40) (by decide) (by decide) (tlt hc25).1 ?_
              refine W.iconst w18 od_11_40 (pc' := 41) rfl (z := (0 : Int32)) rfl ?_
              exact W.retN w18 (t := .boolean) (z' := (0 : Int32)) rfl rfl (by simp) od_11_41 (M' := []) mN (by decide) (by decide) ⟨_, rfl, rfl, rfl, Or.inr ⟨rfl, fun q => absurd (q _ (getD_mem hi')) (by rintro (⟨q1, q2⟩ | ⟨q1, q2⟩) <;> first | exact absurd (by assumption) q1 | exact absurd (by assumption) q2)⟩⟩
            · refine W.icmpNo w18 od_11_31 (pc' := 34) rfl (flt hc25).1 ?_
              refine W.iloadN w18 od_11_34 (pc' := 35) rfl rfl ?_
              refine W.bipush w18 od_11_35 (pc' := 37) rfl (z := (102 : Int32)) rfl ?_
              rcases Decidable.em ((102 : Int32) < (cs.getD i 0)) with hc26 | hc26
              · refine W.icmpNo w18 od_11_37 (pc' := 40) rfl (tlt hc26).2.2.2 ?_
                refine W.iconst w18 od_11_40 (pc' := 41) rfl (z := (0 : Int32)) rfl ?_
                exact W.retN w18 (t := .boolean) (z' := (0 : Int32)) rfl rfl (by simp) od_11_41 (M' := []) mN (by decide) (by decide) ⟨_, rfl, rfl, rfl, Or.inr ⟨rfl, fun q => absurd (q _ (getD_mem hi')) (by rintro (⟨q1, q2⟩ | ⟨q1, q2⟩) <;> first | exact absurd (by assumption) q1 | exact absurd (by assumption) q2)⟩⟩
              · refine W.icmpYes w18 od_11_37 (pc' := 42) (by decide) (by decide) (flt hc26).2.2.2 ?_
                refine W.iinc w18 od_11_42 (pc' := 45) rfl (z := (Int32.ofNat (i + 1))) (n_add i 1) (Ls' := #[.val (.ref x), .val (.int (0 : Int32)), .val (.int (Int32.ofNat (i + 1))), .val (.int (cs.getD i 0))]) rfl rfl ?_
                refine W.goto w18 od_11_45 (pc' := 2) (by decide) (by decide) ?_
                have hx : hexd (cs.getD i 0) := by first | exact Or.inl ⟨by assumption, by assumption⟩ | exact Or.inr ⟨by assumption, by assumption⟩
                exact ih (i + 1) _ _ (Or.inr ⟨_, rfl⟩) (by omega) (fun j hj' => (Nat.lt_succ_iff_lt_or_eq.mp hj').elim (hj j) (fun q => q ▸ hx)) (w18.less mN)
          · refine W.icmpYes w18 od_11_25 (pc' := 42) (by decide) (by decide) (flt hc24).2.2.2 ?_
            refine W.iinc w18 od_11_42 (pc' := 45) rfl (z := (Int32.ofNat (i + 1))) (n_add i 1) (Ls' := #[.val (.ref x), .val (.int (0 : Int32)), .val (.int (Int32.ofNat (i + 1))), .val (.int (cs.getD i 0))]) rfl rfl ?_
            refine W.goto w18 od_11_45 (pc' := 2) (by decide) (by decide) ?_
            have hx : hexd (cs.getD i 0) := by first | exact Or.inl ⟨by assumption, by assumption⟩ | exact Or.inr ⟨by assumption, by assumption⟩
            exact ih (i + 1) _ _ (Or.inr ⟨_, rfl⟩) (by omega) (fun j hj' => (Nat.lt_succ_iff_lt_or_eq.mp hj').elim (hj j) (fun q => q ▸ hx)) (w18.less mN)
  exact loop 64 0 _ _ (Or.inl rfl) (by omega) (fun j hj' => absurd hj' (by omega)) (w0.less mN)
set_option maxRecDepth 65536 in
set_option maxHeartbeats 40000000 in
theorem c_isHash {l : Launch} {Z : State} {a0 : Array Value} (hw : HW Z a0) {h0 : Heap} {x t : Addr} {cs : List Int32} (F_x : StrU Z h0 x t cs) (hO : Old Z Z.heap.size h0) : Ctr l Z EL0 nw0 ({ cls := "com/example/vestledger/vestledger/ledger/HashChain", name := "isHash", desc := "(Ljava/lang/String;)Z" } : Jvm.MethodName) prog_8_method_6_code 1 (some .boolean) ({ frames := 6, cells := 0, slots := 0, locals := 81 } : Room) [.ref x] h0 [] (fun v h M' => ∃ z : Int32, v = some (.int z) ∧ M' = [] ∧ h = h0 ∧ ((z = 1 ∧ cs.length = 64 ∧ ∀ c ∈ cs, hexd c) ∨ (z = 0 ∧ ¬ (cs.length = 64 ∧ ∀ c ∈ cs, hexd c)))) := by
  refine of_body (a0 := a0) opn_13 (own_ew hw) hO (Ls := #[.val (.ref x)]) (fun m => by first | (simp [entryFrame, mkF, argsToLocals, Value.category]; done) | rfl) (fun κ T0 w0 hnm => ?_)
  rcases Decidable.em (cs.length = 64) with h64 | h64
  · have hlx := F_x.2.2.2.2
    refine W.aloadN w0 od_8_0 (pc' := 1) rfl rfl rfl ?_
    refine W.callV w0 (ow_40 hw) (ow_41 hw) (nfSel (ow_43 hw)) (ow_43 hw) (ow_42 hw) (by decide) opd_8 F_x.1 (Ctr.pay (c_len hw F_x w0.old) (own_ew hw) (ow_44 hw) (ow_9 hw) (kf := 2) (kl := 25) (by decide) (by decide)) mN od_8_1 (pc' := 4) rfl rfl rfl (rest := []) rfl (Wd := 0) rfl (by decide) (by decide) (by decide) (by decide) fun v3 T1 h2 M4 w5 q6 => ?_
    obtain ⟨rfl, rfl, e7⟩ := q6
    obtain rfl := e7.symm
    show Go Z _ _ _ κ _ (T1.setTop (mkF (km κ) 4 #[.val (.ref x)] [(.int (Int32.ofNat (cs.length)))]))
    refine W.bipush w5 od_8_4 (pc' := 6) rfl (z := (64 : Int32)) rfl ?_
    refine W.icmpNo w5 od_8_6 (pc' := 9) rfl (teq (show (Int32.ofNat (cs.length)) = (64 : Int32) from (i_eq (n_val (a := cs.length) (by omega)) (show (64 : Int32).toInt = 64 by decide)).mpr (by omega))).2 ?_
    refine W.aloadN w5 od_8_9 (pc' := 10) rfl rfl rfl ?_
    refine W.iconst w5 od_8_10 (pc' := 11) rfl (z := (0 : Int32)) rfl ?_
    refine W.callS w5 (ow_50 hw) (ow_51 hw) (ow_38 hw) (ow_52 hw) (by decide) opd_9 (Ctr.pay (c_areD hw F_x h64 w5.old) (own_ew hw) (ow_52 hw) (ow_38 hw) (kf := 6) (kl := 81) (by decide) (by decide)) mN od_8_11 (pc' := 14) rfl rfl rfl (rest := []) rfl (Wd := 0) rfl (by decide) (by decide) (by decide) (by decide) fun v10 T8 h9 M11 w12 q13 => ?_
    obtain ⟨zd, rfl, rfl, ed, hd⟩ := q13
    obtain rfl := ed.symm
    show Go Z _ _ _ κ _ (T8.setTop (mkF (km κ) 14 #[.val (.ref x)] [(.int zd)]))
    rcases Decidable.em (zd = (0 : Int32)) with hc14 | hc14
    · refine W.ifYes w12 od_8_14 (pc' := 21) (by decide) (by decide) ((if0 _ _).trans (teq hc14).1) ?_
      refine W.iconst w12 od_8_21 (pc' := 22) rfl (z := (0 : Int32)) rfl ?_
      exact W.retN w12 (t := .boolean) (z' := (0 : Int32)) rfl rfl (by simp) od_8_22 (M' := []) mN (by decide) (by decide) ⟨_, rfl, rfl, rfl, Or.inr ⟨rfl, fun r => hd.elim (fun q => absurd (q.1.symm.trans hc14) (by decide)) (fun q => q.2 r.2)⟩⟩
    · refine W.ifNo w12 od_8_14 (pc' := 17) rfl ((if0 _ _).trans (feq hc14).1) ?_
      refine W.iconst w12 od_8_17 (pc' := 18) rfl (z := (1 : Int32)) rfl ?_
      refine W.goto w12 od_8_18 (pc' := 22) (by decide) (by decide) ?_
      exact W.retN w12 (t := .boolean) (z' := (1 : Int32)) rfl rfl (by simp) od_8_22 (M' := []) mN (by decide) (by decide) ⟨_, rfl, rfl, rfl, Or.inl ⟨rfl, h64, hd.elim (fun q => q.2) (fun q => absurd q.1 hc14)⟩⟩
  · have hlx := F_x.2.2.2.2
    refine W.aloadN w0 od_8_0 (pc' := 1) rfl rfl rfl ?_
    refine W.callV w0 (ow_40 hw) (ow_41 hw) (nfSel (ow_43 hw)) (ow_43 hw) (ow_42 hw) (by decide) opd_8 F_x.1 (Ctr.pay (c_len hw F_x w0.old) (own_ew hw) (ow_44 hw) (ow_9 hw) (kf := 2) (kl := 25) (by decide) (by decide)) mN od_8_1 (pc' := 4) rfl rfl rfl (rest := []) rfl (Wd := 0) rfl (by decide) (by decide) (by decide) (by decide) fun v17 T15 h16 M18 w19 q20 => ?_
    obtain ⟨rfl, rfl, e21⟩ := q20
    obtain rfl := e21.symm
    show Go Z _ _ _ κ _ (T15.setTop (mkF (km κ) 4 #[.val (.ref x)] [(.int (Int32.ofNat (cs.length)))]))
    refine W.bipush w19 od_8_4 (pc' := 6) rfl (z := (64 : Int32)) rfl ?_
    refine W.icmpYes w19 od_8_6 (pc' := 21) (by decide) (by decide) (feq (show ¬ ((Int32.ofNat (cs.length)) = (64 : Int32)) from fun hlt_ => absurd ((i_eq (n_val (a := cs.length) (by omega)) (show (64 : Int32).toInt = 64 by decide)).mp hlt_) (by omega))).2 ?_
    refine W.iconst w19 od_8_21 (pc' := 22) rfl (z := (0 : Int32)) rfl ?_
    exact W.retN w19 (t := .boolean) (z' := (0 : Int32)) rfl rfl (by simp) od_8_22 (M' := []) mN (by decide) (by decide) ⟨_, rfl, rfl, rfl, Or.inr ⟨rfl, fun q => h64 q.1⟩⟩
set_option maxRecDepth 65536 in
set_option maxHeartbeats 40000000 in
theorem c_cmp5 {l : Launch} {Z : State} {a0 : Array Value} (hw : HW Z a0) {h0 : Heap} {a : Addr} {ka : ClassId} {cs : List Int32} (V_a : Arv Z h0 a ka .char (Int32.ofNat cs.length) (cs.map Value.int) (.int (0 : Int32))) (hn : cs.length ≤ 100) (h16 : ∀ c ∈ cs, chr16 c) {b : Addr} {kb : ClassId} (V_b0 : Arv Z h0 b kb .byte (Int32.ofNat cs.length) (cpL cs 0) (.int 0)) (hab : a ≠ b) (hO : Old Z Z.heap.size h0) : Ctr l Z EL0 nw0 ({ cls := "java/lang/StringUTF16", name := "compress", desc := "([CI[BII)I" } : Jvm.MethodName) jdk_52_method_21_code 7 (some .int) ({ frames := 0, cells := 0, slots := 0, locals := 0 } : Room) [.ref a, .int 0, .ref b, .int 0, .int (Int32.ofNat cs.length)] h0 [b] (fun v h M' => ∃ j : Nat, v = some (.int (Int32.ofNat j)) ∧ M' = [] ∧ Keep h0 h [b] ∧ ((j = cs.length ∧ (∀ c ∈ cs, ¬ c < 0 ∧ ¬ (255 : Int32) < c) ∧ ∃ k, Arv Z h b k .byte (Int32.ofNat cs.length) (by8 cs) (.int 0)) ∨ (j < cs.length ∧ (255 : Int32) < cs.getD j 0))) := by
  refine of_body (a0 := a0) opn_14 (own_ew hw) hO (Ls := #[.val (.ref a), .val (.int (0 : Int32)), .val (.ref b), .val (.int (0 : Int32)), .val (.int (Int32.ofNat (cs.length))), .unset, .unset]) (fun m => by first | (simp [entryFrame, mkF, argsToLocals, Value.category]; done) | rfl) (fun κ T0 w0 hnm => ?_)
  refine W.iconst w0 od_6_0 (pc' := 1) rfl (z := (0 : Int32)) rfl ?_
  refine W.istore w0 od_6_1 (pc' := 3) rfl (Ls' := #[.val (.ref a), .val (.int (0 : Int32)), .val (.ref b), .val (.int (0 : Int32)), .val (.int (Int32.ofNat (cs.length))), .val (.int (0 : Int32)), .unset]) rfl ?_
  have loop : ∀ (m i : Nat) (T : State) (h : Heap) (s6 : Slot) (kb : ClassId), s6 = .unset ∨ (∃ z, s6 = .val (.int z)) → i + m = cs.length → (∀ j, j < i → ¬ (255 : Int32) < cs.getD j 0) → Keep h0 h [b] → Arv Z h b kb .byte (Int32.ofNat cs.length) (cpL cs i) (.int 0) → W l Z a0 EL0 nw0 "java/lang/StringUTF16" jdk_52_method_21_code 7 (some .int) ({ frames := 0, cells := 0, slots := 0, locals := 0 } : Room) κ T h [b] 0 0 → Go Z EL0 nw0 ({ frames := 0, cells := 0, slots := 0, locals := 0 } : Room) κ (fun v h M' => ∃ j : Nat, v = some (.int (Int32.ofNat j)) ∧ M' = [] ∧ Keep h0 h [b] ∧ ((j = cs.length ∧ (∀ c ∈ cs, ¬ c < 0 ∧ ¬ (255 : Int32) < c) ∧ ∃ k, Arv Z h b k .byte (Int32.ofNat cs.length) (by8 cs) (.int 0)) ∨ (j < cs.length ∧ (255 : Int32) < cs.getD j 0))) (T.setTop (mkF (km κ) 3 #[.val (.ref a), .val (.int (Int32.ofNat (i))), .val (.ref b), .val (.int (Int32.ofNat (i))), .val (.int (Int32.ofNat (cs.length))), .val (.int (Int32.ofNat (i))), s6] [])) := by
    intro m
    induction m with
    | zero =>
      intro i T h s6 kb hs him hj K0 V_b w1
      obtain rfl : i = cs.length := by omega
      have V_a1 := V_a.keep K0 (ninS hab nin0)
      refine W.iload w1 od_6_3 (pc' := 5) rfl rfl ?_
      refine W.iload w1 od_6_5 (pc' := 7) rfl rfl ?_
      refine W.icmpYes w1 od_6_7 (pc' := 44) (by decide) (by decide) (flt (show ¬ ((Int32.ofNat (cs.length)) < (Int32.ofNat (cs.length))) from fun hlt_ => absurd ((i_lt (n_val (a := cs.length) (by omega)) (n_val (a := cs.length) (by omega))).mp hlt_) (by omega))).2.1 ?_
      refine W.iload w1 od_6_44 (pc' := 46) rfl rfl ?_
      exact W.retI w1 rfl od_6_46 (M' := []) mN (by decide) (by decide) ⟨cs.length, rfl, rfl, K0, Or.inl ⟨rfl, fun c hc => ⟨(h16 c hc).1, all_get (P := fun c => ¬ (255 : Int32) < c) (fun j hj' => hj j hj') c hc⟩, _, by rw [cpL_end] at V_b; exact V_b⟩⟩
    | succ m ih =>
      intro i T h s6 kb hs him hj K0 V_b w1
      have hi : i < cs.length := by omega
      rcases hs with rfl | ⟨zz, rfl⟩
      · have V_a1 := V_a.keep K0 (ninS hab nin0)
        refine W.iload w1 od_6_3 (pc' := 5) rfl rfl ?_
        refine W.iload w1 od_6_5 (pc' := 7) rfl rfl ?_
        refine W.icmpNo w1 od_6_7 (pc' := 10) rfl (tlt (show (Int32.ofNat (i)) < (Int32.ofNat (cs.length)) from (i_lt (n_val (a := i) (by omega)) (n_val (a := cs.length) (by omega))).mpr (by omega))).2.1 ?_
        refine W.aloadN w1 od_6_10 (pc' := 11) rfl rfl rfl ?_
        refine W.iloadN w1 od_6_11 (pc' := 12) rfl rfl ?_
        refine W.ldC w1 V_a1 ⟨n_nn (by omega), (n_lt (by omega) (by omega)).mpr (by omega)⟩ (v := (.int (cs.getD i 0))) (by rw [n_nat (by omega)]; exact map_get hi _) od_6_12 (pc' := 13) rfl ?_
        refine W.istore w1 od_6_13 (pc' := 15) rfl (Ls' := #[.val (.ref a), .val (.int (Int32.ofNat (i))), .val (.ref b), .val (.int (Int32.ofNat (i))), .val (.int (Int32.ofNat (cs.length))), .val (.int (Int32.ofNat (i))), .val (.int (cs.getD i 0))]) rfl ?_
        refine W.iload w1 od_6_15 (pc' := 17) rfl rfl ?_
        refine W.sipush w1 od_6_17 (pc' := 20) rfl (z := (255 : Int32)) rfl ?_
        rcases Decidable.em ((255 : Int32) < (cs.getD i 0)) with hc1 | hc1
        · refine W.icmpNo w1 od_6_20 (pc' := 23) rfl (tlt hc1).2.2.2 ?_
          refine W.iload w1 od_6_23 (pc' := 25) rfl rfl ?_
          exact W.retI w1 rfl od_6_25 (M' := []) mN (by decide) (by decide) ⟨i, rfl, rfl, K0, Or.inr ⟨hi, hc1⟩⟩
        · refine W.icmpYes w1 od_6_20 (pc' := 26) (by decide) (by decide) (flt hc1).2.2.2 ?_
          refine W.aloadN w1 od_6_26 (pc' := 27) rfl rfl rfl ?_
          refine W.iloadN w1 od_6_27 (pc' := 28) rfl rfl ?_
          refine W.iload w1 od_6_28 (pc' := 30) rfl rfl ?_
          refine W.i2b w1 od_6_30 (pc' := 31) rfl (z := ((cs.getD i 0)).toInt8.toInt32) rfl ?_
          refine W.stB w1 (x' := (cs.getD i 0).toInt8.toInt32) (stb_nar _) V_b (i := i) (n_nat (by omega)) ⟨n_nn (by omega), (n_lt (by omega) (by omega)).mpr (by omega)⟩ (by rw [cpL_len (by omega)]; omega) mem0 od_6_31 (pc' := 32) rfl fun T2 h3 w4 K5 V6 => ?_
          rw [cpL_set hi] at V6
          refine W.iinc w4 od_6_32 (pc' := 35) rfl (z := (Int32.ofNat (i + 1))) (n_add _ 1) (Ls' := #[.val (.ref a), .val (.int (Int32.ofNat (i + 1))), .val (.ref b), .val (.int (Int32.ofNat (i))), .val (.int (Int32.ofNat (cs.length))), .val (.int (Int32.ofNat (i))), .val (.int (cs.getD i 0))]) rfl rfl ?_
          refine W.iinc w4 od_6_35 (pc' := 38) rfl (z := (Int32.ofNat (i + 1))) (n_add _ 1) (Ls' := #[.val (.ref a), .val (.int (Int32.ofNat (i + 1))), .val (.ref b), .val (.int (Int32.ofNat (i + 1))), .val (.int (Int32.ofNat (cs.length))), .val (.int (Int32.ofNat (i))), .val (.int (cs.getD i 0))]) rfl rfl ?_
          refine W.iinc w4 od_6_38 (pc' := 41) rfl (z := (Int32.ofNat (i + 1))) (n_add _ 1) (Ls' := #[.val (.ref a), .val (.int (Int32.ofNat (i + 1))), .val (.ref b), .val (.int (Int32.ofNat (i + 1))), .val (.int (Int32.ofNat (cs.length))), .val (.int (Int32.ofNat (i + 1))), .val (.int (cs.getD i 0))]) rfl rfl ?_
          refine W.goto w4 od_6_41 (pc' := 3) (by decide) (by decide) ?_
          exact ih (i + 1) _ _ _ _ (Or.inr ⟨_, rfl⟩) (by omega) (fun j hj' => (Nat.lt_succ_iff_lt_or_eq.mp hj').elim (hj j) (fun q => q ▸ hc1)) (K0.trans K5 (allS (Or.inl mem0) RoadKit.all0)) V6 w4
      · have V_a1 := V_a.keep K0 (ninS hab nin0)
        refine W.iload w1 od_6_3 (pc' := 5) rfl rfl ?_
        refine W.iload w1 od_6_5 (pc' := 7) rfl rfl ?_
        refine W.icmpNo w1 od_6_7 (pc' := 10) rfl (tlt (show (Int32.ofNat (i)) < (Int32.ofNat (cs.length)) from (i_lt (n_val (a := i) (by omega)) (n_val (a := cs.length) (by omega))).mpr (by omega))).2.1 ?_
        refine W.aloadN w1 od_6_10 (pc' := 11) rfl rfl rfl ?_
        refine W.iloadN w1 od_6_11 (pc' := 12) rfl rfl ?_
        refine W.ldC w1 V_a1 ⟨n_nn (by omega), (n_lt (by omega) (by omega)).mpr (by omega)⟩ (v := (.int (cs.getD i 0))) (by rw [n_nat (by omega)]; exact map_get hi _) od_6_12 (pc' := 13) rfl ?_
        refine W.istore w1 od_6_13 (pc' := 15) rfl (Ls' := #[.val (.ref a), .val (.int (Int32.ofNat (i))), .val (.ref b), .val (.int (Int32.ofNat (i))), .val (.int (Int32.ofNat (cs.length))), .val (.int (Int32.ofNat (i))), .val (.int (cs.getD i 0))]) rfl ?_
        refine W.iload w1 od_6_15 (pc' := 17) rfl rfl ?_
        refine W.sipush w1 od_6_17 (pc' := 20) rfl (z := (255 : Int32)) rfl ?_
        rcases Decidable.em ((255 : Int32) < (cs.getD i 0)) with hc7 | hc7
        · refine W.icmpNo w1 od_6_20 (pc' := 23) rfl (tlt hc7).2.2.2 ?_
          refine W.iload w1 od_6_23 (pc' := 25) rfl rfl ?_
          exact W.retI w1 rfl od_6_25 (M' := []) mN (by decide) (by decide) ⟨i, rfl, rfl, K0, Or.inr ⟨hi, hc7⟩⟩
        · refine W.icmpYes w1 od_6_20 (pc' := 26) (by decide) (by decide) (flt hc7).2.2.2 ?_
          refine W.aloadN w1 od_6_26 (pc' := 27) rfl rfl rfl ?_
          refine W.iloadN w1 od_6_27 (pc' := 28) rfl rfl ?_
          refine W.iload w1 od_6_28 (pc' := 30) rfl rfl ?_
          refine W.i2b w1 od_6_30 (pc' := 31) rfl (z := ((cs.getD i 0)).toInt8.toInt32) rfl ?_
          refine W.stB w1 (x' := (cs.getD i 0).toInt8.toInt32) (stb_nar _) V_b (i := i) (n_nat (by omega)) ⟨n_nn (by omega), (n_lt (by omega) (by omega)).mpr (by omega)⟩ (by rw [cpL_len (by omega)]; omega) mem0 od_6_31 (pc' := 32) rfl fun T8 h9 w10 K11 V12 => ?_
          rw [cpL_set hi] at V12
          refine W.iinc w10 od_6_32 (pc' := 35) rfl (z := (Int32.ofNat (i + 1))) (n_add _ 1) (Ls' := #[.val (.ref a), .val (.int (Int32.ofNat (i + 1))), .val (.ref b), .val (.int (Int32.ofNat (i))), .val (.int (Int32.ofNat (cs.length))), .val (.int (Int32.ofNat (i))), .val (.int (cs.getD i 0))]) rfl rfl ?_
          refine W.iinc w10 od_6_35 (pc' := 38) rfl (z := (Int32.ofNat (i + 1))) (n_add _ 1) (Ls' := #[.val (.ref a), .val (.int (Int32.ofNat (i + 1))), .val (.ref b), .val (.int (Int32.ofNat (i + 1))), .val (.int (Int32.ofNat (cs.length))), .val (.int (Int32.ofNat (i))), .val (.int (cs.getD i 0))]) rfl rfl ?_
          refine W.iinc w10 od_6_38 (pc' := 41) rfl (z := (Int32.ofNat (i + 1))) (n_add _ 1) (Ls' := #[.val (.ref a), .val (.int (Int32.ofNat (i + 1))), .val (.ref b), .val (.int (Int32.ofNat (i + 1))), .val (.int (Int32.ofNat (cs.length))), .val (.int (Int32.ofNat (i + 1))), .val (.int (cs.getD i 0))]) rfl rfl ?_
          refine W.goto w10 od_6_41 (pc' := 3) (by decide) (by decide) ?_
          exact ih (i + 1) _ _ _ _ (Or.inr ⟨_, rfl⟩) (by omega) (fun j hj' => (Nat.lt_succ_iff_lt_or_eq.mp hj').elim (hj j) (fun q => q ▸ hc7)) (K0.trans K11 (allS (Or.inl mem0) RoadKit.all0)) V12 w10
  exact loop cs.length 0 _ _ _ _ (Or.inl rfl) (by omega) (fun j hj' => absurd hj' (by omega)) (Keep.refl h0 [b]) V_b0 w0
set_option maxRecDepth 65536 in
set_option maxHeartbeats 40000000 in
theorem c_nbl {l : Launch} {Z : State} {a0 : Array Value} (hw : HW Z a0) {h0 : Heap} {n : Nat} (hn : n ≤ 100) (hO : Old Z Z.heap.size h0) : Ctr l Z EL0 nw0 ({ cls := "java/lang/StringUTF16", name := "newBytesLength", desc := "(I)I" } : Jvm.MethodName) jdk_52_method_3_code 1 (some .int) ({ frames := 0, cells := 0, slots := 0, locals := 0 } : Room) [.int (Int32.ofNat n)] h0 [] (fun v h M' => v = some (.int (Int32.ofNat (2 * n))) ∧ M' = [] ∧ h = h0) := by
  refine of_body (a0 := a0) opn_15 (own_ew hw) hO (Ls := #[.val (.int (Int32.ofNat (n)))]) (fun m => by first | (simp [entryFrame, mkF, argsToLocals, Value.category]; done) | rfl) (fun κ T0 w0 hnm => ?_)
  refine W.iloadN w0 od_23_0 (pc' := 1) rfl rfl ?_
  refine W.ifYes w0 od_23_1 (pc' := 12) (by decide) (by decide) ((if0 _ _).trans (flt (n_nn (by omega))).2.1) ?_
  refine W.iloadN w0 od_23_12 (pc' := 13) rfl rfl ?_
  refine W.ldcI w0 (ow_97 hw) od_23_13 (pc' := 15) rfl ?_
  refine W.icmpYes w0 od_23_15 (pc' := 55) (by decide) (by decide) (tlt (show Int32.ofNat n < (1073741823 : Int32) from (i_lt (n_val (a := n) (by omega)) (show (1073741823 : Int32).toInt = 1073741823 by decide)).mpr (by omega))).1 ?_
  refine W.iloadN w0 od_23_55 (pc' := 56) rfl rfl ?_
  refine W.iconst w0 od_23_56 (pc' := 57) rfl (z := (1 : Int32)) rfl ?_
  refine W.ishl w0 od_23_57 (pc' := 58) rfl (z := (Int32.ofNat (2 * n))) (shl1 _) ?_
  exact W.retI w0 rfl od_23_58 (M' := []) mN (by decide) (by decide) ⟨rfl, rfl, rfl⟩
set_option maxRecDepth 65536 in
set_option maxHeartbeats 40000000 in
theorem c_nbf {l : Launch} {Z : State} {a0 : Array Value} (hw : HW Z a0) {h0 : Heap} {n : Nat} (hn : n ≤ 100) (hO : Old Z Z.heap.size h0) : Ctr l Z EL0 nw0 ({ cls := "java/lang/StringUTF16", name := "newBytesFor", desc := "(I)[B" } : Jvm.MethodName) jdk_52_method_2_code 1 (some (.array .byte)) ({ frames := 1, cells := 1, slots := 200, locals := 12 } : Room) [.int (Int32.ofNat n)] h0 [] (fun v h M' => ∃ b, v = some (.ref b) ∧ M' = [b] ∧ Keep h0 h [] ∧ h0.size ≤ b ∧ ∃ k, Arv Z h b k .byte (Int32.ofNat (2 * n)) (List.replicate (2 * n) (.int 0)) (.int 0)) := by
  refine of_body (a0 := a0) opn_16 (own_ew hw) hO (Ls := #[.val (.int (Int32.ofNat (n)))]) (fun m => by first | (simp [entryFrame, mkF, argsToLocals, Value.category]; done) | rfl) (fun κ T0 w0 hnm => ?_)
  refine W.iloadN w0 od_22_0 (pc' := 1) rfl rfl ?_
  refine W.callS w0 (ow_94 hw) (ow_95 hw) (ow_23 hw) (ow_96 hw) (by decide) opd_10 (Ctr.pay (c_nbl hw hn w0.old) (own_ew hw) (ow_96 hw) (ow_23 hw) (kf := 1) (kl := 12) (by decide) (by decide)) mN od_22_1 (pc' := 4) rfl rfl rfl (rest := []) rfl (Wd := 0) rfl (by decide) (by decide) (by decide) (by decide) fun v3 T1 h2 M4 w5 q6 => ?_
  obtain ⟨rfl, rfl, e7⟩ := q6
  obtain rfl := e7.symm
  show Go Z _ _ _ κ _ (T1.setTop (mkF (km κ) 4 #[.val (.int (Int32.ofNat (n)))] [(.int (Int32.ofNat (2 * n)))]))
  refine W.newPE w5 (ty := .byte) rfl (ow_25 hw) (ad := "[B") (by decide) od_22_4 (pc' := 6) rfl (n_nn (a := 2 * n) (by omega)) (len := 2 * n) (n_nat (by omega)) (cap := 200) (by omega) (by decide) (by decide) (by decide) fun T8 h9 a10 k11 w12 K13 B14 V15 E16 => ?_
  have V17 : Arv Z h9 a10 k11 .byte (Int32.ofNat (2 * n)) (List.replicate (2 * n) (.int 0)) (.int 0) := V15
  have C18 := Keep.refl h0 []
  have C19 := C18.trans K13 RoadKit.all0
  exact W.retR w12 rfl rfl rfl od_22_6 (M' := [a10]) (mC mem0 mN) (by decide) (by decide) ⟨a10, rfl, rfl, C19, B14, _, V17⟩
set_option maxRecDepth 65536 in
set_option maxHeartbeats 40000000 in
theorem c_putChar {l : Launch} {Z : State} {a0 : Array Value} (hw : HW Z a0) {h0 : Heap} {t : Addr} {k : ClassId} {vs : List Value} {n i : Nat} {p : Int32} (V_t : Arv Z h0 t k .byte (Int32.ofNat (2 * n)) vs (.int 0)) (hl : vs.length = 2 * n) (hi : i < n) (hn : n ≤ 100) (hO : Old Z Z.heap.size h0) : Ctr l Z EL0 nw0 ({ cls := "java/lang/StringUTF16", name := "putChar", desc := "([BII)V" } : Jvm.MethodName) jdk_52_method_4_code 3 none ({ frames := 0, cells := 0, slots := 0, locals := 0 } : Room) [.ref t, .int (Int32.ofNat i), .int p] h0 [t] (fun v h M' => v = none ∧ M' = [] ∧ Keep h0 h [t] ∧ ∃ k, Arv Z h t k .byte (Int32.ofNat (2 * n)) ((vs.set (2 * i) (.int (lo8 p))).set (2 * i + 1) (.int (hi8 p))) (.int 0)) := by
  refine of_body (a0 := a0) opn_17 (own_ew hw) hO (Ls := #[.val (.ref t), .val (.int (Int32.ofNat (i))), .val (.int p)]) (fun m => by first | (simp [entryFrame, mkF, argsToLocals, Value.category]; done) | rfl) (fun κ T0 w0 hnm => ?_)
  refine W.getS w0 (ow_101 hw) Via.refl (hw.2.2.1.ext w0.old.2) od_24_0 (pc' := 3) rfl fun T1 w2 => ?_
  refine W.ifYes w2 od_24_3 (pc' := 28) (by decide) (by decide) ((if0 _ _).trans (feq (by decide : ¬ ((1 : Int32) = (0 : Int32)))).2) ?_
  refine W.iloadN w2 od_24_28 (pc' := 29) rfl rfl ?_
  refine W.iconst w2 od_24_29 (pc' := 30) rfl (z := (1 : Int32)) rfl ?_
  refine W.ishl w2 od_24_30 (pc' := 31) rfl (z := (Int32.ofNat (2 * i))) (shl1 _) ?_
  refine W.istoreN w2 od_24_31 (pc' := 32) rfl (Ls' := #[.val (.ref t), .val (.int (Int32.ofNat (2 * i))), .val (.int p)]) rfl ?_
  refine W.aloadN w2 od_24_32 (pc' := 33) rfl rfl rfl ?_
  refine W.iloadN w2 od_24_33 (pc' := 34) rfl rfl ?_
  refine W.iinc w2 od_24_34 (pc' := 37) rfl (z := (Int32.ofNat (2 * i + 1))) (n_add _ 1) (Ls' := #[.val (.ref t), .val (.int (Int32.ofNat (2 * i + 1))), .val (.int p)]) rfl rfl ?_
  refine W.iloadN w2 od_24_37 (pc' := 38) rfl rfl ?_
  refine W.getS w2 (ow_102 hw) Via.refl (hw.2.2.2.1.ext w2.old.2) od_24_38 (pc' := 41) rfl fun T3 w4 => ?_
  refine W.ishr w4 od_24_41 (pc' := 42) rfl (z := p) (shr00 _) ?_
  refine W.i2b w4 od_24_42 (pc' := 43) rfl (z := (p).toInt8.toInt32) rfl ?_
  refine W.stB w4 (x' := lo8 p) (lo8_nar _) V_t (i := 2 * i) (n_nat (by omega)) ⟨n_nn (by omega), (n_lt (by omega) (by omega)).mpr (by omega)⟩ (by omega) mem0 od_24_43 (pc' := 44) rfl fun T5 h6 w7 K8 V9 => ?_
  refine W.aloadN w7 od_24_44 (pc' := 45) rfl rfl rfl ?_
  refine W.iloadN w7 od_24_45 (pc' := 46) rfl rfl ?_
  refine W.iloadN w7 od_24_46 (pc' := 47) rfl rfl ?_
  refine W.getS w7 (ow_103 hw) Via.refl (hw.2.2.2.2.ext w7.old.2) od_24_47 (pc' := 50) rfl fun T10 w11 => ?_
  refine W.ishr w11 od_24_50 (pc' := 51) rfl (z := (p >>> ((8 : Int32) &&& 31))) rfl ?_
  refine W.i2b w11 od_24_51 (pc' := 52) rfl (z := ((p >>> ((8 : Int32) &&& 31))).toInt8.toInt32) rfl ?_
  refine W.stB w11 (x' := hi8 p) (hi8_nar _) V9 (i := 2 * i + 1) (n_nat (by omega)) ⟨n_nn (by omega), (n_lt (by omega) (by omega)).mpr (by omega)⟩ (by rw [List.length_set]; omega) mem0 od_24_52 (pc' := 53) rfl fun T12 h13 w14 K15 V16 => ?_
  have C17 := Keep.refl h0 [t]
  have C18 := C17.trans K8 (allS (Or.inl mem0) RoadKit.all0)
  have C19 := C18.trans K15 (allS (Or.inl mem0) RoadKit.all0)
  exact W.ret0 w14 rfl od_24_53 (M' := []) mN (by decide) (by decide) ⟨rfl, rfl, C19, ⟨_, V16⟩⟩
set_option maxRecDepth 65536 in
set_option maxHeartbeats 40000000 in
theorem c_toB {l : Launch} {Z : State} {a0 : Array Value} (hw : HW Z a0) {h0 : Heap} {a : Addr} {ka : ClassId} {cs : List Int32} (V_a : Arv Z h0 a ka .char (Int32.ofNat cs.length) (cs.map Value.int) (.int (0 : Int32))) (hn : cs.length ≤ 100) (h16 : ∀ c ∈ cs, chr16 c) (hO : Old Z Z.heap.size h0) : Ctr l Z EL0 nw0 ({ cls := "java/lang/StringUTF16", name := "toBytes", desc := "([CII)[B" } : Jvm.MethodName) jdk_52_method_14_code 5 (some (.array .byte)) ({ frames := 2, cells := 1, slots := 200, locals := 24 } : Room) [.ref a, .int 0, .int (Int32.ofNat cs.length)] h0 [] (fun v h M' => ∃ b, v = some (.ref b) ∧ M' = [] ∧ Keep h0 h [] ∧ h0.size ≤ b ∧ ∃ k, Arv Z h b k .byte (Int32.ofNat (2 * cs.length)) (by16 cs) (.int 0)) := by
  refine of_body (a0 := a0) opn_18 (own_ew hw) hO (Ls := #[.val (.ref a), .val (.int (0 : Int32)), .val (.int (Int32.ofNat (cs.length))), .unset, .unset]) (fun m => by first | (simp [entryFrame, mkF, argsToLocals, Value.category]; done) | rfl) (fun κ T0 w0 hnm => ?_)
  refine W.iloadN w0 od_21_0 (pc' := 1) rfl rfl ?_
  refine W.callS w0 (ow_91 hw) (ow_92 hw) (ow_23 hw) (ow_93 hw) (by decide) opd_11 (Ctr.pay (c_nbf hw hn w0.old) (own_ew hw) (ow_93 hw) (ow_23 hw) (kf := 2) (kl := 24) (by decide) (by decide)) mN od_21_1 (pc' := 4) rfl rfl rfl (rest := []) rfl (Wd := 0) rfl (by decide) (by decide) (by decide) (by decide) fun v3 T1 h2 M4 w5 q6 => ?_
  obtain ⟨a7, rfl, rfl, K8, B9, k10, V11⟩ := q6
  have ne12 : a ≠ a7 := neL V_a.lt B9
  show Go Z _ _ _ κ _ (T1.setTop (mkF (km κ) 4 #[.val (.ref a), .val (.int (0 : Int32)), .val (.int (Int32.ofNat (cs.length))), .unset, .unset] [(.ref a7)]))
  refine W.astoreN w5 od_21_4 (pc' := 5) rfl (Ls' := #[.val (.ref a), .val (.int (0 : Int32)), .val (.int (Int32.ofNat (cs.length))), .val (.ref a7), .unset]) rfl rfl ?_
  refine W.iconst w5 od_21_5 (pc' := 6) rfl (z := (0 : Int32)) rfl ?_
  refine W.istore w5 od_21_6 (pc' := 8) rfl (Ls' := #[.val (.ref a), .val (.int (0 : Int32)), .val (.int (Int32.ofNat (cs.length))), .val (.ref a7), .val (.int (0 : Int32))]) rfl ?_
  have loop : ∀ (m i : Nat) (T : State) (h : Heap) (kb : ClassId), i + m = cs.length → Keep h0 h [] → Arv Z h a7 kb .byte (Int32.ofNat (2 * cs.length)) (utL cs i) (.int 0) → W l Z a0 EL0 nw0 "java/lang/StringUTF16" jdk_52_method_14_code 5 (some (.array .byte)) ({ frames := 2, cells := 1, slots := 200, locals := 24 } : Room) κ T h [a7] 1 200 → Go Z EL0 nw0 ({ frames := 2, cells := 1, slots := 200, locals := 24 } : Room) κ (fun v h M' => ∃ b, v = some (.ref b) ∧ M' = [] ∧ Keep h0 h [] ∧ h0.size ≤ b ∧ ∃ k, Arv Z h b k .byte (Int32.ofNat (2 * cs.length)) (by16 cs) (.int 0)) (T.setTop (mkF (km κ) 8 #[.val (.ref a), .val (.int (Int32.ofNat (i))), .val (.int (Int32.ofNat (cs.length))), .val (.ref a7), .val (.int (Int32.ofNat (i)))] [])) := by
    intro m
    induction m with
    | zero =>
      intro i T h kb him K0 V_b w1
      obtain rfl : i = cs.length := by omega
      have V_a1 := V_a.keep K0 nin0
      refine W.iload w1 od_21_8 (pc' := 10) rfl rfl ?_
      refine W.iloadN w1 od_21_10 (pc' := 11) rfl rfl ?_
      refine W.icmpYes w1 od_21_11 (pc' := 32) (by decide) (by decide) (flt (show ¬ ((Int32.ofNat (cs.length)) < (Int32.ofNat (cs.length))) from fun hlt_ => absurd ((i_lt (n_val (a := cs.length) (by omega)) (n_val (a := cs.length) (by omega))).mp hlt_) (by omega))).2.1 ?_
      refine W.aloadN w1 od_21_32 (pc' := 33) rfl rfl rfl ?_
      exact W.retR w1 rfl rfl rfl od_21_33 (M' := []) mN (by decide) (by decide) ⟨a7, rfl, rfl, K0, B9, _, by rw [utL_end] at V_b; exact V_b⟩
    | succ m ih =>
      intro i T h kb him K0 V_b w1
      have hi : i < cs.length := by omega
      have V_a1 := V_a.keep K0 nin0
      refine W.iload w1 od_21_8 (pc' := 10) rfl rfl ?_
      refine W.iloadN w1 od_21_10 (pc' := 11) rfl rfl ?_
      refine W.icmpNo w1 od_21_11 (pc' := 14) rfl (tlt (show (Int32.ofNat (i)) < (Int32.ofNat (cs.length)) from (i_lt (n_val (a := i) (by omega)) (n_val (a := cs.length) (by omega))).mpr (by omega))).2.1 ?_
      refine W.aloadN w1 od_21_14 (pc' := 15) rfl rfl rfl ?_
      refine W.iload w1 od_21_15 (pc' := 17) rfl rfl ?_
      refine W.aloadN w1 od_21_17 (pc' := 18) rfl rfl rfl ?_
      refine W.iloadN w1 od_21_18 (pc' := 19) rfl rfl ?_
      refine W.ldC w1 V_a1 ⟨n_nn (by omega), (n_lt (by omega) (by omega)).mpr (by omega)⟩ (v := (.int (cs.getD i 0))) (by rw [n_nat (by omega)]; exact map_get hi _) od_21_19 (pc' := 20) rfl ?_
      refine W.callS w1 (ow_98 hw) (ow_99 hw) (ow_23 hw) (ow_100 hw) (by decide) opd_12 (Ctr.pay (c_putChar hw (i := i) V_b (utL_len (by omega)) hi hn w1.old) (own_ew hw) (ow_100 hw) (ow_23 hw) (kf := 1) (kl := 14) (by decide) (by decide)) (mC mem0 mN) od_21_20 (pc' := 23) rfl rfl rfl (rest := []) rfl (Wd := 0) rfl (by decide) (by decide) (by decide) (by decide) fun v15 T13 h14 M16 w17 q18 => ?_
      obtain ⟨rfl, rfl, K19, k20, V21⟩ := q18
      show Go Z _ _ _ κ _ (T13.setTop (mkF (km κ) 23 #[.val (.ref a), .val (.int (Int32.ofNat (i))), .val (.int (Int32.ofNat (cs.length))), .val (.ref a7), .val (.int (Int32.ofNat (i)))] []))
      refine W.iinc w17 od_21_23 (pc' := 26) rfl (z := (Int32.ofNat (i + 1))) (n_add _ 1) (Ls' := #[.val (.ref a), .val (.int (Int32.ofNat (i + 1))), .val (.int (Int32.ofNat (cs.length))), .val (.ref a7), .val (.int (Int32.ofNat (i)))]) rfl rfl ?_
      refine W.iinc w17 od_21_26 (pc' := 29) rfl (z := (Int32.ofNat (i + 1))) (n_add _ 1) (Ls' := #[.val (.ref a), .val (.int (Int32.ofNat (i + 1))), .val (.int (Int32.ofNat (cs.length))), .val (.ref a7), .val (.int (Int32.ofNat (i + 1)))]) rfl rfl ?_
      refine W.goto w17 od_21_29 (pc' := 8) (by decide) (by decide) ?_
      rw [utL_set hi] at V21
      exact ih (i + 1) _ _ _ (by omega) (K0.trans K19 (allS (Or.inr B9) RoadKit.all0)) V21 (w17.less (mC (memA mem0) mN))
  exact loop cs.length 0 _ _ _ (by omega) K8 (by rw [utL_0]; exact V11) (w5.less (mC (memB mem0) mN))
set_option maxRecDepth 65536 in
set_option maxHeartbeats 40000000 in
theorem c_cmp3 {l : Launch} {Z : State} {a0 : Array Value} (hw : HW Z a0) {h0 : Heap} {a : Addr} {ka : ClassId} {cs : List Int32} (V_a : Arv Z h0 a ka .char (Int32.ofNat cs.length) (cs.map Value.int) (.int (0 : Int32))) (hn : cs.length ≤ 100) (h16 : ∀ c ∈ cs, chr16 c) (hO : Old Z Z.heap.size h0) : Ctr l Z EL0 nw0 ({ cls := "java/lang/StringUTF16", name := "compress", desc := "([CII)[B" } : Jvm.MethodName) jdk_52_method_16_code 6 (some (.array .byte)) ({ frames := 3, cells := 2, slots := 300, locals := 40 } : Room) [.ref a, .int 0, .int (Int32.ofNat cs.length)] h0 [] (fun v h M' => ∃ b, v = some (.ref b) ∧ M' = [] ∧ Keep h0 h [] ∧ h0.size ≤ b ∧ (((∀ c ∈ cs, ¬ c < 0 ∧ ¬ (255 : Int32) < c) ∧ ∃ k, Arv Z h b k .byte (Int32.ofNat cs.length) (by8 cs) (.int 0)) ∨ ∃ k, Arv Z h b k .byte (Int32.ofNat (2 * cs.length)) (by16 cs) (.int 0))) := by
  refine of_body (a0 := a0) opn_19 (own_ew hw) hO (Ls := #[.val (.ref a), .val (.int (0 : Int32)), .val (.int (Int32.ofNat (cs.length))), .unset, .unset, .unset]) (fun m => by first | (simp [entryFrame, mkF, argsToLocals, Value.category]; done) | rfl) (fun κ T0 w0 hnm => ?_)
  have hcp := cpL_0 cs
  refine W.iloadN w0 od_5_0 (pc' := 1) rfl rfl ?_
  refine W.newPE w0 (ty := .byte) rfl (ow_25 hw) (ad := "[B") (by decide) od_5_1 (pc' := 3) rfl (n_nn (a := cs.length) (by omega)) (len := cs.length) (n_nat (by omega)) (cap := 100) (by omega) (by decide) (by decide) (by decide) fun T1 h2 a3 k4 w5 K6 B7 V8 E9 => ?_
  have ne10 : a ≠ a3 := neL V_a.lt B7
  have V11 : Arv Z h2 a3 k4 .byte (Int32.ofNat (cs.length)) (List.replicate (cs.length) (.int 0)) (.int 0) := V8
  refine W.astoreN w5 od_5_3 (pc' := 4) rfl (Ls' := #[.val (.ref a), .val (.int (0 : Int32)), .val (.int (Int32.ofNat (cs.length))), .val (.ref a3), .unset, .unset]) rfl rfl ?_
  refine W.aloadN w5 od_5_4 (pc' := 5) rfl rfl rfl ?_
  refine W.iloadN w5 od_5_5 (pc' := 6) rfl rfl ?_
  refine W.aloadN w5 od_5_6 (pc' := 7) rfl rfl rfl ?_
  refine W.iconst w5 od_5_7 (pc' := 8) rfl (z := (0 : Int32)) rfl ?_
  refine W.iloadN w5 od_5_8 (pc' := 9) rfl rfl ?_
  rw [← hcp] at V11
  have f12 := (V_a.keep K6 nin0)
  refine W.callS w5 (ow_26 hw) (ow_27 hw) (ow_23 hw) (ow_28 hw) (by decide) opd_13 (Ctr.pay (c_cmp5 hw f12 hn h16 V11 ne10 w5.old) (own_ew hw) (ow_28 hw) (ow_23 hw) (kf := 1) (kl := 18) (by decide) (by decide)) (mC mem0 mN) od_5_9 (pc' := 12) rfl rfl rfl (rest := []) rfl (Wd := 0) rfl (by decide) (by decide) (by decide) (by decide) fun v15 T13 h14 M16 w17 q18 => ?_
  obtain ⟨j, rfl, rfl, K19, hC⟩ := q18
  show Go Z _ _ _ κ _ (T13.setTop (mkF (km κ) 12 #[.val (.ref a), .val (.int (0 : Int32)), .val (.int (Int32.ofNat (cs.length))), .val (.ref a3), .unset, .unset] [(.int (Int32.ofNat (j)))]))
  refine W.istore w17 od_5_12 (pc' := 14) rfl (Ls' := #[.val (.ref a), .val (.int (0 : Int32)), .val (.int (Int32.ofNat (cs.length))), .val (.ref a3), .val (.int (Int32.ofNat (j))), .unset]) rfl ?_
  rcases hC with ⟨rfl, hlat, kC, V_C⟩ | ⟨hjn, hj2⟩
  · refine W.iload w17 od_5_14 (pc' := 16) rfl rfl ?_
    refine W.iloadN w17 od_5_16 (pc' := 17) rfl rfl ?_
    refine W.icmpYes w17 od_5_17 (pc' := 57) (by decide) (by decide) (teq rfl).1 ?_
    refine W.aloadN w17 od_5_57 (pc' := 58) rfl rfl rfl ?_
    have C20 := Keep.refl h0 []
    have C21 := C20.trans K6 RoadKit.all0
    have C22 := C21.trans K19 (allS (Or.inr B7) RoadKit.all0)
    exact W.retR w17 rfl rfl rfl od_5_58 (M' := []) mN (by decide) (by decide) ⟨a3, rfl, rfl, C22, B7, Or.inl ⟨hlat, _, V_C⟩⟩
  · refine W.iload w17 od_5_14 (pc' := 16) rfl rfl ?_
    refine W.iloadN w17 od_5_16 (pc' := 17) rfl rfl ?_
    refine W.icmpNo w17 od_5_17 (pc' := 20) rfl (feq (show ¬ ((Int32.ofNat (j)) = (Int32.ofNat (cs.length))) from fun hlt_ => absurd ((i_eq (n_val (a := j) (by omega)) (n_val (a := cs.length) (by omega))).mp hlt_) (by omega))).1 ?_
    refine W.aloadN w17 od_5_20 (pc' := 21) rfl rfl rfl ?_
    refine W.iloadN w17 od_5_21 (pc' := 22) rfl rfl ?_
    refine W.iloadN w17 od_5_22 (pc' := 23) rfl rfl ?_
    have f23 := (f12.keep K19 (ninS ne10 nin0))
    have f24 := (E9.keep K19)
    refine W.callS w17 (ow_88 hw) (ow_89 hw) (ow_23 hw) (ow_90 hw) (by decide) opd_14 (Ctr.pay (c_toB hw f23 hn h16 w17.old) (own_ew hw) (ow_90 hw) (ow_23 hw) (kf := 3) (kl := 40) (by decide) (by decide)) mN od_5_23 (pc' := 26) rfl rfl rfl (rest := []) rfl (Wd := 0) rfl (by decide) (by decide) (by decide) (by decide) fun v27 T25 h26 M28 w29 q30 => ?_
    obtain ⟨a31, rfl, rfl, K32, B33, k34, V35⟩ := q30
    have ne36 : a ≠ a31 := neL f23.lt B33
    have ne37 : a3 ≠ a31 := neL f24.lt B33
    show Go Z _ _ _ κ _ (T25.setTop (mkF (km κ) 26 #[.val (.ref a), .val (.int (0 : Int32)), .val (.int (Int32.ofNat (cs.length))), .val (.ref a3), .val (.int (Int32.ofNat (j))), .unset] [(.ref a31)]))
    refine W.astore w29 od_5_26 (pc' := 28) rfl (Ls' := #[.val (.ref a), .val (.int (0 : Int32)), .val (.int (Int32.ofNat (cs.length))), .val (.ref a3), .val (.int (Int32.ofNat (j))), .val (.ref a31)]) rfl rfl ?_
    refine W.aload w29 od_5_28 (pc' := 30) rfl rfl rfl ?_
    refine W.iload w29 od_5_30 (pc' := 32) rfl rfl ?_
    refine W.callS w29 (ow_104 hw) (ow_105 hw) (ow_23 hw) (ow_106 hw) (by decide) opd_4 (Ctr.pay (c_getChar hw V35 hn hjn h16 w29.old) (own_ew hw) (ow_106 hw) (ow_23 hw) (kf := 1) (kl := 13) (by decide) (by decide)) mN od_5_32 (pc' := 35) rfl rfl rfl (rest := []) rfl (Wd := 0) rfl (by decide) (by decide) (by decide) (by decide) fun v40 T38 h39 M41 w42 q43 => ?_
    obtain ⟨rfl, rfl, e44⟩ := q43
    obtain rfl := e44.symm
    show Go Z _ _ _ κ _ (T38.setTop (mkF (km κ) 35 #[.val (.ref a), .val (.int (0 : Int32)), .val (.int (Int32.ofNat (cs.length))), .val (.ref a3), .val (.int (Int32.ofNat (j))), .val (.ref a31)] [(.int (cs.getD j 0))]))
    refine W.sipush w42 od_5_35 (pc' := 38) rfl (z := (255 : Int32)) rfl ?_
    refine W.icmpYes w42 od_5_38 (pc' := 54) (by decide) (by decide) (tlt hj2).2.2.1 ?_
    refine W.aload w42 od_5_54 (pc' := 56) rfl rfl rfl ?_
    have C45 := Keep.refl h0 []
    have C46 := C45.trans K6 RoadKit.all0
    have C47 := C46.trans K19 (allS (Or.inr B7) RoadKit.all0)
    have C48 := C47.trans K32 RoadKit.all0
    exact W.retR w42 rfl rfl rfl od_5_56 (M' := []) mN (by decide) (by decide) ⟨a31, rfl, rfl, C48, (Nat.le_trans K6.1 (Nat.le_trans K19.1 B33)), Or.inr ⟨_, V35⟩⟩
set_option maxRecDepth 65536 in
set_option maxHeartbeats 40000000 in
theorem c_cfal0 {l : Launch} {Z : State} {a0 : Array Value} (hw : HW Z a0) {h0 : Heap} {t : Addr} {k : ClassId} {cs : List Int32} (V_t : Arv Z h0 t k .byte (Int32.ofNat (cs.length)) (by8 cs) (.int 0)) (hn : cs.length ≤ 100) (h0' : 0 < cs.length) (hO : Old Z Z.heap.size h0) : Ctr l Z EL0 nw0 ({ cls := "java/lang/StringUTF16", name := "coderFromArrayLen", desc := "([BI)B" } : Jvm.MethodName) jdk_52_method_15_code 2 (some .byte) ({ frames := 0, cells := 0, slots := 0, locals := 0 } : Room) [.ref t, .int (Int32.ofNat cs.length)] h0 [] (fun v h M' => v = some (.int 0) ∧ M' = [] ∧ h = h0) := by
  refine of_body (a0 := a0) opn_20 (own_ew hw) hO (Ls := #[.val (.ref t), .val (.int (Int32.ofNat (cs.length)))]) (fun m => by first | (simp [entryFrame, mkF, argsToLocals, Value.category]; done) | rfl) (fun κ T0 w0 hnm => ?_)
  refine W.iloadN w0 od_7_0 (pc' := 1) rfl rfl ?_
  refine W.aloadN w0 od_7_1 (pc' := 2) rfl rfl rfl ?_
  refine W.alen w0 V_t od_7_2 (pc' := 3) rfl ?_
  refine W.isub w0 od_7_3 (pc' := 4) rfl (z := ((Int32.ofNat (cs.length)) - (Int32.ofNat (cs.length)))) rfl ?_
  refine W.bipush w0 od_7_4 (pc' := 6) rfl (z := (31 : Int32)) rfl ?_
  refine W.iushr w0 od_7_6 (pc' := 7) rfl (z := (XT.ushr ((Int32.ofNat (cs.length)) - (Int32.ofNat (cs.length))) (31 : Int32))) rfl ?_
  refine W.i2b w0 od_7_7 (pc' := 8) rfl (z := (0 : Int32)) (cfal0 _) ?_
  exact W.retN w0 (t := .byte) (z' := (0 : Int32)) rfl rfl (by simp) od_7_8 (M' := []) mN (by decide) (by decide) ⟨rfl, rfl, rfl⟩
set_option maxRecDepth 65536 in
set_option maxHeartbeats 40000000 in
theorem c_cfal1 {l : Launch} {Z : State} {a0 : Array Value} (hw : HW Z a0) {h0 : Heap} {t : Addr} {k : ClassId} {cs : List Int32} (V_t : Arv Z h0 t k .byte (Int32.ofNat (2 * cs.length)) (by16 cs) (.int 0)) (hn : cs.length ≤ 100) (h0' : 0 < cs.length) (hO : Old Z Z.heap.size h0) : Ctr l Z EL0 nw0 ({ cls := "java/lang/StringUTF16", name := "coderFromArrayLen", desc := "([BI)B" } : Jvm.MethodName) jdk_52_method_15_code 2 (some .byte) ({ frames := 0, cells := 0, slots := 0, locals := 0 } : Room) [.ref t, .int (Int32.ofNat cs.length)] h0 [] (fun v h M' => v = some (.int 1) ∧ M' = [] ∧ h = h0) := by
  refine of_body (a0 := a0) opn_20 (own_ew hw) hO (Ls := #[.val (.ref t), .val (.int (Int32.ofNat (cs.length)))]) (fun m => by first | (simp [entryFrame, mkF, argsToLocals, Value.category]; done) | rfl) (fun κ T0 w0 hnm => ?_)
  refine W.iloadN w0 od_7_0 (pc' := 1) rfl rfl ?_
  refine W.aloadN w0 od_7_1 (pc' := 2) rfl rfl rfl ?_
  refine W.alen w0 V_t od_7_2 (pc' := 3) rfl ?_
  refine W.isub w0 od_7_3 (pc' := 4) rfl (z := ((Int32.ofNat (cs.length)) - (Int32.ofNat (2 * cs.length)))) rfl ?_
  refine W.bipush w0 od_7_4 (pc' := 6) rfl (z := (31 : Int32)) rfl ?_
  refine W.iushr w0 od_7_6 (pc' := 7) rfl (z := (XT.ushr ((Int32.ofNat (cs.length)) - (Int32.ofNat (2 * cs.length))) (31 : Int32))) rfl ?_
  refine W.i2b w0 od_7_7 (pc' := 8) rfl (z := (1 : Int32)) (cfal1 h0' (by omega)) ?_
  exact W.retN w0 (t := .byte) (z' := (1 : Int32)) rfl rfl (by simp) od_7_8 (M' := []) mN (by decide) (by decide) ⟨rfl, rfl, rfl⟩
set_option maxRecDepth 65536 in
set_option maxHeartbeats 40000000 in
theorem c_si4 {l : Launch} {Z : State} {a0 : Array Value} (hw : HW Z a0) {h0 : Heap} {a : Addr} {ka : ClassId} {cs : List Int32} (V_a : Arv Z h0 a ka .char (Int32.ofNat cs.length) (cs.map Value.int) (.int (0 : Int32))) (hn : cs.length ≤ 100) (h16 : ∀ c ∈ cs, chr16 c) {x : Addr} {v1 v2 : Value} (h0' : 0 < cs.length) (E_x : Exa Z h0 x "java/lang/String") (F_v : Fld Z h0 x "java/lang/String" "value" "[B" v1) (F_c : Fld Z h0 x "java/lang/String" "coder" "B" v2) (hax : a ≠ x) (hO : Old Z Z.heap.size h0) : Ctr l Z EL0 nw0 ({ cls := "java/lang/String", name := "<init>", desc := "([CIILjava/lang/Void;)V" } : Jvm.MethodName) jdk_42_method_149_code 6 none ({ frames := 4, cells := 2, slots := 300, locals := 57 } : Room) [.ref x, .ref a, .int 0, .int (Int32.ofNat cs.length), .null] h0 [x] (fun v h M' => v = none ∧ M' = [] ∧ Keep h0 h [x] ∧ ∃ t, StrU Z h x t cs) := by
  refine of_body (a0 := a0) opn_21 (own_ew hw) hO (Ls := #[.val (.ref x), .val (.ref a), .val (.int (0 : Int32)), .val (.int (Int32.ofNat (cs.length))), .val .null, .unset]) (fun m => by first | (simp [entryFrame, mkF, argsToLocals, Value.category]; done) | rfl) (fun κ T0 w0 hnm => ?_)
  obtain ⟨zC, SC, hzC⟩ := hw.2.1.1
  refine W.aloadN w0 od_3_0 (pc' := 1) rfl rfl rfl ?_
  refine W.initO w0 (ow_17 hw) (ow_18 hw) (ow_19 hw) od_3_1 (pc' := 4) rfl rfl (by decide) (Wd := 0) rfl (by decide) fun T1 w2 => ?_
  refine W.iloadN w2 od_3_4 (pc' := 5) rfl rfl ?_
  refine W.ifYes w2 od_3_5 (pc' := 27) (by decide) (by decide) ((if0 _ _).trans (feq (show ¬ ((Int32.ofNat (cs.length)) = (0 : Int32)) from fun hlt_ => absurd ((i_eq (n_val (a := cs.length) (by omega)) (show (0 : Int32).toInt = 0 by decide)).mp hlt_) (by omega))).2) ?_
  refine W.getS w2 (ow_20 hw) Via.refl (SC.ext w2.old.2) od_3_27 (pc' := 30) rfl fun T3 w4 => ?_
  refine W.ifNo w4 od_3_30 (pc' := 33) rfl ((if0 _ _).trans (feq hzC).1) ?_
  refine W.aloadN w4 od_3_33 (pc' := 34) rfl rfl rfl ?_
  refine W.iloadN w4 od_3_34 (pc' := 35) rfl rfl ?_
  refine W.iloadN w4 od_3_35 (pc' := 36) rfl rfl ?_
  refine W.callS w4 (ow_21 hw) (ow_22 hw) (ow_23 hw) (ow_24 hw) (by decide) opd_14 (Ctr.pay (c_cmp3 hw V_a hn h16 w4.old) (own_ew hw) (ow_24 hw) (ow_23 hw) (kf := 4) (kl := 57) (by decide) (by decide)) mN od_3_36 (pc' := 39) rfl rfl rfl (rest := []) rfl (Wd := 0) rfl (by decide) (by decide) (by decide) (by decide) fun v7 T5 h6 M8 w9 q10 => ?_
  obtain ⟨a11, rfl, rfl, K12, B13, hC⟩ := q10
  have ne14 : a ≠ a11 := neL V_a.lt B13
  have ne15 : x ≠ a11 := neL E_x.lt B13
  show Go Z _ _ _ κ _ (T5.setTop (mkF (km κ) 39 #[.val (.ref x), .val (.ref a), .val (.int (0 : Int32)), .val (.int (Int32.ofNat (cs.length))), .val .null, .unset] [(.ref a11)]))
  rcases hC with ⟨hlat, kC, V_C⟩ | ⟨kC, V_C⟩
  · refine W.astore w9 od_3_39 (pc' := 41) rfl (Ls' := #[.val (.ref x), .val (.ref a), .val (.int (0 : Int32)), .val (.int (Int32.ofNat (cs.length))), .val .null, .val (.ref a11)]) rfl rfl ?_
    refine W.aloadN w9 od_3_41 (pc' := 42) rfl rfl rfl ?_
    refine W.aload w9 od_3_42 (pc' := 44) rfl rfl rfl ?_
    refine W.iloadN w9 od_3_44 (pc' := 45) rfl rfl ?_
    refine W.callS w9 (ow_29 hw) (ow_30 hw) (ow_23 hw) (ow_31 hw) (by decide) opd_15 (Ctr.pay (c_cfal0 hw V_C hn h0' w9.old) (own_ew hw) (ow_31 hw) (ow_23 hw) (kf := 1) (kl := 13) (by decide) (by decide)) mN od_3_45 (pc' := 48) rfl rfl rfl (rest := [(.ref x)]) rfl (Wd := 1) rfl (by decide) (by decide) (by decide) (by decide) fun v18 T16 h17 M19 w20 q21 => ?_
    obtain ⟨rfl, rfl, e22⟩ := q21
    obtain rfl := e22.symm
    show Go Z _ _ _ κ _ (T16.setTop (mkF (km κ) 48 #[.val (.ref x), .val (.ref a), .val (.int (0 : Int32)), .val (.int (Int32.ofNat (cs.length))), .val .null, .val (.ref a11)] [(.int (0 : Int32)), (.ref x)]))
    have f23 := (F_c.keep K12 nin0)
    have f24 := (E_x.keep K12)
    refine W.putFN w20 (ow_32 hw) Via.refl f23 f24 (Or.inr ⟨(ow_33 hw), rfl, hnm⟩) (ow_8 hw) (ty := .byte) (v' := (.int (0 : Int32))) (by decide) rfl rfl (memA (memA mem0)) od_3_48 (pc' := 51) rfl fun T25 h26 w27 W28 => ?_
    have f29 := (F_v.keep K12 nin0)
    have F30 := f29.other W28 (Or.inr (slot_ne (Or.inr (ow_35 hw)) (Or.inr (ow_33 hw)) (by decide) (t := (.array .byte)) (t' := .byte) (by decide) (by decide)))
    have F31 := f23.same W28
    have K32 := Keep.of_wr W28
    refine W.aloadN w27 od_3_51 (pc' := 52) rfl rfl rfl ?_
    refine W.aload w27 od_3_52 (pc' := 54) rfl rfl rfl ?_
    have f33 := (f24.keep K32)
    refine W.putF w27 (host := "") (Or.inl (ow_34 hw)) Via.refl F30 f33 (Or.inr ⟨(ow_35 hw), rfl, hnm⟩) (ow_8 hw) (ty := (.array .byte)) (by decide) rfl rfl (memA (memA mem0)) od_3_54 (pc' := 57) rfl fun T34 h35 w36 W37 => ?_
    have F38 := F31.other W37 (Or.inr (slot_ne (Or.inr (ow_33 hw)) (Or.inr (ow_35 hw)) (by decide) (t := .byte) (t' := (.array .byte)) (by decide) (by decide)))
    have F39 := F30.same W37
    have K40 := Keep.of_wr W37
    have C41 := Keep.refl h0 [x]
    have C42 := C41.trans K12 RoadKit.all0
    have C43 := C42.trans K32 (allS (Or.inl mem0) RoadKit.all0)
    have C44 := C43.trans K40 (allS (Or.inl mem0) RoadKit.all0)
    have f45 := (f33.keep K40)
    have f46 := ((V_C.keep K32 (ninS (Ne.symm ne15) nin0)).keep K40 (ninS (Ne.symm ne15) nin0))
    exact W.ret0 w36 rfl od_3_57 (M' := []) mN (by decide) (by decide) ⟨rfl, rfl, C44, a11, f45, F39, Or.inl ⟨F38, ⟨_, f46⟩, hlat⟩, h16, hn⟩
  · refine W.astore w9 od_3_39 (pc' := 41) rfl (Ls' := #[.val (.ref x), .val (.ref a), .val (.int (0 : Int32)), .val (.int (Int32.ofNat (cs.length))), .val .null, .val (.ref a11)]) rfl rfl ?_
    refine W.aloadN w9 od_3_41 (pc' := 42) rfl rfl rfl ?_
    refine W.aload w9 od_3_42 (pc' := 44) rfl rfl rfl ?_
    refine W.iloadN w9 od_3_44 (pc' := 45) rfl rfl ?_
    refine W.callS w9 (ow_29 hw) (ow_30 hw) (ow_23 hw) (ow_31 hw) (by decide) opd_15 (Ctr.pay (c_cfal1 hw V_C hn h0' w9.old) (own_ew hw) (ow_31 hw) (ow_23 hw) (kf := 1) (kl := 13) (by decide) (by decide)) mN od_3_45 (pc' := 48) rfl rfl rfl (rest := [(.ref x)]) rfl (Wd := 1) rfl (by decide) (by decide) (by decide) (by decide) fun v49 T47 h48 M50 w51 q52 => ?_
    obtain ⟨rfl, rfl, e53⟩ := q52
    obtain rfl := e53.symm
    show Go Z _ _ _ κ _ (T47.setTop (mkF (km κ) 48 #[.val (.ref x), .val (.ref a), .val (.int (0 : Int32)), .val (.int (Int32.ofNat (cs.length))), .val .null, .val (.ref a11)] [(.int (1 : Int32)), (.ref x)]))
    have f54 := (F_c.keep K12 nin0)
    have f55 := (E_x.keep K12)
    refine W.putFN w51 (ow_32 hw) Via.refl f54 f55 (Or.inr ⟨(ow_33 hw), rfl, hnm⟩) (ow_8 hw) (ty := .byte) (v' := (.int (1 : Int32))) (by decide) rfl rfl (memA (memA mem0)) od_3_48 (pc' := 51) rfl fun T56 h57 w58 W59 => ?_
    have f60 := (F_v.keep K12 nin0)
    have F61 := f60.other W59 (Or.inr (slot_ne (Or.inr (ow_35 hw)) (Or.inr (ow_33 hw)) (by decide) (t := (.array .byte)) (t' := .byte) (by decide) (by decide)))
    have F62 := f54.same W59
    have K63 := Keep.of_wr W59
    refine W.aloadN w58 od_3_51 (pc' := 52) rfl rfl rfl ?_
    refine W.aload w58 od_3_52 (pc' := 54) rfl rfl rfl ?_
    have f64 := (f55.keep K63)
    refine W.putF w58 (host := "") (Or.inl (ow_34 hw)) Via.refl F61 f64 (Or.inr ⟨(ow_35 hw), rfl, hnm⟩) (ow_8 hw) (ty := (.array .byte)) (by decide) rfl rfl (memA (memA mem0)) od_3_54 (pc' := 57) rfl fun T65 h66 w67 W68 => ?_
    have F69 := F62.other W68 (Or.inr (slot_ne (Or.inr (ow_33 hw)) (Or.inr (ow_35 hw)) (by decide) (t := .byte) (t' := (.array .byte)) (by decide) (by decide)))
    have F70 := F61.same W68
    have K71 := Keep.of_wr W68
    have C72 := Keep.refl h0 [x]
    have C73 := C72.trans K12 RoadKit.all0
    have C74 := C73.trans K63 (allS (Or.inl mem0) RoadKit.all0)
    have C75 := C74.trans K71 (allS (Or.inl mem0) RoadKit.all0)
    have f76 := (f64.keep K71)
    have f77 := ((V_C.keep K63 (ninS (Ne.symm ne15) nin0)).keep K71 (ninS (Ne.symm ne15) nin0))
    exact W.ret0 w67 rfl od_3_57 (M' := []) mN (by decide) (by decide) ⟨rfl, rfl, C75, a11, f76, F70, Or.inr ⟨F69, _, f77⟩, h16, hn⟩
set_option maxRecDepth 65536 in
set_option maxHeartbeats 40000000 in
theorem c_si1 {l : Launch} {Z : State} {a0 : Array Value} (hw : HW Z a0) {h0 : Heap} {a : Addr} {ka : ClassId} {cs : List Int32} (V_a : Arv Z h0 a ka .char (Int32.ofNat cs.length) (cs.map Value.int) (.int (0 : Int32))) (hn : cs.length ≤ 100) (h16 : ∀ c ∈ cs, chr16 c) {x : Addr} {v1 v2 : Value} (h0' : 0 < cs.length) (E_x : Exa Z h0 x "java/lang/String") (F_v : Fld Z h0 x "java/lang/String" "value" "[B" v1) (F_c : Fld Z h0 x "java/lang/String" "coder" "B" v2) (hax : a ≠ x) (hO : Old Z Z.heap.size h0) : Ctr l Z EL0 nw0 ({ cls := "java/lang/String", name := "<init>", desc := "([C)V" } : Jvm.MethodName) jdk_42_method_3_code 2 none ({ frames := 5, cells := 2, slots := 300, locals := 74 } : Room) [.ref x, .ref a] h0 [x] (fun v h M' => v = none ∧ M' = [] ∧ Keep h0 h [x] ∧ ∃ t, StrU Z h x t cs) := by
  refine of_body (a0 := a0) opn_22 (own_ew hw) hO (Ls := #[.val (.ref x), .val (.ref a)]) (fun m => by first | (simp [entryFrame, mkF, argsToLocals, Value.category]; done) | rfl) (fun κ T0 w0 hnm => ?_)
  refine W.aloadN w0 od_2_0 (pc' := 1) rfl rfl rfl ?_
  refine W.aloadN w0 od_2_1 (pc' := 2) rfl rfl rfl ?_
  refine W.iconst w0 od_2_2 (pc' := 3) rfl (z := (0 : Int32)) rfl ?_
  refine W.aloadN w0 od_2_3 (pc' := 4) rfl rfl rfl ?_
  refine W.alen w0 V_a od_2_4 (pc' := 5) rfl ?_
  refine Jvm.Own.W.aconstNull w0 od_2_5 rfl ?_
  refine W.callI w0 (ow_13 hw) (ow_14 hw) (ow_16 hw) rfl (by decide) opd_16 (Ctr.pay (c_si4 hw V_a hn h16 h0' E_x F_v F_c hax w0.old) (own_ew hw) (ow_16 hw) (ow_9 hw) (kf := 5) (kl := 74) (by decide) (by decide)) (mC mem0 mN) od_2_6 (pc' := 9) rfl rfl rfl (rest := []) rfl (Wd := 0) rfl (by decide) (by decide) (by decide) (by decide) fun v3 T1 h2 M4 w5 q6 => ?_
  obtain ⟨rfl, rfl, K7, F_U⟩ := q6
  show Go Z _ _ _ κ _ (T1.setTop (mkF (km κ) 9 #[.val (.ref x), .val (.ref a)] []))
  have C8 := Keep.refl h0 [x]
  have C9 := C8.trans K7 (allS (Or.inl mem0) RoadKit.all0)
  exact W.ret0 w5 rfl od_2_9 (M' := []) mN (by decide) (by decide) ⟨rfl, rfl, C9, F_U⟩
set_option maxRecDepth 65536 in
set_option maxHeartbeats 40000000 in
theorem c_cen {l : Launch} {Z : State} {a0 : Array Value} (hw : HW Z a0) {h0 : Heap} {p : Int32} (hO : Old Z Z.heap.size h0) : Ctr l Z EL0 nw0 ({ cls := "java/lang/StringLatin1", name := "canEncode", desc := "(C)Z" } : Jvm.MethodName) jdk_43_method_3_code 1 (some .boolean) ({ frames := 0, cells := 0, slots := 0, locals := 0 } : Room) [.int p] h0 [] (fun v h M' => ∃ z : Int32, v = some (.int z) ∧ M' = [] ∧ h = h0 ∧ ((z = 1 ∧ ¬ (255 : Int32) < p) ∨ (z = 0 ∧ (255 : Int32) < p))) := by
  refine of_body (a0 := a0) opn_23 (own_ew hw) hO (Ls := #[.val (.int p)]) (fun m => by first | (simp [entryFrame, mkF, argsToLocals, Value.category]; done) | rfl) (fun κ T0 w0 hnm => ?_)
  refine W.iloadN w0 od_18_0 (pc' := 1) rfl rfl ?_
  refine W.sipush w0 od_18_1 (pc' := 4) rfl (z := (255 : Int32)) rfl ?_
  rcases Decidable.em ((255 : Int32) < p) with hc1 | hc1
  · refine W.icmpYes w0 od_18_4 (pc' := 11) (by decide) (by decide) (tlt hc1).2.2.1 ?_
    refine W.iconst w0 od_18_11 (pc' := 12) rfl (z := (0 : Int32)) rfl ?_
    exact W.retN w0 (t := .boolean) (z' := (0 : Int32)) rfl rfl (by simp) od_18_12 (M' := []) mN (by decide) (by decide) ⟨_, rfl, rfl, rfl, Or.inr ⟨rfl, hc1⟩⟩
  · refine W.icmpNo w0 od_18_4 (pc' := 7) rfl (flt hc1).2.2.1 ?_
    refine W.iconst w0 od_18_7 (pc' := 8) rfl (z := (1 : Int32)) rfl ?_
    refine W.goto w0 od_18_8 (pc' := 12) (by decide) (by decide) ?_
    exact W.retN w0 (t := .boolean) (z' := (1 : Int32)) rfl rfl (by simp) od_18_12 (M' := []) mN (by decide) (by decide) ⟨_, rfl, rfl, rfl, Or.inl ⟨rfl, hc1⟩⟩
set_option maxRecDepth 65536 in
set_option maxHeartbeats 40000000 in
theorem c_tb0 {l : Launch} {Z : State} {a0 : Array Value} (hw : HW Z a0) {h0 : Heap} {p : Int32} (hO : Old Z Z.heap.size h0) : Ctr l Z EL0 nw0 ({ cls := "java/lang/StringLatin1", name := "toBytes", desc := "(C)[B" } : Jvm.MethodName) jdk_43_method_46_code 1 (some (.array .byte)) ({ frames := 0, cells := 1, slots := 1, locals := 0 } : Room) [.int p] h0 [] (fun v h M' => ∃ b, v = some (.ref b) ∧ M' = [] ∧ Keep h0 h [] ∧ h0.size ≤ b ∧ ∃ k, Arv Z h b k .byte (1 : Int32) (by8 [p]) (.int 0)) := by
  refine of_body (a0 := a0) opn_24 (own_ew hw) hO (Ls := #[.val (.int p)]) (fun m => by first | (simp [entryFrame, mkF, argsToLocals, Value.category]; done) | rfl) (fun κ T0 w0 hnm => ?_)
  refine W.iconst w0 od_19_0 (pc' := 1) rfl (z := (1 : Int32)) rfl ?_
  refine W.newP w0 (ty := .byte) rfl (ow_25 hw) od_19_1 (pc' := 3) rfl (by decide) (cap := 1) (by decide) (by decide) (by decide) (by decide) fun T1 h2 a3 k4 w5 K6 B7 V8 => ?_
  have V9 : Arv Z h2 a3 k4 .byte (1 : Int32) [(.int (0 : Int32))] (.int (0 : Int32)) := V8
  refine Jvm.Own.W.dup w5 od_19_3 rfl rfl ?_
  refine W.iconst w5 od_19_4 (pc' := 5) rfl (z := (0 : Int32)) rfl ?_
  refine W.iloadN w5 od_19_5 (pc' := 6) rfl rfl ?_
  refine W.i2b w5 od_19_6 (pc' := 7) rfl (z := (p).toInt8.toInt32) rfl ?_
  refine W.stB w5 (x' := (p).toInt8.toInt32) (stb_nar2 _) V9 (i := 0) (by decide) ⟨by decide, by decide⟩ (Nat.le_of_ble_eq_true rfl) mem0 od_19_7 (pc' := 8) rfl fun T10 h11 w12 K13 V14 => ?_
  have V15 : Arv Z h11 a3 k4 .byte (1 : Int32) [(.int (p).toInt8.toInt32)] (.int (0 : Int32)) := V14
  have C16 := Keep.refl h0 []
  have C17 := C16.trans K6 RoadKit.all0
  have C18 := C17.trans K13 (allS (Or.inr B7) RoadKit.all0)
  exact W.retR w12 rfl rfl rfl od_19_8 (M' := []) mN (by decide) (by decide) ⟨a3, rfl, rfl, C18, B7, _, V15⟩
set_option maxRecDepth 65536 in
set_option maxHeartbeats 40000000 in
theorem c_tb1 {l : Launch} {Z : State} {a0 : Array Value} (hw : HW Z a0) {h0 : Heap} {p : Int32} (hO : Old Z Z.heap.size h0) : Ctr l Z EL0 nw0 ({ cls := "java/lang/StringUTF16", name := "toBytes", desc := "(C)[B" } : Jvm.MethodName) jdk_52_method_24_code 2 (some (.array .byte)) ({ frames := 1, cells := 1, slots := 2, locals := 14 } : Room) [.int p] h0 [] (fun v h M' => ∃ b, v = some (.ref b) ∧ M' = [] ∧ Keep h0 h [] ∧ h0.size ≤ b ∧ ∃ k, Arv Z h b k .byte (2 : Int32) (by16 [p]) (.int 0)) := by
  refine of_body (a0 := a0) opn_25 (own_ew hw) hO (Ls := #[.val (.int p), .unset]) (fun m => by first | (simp [entryFrame, mkF, argsToLocals, Value.category]; done) | rfl) (fun κ T0 w0 hnm => ?_)
  refine W.iconst w0 od_29_0 (pc' := 1) rfl (z := (2 : Int32)) rfl ?_
  refine W.newP w0 (ty := .byte) rfl (ow_25 hw) od_29_1 (pc' := 3) rfl (by decide) (cap := 2) (by decide) (by decide) (by decide) (by decide) fun T1 h2 a3 k4 w5 K6 B7 V8 => ?_
  have V9 : Arv Z h2 a3 k4 .byte (2 : Int32) [(.int (0 : Int32)), (.int (0 : Int32))] (.int (0 : Int32)) := V8
  refine W.astoreN w5 od_29_3 (pc' := 4) rfl (Ls' := #[.val (.int p), .val (.ref a3)]) rfl rfl ?_
  refine W.aloadN w5 od_29_4 (pc' := 5) rfl rfl rfl ?_
  refine W.iconst w5 od_29_5 (pc' := 6) rfl (z := (0 : Int32)) rfl ?_
  refine W.iloadN w5 od_29_6 (pc' := 7) rfl rfl ?_
  have V10 : Arv Z h2 a3 k4 .byte (Int32.ofNat (2 * 1)) (utL [p] 0) (.int 0) := V9
  refine W.callS w5 (ow_98 hw) (ow_99 hw) (ow_23 hw) (ow_100 hw) (by decide) opd_12 (Ctr.pay (c_putChar hw (n := 1) (i := 0) (p := p) V10 rfl (by decide) (by decide) w5.old) (own_ew hw) (ow_100 hw) (ow_23 hw) (kf := 1) (kl := 14) (by decide) (by decide)) (mC mem0 mN) od_29_7 (pc' := 10) rfl rfl rfl (rest := []) rfl (Wd := 0) rfl (by decide) (by decide) (by decide) (by decide) fun v13 T11 h12 M14 w15 q16 => ?_
  obtain ⟨rfl, rfl, K17, k18, V19⟩ := q16
  show Go Z _ _ _ κ _ (T11.setTop (mkF (km κ) 10 #[.val (.int p), .val (.ref a3)] []))
  refine W.aloadN w15 od_29_10 (pc' := 11) rfl rfl rfl ?_
  have C20 := Keep.refl h0 []
  have C21 := C20.trans K6 RoadKit.all0
  have C22 := C21.trans K17 (allS (Or.inr B7) RoadKit.all0)
  exact W.retR w15 rfl rfl rfl od_29_11 (M' := []) mN (by decide) (by decide) ⟨a3, rfl, rfl, C22, B7, _, V19⟩
set_option maxRecDepth 65536 in
set_option maxHeartbeats 40000000 in
theorem c_sbb0 {l : Launch} {Z : State} {a0 : Array Value} (hw : HW Z a0) {h0 : Heap} {x b : Addr} {k : ClassId} {p : Int32} {v1 v2 : Value} (E_x : Exa Z h0 x "java/lang/String") (F_v : Fld Z h0 x "java/lang/String" "value" "[B" v1) (F_c : Fld Z h0 x "java/lang/String" "coder" "B" v2) (V_b : Arv Z h0 b k .byte (1 : Int32) (by8 [p]) (.int 0)) (hxb : x ≠ b) (hp16 : chr16 p) (hlat : ¬ (255 : Int32) < p) (hO : Old Z Z.heap.size h0) : Ctr l Z EL0 nw0 ({ cls := "java/lang/String", name := "<init>", desc := "([BB)V" } : Jvm.MethodName) jdk_42_method_151_code 3 none ({ frames := 1, cells := 0, slots := 0, locals := 12 } : Room) [.ref x, .ref b, .int 0] h0 [x] (fun v h M' => v = none ∧ M' = [] ∧ Keep h0 h [x] ∧ StrU Z h x b [p]) := by
  refine of_body (a0 := a0) opn_26 (own_ew hw) hO (Ls := #[.val (.ref x), .val (.ref b), .val (.int (0 : Int32))]) (fun m => by first | (simp [entryFrame, mkF, argsToLocals, Value.category]; done) | rfl) (fun κ T0 w0 hnm => ?_)
  refine W.aloadN w0 od_20_0 (pc' := 1) rfl rfl rfl ?_
  refine W.initO w0 (ow_17 hw) (ow_18 hw) (ow_19 hw) od_20_1 (pc' := 4) rfl rfl (by decide) (Wd := 0) rfl (by decide) fun T1 w2 => ?_
  refine W.aloadN w2 od_20_4 (pc' := 5) rfl rfl rfl ?_
  refine W.aloadN w2 od_20_5 (pc' := 6) rfl rfl rfl ?_
  refine W.putF w2 (host := "") (Or.inl (ow_34 hw)) Via.refl F_v E_x (Or.inr ⟨(ow_35 hw), rfl, hnm⟩) (ow_8 hw) (ty := (.array .byte)) (by decide) rfl rfl mem0 od_20_6 (pc' := 9) rfl fun T3 h4 w5 W6 => ?_
  have F7 := F_c.other W6 (Or.inr (slot_ne (Or.inr (ow_33 hw)) (Or.inr (ow_35 hw)) (by decide) (t := .byte) (t' := (.array .byte)) (by decide) (by decide)))
  have F8 := F_v.same W6
  have K9 := Keep.of_wr W6
  refine W.aloadN w5 od_20_9 (pc' := 10) rfl rfl rfl ?_
  refine W.iloadN w5 od_20_10 (pc' := 11) rfl rfl ?_
  have f10 := (E_x.keep K9)
  refine W.putFN w5 (ow_32 hw) Via.refl F7 f10 (Or.inr ⟨(ow_33 hw), rfl, hnm⟩) (ow_8 hw) (ty := .byte) (v' := (.int (0 : Int32))) (by decide) rfl rfl mem0 od_20_11 (pc' := 14) rfl fun T11 h12 w13 W14 => ?_
  have F15 := F8.other W14 (Or.inr (slot_ne (Or.inr (ow_35 hw)) (Or.inr (ow_33 hw)) (by decide) (t := (.array .byte)) (t' := .byte) (by decide) (by decide)))
  have F16 := F7.same W14
  have K17 := Keep.of_wr W14
  have C18 := Keep.refl h0 [x]
  have C19 := C18.trans K9 (allS (Or.inl mem0) RoadKit.all0)
  have C20 := C19.trans K17 (allS (Or.inl mem0) RoadKit.all0)
  have f21 := (f10.keep K17)
  have f22 := ((V_b.keep K9 (ninS (Ne.symm hxb) nin0)).keep K17 (ninS (Ne.symm hxb) nin0))
  exact W.ret0 w13 rfl od_20_14 (M' := []) mN (by decide) (by decide) ⟨rfl, rfl, C20, f21, F15, Or.inl ⟨F16, ⟨_, f22⟩, fun c hc => by rw [List.mem_singleton.mp hc]; exact ⟨hp16.1, hlat⟩⟩, fun c hc => by rw [List.mem_singleton.mp hc]; exact hp16, Nat.le_of_ble_eq_true rfl⟩
set_option maxRecDepth 65536 in
set_option maxHeartbeats 40000000 in
theorem c_sbb1 {l : Launch} {Z : State} {a0 : Array Value} (hw : HW Z a0) {h0 : Heap} {x b : Addr} {k : ClassId} {p : Int32} {v1 v2 : Value} (E_x : Exa Z h0 x "java/lang/String") (F_v : Fld Z h0 x "java/lang/String" "value" "[B" v1) (F_c : Fld Z h0 x "java/lang/String" "coder" "B" v2) (V_b : Arv Z h0 b k .byte (2 : Int32) (by16 [p]) (.int 0)) (hxb : x ≠ b) (hp16 : chr16 p) (hO : Old Z Z.heap.size h0) : Ctr l Z EL0 nw0 ({ cls := "java/lang/String", name := "<init>", desc := "([BB)V" } : Jvm.MethodName) jdk_42_method_151_code 3 none ({ frames := 1, cells := 0, slots := 0, locals := 12 } : Room) [.ref x, .ref b, .int 1] h0 [x] (fun v h M' => v = none ∧ M' = [] ∧ Keep h0 h [x] ∧ StrU Z h x b [p]) := by
  refine of_body (a0 := a0) opn_26 (own_ew hw) hO (Ls := #[.val (.ref x), .val (.ref b), .val (.int (1 : Int32))]) (fun m => by first | (simp [entryFrame, mkF, argsToLocals, Value.category]; done) | rfl) (fun κ T0 w0 hnm => ?_)
  refine W.aloadN w0 od_20_0 (pc' := 1) rfl rfl rfl ?_
  refine W.initO w0 (ow_17 hw) (ow_18 hw) (ow_19 hw) od_20_1 (pc' := 4) rfl rfl (by decide) (Wd := 0) rfl (by decide) fun T1 w2 => ?_
  refine W.aloadN w2 od_20_4 (pc' := 5) rfl rfl rfl ?_
  refine W.aloadN w2 od_20_5 (pc' := 6) rfl rfl rfl ?_
  refine W.putF w2 (host := "") (Or.inl (ow_34 hw)) Via.refl F_v E_x (Or.inr ⟨(ow_35 hw), rfl, hnm⟩) (ow_8 hw) (ty := (.array .byte)) (by decide) rfl rfl mem0 od_20_6 (pc' := 9) rfl fun T3 h4 w5 W6 => ?_
  have F7 := F_c.other W6 (Or.inr (slot_ne (Or.inr (ow_33 hw)) (Or.inr (ow_35 hw)) (by decide) (t := .byte) (t' := (.array .byte)) (by decide) (by decide)))
  have F8 := F_v.same W6
  have K9 := Keep.of_wr W6
  refine W.aloadN w5 od_20_9 (pc' := 10) rfl rfl rfl ?_
  refine W.iloadN w5 od_20_10 (pc' := 11) rfl rfl ?_
  have f10 := (E_x.keep K9)
  refine W.putFN w5 (ow_32 hw) Via.refl F7 f10 (Or.inr ⟨(ow_33 hw), rfl, hnm⟩) (ow_8 hw) (ty := .byte) (v' := (.int (1 : Int32))) (by decide) rfl rfl mem0 od_20_11 (pc' := 14) rfl fun T11 h12 w13 W14 => ?_
  have F15 := F8.other W14 (Or.inr (slot_ne (Or.inr (ow_35 hw)) (Or.inr (ow_33 hw)) (by decide) (t := (.array .byte)) (t' := .byte) (by decide) (by decide)))
  have F16 := F7.same W14
  have K17 := Keep.of_wr W14
  have C18 := Keep.refl h0 [x]
  have C19 := C18.trans K9 (allS (Or.inl mem0) RoadKit.all0)
  have C20 := C19.trans K17 (allS (Or.inl mem0) RoadKit.all0)
  have f21 := (f10.keep K17)
  have f22 := ((V_b.keep K9 (ninS (Ne.symm hxb) nin0)).keep K17 (ninS (Ne.symm hxb) nin0))
  exact W.ret0 w13 rfl od_20_14 (M' := []) mN (by decide) (by decide) ⟨rfl, rfl, C20, f21, F15, Or.inr ⟨F16, _, f22⟩, fun c hc => by rw [List.mem_singleton.mp hc]; exact hp16, Nat.le_of_ble_eq_true rfl⟩
set_option maxRecDepth 65536 in
set_option maxHeartbeats 40000000 in
theorem c_vof {l : Launch} {Z : State} {a0 : Array Value} (hw : HW Z a0) {h0 : Heap} {p : Int32} (hp16 : chr16 p) (hO : Old Z Z.heap.size h0) : Ctr l Z EL0 nw0 ({ cls := "java/lang/String", name := "valueOf", desc := "(C)Ljava/lang/String;" } : Jvm.MethodName) jdk_42_method_139_code 1 (some (.object "java/lang/String")) ({ frames := 2, cells := 2, slots := 6, locals := 29 } : Room) [.int p] h0 [] (fun v h M' => ∃ x t, v = some (.ref x) ∧ M' = [] ∧ Keep h0 h [] ∧ StrU Z h x t [p]) := by
  refine of_body (a0 := a0) opn_27 (own_ew hw) hO (Ls := #[.val (.int p)]) (fun m => by first | (simp [entryFrame, mkF, argsToLocals, Value.category]; done) | rfl) (fun κ T0 w0 hnm => ?_)
  obtain ⟨zC, SC, hzC⟩ := hw.2.1.1
  refine W.getS w0 (ow_20 hw) Via.refl (SC.ext w0.old.2) od_17_0 (pc' := 3) rfl fun T1 w2 => ?_
  refine W.ifNo w2 od_17_3 (pc' := 6) rfl ((if0 _ _).trans (feq hzC).1) ?_
  refine W.iloadN w2 od_17_6 (pc' := 7) rfl rfl ?_
  refine W.callS w2 (ow_78 hw) (ow_79 hw) (ow_65 hw) (ow_80 hw) (by decide) opd_17 (Ctr.pay (c_cen hw w2.old) (own_ew hw) (ow_80 hw) (ow_65 hw) (kf := 1) (kl := 12) (by decide) (by decide)) mN od_17_7 (pc' := 10) rfl rfl rfl (rest := []) rfl (Wd := 0) rfl (by decide) (by decide) (by decide) (by decide) fun v5 T3 h4 M6 w7 q8 => ?_
  obtain ⟨zc, rfl, rfl, ec, hc⟩ := q8
  obtain rfl := ec.symm
  show Go Z _ _ _ κ _ (T3.setTop (mkF (km κ) 10 #[.val (.int p)] [(.int zc)]))
  rcases Decidable.em (zc = (0 : Int32)) with hc9 | hc9
  · refine W.ifYes w7 od_17_10 (pc' := 26) (by decide) (by decide) ((if0 _ _).trans (teq hc9).1) ?_
    refine W.newO w7 (ow_81 hw) (ow_8 hw) (ow_9 hw) od_17_26 (pc' := 29) rfl (by decide) (by decide) fun T10 h11 a12 w13 K14 B15 E16 D17 => ?_
    have F18 : Fld Z h11 a12 "java/lang/String" "coder" "B" (.int (0 : Int32)) := D17 (Or.inr (ow_33 hw)) (ty := .byte) (by decide)
    have F19 : Fld Z h11 a12 "java/lang/String" "value" "[B" .null := D17 (Or.inr (ow_35 hw)) (ty := (.array .byte)) (by decide)
    refine Jvm.Own.W.dup w13 od_17_29 rfl rfl ?_
    refine W.iloadN w13 od_17_30 (pc' := 31) rfl rfl ?_
    refine W.callS w13 (ow_117 hw) (ow_118 hw) (ow_23 hw) (ow_119 hw) (by decide) opd_18 (Ctr.pay (c_tb1 hw w13.old) (own_ew hw) (ow_119 hw) (ow_23 hw) (kf := 2) (kl := 27) (by decide) (by decide)) mN od_17_31 (pc' := 34) rfl rfl rfl (rest := [(.ref a12), (.ref a12)]) rfl (Wd := 2) rfl (by decide) (by decide) (by decide) (by decide) fun v22 T20 h21 M23 w24 q25 => ?_
    obtain ⟨a26, rfl, rfl, K27, B28, k29, V30⟩ := q25
    have ne31 : a12 ≠ a26 := neL E16.lt B28
    show Go Z _ _ _ κ _ (T20.setTop (mkF (km κ) 34 #[.val (.int p)] [(.ref a26), (.ref a12), (.ref a12)]))
    refine W.iconst w24 od_17_34 (pc' := 35) rfl (z := (1 : Int32)) rfl ?_
    have f32 := (E16.keep K27)
    have f33 := (F19.keep K27 nin0)
    have f34 := (F18.keep K27 nin0)
    refine W.callI w24 (ow_85 hw) (ow_86 hw) (ow_87 hw) rfl (by decide) opd_19 (Ctr.pay (c_sbb1 hw f32 f33 f34 V30 ne31 hp16 w24.old) (own_ew hw) (ow_87 hw) (ow_9 hw) (kf := 2) (kl := 26) (by decide) (by decide)) (mC (memA mem0) mN) od_17_35 (pc' := 38) rfl rfl rfl (rest := [(.ref a12)]) rfl (Wd := 1) rfl (by decide) (by decide) (by decide) (by decide) fun v37 T35 h36 M38 w39 q40 => ?_
    obtain ⟨rfl, rfl, K41, F42⟩ := q40
    show Go Z _ _ _ κ _ (T35.setTop (mkF (km κ) 38 #[.val (.int p)] [(.ref a12)]))
    have C43 := Keep.refl h0 []
    have C44 := C43.trans K14 RoadKit.all0
    have C45 := C44.trans K27 RoadKit.all0
    have C46 := C45.trans K41 (allS (Or.inr B15) RoadKit.all0)
    exact W.retR w39 rfl rfl rfl od_17_38 (M' := []) mN (by decide) (by decide) ⟨a12, a26, rfl, rfl, C46, F42⟩
  · refine W.ifNo w7 od_17_10 (pc' := 13) rfl ((if0 _ _).trans (feq hc9).1) ?_
    refine W.newO w7 (ow_81 hw) (ow_8 hw) (ow_9 hw) od_17_13 (pc' := 16) rfl (by decide) (by decide) fun T47 h48 a49 w50 K51 B52 E53 D54 => ?_
    have F55 : Fld Z h48 a49 "java/lang/String" "coder" "B" (.int (0 : Int32)) := D54 (Or.inr (ow_33 hw)) (ty := .byte) (by decide)
    have F56 : Fld Z h48 a49 "java/lang/String" "value" "[B" .null := D54 (Or.inr (ow_35 hw)) (ty := (.array .byte)) (by decide)
    refine Jvm.Own.W.dup w50 od_17_16 rfl rfl ?_
    refine W.iloadN w50 od_17_17 (pc' := 18) rfl rfl ?_
    refine W.callS w50 (ow_82 hw) (ow_83 hw) (ow_65 hw) (ow_84 hw) (by decide) opd_18 (Ctr.pay (c_tb0 hw w50.old) (own_ew hw) (ow_84 hw) (ow_65 hw) (kf := 1) (kl := 12) (by decide) (by decide)) mN od_17_18 (pc' := 21) rfl rfl rfl (rest := [(.ref a49), (.ref a49)]) rfl (Wd := 2) rfl (by decide) (by decide) (by decide) (by decide) fun v59 T57 h58 M60 w61 q62 => ?_
    obtain ⟨a63, rfl, rfl, K64, B65, k66, V67⟩ := q62
    have ne68 : a49 ≠ a63 := neL E53.lt B65
    show Go Z _ _ _ κ _ (T57.setTop (mkF (km κ) 21 #[.val (.int p)] [(.ref a63), (.ref a49), (.ref a49)]))
    refine W.iconst w61 od_17_21 (pc' := 22) rfl (z := (0 : Int32)) rfl ?_
    have f69 := (E53.keep K64)
    have f70 := (F56.keep K64 nin0)
    have f71 := (F55.keep K64 nin0)
    refine W.callI w61 (ow_85 hw) (ow_86 hw) (ow_87 hw) rfl (by decide) opd_19 (Ctr.pay (c_sbb0 hw f69 f70 f71 V67 ne68 hp16 (hc.elim (fun q => q.2) (fun q => absurd q.1 hc9)) w61.old) (own_ew hw) (ow_87 hw) (ow_9 hw) (kf := 2) (kl := 26) (by decide) (by decide)) (mC (memA mem0) mN) od_17_22 (pc' := 25) rfl rfl rfl (rest := [(.ref a49)]) rfl (Wd := 1) rfl (by decide) (by decide) (by decide) (by decide) fun v74 T72 h73 M75 w76 q77 => ?_
    obtain ⟨rfl, rfl, K78, F79⟩ := q77
    show Go Z _ _ _ κ _ (T72.setTop (mkF (km κ) 25 #[.val (.int p)] [(.ref a49)]))
    have C80 := Keep.refl h0 []
    have C81 := C80.trans K51 RoadKit.all0
    have C82 := C81.trans K64 RoadKit.all0
    have C83 := C82.trans K78 (allS (Or.inr B52) RoadKit.all0)
    exact W.retR w76 rfl rfl rfl od_17_25 (M' := []) mN (by decide) (by decide) ⟨a49, a63, rfl, rfl, C83, F79⟩
set_option maxRecDepth 65536 in
set_option maxHeartbeats 40000000 in
theorem g_73 {l : Launch} {Z : State} {a0 : Array Value} (hw : HW Z a0) {κ : Ka} {T0 : State} {h0 : Heap} {p0 p1 p2 p3 : Int32} {p4 : Int64} {i6 j7 n10 : Nat} {ca cb : Int32} {xc sel : Int32} (hxh : hexd xc) (hx16 : chr16 xc) (w0 : W l Z a0 EL0 nw0 x.cls code maxLocals ret room_1 κ T0 h0 [] 0 0) : Go Z EL0 nw0 room_1 κ (fun v h M' => v = some (.int 1)) (T0.setTop (mkF (km κ) 73 #[.val (.int p0), .val (.int p1), .val (.int p2), .val (.int p3), .val (.long p4), .second, .val (.int (Int32.ofNat (i6))), .val (.int (Int32.ofNat (j7))), .val (.int ca), .val (.int cb), .val (.int (Int32.ofNat (n10))), .val (.int xc), .val (.int sel), .unset, .unset] [])) := by
  refine W.bipush w0 od_0_73 (pc' := 75) rfl (z := (65 : Int32)) rfl ?_
  refine W.newP w0 (ty := .char) rfl (ow_2 hw) od_0_75 (pc' := 77) rfl (by decide) (cap := 65) (by decide) (by decide) (by decide) (by decide) fun T1 h2 a3 k4 w5 K6 B7 V8 => ?_
  have V9 : Arv Z h2 a3 k4 .char (65 : Int32) (rp 0 xc 65) (.int (0 : Int32)) := by rw [rp_0]; exact V8
  refine Jvm.Own.W.dup w5 od_0_77 rfl rfl ?_
  refine W.iconst w5 od_0_78 (pc' := 79) rfl (z := (0 : Int32)) rfl ?_
  refine W.iload w5 od_0_79 (pc' := 81) rfl rfl ?_
  refine W.stC w5 (x' := xc) (nar_16 hx16) V9 (i := 0) (by decide) ⟨by decide, by decide⟩ (by rw [rp_len _ (by decide)]; decide) mem0 od_0_81 (pc' := 82) rfl fun T10 h11 w12 K13 V14 => ?_
  rw [rp_set _ (by decide)] at V14
  have V15 : Arv Z h11 a3 k4 .char (65 : Int32) (rp 1 xc 65) (.int (0 : Int32)) := V14
  refine Jvm.Own.W.dup w12 od_0_82 rfl rfl ?_
  refine W.iconst w12 od_0_83 (pc' := 84) rfl (z := (1 : Int32)) rfl ?_
  refine W.iload w12 od_0_84 (pc' := 86) rfl rfl ?_
  refine W.stC w12 (x' := xc) (nar_16 hx16) V15 (i := 1) (by decide) ⟨by decide, by decide⟩ (by rw [rp_len _ (by decide)]; decide) mem0 od_0_86 (pc' := 87) rfl fun T16 h17 w18 K19 V20 => ?_
  rw [rp_set _ (by decide)] at V20
  have V21 : Arv Z h17 a3 k4 .char (65 : Int32) (rp 2 xc 65) (.int (0 : Int32)) := V20
  refine Jvm.Own.W.dup w18 od_0_87 rfl rfl ?_
  refine W.iconst w18 od_0_88 (pc' := 89) rfl (z := (2 : Int32)) rfl ?_
  refine W.iload w18 od_0_89 (pc' := 91) rfl rfl ?_
  refine W.stC w18 (x' := xc) (nar_16 hx16) V21 (i := 2) (by decide) ⟨by decide, by decide⟩ (by rw [rp_len _ (by decide)]; decide) mem0 od_0_91 (pc' := 92) rfl fun T22 h23 w24 K25 V26 => ?_
  rw [rp_set _ (by decide)] at V26
  have V27 : Arv Z h23 a3 k4 .char (65 : Int32) (rp 3 xc 65) (.int (0 : Int32)) := V26
  refine Jvm.Own.W.dup w24 od_0_92 rfl rfl ?_
  refine W.iconst w24 od_0_93 (pc' := 94) rfl (z := (3 : Int32)) rfl ?_
  refine W.iload w24 od_0_94 (pc' := 96) rfl rfl ?_
  refine W.stC w24 (x' := xc) (nar_16 hx16) V27 (i := 3) (by decide) ⟨by decide, by decide⟩ (by rw [rp_len _ (by decide)]; decide) mem0 od_0_96 (pc' := 97) rfl fun T28 h29 w30 K31 V32 => ?_
  rw [rp_set _ (by decide)] at V32
  have V33 : Arv Z h29 a3 k4 .char (65 : Int32) (rp 4 xc 65) (.int (0 : Int32)) := V32
  refine Jvm.Own.W.dup w30 od_0_97 rfl rfl ?_
  refine W.iconst w30 od_0_98 (pc' := 99) rfl (z := (4 : Int32)) rfl ?_
  refine W.iload w30 od_0_99 (pc' := 101) rfl rfl ?_
  refine W.stC w30 (x' := xc) (nar_16 hx16) V33 (i := 4) (by decide) ⟨by decide, by decide⟩ (by rw [rp_len _ (by decide)]; decide) mem0 od_0_101 (pc' := 102) rfl fun T34 h35 w36 K37 V38 => ?_
  rw [rp_set _ (by decide)] at V38
  have V39 : Arv Z h35 a3 k4 .char (65 : Int32) (rp 5 xc 65) (.int (0 : Int32)) := V38
  refine Jvm.Own.W.dup w36 od_0_102 rfl rfl ?_
  refine W.iconst w36 od_0_103 (pc' := 104) rfl (z := (5 : Int32)) rfl ?_
  refine W.iload w36 od_0_104 (pc' := 106) rfl rfl ?_
  refine W.stC w36 (x' := xc) (nar_16 hx16) V39 (i := 5) (by decide) ⟨by decide, by decide⟩ (by rw [rp_len _ (by decide)]; decide) mem0 od_0_106 (pc' := 107) rfl fun T40 h41 w42 K43 V44 => ?_
  rw [rp_set _ (by decide)] at V44
  have V45 : Arv Z h41 a3 k4 .char (65 : Int32) (rp 6 xc 65) (.int (0 : Int32)) := V44
  refine Jvm.Own.W.dup w42 od_0_107 rfl rfl ?_
  refine W.bipush w42 od_0_108 (pc' := 110) rfl (z := (6 : Int32)) rfl ?_
  refine W.iload w42 od_0_110 (pc' := 112) rfl rfl ?_
  refine W.stC w42 (x' := xc) (nar_16 hx16) V45 (i := 6) (by decide) ⟨by decide, by decide⟩ (by rw [rp_len _ (by decide)]; decide) mem0 od_0_112 (pc' := 113) rfl fun T46 h47 w48 K49 V50 => ?_
  rw [rp_set _ (by decide)] at V50
  have V51 : Arv Z h47 a3 k4 .char (65 : Int32) (rp 7 xc 65) (.int (0 : Int32)) := V50
  refine Jvm.Own.W.dup w48 od_0_113 rfl rfl ?_
  refine W.bipush w48 od_0_114 (pc' := 116) rfl (z := (7 : Int32)) rfl ?_
  refine W.iload w48 od_0_116 (pc' := 118) rfl rfl ?_
  refine W.stC w48 (x' := xc) (nar_16 hx16) V51 (i := 7) (by decide) ⟨by decide, by decide⟩ (by rw [rp_len _ (by decide)]; decide) mem0 od_0_118 (pc' := 119) rfl fun T52 h53 w54 K55 V56 => ?_
  rw [rp_set _ (by decide)] at V56
  have V57 : Arv Z h53 a3 k4 .char (65 : Int32) (rp 8 xc 65) (.int (0 : Int32)) := V56
  refine Jvm.Own.W.dup w54 od_0_119 rfl rfl ?_
  refine W.bipush w54 od_0_120 (pc' := 122) rfl (z := (8 : Int32)) rfl ?_
  refine W.iload w54 od_0_122 (pc' := 124) rfl rfl ?_
  refine W.stC w54 (x' := xc) (nar_16 hx16) V57 (i := 8) (by decide) ⟨by decide, by decide⟩ (by rw [rp_len _ (by decide)]; decide) mem0 od_0_124 (pc' := 125) rfl fun T58 h59 w60 K61 V62 => ?_
  rw [rp_set _ (by decide)] at V62
  have V63 : Arv Z h59 a3 k4 .char (65 : Int32) (rp 9 xc 65) (.int (0 : Int32)) := V62
  refine Jvm.Own.W.dup w60 od_0_125 rfl rfl ?_
  refine W.bipush w60 od_0_126 (pc' := 128) rfl (z := (9 : Int32)) rfl ?_
  refine W.iload w60 od_0_128 (pc' := 130) rfl rfl ?_
  refine W.stC w60 (x' := xc) (nar_16 hx16) V63 (i := 9) (by decide) ⟨by decide, by decide⟩ (by rw [rp_len _ (by decide)]; decide) mem0 od_0_130 (pc' := 131) rfl fun T64 h65 w66 K67 V68 => ?_
  rw [rp_set _ (by decide)] at V68
  have V69 : Arv Z h65 a3 k4 .char (65 : Int32) (rp 10 xc 65) (.int (0 : Int32)) := V68
  refine Jvm.Own.W.dup w66 od_0_131 rfl rfl ?_
  refine W.bipush w66 od_0_132 (pc' := 134) rfl (z := (10 : Int32)) rfl ?_
  refine W.iload w66 od_0_134 (pc' := 136) rfl rfl ?_
  refine W.stC w66 (x' := xc) (nar_16 hx16) V69 (i := 10) (by decide) ⟨by decide, by decide⟩ (by rw [rp_len _ (by decide)]; decide) mem0 od_0_136 (pc' := 137) rfl fun T70 h71 w72 K73 V74 => ?_
  rw [rp_set _ (by decide)] at V74
  have V75 : Arv Z h71 a3 k4 .char (65 : Int32) (rp 11 xc 65) (.int (0 : Int32)) := V74
  refine Jvm.Own.W.dup w72 od_0_137 rfl rfl ?_
  refine W.bipush w72 od_0_138 (pc' := 140) rfl (z := (11 : Int32)) rfl ?_
  refine W.iload w72 od_0_140 (pc' := 142) rfl rfl ?_
  refine W.stC w72 (x' := xc) (nar_16 hx16) V75 (i := 11) (by decide) ⟨by decide, by decide⟩ (by rw [rp_len _ (by decide)]; decide) mem0 od_0_142 (pc' := 143) rfl fun T76 h77 w78 K79 V80 => ?_
  rw [rp_set _ (by decide)] at V80
  have V81 : Arv Z h77 a3 k4 .char (65 : Int32) (rp 12 xc 65) (.int (0 : Int32)) := V80
  refine Jvm.Own.W.dup w78 od_0_143 rfl rfl ?_
  refine W.bipush w78 od_0_144 (pc' := 146) rfl (z := (12 : Int32)) rfl ?_
  refine W.iload w78 od_0_146 (pc' := 148) rfl rfl ?_
  refine W.stC w78 (x' := xc) (nar_16 hx16) V81 (i := 12) (by decide) ⟨by decide, by decide⟩ (by rw [rp_len _ (by decide)]; decide) mem0 od_0_148 (pc' := 149) rfl fun T82 h83 w84 K85 V86 => ?_
  rw [rp_set _ (by decide)] at V86
  have V87 : Arv Z h83 a3 k4 .char (65 : Int32) (rp 13 xc 65) (.int (0 : Int32)) := V86
  refine Jvm.Own.W.dup w84 od_0_149 rfl rfl ?_
  refine W.bipush w84 od_0_150 (pc' := 152) rfl (z := (13 : Int32)) rfl ?_
  refine W.iload w84 od_0_152 (pc' := 154) rfl rfl ?_
  refine W.stC w84 (x' := xc) (nar_16 hx16) V87 (i := 13) (by decide) ⟨by decide, by decide⟩ (by rw [rp_len _ (by decide)]; decide) mem0 od_0_154 (pc' := 155) rfl fun T88 h89 w90 K91 V92 => ?_
  rw [rp_set _ (by decide)] at V92
  have V93 : Arv Z h89 a3 k4 .char (65 : Int32) (rp 14 xc 65) (.int (0 : Int32)) := V92
  refine Jvm.Own.W.dup w90 od_0_155 rfl rfl ?_
  refine W.bipush w90 od_0_156 (pc' := 158) rfl (z := (14 : Int32)) rfl ?_
  refine W.iload w90 od_0_158 (pc' := 160) rfl rfl ?_
  refine W.stC w90 (x' := xc) (nar_16 hx16) V93 (i := 14) (by decide) ⟨by decide, by decide⟩ (by rw [rp_len _ (by decide)]; decide) mem0 od_0_160 (pc' := 161) rfl fun T94 h95 w96 K97 V98 => ?_
  rw [rp_set _ (by decide)] at V98
  have V99 : Arv Z h95 a3 k4 .char (65 : Int32) (rp 15 xc 65) (.int (0 : Int32)) := V98
  refine Jvm.Own.W.dup w96 od_0_161 rfl rfl ?_
  refine W.bipush w96 od_0_162 (pc' := 164) rfl (z := (15 : Int32)) rfl ?_
  refine W.iload w96 od_0_164 (pc' := 166) rfl rfl ?_
  refine W.stC w96 (x' := xc) (nar_16 hx16) V99 (i := 15) (by decide) ⟨by decide, by decide⟩ (by rw [rp_len _ (by decide)]; decide) mem0 od_0_166 (pc' := 167) rfl fun T100 h101 w102 K103 V104 => ?_
  rw [rp_set _ (by decide)] at V104
  have V105 : Arv Z h101 a3 k4 .char (65 : Int32) (rp 16 xc 65) (.int (0 : Int32)) := V104
  refine Jvm.Own.W.dup w102 od_0_167 rfl rfl ?_
  refine W.bipush w102 od_0_168 (pc' := 170) rfl (z := (16 : Int32)) rfl ?_
  refine W.iload w102 od_0_170 (pc' := 172) rfl rfl ?_
  refine W.stC w102 (x' := xc) (nar_16 hx16) V105 (i := 16) (by decide) ⟨by decide, by decide⟩ (by rw [rp_len _ (by decide)]; decide) mem0 od_0_172 (pc' := 173) rfl fun T106 h107 w108 K109 V110 => ?_
  rw [rp_set _ (by decide)] at V110
  have V111 : Arv Z h107 a3 k4 .char (65 : Int32) (rp 17 xc 65) (.int (0 : Int32)) := V110
  refine Jvm.Own.W.dup w108 od_0_173 rfl rfl ?_
  refine W.bipush w108 od_0_174 (pc' := 176) rfl (z := (17 : Int32)) rfl ?_
  refine W.iload w108 od_0_176 (pc' := 178) rfl rfl ?_
  refine W.stC w108 (x' := xc) (nar_16 hx16) V111 (i := 17) (by decide) ⟨by decide, by decide⟩ (by rw [rp_len _ (by decide)]; decide) mem0 od_0_178 (pc' := 179) rfl fun T112 h113 w114 K115 V116 => ?_
  rw [rp_set _ (by decide)] at V116
  have V117 : Arv Z h113 a3 k4 .char (65 : Int32) (rp 18 xc 65) (.int (0 : Int32)) := V116
  refine Jvm.Own.W.dup w114 od_0_179 rfl rfl ?_
  refine W.bipush w114 od_0_180 (pc' := 182) rfl (z := (18 : Int32)) rfl ?_
  refine W.iload w114 od_0_182 (pc' := 184) rfl rfl ?_
  refine W.stC w114 (x' := xc) (nar_16 hx16) V117 (i := 18) (by decide) ⟨by decide, by decide⟩ (by rw [rp_len _ (by decide)]; decide) mem0 od_0_184 (pc' := 185) rfl fun T118 h119 w120 K121 V122 => ?_
  rw [rp_set _ (by decide)] at V122
  have V123 : Arv Z h119 a3 k4 .char (65 : Int32) (rp 19 xc 65) (.int (0 : Int32)) := V122
  refine Jvm.Own.W.dup w120 od_0_185 rfl rfl ?_
  refine W.bipush w120 od_0_186 (pc' := 188) rfl (z := (19 : Int32)) rfl ?_
  refine W.iload w120 od_0_188 (pc' := 190) rfl rfl ?_
  refine W.stC w120 (x' := xc) (nar_16 hx16) V123 (i := 19) (by decide) ⟨by decide, by decide⟩ (by rw [rp_len _ (by decide)]; decide) mem0 od_0_190 (pc' := 191) rfl fun T124 h125 w126 K127 V128 => ?_
  rw [rp_set _ (by decide)] at V128
  have V129 : Arv Z h125 a3 k4 .char (65 : Int32) (rp 20 xc 65) (.int (0 : Int32)) := V128
  refine Jvm.Own.W.dup w126 od_0_191 rfl rfl ?_
  refine W.bipush w126 od_0_192 (pc' := 194) rfl (z := (20 : Int32)) rfl ?_
  refine W.iload w126 od_0_194 (pc' := 196) rfl rfl ?_
  refine W.stC w126 (x' := xc) (nar_16 hx16) V129 (i := 20) (by decide) ⟨by decide, by decide⟩ (by rw [rp_len _ (by decide)]; decide) mem0 od_0_196 (pc' := 197) rfl fun T130 h131 w132 K133 V134 => ?_
  rw [rp_set _ (by decide)] at V134
  have V135 : Arv Z h131 a3 k4 .char (65 : Int32) (rp 21 xc 65) (.int (0 : Int32)) := V134
  refine Jvm.Own.W.dup w132 od_0_197 rfl rfl ?_
  refine W.bipush w132 od_0_198 (pc' := 200) rfl (z := (21 : Int32)) rfl ?_
  refine W.iload w132 od_0_200 (pc' := 202) rfl rfl ?_
  refine W.stC w132 (x' := xc) (nar_16 hx16) V135 (i := 21) (by decide) ⟨by decide, by decide⟩ (by rw [rp_len _ (by decide)]; decide) mem0 od_0_202 (pc' := 203) rfl fun T136 h137 w138 K139 V140 => ?_
  rw [rp_set _ (by decide)] at V140
  have V141 : Arv Z h137 a3 k4 .char (65 : Int32) (rp 22 xc 65) (.int (0 : Int32)) := V140
  refine Jvm.Own.W.dup w138 od_0_203 rfl rfl ?_
  refine W.bipush w138 od_0_204 (pc' := 206) rfl (z := (22 : Int32)) rfl ?_
  refine W.iload w138 od_0_206 (pc' := 208) rfl rfl ?_
  refine W.stC w138 (x' := xc) (nar_16 hx16) V141 (i := 22) (by decide) ⟨by decide, by decide⟩ (by rw [rp_len _ (by decide)]; decide) mem0 od_0_208 (pc' := 209) rfl fun T142 h143 w144 K145 V146 => ?_
  rw [rp_set _ (by decide)] at V146
  have V147 : Arv Z h143 a3 k4 .char (65 : Int32) (rp 23 xc 65) (.int (0 : Int32)) := V146
  refine Jvm.Own.W.dup w144 od_0_209 rfl rfl ?_
  refine W.bipush w144 od_0_210 (pc' := 212) rfl (z := (23 : Int32)) rfl ?_
  refine W.iload w144 od_0_212 (pc' := 214) rfl rfl ?_
  refine W.stC w144 (x' := xc) (nar_16 hx16) V147 (i := 23) (by decide) ⟨by decide, by decide⟩ (by rw [rp_len _ (by decide)]; decide) mem0 od_0_214 (pc' := 215) rfl fun T148 h149 w150 K151 V152 => ?_
  rw [rp_set _ (by decide)] at V152
  have V153 : Arv Z h149 a3 k4 .char (65 : Int32) (rp 24 xc 65) (.int (0 : Int32)) := V152
  refine Jvm.Own.W.dup w150 od_0_215 rfl rfl ?_
  refine W.bipush w150 od_0_216 (pc' := 218) rfl (z := (24 : Int32)) rfl ?_
  refine W.iload w150 od_0_218 (pc' := 220) rfl rfl ?_
  refine W.stC w150 (x' := xc) (nar_16 hx16) V153 (i := 24) (by decide) ⟨by decide, by decide⟩ (by rw [rp_len _ (by decide)]; decide) mem0 od_0_220 (pc' := 221) rfl fun T154 h155 w156 K157 V158 => ?_
  rw [rp_set _ (by decide)] at V158
  have V159 : Arv Z h155 a3 k4 .char (65 : Int32) (rp 25 xc 65) (.int (0 : Int32)) := V158
  refine Jvm.Own.W.dup w156 od_0_221 rfl rfl ?_
  refine W.bipush w156 od_0_222 (pc' := 224) rfl (z := (25 : Int32)) rfl ?_
  refine W.iload w156 od_0_224 (pc' := 226) rfl rfl ?_
  refine W.stC w156 (x' := xc) (nar_16 hx16) V159 (i := 25) (by decide) ⟨by decide, by decide⟩ (by rw [rp_len _ (by decide)]; decide) mem0 od_0_226 (pc' := 227) rfl fun T160 h161 w162 K163 V164 => ?_
  rw [rp_set _ (by decide)] at V164
  have V165 : Arv Z h161 a3 k4 .char (65 : Int32) (rp 26 xc 65) (.int (0 : Int32)) := V164
  refine Jvm.Own.W.dup w162 od_0_227 rfl rfl ?_
  refine W.bipush w162 od_0_228 (pc' := 230) rfl (z := (26 : Int32)) rfl ?_
  refine W.iload w162 od_0_230 (pc' := 232) rfl rfl ?_
  refine W.stC w162 (x' := xc) (nar_16 hx16) V165 (i := 26) (by decide) ⟨by decide, by decide⟩ (by rw [rp_len _ (by decide)]; decide) mem0 od_0_232 (pc' := 233) rfl fun T166 h167 w168 K169 V170 => ?_
  rw [rp_set _ (by decide)] at V170
  have V171 : Arv Z h167 a3 k4 .char (65 : Int32) (rp 27 xc 65) (.int (0 : Int32)) := V170
  refine Jvm.Own.W.dup w168 od_0_233 rfl rfl ?_
  refine W.bipush w168 od_0_234 (pc' := 236) rfl (z := (27 : Int32)) rfl ?_
  refine W.iload w168 od_0_236 (pc' := 238) rfl rfl ?_
  refine W.stC w168 (x' := xc) (nar_16 hx16) V171 (i := 27) (by decide) ⟨by decide, by decide⟩ (by rw [rp_len _ (by decide)]; decide) mem0 od_0_238 (pc' := 239) rfl fun T172 h173 w174 K175 V176 => ?_
  rw [rp_set _ (by decide)] at V176
  have V177 : Arv Z h173 a3 k4 .char (65 : Int32) (rp 28 xc 65) (.int (0 : Int32)) := V176
  refine Jvm.Own.W.dup w174 od_0_239 rfl rfl ?_
  refine W.bipush w174 od_0_240 (pc' := 242) rfl (z := (28 : Int32)) rfl ?_
  refine W.iload w174 od_0_242 (pc' := 244) rfl rfl ?_
  refine W.stC w174 (x' := xc) (nar_16 hx16) V177 (i := 28) (by decide) ⟨by decide, by decide⟩ (by rw [rp_len _ (by decide)]; decide) mem0 od_0_244 (pc' := 245) rfl fun T178 h179 w180 K181 V182 => ?_
  rw [rp_set _ (by decide)] at V182
  have V183 : Arv Z h179 a3 k4 .char (65 : Int32) (rp 29 xc 65) (.int (0 : Int32)) := V182
  refine Jvm.Own.W.dup w180 od_0_245 rfl rfl ?_
  refine W.bipush w180 od_0_246 (pc' := 248) rfl (z := (29 : Int32)) rfl ?_
  refine W.iload w180 od_0_248 (pc' := 250) rfl rfl ?_
  refine W.stC w180 (x' := xc) (nar_16 hx16) V183 (i := 29) (by decide) ⟨by decide, by decide⟩ (by rw [rp_len _ (by decide)]; decide) mem0 od_0_250 (pc' := 251) rfl fun T184 h185 w186 K187 V188 => ?_
  rw [rp_set _ (by decide)] at V188
  have V189 : Arv Z h185 a3 k4 .char (65 : Int32) (rp 30 xc 65) (.int (0 : Int32)) := V188
  refine Jvm.Own.W.dup w186 od_0_251 rfl rfl ?_
  refine W.bipush w186 od_0_252 (pc' := 254) rfl (z := (30 : Int32)) rfl ?_
  refine W.iload w186 od_0_254 (pc' := 256) rfl rfl ?_
  refine W.stC w186 (x' := xc) (nar_16 hx16) V189 (i := 30) (by decide) ⟨by decide, by decide⟩ (by rw [rp_len _ (by decide)]; decide) mem0 od_0_256 (pc' := 257) rfl fun T190 h191 w192 K193 V194 => ?_
  rw [rp_set _ (by decide)] at V194
  have V195 : Arv Z h191 a3 k4 .char (65 : Int32) (rp 31 xc 65) (.int (0 : Int32)) := V194
  refine Jvm.Own.W.dup w192 od_0_257 rfl rfl ?_
  refine W.bipush w192 od_0_258 (pc' := 260) rfl (z := (31 : Int32)) rfl ?_
  refine W.iload w192 od_0_260 (pc' := 262) rfl rfl ?_
  refine W.stC w192 (x' := xc) (nar_16 hx16) V195 (i := 31) (by decide) ⟨by decide, by decide⟩ (by rw [rp_len _ (by decide)]; decide) mem0 od_0_262 (pc' := 263) rfl fun T196 h197 w198 K199 V200 => ?_
  rw [rp_set _ (by decide)] at V200
  have V201 : Arv Z h197 a3 k4 .char (65 : Int32) (rp 32 xc 65) (.int (0 : Int32)) := V200
  refine Jvm.Own.W.dup w198 od_0_263 rfl rfl ?_
  refine W.bipush w198 od_0_264 (pc' := 266) rfl (z := (32 : Int32)) rfl ?_
  refine W.iload w198 od_0_266 (pc' := 268) rfl rfl ?_
  refine W.stC w198 (x' := xc) (nar_16 hx16) V201 (i := 32) (by decide) ⟨by decide, by decide⟩ (by rw [rp_len _ (by decide)]; decide) mem0 od_0_268 (pc' := 269) rfl fun T202 h203 w204 K205 V206 => ?_
  rw [rp_set _ (by decide)] at V206
  have V207 : Arv Z h203 a3 k4 .char (65 : Int32) (rp 33 xc 65) (.int (0 : Int32)) := V206
  refine Jvm.Own.W.dup w204 od_0_269 rfl rfl ?_
  refine W.bipush w204 od_0_270 (pc' := 272) rfl (z := (33 : Int32)) rfl ?_
  refine W.iload w204 od_0_272 (pc' := 274) rfl rfl ?_
  refine W.stC w204 (x' := xc) (nar_16 hx16) V207 (i := 33) (by decide) ⟨by decide, by decide⟩ (by rw [rp_len _ (by decide)]; decide) mem0 od_0_274 (pc' := 275) rfl fun T208 h209 w210 K211 V212 => ?_
  rw [rp_set _ (by decide)] at V212
  have V213 : Arv Z h209 a3 k4 .char (65 : Int32) (rp 34 xc 65) (.int (0 : Int32)) := V212
  refine Jvm.Own.W.dup w210 od_0_275 rfl rfl ?_
  refine W.bipush w210 od_0_276 (pc' := 278) rfl (z := (34 : Int32)) rfl ?_
  refine W.iload w210 od_0_278 (pc' := 280) rfl rfl ?_
  refine W.stC w210 (x' := xc) (nar_16 hx16) V213 (i := 34) (by decide) ⟨by decide, by decide⟩ (by rw [rp_len _ (by decide)]; decide) mem0 od_0_280 (pc' := 281) rfl fun T214 h215 w216 K217 V218 => ?_
  rw [rp_set _ (by decide)] at V218
  have V219 : Arv Z h215 a3 k4 .char (65 : Int32) (rp 35 xc 65) (.int (0 : Int32)) := V218
  refine Jvm.Own.W.dup w216 od_0_281 rfl rfl ?_
  refine W.bipush w216 od_0_282 (pc' := 284) rfl (z := (35 : Int32)) rfl ?_
  refine W.iload w216 od_0_284 (pc' := 286) rfl rfl ?_
  refine W.stC w216 (x' := xc) (nar_16 hx16) V219 (i := 35) (by decide) ⟨by decide, by decide⟩ (by rw [rp_len _ (by decide)]; decide) mem0 od_0_286 (pc' := 287) rfl fun T220 h221 w222 K223 V224 => ?_
  rw [rp_set _ (by decide)] at V224
  have V225 : Arv Z h221 a3 k4 .char (65 : Int32) (rp 36 xc 65) (.int (0 : Int32)) := V224
  refine Jvm.Own.W.dup w222 od_0_287 rfl rfl ?_
  refine W.bipush w222 od_0_288 (pc' := 290) rfl (z := (36 : Int32)) rfl ?_
  refine W.iload w222 od_0_290 (pc' := 292) rfl rfl ?_
  refine W.stC w222 (x' := xc) (nar_16 hx16) V225 (i := 36) (by decide) ⟨by decide, by decide⟩ (by rw [rp_len _ (by decide)]; decide) mem0 od_0_292 (pc' := 293) rfl fun T226 h227 w228 K229 V230 => ?_
  rw [rp_set _ (by decide)] at V230
  have V231 : Arv Z h227 a3 k4 .char (65 : Int32) (rp 37 xc 65) (.int (0 : Int32)) := V230
  refine Jvm.Own.W.dup w228 od_0_293 rfl rfl ?_
  refine W.bipush w228 od_0_294 (pc' := 296) rfl (z := (37 : Int32)) rfl ?_
  refine W.iload w228 od_0_296 (pc' := 298) rfl rfl ?_
  refine W.stC w228 (x' := xc) (nar_16 hx16) V231 (i := 37) (by decide) ⟨by decide, by decide⟩ (by rw [rp_len _ (by decide)]; decide) mem0 od_0_298 (pc' := 299) rfl fun T232 h233 w234 K235 V236 => ?_
  rw [rp_set _ (by decide)] at V236
  have V237 : Arv Z h233 a3 k4 .char (65 : Int32) (rp 38 xc 65) (.int (0 : Int32)) := V236
  refine Jvm.Own.W.dup w234 od_0_299 rfl rfl ?_
  refine W.bipush w234 od_0_300 (pc' := 302) rfl (z := (38 : Int32)) rfl ?_
  refine W.iload w234 od_0_302 (pc' := 304) rfl rfl ?_
  refine W.stC w234 (x' := xc) (nar_16 hx16) V237 (i := 38) (by decide) ⟨by decide, by decide⟩ (by rw [rp_len _ (by decide)]; decide) mem0 od_0_304 (pc' := 305) rfl fun T238 h239 w240 K241 V242 => ?_
  rw [rp_set _ (by decide)] at V242
  have V243 : Arv Z h239 a3 k4 .char (65 : Int32) (rp 39 xc 65) (.int (0 : Int32)) := V242
  refine Jvm.Own.W.dup w240 od_0_305 rfl rfl ?_
  refine W.bipush w240 od_0_306 (pc' := 308) rfl (z := (39 : Int32)) rfl ?_
  refine W.iload w240 od_0_308 (pc' := 310) rfl rfl ?_
  refine W.stC w240 (x' := xc) (nar_16 hx16) V243 (i := 39) (by decide) ⟨by decide, by decide⟩ (by rw [rp_len _ (by decide)]; decide) mem0 od_0_310 (pc' := 311) rfl fun T244 h245 w246 K247 V248 => ?_
  rw [rp_set _ (by decide)] at V248
  have V249 : Arv Z h245 a3 k4 .char (65 : Int32) (rp 40 xc 65) (.int (0 : Int32)) := V248
  refine Jvm.Own.W.dup w246 od_0_311 rfl rfl ?_
  refine W.bipush w246 od_0_312 (pc' := 314) rfl (z := (40 : Int32)) rfl ?_
  refine W.iload w246 od_0_314 (pc' := 316) rfl rfl ?_
  refine W.stC w246 (x' := xc) (nar_16 hx16) V249 (i := 40) (by decide) ⟨by decide, by decide⟩ (by rw [rp_len _ (by decide)]; decide) mem0 od_0_316 (pc' := 317) rfl fun T250 h251 w252 K253 V254 => ?_
  rw [rp_set _ (by decide)] at V254
  have V255 : Arv Z h251 a3 k4 .char (65 : Int32) (rp 41 xc 65) (.int (0 : Int32)) := V254
  refine Jvm.Own.W.dup w252 od_0_317 rfl rfl ?_
  refine W.bipush w252 od_0_318 (pc' := 320) rfl (z := (41 : Int32)) rfl ?_
  refine W.iload w252 od_0_320 (pc' := 322) rfl rfl ?_
  refine W.stC w252 (x' := xc) (nar_16 hx16) V255 (i := 41) (by decide) ⟨by decide, by decide⟩ (by rw [rp_len _ (by decide)]; decide) mem0 od_0_322 (pc' := 323) rfl fun T256 h257 w258 K259 V260 => ?_
  rw [rp_set _ (by decide)] at V260
  have V261 : Arv Z h257 a3 k4 .char (65 : Int32) (rp 42 xc 65) (.int (0 : Int32)) := V260
  refine Jvm.Own.W.dup w258 od_0_323 rfl rfl ?_
  refine W.bipush w258 od_0_324 (pc' := 326) rfl (z := (42 : Int32)) rfl ?_
  refine W.iload w258 od_0_326 (pc' := 328) rfl rfl ?_
  refine W.stC w258 (x' := xc) (nar_16 hx16) V261 (i := 42) (by decide) ⟨by decide, by decide⟩ (by rw [rp_len _ (by decide)]; decide) mem0 od_0_328 (pc' := 329) rfl fun T262 h263 w264 K265 V266 => ?_
  rw [rp_set _ (by decide)] at V266
  have V267 : Arv Z h263 a3 k4 .char (65 : Int32) (rp 43 xc 65) (.int (0 : Int32)) := V266
  refine Jvm.Own.W.dup w264 od_0_329 rfl rfl ?_
  refine W.bipush w264 od_0_330 (pc' := 332) rfl (z := (43 : Int32)) rfl ?_
  refine W.iload w264 od_0_332 (pc' := 334) rfl rfl ?_
  refine W.stC w264 (x' := xc) (nar_16 hx16) V267 (i := 43) (by decide) ⟨by decide, by decide⟩ (by rw [rp_len _ (by decide)]; decide) mem0 od_0_334 (pc' := 335) rfl fun T268 h269 w270 K271 V272 => ?_
  rw [rp_set _ (by decide)] at V272
  have V273 : Arv Z h269 a3 k4 .char (65 : Int32) (rp 44 xc 65) (.int (0 : Int32)) := V272
  refine Jvm.Own.W.dup w270 od_0_335 rfl rfl ?_
  refine W.bipush w270 od_0_336 (pc' := 338) rfl (z := (44 : Int32)) rfl ?_
  refine W.iload w270 od_0_338 (pc' := 340) rfl rfl ?_
  refine W.stC w270 (x' := xc) (nar_16 hx16) V273 (i := 44) (by decide) ⟨by decide, by decide⟩ (by rw [rp_len _ (by decide)]; decide) mem0 od_0_340 (pc' := 341) rfl fun T274 h275 w276 K277 V278 => ?_
  rw [rp_set _ (by decide)] at V278
  have V279 : Arv Z h275 a3 k4 .char (65 : Int32) (rp 45 xc 65) (.int (0 : Int32)) := V278
  refine Jvm.Own.W.dup w276 od_0_341 rfl rfl ?_
  refine W.bipush w276 od_0_342 (pc' := 344) rfl (z := (45 : Int32)) rfl ?_
  refine W.iload w276 od_0_344 (pc' := 346) rfl rfl ?_
  refine W.stC w276 (x' := xc) (nar_16 hx16) V279 (i := 45) (by decide) ⟨by decide, by decide⟩ (by rw [rp_len _ (by decide)]; decide) mem0 od_0_346 (pc' := 347) rfl fun T280 h281 w282 K283 V284 => ?_
  rw [rp_set _ (by decide)] at V284
  have V285 : Arv Z h281 a3 k4 .char (65 : Int32) (rp 46 xc 65) (.int (0 : Int32)) := V284
  refine Jvm.Own.W.dup w282 od_0_347 rfl rfl ?_
  refine W.bipush w282 od_0_348 (pc' := 350) rfl (z := (46 : Int32)) rfl ?_
  refine W.iload w282 od_0_350 (pc' := 352) rfl rfl ?_
  refine W.stC w282 (x' := xc) (nar_16 hx16) V285 (i := 46) (by decide) ⟨by decide, by decide⟩ (by rw [rp_len _ (by decide)]; decide) mem0 od_0_352 (pc' := 353) rfl fun T286 h287 w288 K289 V290 => ?_
  rw [rp_set _ (by decide)] at V290
  have V291 : Arv Z h287 a3 k4 .char (65 : Int32) (rp 47 xc 65) (.int (0 : Int32)) := V290
  refine Jvm.Own.W.dup w288 od_0_353 rfl rfl ?_
  refine W.bipush w288 od_0_354 (pc' := 356) rfl (z := (47 : Int32)) rfl ?_
  refine W.iload w288 od_0_356 (pc' := 358) rfl rfl ?_
  refine W.stC w288 (x' := xc) (nar_16 hx16) V291 (i := 47) (by decide) ⟨by decide, by decide⟩ (by rw [rp_len _ (by decide)]; decide) mem0 od_0_358 (pc' := 359) rfl fun T292 h293 w294 K295 V296 => ?_
  rw [rp_set _ (by decide)] at V296
  have V297 : Arv Z h293 a3 k4 .char (65 : Int32) (rp 48 xc 65) (.int (0 : Int32)) := V296
  refine Jvm.Own.W.dup w294 od_0_359 rfl rfl ?_
  refine W.bipush w294 od_0_360 (pc' := 362) rfl (z := (48 : Int32)) rfl ?_
  refine W.iload w294 od_0_362 (pc' := 364) rfl rfl ?_
  refine W.stC w294 (x' := xc) (nar_16 hx16) V297 (i := 48) (by decide) ⟨by decide, by decide⟩ (by rw [rp_len _ (by decide)]; decide) mem0 od_0_364 (pc' := 365) rfl fun T298 h299 w300 K301 V302 => ?_
  rw [rp_set _ (by decide)] at V302
  have V303 : Arv Z h299 a3 k4 .char (65 : Int32) (rp 49 xc 65) (.int (0 : Int32)) := V302
  refine Jvm.Own.W.dup w300 od_0_365 rfl rfl ?_
  refine W.bipush w300 od_0_366 (pc' := 368) rfl (z := (49 : Int32)) rfl ?_
  refine W.iload w300 od_0_368 (pc' := 370) rfl rfl ?_
  refine W.stC w300 (x' := xc) (nar_16 hx16) V303 (i := 49) (by decide) ⟨by decide, by decide⟩ (by rw [rp_len _ (by decide)]; decide) mem0 od_0_370 (pc' := 371) rfl fun T304 h305 w306 K307 V308 => ?_
  rw [rp_set _ (by decide)] at V308
  have V309 : Arv Z h305 a3 k4 .char (65 : Int32) (rp 50 xc 65) (.int (0 : Int32)) := V308
  refine Jvm.Own.W.dup w306 od_0_371 rfl rfl ?_
  refine W.bipush w306 od_0_372 (pc' := 374) rfl (z := (50 : Int32)) rfl ?_
  refine W.iload w306 od_0_374 (pc' := 376) rfl rfl ?_
  refine W.stC w306 (x' := xc) (nar_16 hx16) V309 (i := 50) (by decide) ⟨by decide, by decide⟩ (by rw [rp_len _ (by decide)]; decide) mem0 od_0_376 (pc' := 377) rfl fun T310 h311 w312 K313 V314 => ?_
  rw [rp_set _ (by decide)] at V314
  have V315 : Arv Z h311 a3 k4 .char (65 : Int32) (rp 51 xc 65) (.int (0 : Int32)) := V314
  refine Jvm.Own.W.dup w312 od_0_377 rfl rfl ?_
  refine W.bipush w312 od_0_378 (pc' := 380) rfl (z := (51 : Int32)) rfl ?_
  refine W.iload w312 od_0_380 (pc' := 382) rfl rfl ?_
  refine W.stC w312 (x' := xc) (nar_16 hx16) V315 (i := 51) (by decide) ⟨by decide, by decide⟩ (by rw [rp_len _ (by decide)]; decide) mem0 od_0_382 (pc' := 383) rfl fun T316 h317 w318 K319 V320 => ?_
  rw [rp_set _ (by decide)] at V320
  have V321 : Arv Z h317 a3 k4 .char (65 : Int32) (rp 52 xc 65) (.int (0 : Int32)) := V320
  refine Jvm.Own.W.dup w318 od_0_383 rfl rfl ?_
  refine W.bipush w318 od_0_384 (pc' := 386) rfl (z := (52 : Int32)) rfl ?_
  refine W.iload w318 od_0_386 (pc' := 388) rfl rfl ?_
  refine W.stC w318 (x' := xc) (nar_16 hx16) V321 (i := 52) (by decide) ⟨by decide, by decide⟩ (by rw [rp_len _ (by decide)]; decide) mem0 od_0_388 (pc' := 389) rfl fun T322 h323 w324 K325 V326 => ?_
  rw [rp_set _ (by decide)] at V326
  have V327 : Arv Z h323 a3 k4 .char (65 : Int32) (rp 53 xc 65) (.int (0 : Int32)) := V326
  refine Jvm.Own.W.dup w324 od_0_389 rfl rfl ?_
  refine W.bipush w324 od_0_390 (pc' := 392) rfl (z := (53 : Int32)) rfl ?_
  refine W.iload w324 od_0_392 (pc' := 394) rfl rfl ?_
  refine W.stC w324 (x' := xc) (nar_16 hx16) V327 (i := 53) (by decide) ⟨by decide, by decide⟩ (by rw [rp_len _ (by decide)]; decide) mem0 od_0_394 (pc' := 395) rfl fun T328 h329 w330 K331 V332 => ?_
  rw [rp_set _ (by decide)] at V332
  have V333 : Arv Z h329 a3 k4 .char (65 : Int32) (rp 54 xc 65) (.int (0 : Int32)) := V332
  refine Jvm.Own.W.dup w330 od_0_395 rfl rfl ?_
  refine W.bipush w330 od_0_396 (pc' := 398) rfl (z := (54 : Int32)) rfl ?_
  refine W.iload w330 od_0_398 (pc' := 400) rfl rfl ?_
  refine W.stC w330 (x' := xc) (nar_16 hx16) V333 (i := 54) (by decide) ⟨by decide, by decide⟩ (by rw [rp_len _ (by decide)]; decide) mem0 od_0_400 (pc' := 401) rfl fun T334 h335 w336 K337 V338 => ?_
  rw [rp_set _ (by decide)] at V338
  have V339 : Arv Z h335 a3 k4 .char (65 : Int32) (rp 55 xc 65) (.int (0 : Int32)) := V338
  refine Jvm.Own.W.dup w336 od_0_401 rfl rfl ?_
  refine W.bipush w336 od_0_402 (pc' := 404) rfl (z := (55 : Int32)) rfl ?_
  refine W.iload w336 od_0_404 (pc' := 406) rfl rfl ?_
  refine W.stC w336 (x' := xc) (nar_16 hx16) V339 (i := 55) (by decide) ⟨by decide, by decide⟩ (by rw [rp_len _ (by decide)]; decide) mem0 od_0_406 (pc' := 407) rfl fun T340 h341 w342 K343 V344 => ?_
  rw [rp_set _ (by decide)] at V344
  have V345 : Arv Z h341 a3 k4 .char (65 : Int32) (rp 56 xc 65) (.int (0 : Int32)) := V344
  refine Jvm.Own.W.dup w342 od_0_407 rfl rfl ?_
  refine W.bipush w342 od_0_408 (pc' := 410) rfl (z := (56 : Int32)) rfl ?_
  refine W.iload w342 od_0_410 (pc' := 412) rfl rfl ?_
  refine W.stC w342 (x' := xc) (nar_16 hx16) V345 (i := 56) (by decide) ⟨by decide, by decide⟩ (by rw [rp_len _ (by decide)]; decide) mem0 od_0_412 (pc' := 413) rfl fun T346 h347 w348 K349 V350 => ?_
  rw [rp_set _ (by decide)] at V350
  have V351 : Arv Z h347 a3 k4 .char (65 : Int32) (rp 57 xc 65) (.int (0 : Int32)) := V350
  refine Jvm.Own.W.dup w348 od_0_413 rfl rfl ?_
  refine W.bipush w348 od_0_414 (pc' := 416) rfl (z := (57 : Int32)) rfl ?_
  refine W.iload w348 od_0_416 (pc' := 418) rfl rfl ?_
  refine W.stC w348 (x' := xc) (nar_16 hx16) V351 (i := 57) (by decide) ⟨by decide, by decide⟩ (by rw [rp_len _ (by decide)]; decide) mem0 od_0_418 (pc' := 419) rfl fun T352 h353 w354 K355 V356 => ?_
  rw [rp_set _ (by decide)] at V356
  have V357 : Arv Z h353 a3 k4 .char (65 : Int32) (rp 58 xc 65) (.int (0 : Int32)) := V356
  refine Jvm.Own.W.dup w354 od_0_419 rfl rfl ?_
  refine W.bipush w354 od_0_420 (pc' := 422) rfl (z := (58 : Int32)) rfl ?_
  refine W.iload w354 od_0_422 (pc' := 424) rfl rfl ?_
  refine W.stC w354 (x' := xc) (nar_16 hx16) V357 (i := 58) (by decide) ⟨by decide, by decide⟩ (by rw [rp_len _ (by decide)]; decide) mem0 od_0_424 (pc' := 425) rfl fun T358 h359 w360 K361 V362 => ?_
  rw [rp_set _ (by decide)] at V362
  have V363 : Arv Z h359 a3 k4 .char (65 : Int32) (rp 59 xc 65) (.int (0 : Int32)) := V362
  refine Jvm.Own.W.dup w360 od_0_425 rfl rfl ?_
  refine W.bipush w360 od_0_426 (pc' := 428) rfl (z := (59 : Int32)) rfl ?_
  refine W.iload w360 od_0_428 (pc' := 430) rfl rfl ?_
  refine W.stC w360 (x' := xc) (nar_16 hx16) V363 (i := 59) (by decide) ⟨by decide, by decide⟩ (by rw [rp_len _ (by decide)]; decide) mem0 od_0_430 (pc' := 431) rfl fun T364 h365 w366 K367 V368 => ?_
  rw [rp_set _ (by decide)] at V368
  have V369 : Arv Z h365 a3 k4 .char (65 : Int32) (rp 60 xc 65) (.int (0 : Int32)) := V368
  refine Jvm.Own.W.dup w366 od_0_431 rfl rfl ?_
  refine W.bipush w366 od_0_432 (pc' := 434) rfl (z := (60 : Int32)) rfl ?_
  refine W.iload w366 od_0_434 (pc' := 436) rfl rfl ?_
  refine W.stC w366 (x' := xc) (nar_16 hx16) V369 (i := 60) (by decide) ⟨by decide, by decide⟩ (by rw [rp_len _ (by decide)]; decide) mem0 od_0_436 (pc' := 437) rfl fun T370 h371 w372 K373 V374 => ?_
  rw [rp_set _ (by decide)] at V374
  have V375 : Arv Z h371 a3 k4 .char (65 : Int32) (rp 61 xc 65) (.int (0 : Int32)) := V374
  refine Jvm.Own.W.dup w372 od_0_437 rfl rfl ?_
  refine W.bipush w372 od_0_438 (pc' := 440) rfl (z := (61 : Int32)) rfl ?_
  refine W.iload w372 od_0_440 (pc' := 442) rfl rfl ?_
  refine W.stC w372 (x' := xc) (nar_16 hx16) V375 (i := 61) (by decide) ⟨by decide, by decide⟩ (by rw [rp_len _ (by decide)]; decide) mem0 od_0_442 (pc' := 443) rfl fun T376 h377 w378 K379 V380 => ?_
  rw [rp_set _ (by decide)] at V380
  have V381 : Arv Z h377 a3 k4 .char (65 : Int32) (rp 62 xc 65) (.int (0 : Int32)) := V380
  refine Jvm.Own.W.dup w378 od_0_443 rfl rfl ?_
  refine W.bipush w378 od_0_444 (pc' := 446) rfl (z := (62 : Int32)) rfl ?_
  refine W.iload w378 od_0_446 (pc' := 448) rfl rfl ?_
  refine W.stC w378 (x' := xc) (nar_16 hx16) V381 (i := 62) (by decide) ⟨by decide, by decide⟩ (by rw [rp_len _ (by decide)]; decide) mem0 od_0_448 (pc' := 449) rfl fun T382 h383 w384 K385 V386 => ?_
  rw [rp_set _ (by decide)] at V386
  have V387 : Arv Z h383 a3 k4 .char (65 : Int32) (rp 63 xc 65) (.int (0 : Int32)) := V386
  refine Jvm.Own.W.dup w384 od_0_449 rfl rfl ?_
  refine W.bipush w384 od_0_450 (pc' := 452) rfl (z := (63 : Int32)) rfl ?_
  refine W.iload w384 od_0_452 (pc' := 454) rfl rfl ?_
  refine W.stC w384 (x' := xc) (nar_16 hx16) V387 (i := 63) (by decide) ⟨by decide, by decide⟩ (by rw [rp_len _ (by decide)]; decide) mem0 od_0_454 (pc' := 455) rfl fun T388 h389 w390 K391 V392 => ?_
  rw [rp_set _ (by decide)] at V392
  have V393 : Arv Z h389 a3 k4 .char (65 : Int32) (rp 64 xc 65) (.int (0 : Int32)) := V392
  refine Jvm.Own.W.dup w390 od_0_455 rfl rfl ?_
  refine W.bipush w390 od_0_456 (pc' := 458) rfl (z := (64 : Int32)) rfl ?_
  refine W.iload w390 od_0_458 (pc' := 460) rfl rfl ?_
  refine W.stC w390 (x' := xc) (nar_16 hx16) V393 (i := 64) (by decide) ⟨by decide, by decide⟩ (by rw [rp_len _ (by decide)]; decide) mem0 od_0_460 (pc' := 461) rfl fun T394 h395 w396 K397 V398 => ?_
  rw [rp_set _ (by decide)] at V398
  have V399 : Arv Z h395 a3 k4 .char (Int32.ofNat (List.replicate 65 xc).length) ((List.replicate 65 xc).map Value.int) (.int (0 : Int32)) := by rw [List.length_replicate, ← rp_end]; exact V398
  refine W.astore w396 od_0_461 (pc' := 463) rfl (Ls' := #[.val (.int p0), .val (.int p1), .val (.int p2), .val (.int p3), .val (.long p4), .second, .val (.int (Int32.ofNat (i6))), .val (.int (Int32.ofNat (j7))), .val (.int ca), .val (.int cb), .val (.int (Int32.ofNat (n10))), .val (.int xc), .val (.int sel), .val (.ref a3), .unset]) rfl rfl ?_
  refine W.newO w396 (ow_7 hw) (ow_8 hw) (ow_9 hw) od_0_463 (pc' := 466) rfl (by decide) (by decide) fun T400 h401 a402 w403 K404 B405 E406 D407 => ?_
  have ne408 : a3 ≠ a402 := neL V399.lt B405
  have F409 : Fld Z h401 a402 "java/lang/String" "coder" "B" (.int (0 : Int32)) := D407 (Or.inr (ow_33 hw)) (ty := .byte) (by decide)
  have F410 : Fld Z h401 a402 "java/lang/String" "value" "[B" .null := D407 (Or.inr (ow_35 hw)) (ty := (.array .byte)) (by decide)
  refine Jvm.Own.W.dup w403 od_0_466 rfl rfl ?_
  refine W.aload w403 od_0_467 (pc' := 469) rfl rfl rfl ?_
  have f411 := (V399.keep K404 nin0)
  refine W.callI w403 (ow_10 hw) (ow_11 hw) (ow_12 hw) rfl (by decide) opd_20 (Ctr.pay (c_si1 hw (cs := (List.replicate 65 xc)) f411 (by simp) (fun c hc => by rw [List.eq_of_mem_replicate hc]; exact hx16) (by simp) E406 F410 F409 ne408 w403.old) (own_ew hw) (ow_12 hw) (ow_9 hw) (kf := 6) (kl := 87) (by decide) (by decide)) (mC mem0 mN) od_0_469 (pc' := 472) rfl rfl rfl (rest := [(.ref a402)]) rfl (Wd := 1) rfl (by decide) (by decide) (by decide) (by decide) fun v414 T412 h413 M415 w416 q417 => ?_
  obtain ⟨rfl, rfl, K418, t419, F420⟩ := q417
  show Go Z _ _ _ κ _ (T412.setTop (mkF (km κ) 472 #[.val (.int p0), .val (.int p1), .val (.int p2), .val (.int p3), .val (.long p4), .second, .val (.int (Int32.ofNat (i6))), .val (.int (Int32.ofNat (j7))), .val (.int ca), .val (.int cb), .val (.int (Int32.ofNat (n10))), .val (.int xc), .val (.int sel), .val (.ref a3), .unset] [(.ref a402)]))
  refine W.callS w416 (ow_36 hw) (ow_37 hw) (ow_38 hw) (ow_39 hw) (by decide) opd_21 (Ctr.pay (c_isHash hw F420 w416.old) (own_ew hw) (ow_39 hw) (ow_38 hw) (kf := 7) (kl := 93) (by decide) (by decide)) mN od_0_472 (pc' := 475) rfl rfl rfl (rest := []) rfl (Wd := 0) rfl (by decide) (by decide) (by decide) (by decide) fun v423 T421 h422 M424 w425 q426 => ?_
  obtain ⟨zh, rfl, rfl, eh, hH⟩ := q426
  obtain rfl := eh.symm
  show Go Z _ _ _ κ _ (T421.setTop (mkF (km κ) 475 #[.val (.int p0), .val (.int p1), .val (.int p2), .val (.int p3), .val (.long p4), .second, .val (.int (Int32.ofNat (i6))), .val (.int (Int32.ofNat (j7))), .val (.int ca), .val (.int cb), .val (.int (Int32.ofNat (n10))), .val (.int xc), .val (.int sel), .val (.ref a3), .unset] [(.int zh)]))
  have hz : zh = 0 := hH.elim (fun q => absurd q.2.1 (by simp)) (fun q => q.1)
  refine W.ifNo w425 od_0_475 (pc' := 478) rfl ((if0 _ _).trans (teq hz).2) ?_
  refine W.iconst w425 od_0_478 (pc' := 479) rfl (z := (1 : Int32)) rfl ?_
  refine W.goto w425 od_0_479 (pc' := 483) (by decide) (by decide) ?_
  exact W.retN w425 (t := .boolean) (z' := (1 : Int32)) rfl rfl (by simp) od_0_483 (M' := []) mN (by decide) (by decide) rfl
set_option maxRecDepth 65536 in
set_option maxHeartbeats 40000000 in
theorem g_491 {l : Launch} {Z : State} {a0 : Array Value} (hw : HW Z a0) {κ : Ka} {T0 : State} {h0 : Heap} {p0 p1 p2 p3 : Int32} {p4 : Int64} {i6 j7 n10 : Nat} {ca cb : Int32} {xc sel : Int32} (hxh : hexd xc) (hx16 : chr16 xc) (w0 : W l Z a0 EL0 nw0 x.cls code maxLocals ret room_1 κ T0 h0 [] 0 0) : Go Z EL0 nw0 room_1 κ (fun v h M' => v = some (.int 1)) (T0.setTop (mkF (km κ) 491 #[.val (.int p0), .val (.int p1), .val (.int p2), .val (.int p3), .val (.long p4), .second, .val (.int (Int32.ofNat (i6))), .val (.int (Int32.ofNat (j7))), .val (.int ca), .val (.int cb), .val (.int (Int32.ofNat (n10))), .val (.int xc), .val (.int sel), .unset, .unset] [])) := by
  refine W.bipush w0 od_0_491 (pc' := 493) rfl (z := (63 : Int32)) rfl ?_
  refine W.newP w0 (ty := .char) rfl (ow_2 hw) od_0_493 (pc' := 495) rfl (by decide) (cap := 63) (by decide) (by decide) (by decide) (by decide) fun T1 h2 a3 k4 w5 K6 B7 V8 => ?_
  have V9 : Arv Z h2 a3 k4 .char (63 : Int32) (rp 0 xc 63) (.int (0 : Int32)) := by rw [rp_0]; exact V8
  refine Jvm.Own.W.dup w5 od_0_495 rfl rfl ?_
  refine W.iconst w5 od_0_496 (pc' := 497) rfl (z := (0 : Int32)) rfl ?_
  refine W.iload w5 od_0_497 (pc' := 499) rfl rfl ?_
  refine W.stC w5 (x' := xc) (nar_16 hx16) V9 (i := 0) (by decide) ⟨by decide, by decide⟩ (by rw [rp_len _ (by decide)]; decide) mem0 od_0_499 (pc' := 500) rfl fun T10 h11 w12 K13 V14 => ?_
  rw [rp_set _ (by decide)] at V14
  have V15 : Arv Z h11 a3 k4 .char (63 : Int32) (rp 1 xc 63) (.int (0 : Int32)) := V14
  refine Jvm.Own.W.dup w12 od_0_500 rfl rfl ?_
  refine W.iconst w12 od_0_501 (pc' := 502) rfl (z := (1 : Int32)) rfl ?_
  refine W.iload w12 od_0_502 (pc' := 504) rfl rfl ?_
  refine W.stC w12 (x' := xc) (nar_16 hx16) V15 (i := 1) (by decide) ⟨by decide, by decide⟩ (by rw [rp_len _ (by decide)]; decide) mem0 od_0_504 (pc' := 505) rfl fun T16 h17 w18 K19 V20 => ?_
  rw [rp_set _ (by decide)] at V20
  have V21 : Arv Z h17 a3 k4 .char (63 : Int32) (rp 2 xc 63) (.int (0 : Int32)) := V20
  refine Jvm.Own.W.dup w18 od_0_505 rfl rfl ?_
  refine W.iconst w18 od_0_506 (pc' := 507) rfl (z := (2 : Int32)) rfl ?_
  refine W.iload w18 od_0_507 (pc' := 509) rfl rfl ?_
  refine W.stC w18 (x' := xc) (nar_16 hx16) V21 (i := 2) (by decide) ⟨by decide, by decide⟩ (by rw [rp_len _ (by decide)]; decide) mem0 od_0_509 (pc' := 510) rfl fun T22 h23 w24 K25 V26 => ?_
  rw [rp_set _ (by decide)] at V26
  have V27 : Arv Z h23 a3 k4 .char (63 : Int32) (rp 3 xc 63) (.int (0 : Int32)) := V26
  refine Jvm.Own.W.dup w24 od_0_510 rfl rfl ?_
  refine W.iconst w24 od_0_511 (pc' := 512) rfl (z := (3 : Int32)) rfl ?_
  refine W.iload w24 od_0_512 (pc' := 514) rfl rfl ?_
  refine W.stC w24 (x' := xc) (nar_16 hx16) V27 (i := 3) (by decide) ⟨by decide, by decide⟩ (by rw [rp_len _ (by decide)]; decide) mem0 od_0_514 (pc' := 515) rfl fun T28 h29 w30 K31 V32 => ?_
  rw [rp_set _ (by decide)] at V32
  have V33 : Arv Z h29 a3 k4 .char (63 : Int32) (rp 4 xc 63) (.int (0 : Int32)) := V32
  refine Jvm.Own.W.dup w30 od_0_515 rfl rfl ?_
  refine W.iconst w30 od_0_516 (pc' := 517) rfl (z := (4 : Int32)) rfl ?_
  refine W.iload w30 od_0_517 (pc' := 519) rfl rfl ?_
  refine W.stC w30 (x' := xc) (nar_16 hx16) V33 (i := 4) (by decide) ⟨by decide, by decide⟩ (by rw [rp_len _ (by decide)]; decide) mem0 od_0_519 (pc' := 520) rfl fun T34 h35 w36 K37 V38 => ?_
  rw [rp_set _ (by decide)] at V38
  have V39 : Arv Z h35 a3 k4 .char (63 : Int32) (rp 5 xc 63) (.int (0 : Int32)) := V38
  refine Jvm.Own.W.dup w36 od_0_520 rfl rfl ?_
  refine W.iconst w36 od_0_521 (pc' := 522) rfl (z := (5 : Int32)) rfl ?_
  refine W.iload w36 od_0_522 (pc' := 524) rfl rfl ?_
  refine W.stC w36 (x' := xc) (nar_16 hx16) V39 (i := 5) (by decide) ⟨by decide, by decide⟩ (by rw [rp_len _ (by decide)]; decide) mem0 od_0_524 (pc' := 525) rfl fun T40 h41 w42 K43 V44 => ?_
  rw [rp_set _ (by decide)] at V44
  have V45 : Arv Z h41 a3 k4 .char (63 : Int32) (rp 6 xc 63) (.int (0 : Int32)) := V44
  refine Jvm.Own.W.dup w42 od_0_525 rfl rfl ?_
  refine W.bipush w42 od_0_526 (pc' := 528) rfl (z := (6 : Int32)) rfl ?_
  refine W.iload w42 od_0_528 (pc' := 530) rfl rfl ?_
  refine W.stC w42 (x' := xc) (nar_16 hx16) V45 (i := 6) (by decide) ⟨by decide, by decide⟩ (by rw [rp_len _ (by decide)]; decide) mem0 od_0_530 (pc' := 531) rfl fun T46 h47 w48 K49 V50 => ?_
  rw [rp_set _ (by decide)] at V50
  have V51 : Arv Z h47 a3 k4 .char (63 : Int32) (rp 7 xc 63) (.int (0 : Int32)) := V50
  refine Jvm.Own.W.dup w48 od_0_531 rfl rfl ?_
  refine W.bipush w48 od_0_532 (pc' := 534) rfl (z := (7 : Int32)) rfl ?_
  refine W.iload w48 od_0_534 (pc' := 536) rfl rfl ?_
  refine W.stC w48 (x' := xc) (nar_16 hx16) V51 (i := 7) (by decide) ⟨by decide, by decide⟩ (by rw [rp_len _ (by decide)]; decide) mem0 od_0_536 (pc' := 537) rfl fun T52 h53 w54 K55 V56 => ?_
  rw [rp_set _ (by decide)] at V56
  have V57 : Arv Z h53 a3 k4 .char (63 : Int32) (rp 8 xc 63) (.int (0 : Int32)) := V56
  refine Jvm.Own.W.dup w54 od_0_537 rfl rfl ?_
  refine W.bipush w54 od_0_538 (pc' := 540) rfl (z := (8 : Int32)) rfl ?_
  refine W.iload w54 od_0_540 (pc' := 542) rfl rfl ?_
  refine W.stC w54 (x' := xc) (nar_16 hx16) V57 (i := 8) (by decide) ⟨by decide, by decide⟩ (by rw [rp_len _ (by decide)]; decide) mem0 od_0_542 (pc' := 543) rfl fun T58 h59 w60 K61 V62 => ?_
  rw [rp_set _ (by decide)] at V62
  have V63 : Arv Z h59 a3 k4 .char (63 : Int32) (rp 9 xc 63) (.int (0 : Int32)) := V62
  refine Jvm.Own.W.dup w60 od_0_543 rfl rfl ?_
  refine W.bipush w60 od_0_544 (pc' := 546) rfl (z := (9 : Int32)) rfl ?_
  refine W.iload w60 od_0_546 (pc' := 548) rfl rfl ?_
  refine W.stC w60 (x' := xc) (nar_16 hx16) V63 (i := 9) (by decide) ⟨by decide, by decide⟩ (by rw [rp_len _ (by decide)]; decide) mem0 od_0_548 (pc' := 549) rfl fun T64 h65 w66 K67 V68 => ?_
  rw [rp_set _ (by decide)] at V68
  have V69 : Arv Z h65 a3 k4 .char (63 : Int32) (rp 10 xc 63) (.int (0 : Int32)) := V68
  refine Jvm.Own.W.dup w66 od_0_549 rfl rfl ?_
  refine W.bipush w66 od_0_550 (pc' := 552) rfl (z := (10 : Int32)) rfl ?_
  refine W.iload w66 od_0_552 (pc' := 554) rfl rfl ?_
  refine W.stC w66 (x' := xc) (nar_16 hx16) V69 (i := 10) (by decide) ⟨by decide, by decide⟩ (by rw [rp_len _ (by decide)]; decide) mem0 od_0_554 (pc' := 555) rfl fun T70 h71 w72 K73 V74 => ?_
  rw [rp_set _ (by decide)] at V74
  have V75 : Arv Z h71 a3 k4 .char (63 : Int32) (rp 11 xc 63) (.int (0 : Int32)) := V74
  refine Jvm.Own.W.dup w72 od_0_555 rfl rfl ?_
  refine W.bipush w72 od_0_556 (pc' := 558) rfl (z := (11 : Int32)) rfl ?_
  refine W.iload w72 od_0_558 (pc' := 560) rfl rfl ?_
  refine W.stC w72 (x' := xc) (nar_16 hx16) V75 (i := 11) (by decide) ⟨by decide, by decide⟩ (by rw [rp_len _ (by decide)]; decide) mem0 od_0_560 (pc' := 561) rfl fun T76 h77 w78 K79 V80 => ?_
  rw [rp_set _ (by decide)] at V80
  have V81 : Arv Z h77 a3 k4 .char (63 : Int32) (rp 12 xc 63) (.int (0 : Int32)) := V80
  refine Jvm.Own.W.dup w78 od_0_561 rfl rfl ?_
  refine W.bipush w78 od_0_562 (pc' := 564) rfl (z := (12 : Int32)) rfl ?_
  refine W.iload w78 od_0_564 (pc' := 566) rfl rfl ?_
  refine W.stC w78 (x' := xc) (nar_16 hx16) V81 (i := 12) (by decide) ⟨by decide, by decide⟩ (by rw [rp_len _ (by decide)]; decide) mem0 od_0_566 (pc' := 567) rfl fun T82 h83 w84 K85 V86 => ?_
  rw [rp_set _ (by decide)] at V86
  have V87 : Arv Z h83 a3 k4 .char (63 : Int32) (rp 13 xc 63) (.int (0 : Int32)) := V86
  refine Jvm.Own.W.dup w84 od_0_567 rfl rfl ?_
  refine W.bipush w84 od_0_568 (pc' := 570) rfl (z := (13 : Int32)) rfl ?_
  refine W.iload w84 od_0_570 (pc' := 572) rfl rfl ?_
  refine W.stC w84 (x' := xc) (nar_16 hx16) V87 (i := 13) (by decide) ⟨by decide, by decide⟩ (by rw [rp_len _ (by decide)]; decide) mem0 od_0_572 (pc' := 573) rfl fun T88 h89 w90 K91 V92 => ?_
  rw [rp_set _ (by decide)] at V92
  have V93 : Arv Z h89 a3 k4 .char (63 : Int32) (rp 14 xc 63) (.int (0 : Int32)) := V92
  refine Jvm.Own.W.dup w90 od_0_573 rfl rfl ?_
  refine W.bipush w90 od_0_574 (pc' := 576) rfl (z := (14 : Int32)) rfl ?_
  refine W.iload w90 od_0_576 (pc' := 578) rfl rfl ?_
  refine W.stC w90 (x' := xc) (nar_16 hx16) V93 (i := 14) (by decide) ⟨by decide, by decide⟩ (by rw [rp_len _ (by decide)]; decide) mem0 od_0_578 (pc' := 579) rfl fun T94 h95 w96 K97 V98 => ?_
  rw [rp_set _ (by decide)] at V98
  have V99 : Arv Z h95 a3 k4 .char (63 : Int32) (rp 15 xc 63) (.int (0 : Int32)) := V98
  refine Jvm.Own.W.dup w96 od_0_579 rfl rfl ?_
  refine W.bipush w96 od_0_580 (pc' := 582) rfl (z := (15 : Int32)) rfl ?_
  refine W.iload w96 od_0_582 (pc' := 584) rfl rfl ?_
  refine W.stC w96 (x' := xc) (nar_16 hx16) V99 (i := 15) (by decide) ⟨by decide, by decide⟩ (by rw [rp_len _ (by decide)]; decide) mem0 od_0_584 (pc' := 585) rfl fun T100 h101 w102 K103 V104 => ?_
  rw [rp_set _ (by decide)] at V104
  have V105 : Arv Z h101 a3 k4 .char (63 : Int32) (rp 16 xc 63) (.int (0 : Int32)) := V104
  refine Jvm.Own.W.dup w102 od_0_585 rfl rfl ?_
  refine W.bipush w102 od_0_586 (pc' := 588) rfl (z := (16 : Int32)) rfl ?_
  refine W.iload w102 od_0_588 (pc' := 590) rfl rfl ?_
  refine W.stC w102 (x' := xc) (nar_16 hx16) V105 (i := 16) (by decide) ⟨by decide, by decide⟩ (by rw [rp_len _ (by decide)]; decide) mem0 od_0_590 (pc' := 591) rfl fun T106 h107 w108 K109 V110 => ?_
  rw [rp_set _ (by decide)] at V110
  have V111 : Arv Z h107 a3 k4 .char (63 : Int32) (rp 17 xc 63) (.int (0 : Int32)) := V110
  refine Jvm.Own.W.dup w108 od_0_591 rfl rfl ?_
  refine W.bipush w108 od_0_592 (pc' := 594) rfl (z := (17 : Int32)) rfl ?_
  refine W.iload w108 od_0_594 (pc' := 596) rfl rfl ?_
  refine W.stC w108 (x' := xc) (nar_16 hx16) V111 (i := 17) (by decide) ⟨by decide, by decide⟩ (by rw [rp_len _ (by decide)]; decide) mem0 od_0_596 (pc' := 597) rfl fun T112 h113 w114 K115 V116 => ?_
  rw [rp_set _ (by decide)] at V116
  have V117 : Arv Z h113 a3 k4 .char (63 : Int32) (rp 18 xc 63) (.int (0 : Int32)) := V116
  refine Jvm.Own.W.dup w114 od_0_597 rfl rfl ?_
  refine W.bipush w114 od_0_598 (pc' := 600) rfl (z := (18 : Int32)) rfl ?_
  refine W.iload w114 od_0_600 (pc' := 602) rfl rfl ?_
  refine W.stC w114 (x' := xc) (nar_16 hx16) V117 (i := 18) (by decide) ⟨by decide, by decide⟩ (by rw [rp_len _ (by decide)]; decide) mem0 od_0_602 (pc' := 603) rfl fun T118 h119 w120 K121 V122 => ?_
  rw [rp_set _ (by decide)] at V122
  have V123 : Arv Z h119 a3 k4 .char (63 : Int32) (rp 19 xc 63) (.int (0 : Int32)) := V122
  refine Jvm.Own.W.dup w120 od_0_603 rfl rfl ?_
  refine W.bipush w120 od_0_604 (pc' := 606) rfl (z := (19 : Int32)) rfl ?_
  refine W.iload w120 od_0_606 (pc' := 608) rfl rfl ?_
  refine W.stC w120 (x' := xc) (nar_16 hx16) V123 (i := 19) (by decide) ⟨by decide, by decide⟩ (by rw [rp_len _ (by decide)]; decide) mem0 od_0_608 (pc' := 609) rfl fun T124 h125 w126 K127 V128 => ?_
  rw [rp_set _ (by decide)] at V128
  have V129 : Arv Z h125 a3 k4 .char (63 : Int32) (rp 20 xc 63) (.int (0 : Int32)) := V128
  refine Jvm.Own.W.dup w126 od_0_609 rfl rfl ?_
  refine W.bipush w126 od_0_610 (pc' := 612) rfl (z := (20 : Int32)) rfl ?_
  refine W.iload w126 od_0_612 (pc' := 614) rfl rfl ?_
  refine W.stC w126 (x' := xc) (nar_16 hx16) V129 (i := 20) (by decide) ⟨by decide, by decide⟩ (by rw [rp_len _ (by decide)]; decide) mem0 od_0_614 (pc' := 615) rfl fun T130 h131 w132 K133 V134 => ?_
  rw [rp_set _ (by decide)] at V134
  have V135 : Arv Z h131 a3 k4 .char (63 : Int32) (rp 21 xc 63) (.int (0 : Int32)) := V134
  refine Jvm.Own.W.dup w132 od_0_615 rfl rfl ?_
  refine W.bipush w132 od_0_616 (pc' := 618) rfl (z := (21 : Int32)) rfl ?_
  refine W.iload w132 od_0_618 (pc' := 620) rfl rfl ?_
  refine W.stC w132 (x' := xc) (nar_16 hx16) V135 (i := 21) (by decide) ⟨by decide, by decide⟩ (by rw [rp_len _ (by decide)]; decide) mem0 od_0_620 (pc' := 621) rfl fun T136 h137 w138 K139 V140 => ?_
  rw [rp_set _ (by decide)] at V140
  have V141 : Arv Z h137 a3 k4 .char (63 : Int32) (rp 22 xc 63) (.int (0 : Int32)) := V140
  refine Jvm.Own.W.dup w138 od_0_621 rfl rfl ?_
  refine W.bipush w138 od_0_622 (pc' := 624) rfl (z := (22 : Int32)) rfl ?_
  refine W.iload w138 od_0_624 (pc' := 626) rfl rfl ?_
  refine W.stC w138 (x' := xc) (nar_16 hx16) V141 (i := 22) (by decide) ⟨by decide, by decide⟩ (by rw [rp_len _ (by decide)]; decide) mem0 od_0_626 (pc' := 627) rfl fun T142 h143 w144 K145 V146 => ?_
  rw [rp_set _ (by decide)] at V146
  have V147 : Arv Z h143 a3 k4 .char (63 : Int32) (rp 23 xc 63) (.int (0 : Int32)) := V146
  refine Jvm.Own.W.dup w144 od_0_627 rfl rfl ?_
  refine W.bipush w144 od_0_628 (pc' := 630) rfl (z := (23 : Int32)) rfl ?_
  refine W.iload w144 od_0_630 (pc' := 632) rfl rfl ?_
  refine W.stC w144 (x' := xc) (nar_16 hx16) V147 (i := 23) (by decide) ⟨by decide, by decide⟩ (by rw [rp_len _ (by decide)]; decide) mem0 od_0_632 (pc' := 633) rfl fun T148 h149 w150 K151 V152 => ?_
  rw [rp_set _ (by decide)] at V152
  have V153 : Arv Z h149 a3 k4 .char (63 : Int32) (rp 24 xc 63) (.int (0 : Int32)) := V152
  refine Jvm.Own.W.dup w150 od_0_633 rfl rfl ?_
  refine W.bipush w150 od_0_634 (pc' := 636) rfl (z := (24 : Int32)) rfl ?_
  refine W.iload w150 od_0_636 (pc' := 638) rfl rfl ?_
  refine W.stC w150 (x' := xc) (nar_16 hx16) V153 (i := 24) (by decide) ⟨by decide, by decide⟩ (by rw [rp_len _ (by decide)]; decide) mem0 od_0_638 (pc' := 639) rfl fun T154 h155 w156 K157 V158 => ?_
  rw [rp_set _ (by decide)] at V158
  have V159 : Arv Z h155 a3 k4 .char (63 : Int32) (rp 25 xc 63) (.int (0 : Int32)) := V158
  refine Jvm.Own.W.dup w156 od_0_639 rfl rfl ?_
  refine W.bipush w156 od_0_640 (pc' := 642) rfl (z := (25 : Int32)) rfl ?_
  refine W.iload w156 od_0_642 (pc' := 644) rfl rfl ?_
  refine W.stC w156 (x' := xc) (nar_16 hx16) V159 (i := 25) (by decide) ⟨by decide, by decide⟩ (by rw [rp_len _ (by decide)]; decide) mem0 od_0_644 (pc' := 645) rfl fun T160 h161 w162 K163 V164 => ?_
  rw [rp_set _ (by decide)] at V164
  have V165 : Arv Z h161 a3 k4 .char (63 : Int32) (rp 26 xc 63) (.int (0 : Int32)) := V164
  refine Jvm.Own.W.dup w162 od_0_645 rfl rfl ?_
  refine W.bipush w162 od_0_646 (pc' := 648) rfl (z := (26 : Int32)) rfl ?_
  refine W.iload w162 od_0_648 (pc' := 650) rfl rfl ?_
  refine W.stC w162 (x' := xc) (nar_16 hx16) V165 (i := 26) (by decide) ⟨by decide, by decide⟩ (by rw [rp_len _ (by decide)]; decide) mem0 od_0_650 (pc' := 651) rfl fun T166 h167 w168 K169 V170 => ?_
  rw [rp_set _ (by decide)] at V170
  have V171 : Arv Z h167 a3 k4 .char (63 : Int32) (rp 27 xc 63) (.int (0 : Int32)) := V170
  refine Jvm.Own.W.dup w168 od_0_651 rfl rfl ?_
  refine W.bipush w168 od_0_652 (pc' := 654) rfl (z := (27 : Int32)) rfl ?_
  refine W.iload w168 od_0_654 (pc' := 656) rfl rfl ?_
  refine W.stC w168 (x' := xc) (nar_16 hx16) V171 (i := 27) (by decide) ⟨by decide, by decide⟩ (by rw [rp_len _ (by decide)]; decide) mem0 od_0_656 (pc' := 657) rfl fun T172 h173 w174 K175 V176 => ?_
  rw [rp_set _ (by decide)] at V176
  have V177 : Arv Z h173 a3 k4 .char (63 : Int32) (rp 28 xc 63) (.int (0 : Int32)) := V176
  refine Jvm.Own.W.dup w174 od_0_657 rfl rfl ?_
  refine W.bipush w174 od_0_658 (pc' := 660) rfl (z := (28 : Int32)) rfl ?_
  refine W.iload w174 od_0_660 (pc' := 662) rfl rfl ?_
  refine W.stC w174 (x' := xc) (nar_16 hx16) V177 (i := 28) (by decide) ⟨by decide, by decide⟩ (by rw [rp_len _ (by decide)]; decide) mem0 od_0_662 (pc' := 663) rfl fun T178 h179 w180 K181 V182 => ?_
  rw [rp_set _ (by decide)] at V182
  have V183 : Arv Z h179 a3 k4 .char (63 : Int32) (rp 29 xc 63) (.int (0 : Int32)) := V182
  refine Jvm.Own.W.dup w180 od_0_663 rfl rfl ?_
  refine W.bipush w180 od_0_664 (pc' := 666) rfl (z := (29 : Int32)) rfl ?_
  refine W.iload w180 od_0_666 (pc' := 668) rfl rfl ?_
  refine W.stC w180 (x' := xc) (nar_16 hx16) V183 (i := 29) (by decide) ⟨by decide, by decide⟩ (by rw [rp_len _ (by decide)]; decide) mem0 od_0_668 (pc' := 669) rfl fun T184 h185 w186 K187 V188 => ?_
  rw [rp_set _ (by decide)] at V188
  have V189 : Arv Z h185 a3 k4 .char (63 : Int32) (rp 30 xc 63) (.int (0 : Int32)) := V188
  refine Jvm.Own.W.dup w186 od_0_669 rfl rfl ?_
  refine W.bipush w186 od_0_670 (pc' := 672) rfl (z := (30 : Int32)) rfl ?_
  refine W.iload w186 od_0_672 (pc' := 674) rfl rfl ?_
  refine W.stC w186 (x' := xc) (nar_16 hx16) V189 (i := 30) (by decide) ⟨by decide, by decide⟩ (by rw [rp_len _ (by decide)]; decide) mem0 od_0_674 (pc' := 675) rfl fun T190 h191 w192 K193 V194 => ?_
  rw [rp_set _ (by decide)] at V194
  have V195 : Arv Z h191 a3 k4 .char (63 : Int32) (rp 31 xc 63) (.int (0 : Int32)) := V194
  refine Jvm.Own.W.dup w192 od_0_675 rfl rfl ?_
  refine W.bipush w192 od_0_676 (pc' := 678) rfl (z := (31 : Int32)) rfl ?_
  refine W.iload w192 od_0_678 (pc' := 680) rfl rfl ?_
  refine W.stC w192 (x' := xc) (nar_16 hx16) V195 (i := 31) (by decide) ⟨by decide, by decide⟩ (by rw [rp_len _ (by decide)]; decide) mem0 od_0_680 (pc' := 681) rfl fun T196 h197 w198 K199 V200 => ?_
  rw [rp_set _ (by decide)] at V200
  have V201 : Arv Z h197 a3 k4 .char (63 : Int32) (rp 32 xc 63) (.int (0 : Int32)) := V200
  refine Jvm.Own.W.dup w198 od_0_681 rfl rfl ?_
  refine W.bipush w198 od_0_682 (pc' := 684) rfl (z := (32 : Int32)) rfl ?_
  refine W.iload w198 od_0_684 (pc' := 686) rfl rfl ?_
  refine W.stC w198 (x' := xc) (nar_16 hx16) V201 (i := 32) (by decide) ⟨by decide, by decide⟩ (by rw [rp_len _ (by decide)]; decide) mem0 od_0_686 (pc' := 687) rfl fun T202 h203 w204 K205 V206 => ?_
  rw [rp_set _ (by decide)] at V206
  have V207 : Arv Z h203 a3 k4 .char (63 : Int32) (rp 33 xc 63) (.int (0 : Int32)) := V206
  refine Jvm.Own.W.dup w204 od_0_687 rfl rfl ?_
  refine W.bipush w204 od_0_688 (pc' := 690) rfl (z := (33 : Int32)) rfl ?_
  refine W.iload w204 od_0_690 (pc' := 692) rfl rfl ?_
  refine W.stC w204 (x' := xc) (nar_16 hx16) V207 (i := 33) (by decide) ⟨by decide, by decide⟩ (by rw [rp_len _ (by decide)]; decide) mem0 od_0_692 (pc' := 693) rfl fun T208 h209 w210 K211 V212 => ?_
  rw [rp_set _ (by decide)] at V212
  have V213 : Arv Z h209 a3 k4 .char (63 : Int32) (rp 34 xc 63) (.int (0 : Int32)) := V212
  refine Jvm.Own.W.dup w210 od_0_693 rfl rfl ?_
  refine W.bipush w210 od_0_694 (pc' := 696) rfl (z := (34 : Int32)) rfl ?_
  refine W.iload w210 od_0_696 (pc' := 698) rfl rfl ?_
  refine W.stC w210 (x' := xc) (nar_16 hx16) V213 (i := 34) (by decide) ⟨by decide, by decide⟩ (by rw [rp_len _ (by decide)]; decide) mem0 od_0_698 (pc' := 699) rfl fun T214 h215 w216 K217 V218 => ?_
  rw [rp_set _ (by decide)] at V218
  have V219 : Arv Z h215 a3 k4 .char (63 : Int32) (rp 35 xc 63) (.int (0 : Int32)) := V218
  refine Jvm.Own.W.dup w216 od_0_699 rfl rfl ?_
  refine W.bipush w216 od_0_700 (pc' := 702) rfl (z := (35 : Int32)) rfl ?_
  refine W.iload w216 od_0_702 (pc' := 704) rfl rfl ?_
  refine W.stC w216 (x' := xc) (nar_16 hx16) V219 (i := 35) (by decide) ⟨by decide, by decide⟩ (by rw [rp_len _ (by decide)]; decide) mem0 od_0_704 (pc' := 705) rfl fun T220 h221 w222 K223 V224 => ?_
  rw [rp_set _ (by decide)] at V224
  have V225 : Arv Z h221 a3 k4 .char (63 : Int32) (rp 36 xc 63) (.int (0 : Int32)) := V224
  refine Jvm.Own.W.dup w222 od_0_705 rfl rfl ?_
  refine W.bipush w222 od_0_706 (pc' := 708) rfl (z := (36 : Int32)) rfl ?_
  refine W.iload w222 od_0_708 (pc' := 710) rfl rfl ?_
  refine W.stC w222 (x' := xc) (nar_16 hx16) V225 (i := 36) (by decide) ⟨by decide, by decide⟩ (by rw [rp_len _ (by decide)]; decide) mem0 od_0_710 (pc' := 711) rfl fun T226 h227 w228 K229 V230 => ?_
  rw [rp_set _ (by decide)] at V230
  have V231 : Arv Z h227 a3 k4 .char (63 : Int32) (rp 37 xc 63) (.int (0 : Int32)) := V230
  refine Jvm.Own.W.dup w228 od_0_711 rfl rfl ?_
  refine W.bipush w228 od_0_712 (pc' := 714) rfl (z := (37 : Int32)) rfl ?_
  refine W.iload w228 od_0_714 (pc' := 716) rfl rfl ?_
  refine W.stC w228 (x' := xc) (nar_16 hx16) V231 (i := 37) (by decide) ⟨by decide, by decide⟩ (by rw [rp_len _ (by decide)]; decide) mem0 od_0_716 (pc' := 717) rfl fun T232 h233 w234 K235 V236 => ?_
  rw [rp_set _ (by decide)] at V236
  have V237 : Arv Z h233 a3 k4 .char (63 : Int32) (rp 38 xc 63) (.int (0 : Int32)) := V236
  refine Jvm.Own.W.dup w234 od_0_717 rfl rfl ?_
  refine W.bipush w234 od_0_718 (pc' := 720) rfl (z := (38 : Int32)) rfl ?_
  refine W.iload w234 od_0_720 (pc' := 722) rfl rfl ?_
  refine W.stC w234 (x' := xc) (nar_16 hx16) V237 (i := 38) (by decide) ⟨by decide, by decide⟩ (by rw [rp_len _ (by decide)]; decide) mem0 od_0_722 (pc' := 723) rfl fun T238 h239 w240 K241 V242 => ?_
  rw [rp_set _ (by decide)] at V242
  have V243 : Arv Z h239 a3 k4 .char (63 : Int32) (rp 39 xc 63) (.int (0 : Int32)) := V242
  refine Jvm.Own.W.dup w240 od_0_723 rfl rfl ?_
  refine W.bipush w240 od_0_724 (pc' := 726) rfl (z := (39 : Int32)) rfl ?_
  refine W.iload w240 od_0_726 (pc' := 728) rfl rfl ?_
  refine W.stC w240 (x' := xc) (nar_16 hx16) V243 (i := 39) (by decide) ⟨by decide, by decide⟩ (by rw [rp_len _ (by decide)]; decide) mem0 od_0_728 (pc' := 729) rfl fun T244 h245 w246 K247 V248 => ?_
  rw [rp_set _ (by decide)] at V248
  have V249 : Arv Z h245 a3 k4 .char (63 : Int32) (rp 40 xc 63) (.int (0 : Int32)) := V248
  refine Jvm.Own.W.dup w246 od_0_729 rfl rfl ?_
  refine W.bipush w246 od_0_730 (pc' := 732) rfl (z := (40 : Int32)) rfl ?_
  refine W.iload w246 od_0_732 (pc' := 734) rfl rfl ?_
  refine W.stC w246 (x' := xc) (nar_16 hx16) V249 (i := 40) (by decide) ⟨by decide, by decide⟩ (by rw [rp_len _ (by decide)]; decide) mem0 od_0_734 (pc' := 735) rfl fun T250 h251 w252 K253 V254 => ?_
  rw [rp_set _ (by decide)] at V254
  have V255 : Arv Z h251 a3 k4 .char (63 : Int32) (rp 41 xc 63) (.int (0 : Int32)) := V254
  refine Jvm.Own.W.dup w252 od_0_735 rfl rfl ?_
  refine W.bipush w252 od_0_736 (pc' := 738) rfl (z := (41 : Int32)) rfl ?_
  refine W.iload w252 od_0_738 (pc' := 740) rfl rfl ?_
  refine W.stC w252 (x' := xc) (nar_16 hx16) V255 (i := 41) (by decide) ⟨by decide, by decide⟩ (by rw [rp_len _ (by decide)]; decide) mem0 od_0_740 (pc' := 741) rfl fun T256 h257 w258 K259 V260 => ?_
  rw [rp_set _ (by decide)] at V260
  have V261 : Arv Z h257 a3 k4 .char (63 : Int32) (rp 42 xc 63) (.int (0 : Int32)) := V260
  refine Jvm.Own.W.dup w258 od_0_741 rfl rfl ?_
  refine W.bipush w258 od_0_742 (pc' := 744) rfl (z := (42 : Int32)) rfl ?_
  refine W.iload w258 od_0_744 (pc' := 746) rfl rfl ?_
  refine W.stC w258 (x' := xc) (nar_16 hx16) V261 (i := 42) (by decide) ⟨by decide, by decide⟩ (by rw [rp_len _ (by decide)]; decide) mem0 od_0_746 (pc' := 747) rfl fun T262 h263 w264 K265 V266 => ?_
  rw [rp_set _ (by decide)] at V266
  have V267 : Arv Z h263 a3 k4 .char (63 : Int32) (rp 43 xc 63) (.int (0 : Int32)) := V266
  refine Jvm.Own.W.dup w264 od_0_747 rfl rfl ?_
  refine W.bipush w264 od_0_748 (pc' := 750) rfl (z := (43 : Int32)) rfl ?_
  refine W.iload w264 od_0_750 (pc' := 752) rfl rfl ?_
  refine W.stC w264 (x' := xc) (nar_16 hx16) V267 (i := 43) (by decide) ⟨by decide, by decide⟩ (by rw [rp_len _ (by decide)]; decide) mem0 od_0_752 (pc' := 753) rfl fun T268 h269 w270 K271 V272 => ?_
  rw [rp_set _ (by decide)] at V272
  have V273 : Arv Z h269 a3 k4 .char (63 : Int32) (rp 44 xc 63) (.int (0 : Int32)) := V272
  refine Jvm.Own.W.dup w270 od_0_753 rfl rfl ?_
  refine W.bipush w270 od_0_754 (pc' := 756) rfl (z := (44 : Int32)) rfl ?_
  refine W.iload w270 od_0_756 (pc' := 758) rfl rfl ?_
  refine W.stC w270 (x' := xc) (nar_16 hx16) V273 (i := 44) (by decide) ⟨by decide, by decide⟩ (by rw [rp_len _ (by decide)]; decide) mem0 od_0_758 (pc' := 759) rfl fun T274 h275 w276 K277 V278 => ?_
  rw [rp_set _ (by decide)] at V278
  have V279 : Arv Z h275 a3 k4 .char (63 : Int32) (rp 45 xc 63) (.int (0 : Int32)) := V278
  refine Jvm.Own.W.dup w276 od_0_759 rfl rfl ?_
  refine W.bipush w276 od_0_760 (pc' := 762) rfl (z := (45 : Int32)) rfl ?_
  refine W.iload w276 od_0_762 (pc' := 764) rfl rfl ?_
  refine W.stC w276 (x' := xc) (nar_16 hx16) V279 (i := 45) (by decide) ⟨by decide, by decide⟩ (by rw [rp_len _ (by decide)]; decide) mem0 od_0_764 (pc' := 765) rfl fun T280 h281 w282 K283 V284 => ?_
  rw [rp_set _ (by decide)] at V284
  have V285 : Arv Z h281 a3 k4 .char (63 : Int32) (rp 46 xc 63) (.int (0 : Int32)) := V284
  refine Jvm.Own.W.dup w282 od_0_765 rfl rfl ?_
  refine W.bipush w282 od_0_766 (pc' := 768) rfl (z := (46 : Int32)) rfl ?_
  refine W.iload w282 od_0_768 (pc' := 770) rfl rfl ?_
  refine W.stC w282 (x' := xc) (nar_16 hx16) V285 (i := 46) (by decide) ⟨by decide, by decide⟩ (by rw [rp_len _ (by decide)]; decide) mem0 od_0_770 (pc' := 771) rfl fun T286 h287 w288 K289 V290 => ?_
  rw [rp_set _ (by decide)] at V290
  have V291 : Arv Z h287 a3 k4 .char (63 : Int32) (rp 47 xc 63) (.int (0 : Int32)) := V290
  refine Jvm.Own.W.dup w288 od_0_771 rfl rfl ?_
  refine W.bipush w288 od_0_772 (pc' := 774) rfl (z := (47 : Int32)) rfl ?_
  refine W.iload w288 od_0_774 (pc' := 776) rfl rfl ?_
  refine W.stC w288 (x' := xc) (nar_16 hx16) V291 (i := 47) (by decide) ⟨by decide, by decide⟩ (by rw [rp_len _ (by decide)]; decide) mem0 od_0_776 (pc' := 777) rfl fun T292 h293 w294 K295 V296 => ?_
  rw [rp_set _ (by decide)] at V296
  have V297 : Arv Z h293 a3 k4 .char (63 : Int32) (rp 48 xc 63) (.int (0 : Int32)) := V296
  refine Jvm.Own.W.dup w294 od_0_777 rfl rfl ?_
  refine W.bipush w294 od_0_778 (pc' := 780) rfl (z := (48 : Int32)) rfl ?_
  refine W.iload w294 od_0_780 (pc' := 782) rfl rfl ?_
  refine W.stC w294 (x' := xc) (nar_16 hx16) V297 (i := 48) (by decide) ⟨by decide, by decide⟩ (by rw [rp_len _ (by decide)]; decide) mem0 od_0_782 (pc' := 783) rfl fun T298 h299 w300 K301 V302 => ?_
  rw [rp_set _ (by decide)] at V302
  have V303 : Arv Z h299 a3 k4 .char (63 : Int32) (rp 49 xc 63) (.int (0 : Int32)) := V302
  refine Jvm.Own.W.dup w300 od_0_783 rfl rfl ?_
  refine W.bipush w300 od_0_784 (pc' := 786) rfl (z := (49 : Int32)) rfl ?_
  refine W.iload w300 od_0_786 (pc' := 788) rfl rfl ?_
  refine W.stC w300 (x' := xc) (nar_16 hx16) V303 (i := 49) (by decide) ⟨by decide, by decide⟩ (by rw [rp_len _ (by decide)]; decide) mem0 od_0_788 (pc' := 789) rfl fun T304 h305 w306 K307 V308 => ?_
  rw [rp_set _ (by decide)] at V308
  have V309 : Arv Z h305 a3 k4 .char (63 : Int32) (rp 50 xc 63) (.int (0 : Int32)) := V308
  refine Jvm.Own.W.dup w306 od_0_789 rfl rfl ?_
  refine W.bipush w306 od_0_790 (pc' := 792) rfl (z := (50 : Int32)) rfl ?_
  refine W.iload w306 od_0_792 (pc' := 794) rfl rfl ?_
  refine W.stC w306 (x' := xc) (nar_16 hx16) V309 (i := 50) (by decide) ⟨by decide, by decide⟩ (by rw [rp_len _ (by decide)]; decide) mem0 od_0_794 (pc' := 795) rfl fun T310 h311 w312 K313 V314 => ?_
  rw [rp_set _ (by decide)] at V314
  have V315 : Arv Z h311 a3 k4 .char (63 : Int32) (rp 51 xc 63) (.int (0 : Int32)) := V314
  refine Jvm.Own.W.dup w312 od_0_795 rfl rfl ?_
  refine W.bipush w312 od_0_796 (pc' := 798) rfl (z := (51 : Int32)) rfl ?_
  refine W.iload w312 od_0_798 (pc' := 800) rfl rfl ?_
  refine W.stC w312 (x' := xc) (nar_16 hx16) V315 (i := 51) (by decide) ⟨by decide, by decide⟩ (by rw [rp_len _ (by decide)]; decide) mem0 od_0_800 (pc' := 801) rfl fun T316 h317 w318 K319 V320 => ?_
  rw [rp_set _ (by decide)] at V320
  have V321 : Arv Z h317 a3 k4 .char (63 : Int32) (rp 52 xc 63) (.int (0 : Int32)) := V320
  refine Jvm.Own.W.dup w318 od_0_801 rfl rfl ?_
  refine W.bipush w318 od_0_802 (pc' := 804) rfl (z := (52 : Int32)) rfl ?_
  refine W.iload w318 od_0_804 (pc' := 806) rfl rfl ?_
  refine W.stC w318 (x' := xc) (nar_16 hx16) V321 (i := 52) (by decide) ⟨by decide, by decide⟩ (by rw [rp_len _ (by decide)]; decide) mem0 od_0_806 (pc' := 807) rfl fun T322 h323 w324 K325 V326 => ?_
  rw [rp_set _ (by decide)] at V326
  have V327 : Arv Z h323 a3 k4 .char (63 : Int32) (rp 53 xc 63) (.int (0 : Int32)) := V326
  refine Jvm.Own.W.dup w324 od_0_807 rfl rfl ?_
  refine W.bipush w324 od_0_808 (pc' := 810) rfl (z := (53 : Int32)) rfl ?_
  refine W.iload w324 od_0_810 (pc' := 812) rfl rfl ?_
  refine W.stC w324 (x' := xc) (nar_16 hx16) V327 (i := 53) (by decide) ⟨by decide, by decide⟩ (by rw [rp_len _ (by decide)]; decide) mem0 od_0_812 (pc' := 813) rfl fun T328 h329 w330 K331 V332 => ?_
  rw [rp_set _ (by decide)] at V332
  have V333 : Arv Z h329 a3 k4 .char (63 : Int32) (rp 54 xc 63) (.int (0 : Int32)) := V332
  refine Jvm.Own.W.dup w330 od_0_813 rfl rfl ?_
  refine W.bipush w330 od_0_814 (pc' := 816) rfl (z := (54 : Int32)) rfl ?_
  refine W.iload w330 od_0_816 (pc' := 818) rfl rfl ?_
  refine W.stC w330 (x' := xc) (nar_16 hx16) V333 (i := 54) (by decide) ⟨by decide, by decide⟩ (by rw [rp_len _ (by decide)]; decide) mem0 od_0_818 (pc' := 819) rfl fun T334 h335 w336 K337 V338 => ?_
  rw [rp_set _ (by decide)] at V338
  have V339 : Arv Z h335 a3 k4 .char (63 : Int32) (rp 55 xc 63) (.int (0 : Int32)) := V338
  refine Jvm.Own.W.dup w336 od_0_819 rfl rfl ?_
  refine W.bipush w336 od_0_820 (pc' := 822) rfl (z := (55 : Int32)) rfl ?_
  refine W.iload w336 od_0_822 (pc' := 824) rfl rfl ?_
  refine W.stC w336 (x' := xc) (nar_16 hx16) V339 (i := 55) (by decide) ⟨by decide, by decide⟩ (by rw [rp_len _ (by decide)]; decide) mem0 od_0_824 (pc' := 825) rfl fun T340 h341 w342 K343 V344 => ?_
  rw [rp_set _ (by decide)] at V344
  have V345 : Arv Z h341 a3 k4 .char (63 : Int32) (rp 56 xc 63) (.int (0 : Int32)) := V344
  refine Jvm.Own.W.dup w342 od_0_825 rfl rfl ?_
  refine W.bipush w342 od_0_826 (pc' := 828) rfl (z := (56 : Int32)) rfl ?_
  refine W.iload w342 od_0_828 (pc' := 830) rfl rfl ?_
  refine W.stC w342 (x' := xc) (nar_16 hx16) V345 (i := 56) (by decide) ⟨by decide, by decide⟩ (by rw [rp_len _ (by decide)]; decide) mem0 od_0_830 (pc' := 831) rfl fun T346 h347 w348 K349 V350 => ?_
  rw [rp_set _ (by decide)] at V350
  have V351 : Arv Z h347 a3 k4 .char (63 : Int32) (rp 57 xc 63) (.int (0 : Int32)) := V350
  refine Jvm.Own.W.dup w348 od_0_831 rfl rfl ?_
  refine W.bipush w348 od_0_832 (pc' := 834) rfl (z := (57 : Int32)) rfl ?_
  refine W.iload w348 od_0_834 (pc' := 836) rfl rfl ?_
  refine W.stC w348 (x' := xc) (nar_16 hx16) V351 (i := 57) (by decide) ⟨by decide, by decide⟩ (by rw [rp_len _ (by decide)]; decide) mem0 od_0_836 (pc' := 837) rfl fun T352 h353 w354 K355 V356 => ?_
  rw [rp_set _ (by decide)] at V356
  have V357 : Arv Z h353 a3 k4 .char (63 : Int32) (rp 58 xc 63) (.int (0 : Int32)) := V356
  refine Jvm.Own.W.dup w354 od_0_837 rfl rfl ?_
  refine W.bipush w354 od_0_838 (pc' := 840) rfl (z := (58 : Int32)) rfl ?_
  refine W.iload w354 od_0_840 (pc' := 842) rfl rfl ?_
  refine W.stC w354 (x' := xc) (nar_16 hx16) V357 (i := 58) (by decide) ⟨by decide, by decide⟩ (by rw [rp_len _ (by decide)]; decide) mem0 od_0_842 (pc' := 843) rfl fun T358 h359 w360 K361 V362 => ?_
  rw [rp_set _ (by decide)] at V362
  have V363 : Arv Z h359 a3 k4 .char (63 : Int32) (rp 59 xc 63) (.int (0 : Int32)) := V362
  refine Jvm.Own.W.dup w360 od_0_843 rfl rfl ?_
  refine W.bipush w360 od_0_844 (pc' := 846) rfl (z := (59 : Int32)) rfl ?_
  refine W.iload w360 od_0_846 (pc' := 848) rfl rfl ?_
  refine W.stC w360 (x' := xc) (nar_16 hx16) V363 (i := 59) (by decide) ⟨by decide, by decide⟩ (by rw [rp_len _ (by decide)]; decide) mem0 od_0_848 (pc' := 849) rfl fun T364 h365 w366 K367 V368 => ?_
  rw [rp_set _ (by decide)] at V368
  have V369 : Arv Z h365 a3 k4 .char (63 : Int32) (rp 60 xc 63) (.int (0 : Int32)) := V368
  refine Jvm.Own.W.dup w366 od_0_849 rfl rfl ?_
  refine W.bipush w366 od_0_850 (pc' := 852) rfl (z := (60 : Int32)) rfl ?_
  refine W.iload w366 od_0_852 (pc' := 854) rfl rfl ?_
  refine W.stC w366 (x' := xc) (nar_16 hx16) V369 (i := 60) (by decide) ⟨by decide, by decide⟩ (by rw [rp_len _ (by decide)]; decide) mem0 od_0_854 (pc' := 855) rfl fun T370 h371 w372 K373 V374 => ?_
  rw [rp_set _ (by decide)] at V374
  have V375 : Arv Z h371 a3 k4 .char (63 : Int32) (rp 61 xc 63) (.int (0 : Int32)) := V374
  refine Jvm.Own.W.dup w372 od_0_855 rfl rfl ?_
  refine W.bipush w372 od_0_856 (pc' := 858) rfl (z := (61 : Int32)) rfl ?_
  refine W.iload w372 od_0_858 (pc' := 860) rfl rfl ?_
  refine W.stC w372 (x' := xc) (nar_16 hx16) V375 (i := 61) (by decide) ⟨by decide, by decide⟩ (by rw [rp_len _ (by decide)]; decide) mem0 od_0_860 (pc' := 861) rfl fun T376 h377 w378 K379 V380 => ?_
  rw [rp_set _ (by decide)] at V380
  have V381 : Arv Z h377 a3 k4 .char (63 : Int32) (rp 62 xc 63) (.int (0 : Int32)) := V380
  refine Jvm.Own.W.dup w378 od_0_861 rfl rfl ?_
  refine W.bipush w378 od_0_862 (pc' := 864) rfl (z := (62 : Int32)) rfl ?_
  refine W.iload w378 od_0_864 (pc' := 866) rfl rfl ?_
  refine W.stC w378 (x' := xc) (nar_16 hx16) V381 (i := 62) (by decide) ⟨by decide, by decide⟩ (by rw [rp_len _ (by decide)]; decide) mem0 od_0_866 (pc' := 867) rfl fun T382 h383 w384 K385 V386 => ?_
  rw [rp_set _ (by decide)] at V386
  have V387 : Arv Z h383 a3 k4 .char (Int32.ofNat (List.replicate 63 xc).length) ((List.replicate 63 xc).map Value.int) (.int (0 : Int32)) := by rw [List.length_replicate, ← rp_end]; exact V386
  refine W.astore w384 od_0_867 (pc' := 869) rfl (Ls' := #[.val (.int p0), .val (.int p1), .val (.int p2), .val (.int p3), .val (.long p4), .second, .val (.int (Int32.ofNat (i6))), .val (.int (Int32.ofNat (j7))), .val (.int ca), .val (.int cb), .val (.int (Int32.ofNat (n10))), .val (.int xc), .val (.int sel), .val (.ref a3), .unset]) rfl rfl ?_
  refine W.newO w384 (ow_7 hw) (ow_8 hw) (ow_9 hw) od_0_869 (pc' := 872) rfl (by decide) (by decide) fun T388 h389 a390 w391 K392 B393 E394 D395 => ?_
  have ne396 : a3 ≠ a390 := neL V387.lt B393
  have F397 : Fld Z h389 a390 "java/lang/String" "coder" "B" (.int (0 : Int32)) := D395 (Or.inr (ow_33 hw)) (ty := .byte) (by decide)
  have F398 : Fld Z h389 a390 "java/lang/String" "value" "[B" .null := D395 (Or.inr (ow_35 hw)) (ty := (.array .byte)) (by decide)
  refine Jvm.Own.W.dup w391 od_0_872 rfl rfl ?_
  refine W.aload w391 od_0_873 (pc' := 875) rfl rfl rfl ?_
  have f399 := (V387.keep K392 nin0)
  refine W.callI w391 (ow_10 hw) (ow_11 hw) (ow_12 hw) rfl (by decide) opd_20 (Ctr.pay (c_si1 hw (cs := (List.replicate 63 xc)) f399 (by simp) (fun c hc => by rw [List.eq_of_mem_replicate hc]; exact hx16) (by simp) E394 F398 F397 ne396 w391.old) (own_ew hw) (ow_12 hw) (ow_9 hw) (kf := 6) (kl := 87) (by decide) (by decide)) (mC mem0 mN) od_0_875 (pc' := 878) rfl rfl rfl (rest := [(.ref a390)]) rfl (Wd := 1) rfl (by decide) (by decide) (by decide) (by decide) fun v402 T400 h401 M403 w404 q405 => ?_
  obtain ⟨rfl, rfl, K406, t407, F408⟩ := q405
  show Go Z _ _ _ κ _ (T400.setTop (mkF (km κ) 878 #[.val (.int p0), .val (.int p1), .val (.int p2), .val (.int p3), .val (.long p4), .second, .val (.int (Int32.ofNat (i6))), .val (.int (Int32.ofNat (j7))), .val (.int ca), .val (.int cb), .val (.int (Int32.ofNat (n10))), .val (.int xc), .val (.int sel), .val (.ref a3), .unset] [(.ref a390)]))
  refine W.callS w404 (ow_36 hw) (ow_37 hw) (ow_38 hw) (ow_39 hw) (by decide) opd_21 (Ctr.pay (c_isHash hw F408 w404.old) (own_ew hw) (ow_39 hw) (ow_38 hw) (kf := 7) (kl := 93) (by decide) (by decide)) mN od_0_878 (pc' := 881) rfl rfl rfl (rest := []) rfl (Wd := 0) rfl (by decide) (by decide) (by decide) (by decide) fun v411 T409 h410 M412 w413 q414 => ?_
  obtain ⟨zh, rfl, rfl, eh, hH⟩ := q414
  obtain rfl := eh.symm
  show Go Z _ _ _ κ _ (T409.setTop (mkF (km κ) 881 #[.val (.int p0), .val (.int p1), .val (.int p2), .val (.int p3), .val (.long p4), .second, .val (.int (Int32.ofNat (i6))), .val (.int (Int32.ofNat (j7))), .val (.int ca), .val (.int cb), .val (.int (Int32.ofNat (n10))), .val (.int xc), .val (.int sel), .val (.ref a3), .unset] [(.int zh)]))
  have hz : zh = 0 := hH.elim (fun q => absurd q.2.1 (by simp)) (fun q => q.1)
  refine W.ifNo w413 od_0_881 (pc' := 884) rfl ((if0 _ _).trans (teq hz).2) ?_
  refine W.iconst w413 od_0_884 (pc' := 885) rfl (z := (1 : Int32)) rfl ?_
  refine W.goto w413 od_0_885 (pc' := 889) (by decide) (by decide) ?_
  exact W.retN w413 (t := .boolean) (z' := (1 : Int32)) rfl rfl (by simp) od_0_889 (M' := []) mN (by decide) (by decide) rfl
set_option maxRecDepth 65536 in
set_option maxHeartbeats 40000000 in
theorem g_1340 {l : Launch} {Z : State} {a0 : Array Value} (hw : HW Z a0) {κ : Ka} {T0 : State} {h0 : Heap} {p0 p1 p2 p3 : Int32} {p4 : Int64} {i6 j7 n10 : Nat} {ca cb : Int32} {ex : Int32} (hi6 : i6 < 64) (hj7 : j7 < 64) (hca : chr16 ca) (hcb : chr16 cb) {xc sel : Int32} (hxh : hexd xc) (hx16 : chr16 xc) {a : Addr} {ka : ClassId} (V_a : Arv Z h0 a ka .char (Int32.ofNat (((List.replicate 64 xc).set i6 ca).set j7 cb).length) ((((List.replicate 64 xc).set i6 ca).set j7 cb).map Value.int) (.int (0 : Int32))) (hex : (ex = 1 ∧ ∀ c ∈ (((List.replicate 64 xc).set i6 ca).set j7 cb), hexd c) ∨ (ex = 0 ∧ ¬ ∀ c ∈ (((List.replicate 64 xc).set i6 ca).set j7 cb), hexd c)) (w0 : W l Z a0 EL0 nw0 x.cls code maxLocals ret room_1 κ T0 h0 [] 1 64) : Go Z EL0 nw0 room_1 κ (fun v h M' => v = some (.int 1)) (T0.setTop (mkF (km κ) 1340 #[.val (.int p0), .val (.int p1), .val (.int p2), .val (.int p3), .val (.long p4), .second, .val (.int (Int32.ofNat (i6))), .val (.int (Int32.ofNat (j7))), .val (.int ca), .val (.int cb), .val (.int (Int32.ofNat (n10))), .val (.int xc), .val (.int sel), .val (.ref a), .unset] [(.int ex)])) := by
  refine W.istore w0 od_0_1340 (pc' := 1342) rfl (Ls' := #[.val (.int p0), .val (.int p1), .val (.int p2), .val (.int p3), .val (.long p4), .second, .val (.int (Int32.ofNat (i6))), .val (.int (Int32.ofNat (j7))), .val (.int ca), .val (.int cb), .val (.int (Int32.ofNat (n10))), .val (.int xc), .val (.int sel), .val (.ref a), .val (.int ex)]) rfl ?_
  refine W.newO w0 (ow_7 hw) (ow_8 hw) (ow_9 hw) od_0_1342 (pc' := 1345) rfl (by decide) (by decide) fun T1 h2 a3 w4 K5 B6 E7 D8 => ?_
  have ne9 : a ≠ a3 := neL V_a.lt B6
  have F10 : Fld Z h2 a3 "java/lang/String" "coder" "B" (.int (0 : Int32)) := D8 (Or.inr (ow_33 hw)) (ty := .byte) (by decide)
  have F11 : Fld Z h2 a3 "java/lang/String" "value" "[B" .null := D8 (Or.inr (ow_35 hw)) (ty := (.array .byte)) (by decide)
  refine Jvm.Own.W.dup w4 od_0_1345 rfl rfl ?_
  refine W.aload w4 od_0_1346 (pc' := 1348) rfl rfl rfl ?_
  have f12 := (V_a.keep K5 nin0)
  refine W.callI w4 (ow_10 hw) (ow_11 hw) (ow_12 hw) rfl (by decide) opd_20 (Ctr.pay (c_si1 hw (cs := (((List.replicate 64 xc).set i6 ca).set j7 cb)) f12 (by simp) (fun c hc => (all_set (P := chr16) (fun c hc => by rw [List.eq_of_mem_replicate hc]; exact hx16) (by simp; omega) (by simp; omega)).mpr ⟨hcb, Or.inr hca⟩ c hc) (by simp) E7 F11 F10 ne9 w4.old) (own_ew hw) (ow_12 hw) (ow_9 hw) (kf := 6) (kl := 87) (by decide) (by decide)) (mC mem0 mN) od_0_1348 (pc' := 1351) rfl rfl rfl (rest := [(.ref a3)]) rfl (Wd := 1) rfl (by decide) (by decide) (by decide) (by decide) fun v15 T13 h14 M16 w17 q18 => ?_
  obtain ⟨rfl, rfl, K19, t20, F21⟩ := q18
  show Go Z _ _ _ κ _ (T13.setTop (mkF (km κ) 1351 #[.val (.int p0), .val (.int p1), .val (.int p2), .val (.int p3), .val (.long p4), .second, .val (.int (Int32.ofNat (i6))), .val (.int (Int32.ofNat (j7))), .val (.int ca), .val (.int cb), .val (.int (Int32.ofNat (n10))), .val (.int xc), .val (.int sel), .val (.ref a), .val (.int ex)] [(.ref a3)]))
  refine W.callS w17 (ow_36 hw) (ow_37 hw) (ow_38 hw) (ow_39 hw) (by decide) opd_21 (Ctr.pay (c_isHash hw F21 w17.old) (own_ew hw) (ow_39 hw) (ow_38 hw) (kf := 7) (kl := 93) (by decide) (by decide)) mN od_0_1351 (pc' := 1354) rfl rfl rfl (rest := []) rfl (Wd := 0) rfl (by decide) (by decide) (by decide) (by decide) fun v24 T22 h23 M25 w26 q27 => ?_
  obtain ⟨zh, rfl, rfl, eh, hH⟩ := q27
  obtain rfl := eh.symm
  show Go Z _ _ _ κ _ (T22.setTop (mkF (km κ) 1354 #[.val (.int p0), .val (.int p1), .val (.int p2), .val (.int p3), .val (.long p4), .second, .val (.int (Int32.ofNat (i6))), .val (.int (Int32.ofNat (j7))), .val (.int ca), .val (.int cb), .val (.int (Int32.ofNat (n10))), .val (.int xc), .val (.int sel), .val (.ref a), .val (.int ex)] [(.int zh)]))
  refine W.iload w26 od_0_1354 (pc' := 1356) rfl rfl ?_
  have hze : zh = ex := by
    rcases hH with ⟨e1, e2, e3⟩ | ⟨e1, e2⟩ <;> rcases hex with ⟨f1, f2⟩ | ⟨f1, f2⟩
    · rw [e1, f1]
    · exact absurd e3 f2
    · exact absurd ⟨by simp, f2⟩ e2
    · rw [e1, f1]
  refine W.icmpNo w26 od_0_1356 (pc' := 1359) rfl (teq hze).2 ?_
  refine W.iconst w26 od_0_1359 (pc' := 1360) rfl (z := (1 : Int32)) rfl ?_
  refine W.goto w26 od_0_1360 (pc' := 1364) (by decide) (by decide) ?_
  exact W.retN w26 (t := .boolean) (z' := (1 : Int32)) rfl rfl (by simp) od_0_1364 (M' := []) mN (by decide) (by decide) rfl
set_option maxRecDepth 65536 in
set_option maxHeartbeats 40000000 in
theorem g_914 {l : Launch} {Z : State} {a0 : Array Value} (hw : HW Z a0) {κ : Ka} {T0 : State} {h0 : Heap} {p0 p1 p2 p3 : Int32} {p4 : Int64} {i6 j7 n10 : Nat} {ca cb : Int32} (hi6 : i6 < 64) (hj7 : j7 < 64) (hca : chr16 ca) (hcb : chr16 cb) {xc sel : Int32} (hxh : hexd xc) (hx16 : chr16 xc) (w0 : W l Z a0 EL0 nw0 x.cls code maxLocals ret room_1 κ T0 h0 [] 0 0) : Go Z EL0 nw0 room_1 κ (fun v h M' => v = some (.int 1)) (T0.setTop (mkF (km κ) 914 #[.val (.int p0), .val (.int p1), .val (.int p2), .val (.int p3), .val (.long p4), .second, .val (.int (Int32.ofNat (i6))), .val (.int (Int32.ofNat (j7))), .val (.int ca), .val (.int cb), .val (.int (Int32.ofNat (n10))), .val (.int xc), .val (.int sel), .unset, .unset] [])) := by
  refine W.bipush w0 od_0_914 (pc' := 916) rfl (z := (64 : Int32)) rfl ?_
  refine W.newP w0 (ty := .char) rfl (ow_2 hw) od_0_916 (pc' := 918) rfl (by decide) (cap := 64) (by decide) (by decide) (by decide) (by decide) fun T1 h2 a3 k4 w5 K6 B7 V8 => ?_
  have V9 : Arv Z h2 a3 k4 .char (64 : Int32) (rp 0 xc 64) (.int (0 : Int32)) := by rw [rp_0]; exact V8
  refine Jvm.Own.W.dup w5 od_0_918 rfl rfl ?_
  refine W.iconst w5 od_0_919 (pc' := 920) rfl (z := (0 : Int32)) rfl ?_
  refine W.iload w5 od_0_920 (pc' := 922) rfl rfl ?_
  refine W.stC w5 (x' := xc) (nar_16 hx16) V9 (i := 0) (by decide) ⟨by decide, by decide⟩ (by rw [rp_len _ (by decide)]; decide) mem0 od_0_922 (pc' := 923) rfl fun T10 h11 w12 K13 V14 => ?_
  rw [rp_set _ (by decide)] at V14
  have V15 : Arv Z h11 a3 k4 .char (64 : Int32) (rp 1 xc 64) (.int (0 : Int32)) := V14
  refine Jvm.Own.W.dup w12 od_0_923 rfl rfl ?_
  refine W.iconst w12 od_0_924 (pc' := 925) rfl (z := (1 : Int32)) rfl ?_
  refine W.iload w12 od_0_925 (pc' := 927) rfl rfl ?_
  refine W.stC w12 (x' := xc) (nar_16 hx16) V15 (i := 1) (by decide) ⟨by decide, by decide⟩ (by rw [rp_len _ (by decide)]; decide) mem0 od_0_927 (pc' := 928) rfl fun T16 h17 w18 K19 V20 => ?_
  rw [rp_set _ (by decide)] at V20
  have V21 : Arv Z h17 a3 k4 .char (64 : Int32) (rp 2 xc 64) (.int (0 : Int32)) := V20
  refine Jvm.Own.W.dup w18 od_0_928 rfl rfl ?_
  refine W.iconst w18 od_0_929 (pc' := 930) rfl (z := (2 : Int32)) rfl ?_
  refine W.iload w18 od_0_930 (pc' := 932) rfl rfl ?_
  refine W.stC w18 (x' := xc) (nar_16 hx16) V21 (i := 2) (by decide) ⟨by decide, by decide⟩ (by rw [rp_len _ (by decide)]; decide) mem0 od_0_932 (pc' := 933) rfl fun T22 h23 w24 K25 V26 => ?_
  rw [rp_set _ (by decide)] at V26
  have V27 : Arv Z h23 a3 k4 .char (64 : Int32) (rp 3 xc 64) (.int (0 : Int32)) := V26
  refine Jvm.Own.W.dup w24 od_0_933 rfl rfl ?_
  refine W.iconst w24 od_0_934 (pc' := 935) rfl (z := (3 : Int32)) rfl ?_
  refine W.iload w24 od_0_935 (pc' := 937) rfl rfl ?_
  refine W.stC w24 (x' := xc) (nar_16 hx16) V27 (i := 3) (by decide) ⟨by decide, by decide⟩ (by rw [rp_len _ (by decide)]; decide) mem0 od_0_937 (pc' := 938) rfl fun T28 h29 w30 K31 V32 => ?_
  rw [rp_set _ (by decide)] at V32
  have V33 : Arv Z h29 a3 k4 .char (64 : Int32) (rp 4 xc 64) (.int (0 : Int32)) := V32
  refine Jvm.Own.W.dup w30 od_0_938 rfl rfl ?_
  refine W.iconst w30 od_0_939 (pc' := 940) rfl (z := (4 : Int32)) rfl ?_
  refine W.iload w30 od_0_940 (pc' := 942) rfl rfl ?_
  refine W.stC w30 (x' := xc) (nar_16 hx16) V33 (i := 4) (by decide) ⟨by decide, by decide⟩ (by rw [rp_len _ (by decide)]; decide) mem0 od_0_942 (pc' := 943) rfl fun T34 h35 w36 K37 V38 => ?_
  rw [rp_set _ (by decide)] at V38
  have V39 : Arv Z h35 a3 k4 .char (64 : Int32) (rp 5 xc 64) (.int (0 : Int32)) := V38
  refine Jvm.Own.W.dup w36 od_0_943 rfl rfl ?_
  refine W.iconst w36 od_0_944 (pc' := 945) rfl (z := (5 : Int32)) rfl ?_
  refine W.iload w36 od_0_945 (pc' := 947) rfl rfl ?_
  refine W.stC w36 (x' := xc) (nar_16 hx16) V39 (i := 5) (by decide) ⟨by decide, by decide⟩ (by rw [rp_len _ (by decide)]; decide) mem0 od_0_947 (pc' := 948) rfl fun T40 h41 w42 K43 V44 => ?_
  rw [rp_set _ (by decide)] at V44
  have V45 : Arv Z h41 a3 k4 .char (64 : Int32) (rp 6 xc 64) (.int (0 : Int32)) := V44
  refine Jvm.Own.W.dup w42 od_0_948 rfl rfl ?_
  refine W.bipush w42 od_0_949 (pc' := 951) rfl (z := (6 : Int32)) rfl ?_
  refine W.iload w42 od_0_951 (pc' := 953) rfl rfl ?_
  refine W.stC w42 (x' := xc) (nar_16 hx16) V45 (i := 6) (by decide) ⟨by decide, by decide⟩ (by rw [rp_len _ (by decide)]; decide) mem0 od_0_953 (pc' := 954) rfl fun T46 h47 w48 K49 V50 => ?_
  rw [rp_set _ (by decide)] at V50
  have V51 : Arv Z h47 a3 k4 .char (64 : Int32) (rp 7 xc 64) (.int (0 : Int32)) := V50
  refine Jvm.Own.W.dup w48 od_0_954 rfl rfl ?_
  refine W.bipush w48 od_0_955 (pc' := 957) rfl (z := (7 : Int32)) rfl ?_
  refine W.iload w48 od_0_957 (pc' := 959) rfl rfl ?_
  refine W.stC w48 (x' := xc) (nar_16 hx16) V51 (i := 7) (by decide) ⟨by decide, by decide⟩ (by rw [rp_len _ (by decide)]; decide) mem0 od_0_959 (pc' := 960) rfl fun T52 h53 w54 K55 V56 => ?_
  rw [rp_set _ (by decide)] at V56
  have V57 : Arv Z h53 a3 k4 .char (64 : Int32) (rp 8 xc 64) (.int (0 : Int32)) := V56
  refine Jvm.Own.W.dup w54 od_0_960 rfl rfl ?_
  refine W.bipush w54 od_0_961 (pc' := 963) rfl (z := (8 : Int32)) rfl ?_
  refine W.iload w54 od_0_963 (pc' := 965) rfl rfl ?_
  refine W.stC w54 (x' := xc) (nar_16 hx16) V57 (i := 8) (by decide) ⟨by decide, by decide⟩ (by rw [rp_len _ (by decide)]; decide) mem0 od_0_965 (pc' := 966) rfl fun T58 h59 w60 K61 V62 => ?_
  rw [rp_set _ (by decide)] at V62
  have V63 : Arv Z h59 a3 k4 .char (64 : Int32) (rp 9 xc 64) (.int (0 : Int32)) := V62
  refine Jvm.Own.W.dup w60 od_0_966 rfl rfl ?_
  refine W.bipush w60 od_0_967 (pc' := 969) rfl (z := (9 : Int32)) rfl ?_
  refine W.iload w60 od_0_969 (pc' := 971) rfl rfl ?_
  refine W.stC w60 (x' := xc) (nar_16 hx16) V63 (i := 9) (by decide) ⟨by decide, by decide⟩ (by rw [rp_len _ (by decide)]; decide) mem0 od_0_971 (pc' := 972) rfl fun T64 h65 w66 K67 V68 => ?_
  rw [rp_set _ (by decide)] at V68
  have V69 : Arv Z h65 a3 k4 .char (64 : Int32) (rp 10 xc 64) (.int (0 : Int32)) := V68
  refine Jvm.Own.W.dup w66 od_0_972 rfl rfl ?_
  refine W.bipush w66 od_0_973 (pc' := 975) rfl (z := (10 : Int32)) rfl ?_
  refine W.iload w66 od_0_975 (pc' := 977) rfl rfl ?_
  refine W.stC w66 (x' := xc) (nar_16 hx16) V69 (i := 10) (by decide) ⟨by decide, by decide⟩ (by rw [rp_len _ (by decide)]; decide) mem0 od_0_977 (pc' := 978) rfl fun T70 h71 w72 K73 V74 => ?_
  rw [rp_set _ (by decide)] at V74
  have V75 : Arv Z h71 a3 k4 .char (64 : Int32) (rp 11 xc 64) (.int (0 : Int32)) := V74
  refine Jvm.Own.W.dup w72 od_0_978 rfl rfl ?_
  refine W.bipush w72 od_0_979 (pc' := 981) rfl (z := (11 : Int32)) rfl ?_
  refine W.iload w72 od_0_981 (pc' := 983) rfl rfl ?_
  refine W.stC w72 (x' := xc) (nar_16 hx16) V75 (i := 11) (by decide) ⟨by decide, by decide⟩ (by rw [rp_len _ (by decide)]; decide) mem0 od_0_983 (pc' := 984) rfl fun T76 h77 w78 K79 V80 => ?_
  rw [rp_set _ (by decide)] at V80
  have V81 : Arv Z h77 a3 k4 .char (64 : Int32) (rp 12 xc 64) (.int (0 : Int32)) := V80
  refine Jvm.Own.W.dup w78 od_0_984 rfl rfl ?_
  refine W.bipush w78 od_0_985 (pc' := 987) rfl (z := (12 : Int32)) rfl ?_
  refine W.iload w78 od_0_987 (pc' := 989) rfl rfl ?_
  refine W.stC w78 (x' := xc) (nar_16 hx16) V81 (i := 12) (by decide) ⟨by decide, by decide⟩ (by rw [rp_len _ (by decide)]; decide) mem0 od_0_989 (pc' := 990) rfl fun T82 h83 w84 K85 V86 => ?_
  rw [rp_set _ (by decide)] at V86
  have V87 : Arv Z h83 a3 k4 .char (64 : Int32) (rp 13 xc 64) (.int (0 : Int32)) := V86
  refine Jvm.Own.W.dup w84 od_0_990 rfl rfl ?_
  refine W.bipush w84 od_0_991 (pc' := 993) rfl (z := (13 : Int32)) rfl ?_
  refine W.iload w84 od_0_993 (pc' := 995) rfl rfl ?_
  refine W.stC w84 (x' := xc) (nar_16 hx16) V87 (i := 13) (by decide) ⟨by decide, by decide⟩ (by rw [rp_len _ (by decide)]; decide) mem0 od_0_995 (pc' := 996) rfl fun T88 h89 w90 K91 V92 => ?_
  rw [rp_set _ (by decide)] at V92
  have V93 : Arv Z h89 a3 k4 .char (64 : Int32) (rp 14 xc 64) (.int (0 : Int32)) := V92
  refine Jvm.Own.W.dup w90 od_0_996 rfl rfl ?_
  refine W.bipush w90 od_0_997 (pc' := 999) rfl (z := (14 : Int32)) rfl ?_
  refine W.iload w90 od_0_999 (pc' := 1001) rfl rfl ?_
  refine W.stC w90 (x' := xc) (nar_16 hx16) V93 (i := 14) (by decide) ⟨by decide, by decide⟩ (by rw [rp_len _ (by decide)]; decide) mem0 od_0_1001 (pc' := 1002) rfl fun T94 h95 w96 K97 V98 => ?_
  rw [rp_set _ (by decide)] at V98
  have V99 : Arv Z h95 a3 k4 .char (64 : Int32) (rp 15 xc 64) (.int (0 : Int32)) := V98
  refine Jvm.Own.W.dup w96 od_0_1002 rfl rfl ?_
  refine W.bipush w96 od_0_1003 (pc' := 1005) rfl (z := (15 : Int32)) rfl ?_
  refine W.iload w96 od_0_1005 (pc' := 1007) rfl rfl ?_
  refine W.stC w96 (x' := xc) (nar_16 hx16) V99 (i := 15) (by decide) ⟨by decide, by decide⟩ (by rw [rp_len _ (by decide)]; decide) mem0 od_0_1007 (pc' := 1008) rfl fun T100 h101 w102 K103 V104 => ?_
  rw [rp_set _ (by decide)] at V104
  have V105 : Arv Z h101 a3 k4 .char (64 : Int32) (rp 16 xc 64) (.int (0 : Int32)) := V104
  refine Jvm.Own.W.dup w102 od_0_1008 rfl rfl ?_
  refine W.bipush w102 od_0_1009 (pc' := 1011) rfl (z := (16 : Int32)) rfl ?_
  refine W.iload w102 od_0_1011 (pc' := 1013) rfl rfl ?_
  refine W.stC w102 (x' := xc) (nar_16 hx16) V105 (i := 16) (by decide) ⟨by decide, by decide⟩ (by rw [rp_len _ (by decide)]; decide) mem0 od_0_1013 (pc' := 1014) rfl fun T106 h107 w108 K109 V110 => ?_
  rw [rp_set _ (by decide)] at V110
  have V111 : Arv Z h107 a3 k4 .char (64 : Int32) (rp 17 xc 64) (.int (0 : Int32)) := V110
  refine Jvm.Own.W.dup w108 od_0_1014 rfl rfl ?_
  refine W.bipush w108 od_0_1015 (pc' := 1017) rfl (z := (17 : Int32)) rfl ?_
  refine W.iload w108 od_0_1017 (pc' := 1019) rfl rfl ?_
  refine W.stC w108 (x' := xc) (nar_16 hx16) V111 (i := 17) (by decide) ⟨by decide, by decide⟩ (by rw [rp_len _ (by decide)]; decide) mem0 od_0_1019 (pc' := 1020) rfl fun T112 h113 w114 K115 V116 => ?_
  rw [rp_set _ (by decide)] at V116
  have V117 : Arv Z h113 a3 k4 .char (64 : Int32) (rp 18 xc 64) (.int (0 : Int32)) := V116
  refine Jvm.Own.W.dup w114 od_0_1020 rfl rfl ?_
  refine W.bipush w114 od_0_1021 (pc' := 1023) rfl (z := (18 : Int32)) rfl ?_
  refine W.iload w114 od_0_1023 (pc' := 1025) rfl rfl ?_
  refine W.stC w114 (x' := xc) (nar_16 hx16) V117 (i := 18) (by decide) ⟨by decide, by decide⟩ (by rw [rp_len _ (by decide)]; decide) mem0 od_0_1025 (pc' := 1026) rfl fun T118 h119 w120 K121 V122 => ?_
  rw [rp_set _ (by decide)] at V122
  have V123 : Arv Z h119 a3 k4 .char (64 : Int32) (rp 19 xc 64) (.int (0 : Int32)) := V122
  refine Jvm.Own.W.dup w120 od_0_1026 rfl rfl ?_
  refine W.bipush w120 od_0_1027 (pc' := 1029) rfl (z := (19 : Int32)) rfl ?_
  refine W.iload w120 od_0_1029 (pc' := 1031) rfl rfl ?_
  refine W.stC w120 (x' := xc) (nar_16 hx16) V123 (i := 19) (by decide) ⟨by decide, by decide⟩ (by rw [rp_len _ (by decide)]; decide) mem0 od_0_1031 (pc' := 1032) rfl fun T124 h125 w126 K127 V128 => ?_
  rw [rp_set _ (by decide)] at V128
  have V129 : Arv Z h125 a3 k4 .char (64 : Int32) (rp 20 xc 64) (.int (0 : Int32)) := V128
  refine Jvm.Own.W.dup w126 od_0_1032 rfl rfl ?_
  refine W.bipush w126 od_0_1033 (pc' := 1035) rfl (z := (20 : Int32)) rfl ?_
  refine W.iload w126 od_0_1035 (pc' := 1037) rfl rfl ?_
  refine W.stC w126 (x' := xc) (nar_16 hx16) V129 (i := 20) (by decide) ⟨by decide, by decide⟩ (by rw [rp_len _ (by decide)]; decide) mem0 od_0_1037 (pc' := 1038) rfl fun T130 h131 w132 K133 V134 => ?_
  rw [rp_set _ (by decide)] at V134
  have V135 : Arv Z h131 a3 k4 .char (64 : Int32) (rp 21 xc 64) (.int (0 : Int32)) := V134
  refine Jvm.Own.W.dup w132 od_0_1038 rfl rfl ?_
  refine W.bipush w132 od_0_1039 (pc' := 1041) rfl (z := (21 : Int32)) rfl ?_
  refine W.iload w132 od_0_1041 (pc' := 1043) rfl rfl ?_
  refine W.stC w132 (x' := xc) (nar_16 hx16) V135 (i := 21) (by decide) ⟨by decide, by decide⟩ (by rw [rp_len _ (by decide)]; decide) mem0 od_0_1043 (pc' := 1044) rfl fun T136 h137 w138 K139 V140 => ?_
  rw [rp_set _ (by decide)] at V140
  have V141 : Arv Z h137 a3 k4 .char (64 : Int32) (rp 22 xc 64) (.int (0 : Int32)) := V140
  refine Jvm.Own.W.dup w138 od_0_1044 rfl rfl ?_
  refine W.bipush w138 od_0_1045 (pc' := 1047) rfl (z := (22 : Int32)) rfl ?_
  refine W.iload w138 od_0_1047 (pc' := 1049) rfl rfl ?_
  refine W.stC w138 (x' := xc) (nar_16 hx16) V141 (i := 22) (by decide) ⟨by decide, by decide⟩ (by rw [rp_len _ (by decide)]; decide) mem0 od_0_1049 (pc' := 1050) rfl fun T142 h143 w144 K145 V146 => ?_
  rw [rp_set _ (by decide)] at V146
  have V147 : Arv Z h143 a3 k4 .char (64 : Int32) (rp 23 xc 64) (.int (0 : Int32)) := V146
  refine Jvm.Own.W.dup w144 od_0_1050 rfl rfl ?_
  refine W.bipush w144 od_0_1051 (pc' := 1053) rfl (z := (23 : Int32)) rfl ?_
  refine W.iload w144 od_0_1053 (pc' := 1055) rfl rfl ?_
  refine W.stC w144 (x' := xc) (nar_16 hx16) V147 (i := 23) (by decide) ⟨by decide, by decide⟩ (by rw [rp_len _ (by decide)]; decide) mem0 od_0_1055 (pc' := 1056) rfl fun T148 h149 w150 K151 V152 => ?_
  rw [rp_set _ (by decide)] at V152
  have V153 : Arv Z h149 a3 k4 .char (64 : Int32) (rp 24 xc 64) (.int (0 : Int32)) := V152
  refine Jvm.Own.W.dup w150 od_0_1056 rfl rfl ?_
  refine W.bipush w150 od_0_1057 (pc' := 1059) rfl (z := (24 : Int32)) rfl ?_
  refine W.iload w150 od_0_1059 (pc' := 1061) rfl rfl ?_
  refine W.stC w150 (x' := xc) (nar_16 hx16) V153 (i := 24) (by decide) ⟨by decide, by decide⟩ (by rw [rp_len _ (by decide)]; decide) mem0 od_0_1061 (pc' := 1062) rfl fun T154 h155 w156 K157 V158 => ?_
  rw [rp_set _ (by decide)] at V158
  have V159 : Arv Z h155 a3 k4 .char (64 : Int32) (rp 25 xc 64) (.int (0 : Int32)) := V158
  refine Jvm.Own.W.dup w156 od_0_1062 rfl rfl ?_
  refine W.bipush w156 od_0_1063 (pc' := 1065) rfl (z := (25 : Int32)) rfl ?_
  refine W.iload w156 od_0_1065 (pc' := 1067) rfl rfl ?_
  refine W.stC w156 (x' := xc) (nar_16 hx16) V159 (i := 25) (by decide) ⟨by decide, by decide⟩ (by rw [rp_len _ (by decide)]; decide) mem0 od_0_1067 (pc' := 1068) rfl fun T160 h161 w162 K163 V164 => ?_
  rw [rp_set _ (by decide)] at V164
  have V165 : Arv Z h161 a3 k4 .char (64 : Int32) (rp 26 xc 64) (.int (0 : Int32)) := V164
  refine Jvm.Own.W.dup w162 od_0_1068 rfl rfl ?_
  refine W.bipush w162 od_0_1069 (pc' := 1071) rfl (z := (26 : Int32)) rfl ?_
  refine W.iload w162 od_0_1071 (pc' := 1073) rfl rfl ?_
  refine W.stC w162 (x' := xc) (nar_16 hx16) V165 (i := 26) (by decide) ⟨by decide, by decide⟩ (by rw [rp_len _ (by decide)]; decide) mem0 od_0_1073 (pc' := 1074) rfl fun T166 h167 w168 K169 V170 => ?_
  rw [rp_set _ (by decide)] at V170
  have V171 : Arv Z h167 a3 k4 .char (64 : Int32) (rp 27 xc 64) (.int (0 : Int32)) := V170
  refine Jvm.Own.W.dup w168 od_0_1074 rfl rfl ?_
  refine W.bipush w168 od_0_1075 (pc' := 1077) rfl (z := (27 : Int32)) rfl ?_
  refine W.iload w168 od_0_1077 (pc' := 1079) rfl rfl ?_
  refine W.stC w168 (x' := xc) (nar_16 hx16) V171 (i := 27) (by decide) ⟨by decide, by decide⟩ (by rw [rp_len _ (by decide)]; decide) mem0 od_0_1079 (pc' := 1080) rfl fun T172 h173 w174 K175 V176 => ?_
  rw [rp_set _ (by decide)] at V176
  have V177 : Arv Z h173 a3 k4 .char (64 : Int32) (rp 28 xc 64) (.int (0 : Int32)) := V176
  refine Jvm.Own.W.dup w174 od_0_1080 rfl rfl ?_
  refine W.bipush w174 od_0_1081 (pc' := 1083) rfl (z := (28 : Int32)) rfl ?_
  refine W.iload w174 od_0_1083 (pc' := 1085) rfl rfl ?_
  refine W.stC w174 (x' := xc) (nar_16 hx16) V177 (i := 28) (by decide) ⟨by decide, by decide⟩ (by rw [rp_len _ (by decide)]; decide) mem0 od_0_1085 (pc' := 1086) rfl fun T178 h179 w180 K181 V182 => ?_
  rw [rp_set _ (by decide)] at V182
  have V183 : Arv Z h179 a3 k4 .char (64 : Int32) (rp 29 xc 64) (.int (0 : Int32)) := V182
  refine Jvm.Own.W.dup w180 od_0_1086 rfl rfl ?_
  refine W.bipush w180 od_0_1087 (pc' := 1089) rfl (z := (29 : Int32)) rfl ?_
  refine W.iload w180 od_0_1089 (pc' := 1091) rfl rfl ?_
  refine W.stC w180 (x' := xc) (nar_16 hx16) V183 (i := 29) (by decide) ⟨by decide, by decide⟩ (by rw [rp_len _ (by decide)]; decide) mem0 od_0_1091 (pc' := 1092) rfl fun T184 h185 w186 K187 V188 => ?_
  rw [rp_set _ (by decide)] at V188
  have V189 : Arv Z h185 a3 k4 .char (64 : Int32) (rp 30 xc 64) (.int (0 : Int32)) := V188
  refine Jvm.Own.W.dup w186 od_0_1092 rfl rfl ?_
  refine W.bipush w186 od_0_1093 (pc' := 1095) rfl (z := (30 : Int32)) rfl ?_
  refine W.iload w186 od_0_1095 (pc' := 1097) rfl rfl ?_
  refine W.stC w186 (x' := xc) (nar_16 hx16) V189 (i := 30) (by decide) ⟨by decide, by decide⟩ (by rw [rp_len _ (by decide)]; decide) mem0 od_0_1097 (pc' := 1098) rfl fun T190 h191 w192 K193 V194 => ?_
  rw [rp_set _ (by decide)] at V194
  have V195 : Arv Z h191 a3 k4 .char (64 : Int32) (rp 31 xc 64) (.int (0 : Int32)) := V194
  refine Jvm.Own.W.dup w192 od_0_1098 rfl rfl ?_
  refine W.bipush w192 od_0_1099 (pc' := 1101) rfl (z := (31 : Int32)) rfl ?_
  refine W.iload w192 od_0_1101 (pc' := 1103) rfl rfl ?_
  refine W.stC w192 (x' := xc) (nar_16 hx16) V195 (i := 31) (by decide) ⟨by decide, by decide⟩ (by rw [rp_len _ (by decide)]; decide) mem0 od_0_1103 (pc' := 1104) rfl fun T196 h197 w198 K199 V200 => ?_
  rw [rp_set _ (by decide)] at V200
  have V201 : Arv Z h197 a3 k4 .char (64 : Int32) (rp 32 xc 64) (.int (0 : Int32)) := V200
  refine Jvm.Own.W.dup w198 od_0_1104 rfl rfl ?_
  refine W.bipush w198 od_0_1105 (pc' := 1107) rfl (z := (32 : Int32)) rfl ?_
  refine W.iload w198 od_0_1107 (pc' := 1109) rfl rfl ?_
  refine W.stC w198 (x' := xc) (nar_16 hx16) V201 (i := 32) (by decide) ⟨by decide, by decide⟩ (by rw [rp_len _ (by decide)]; decide) mem0 od_0_1109 (pc' := 1110) rfl fun T202 h203 w204 K205 V206 => ?_
  rw [rp_set _ (by decide)] at V206
  have V207 : Arv Z h203 a3 k4 .char (64 : Int32) (rp 33 xc 64) (.int (0 : Int32)) := V206
  refine Jvm.Own.W.dup w204 od_0_1110 rfl rfl ?_
  refine W.bipush w204 od_0_1111 (pc' := 1113) rfl (z := (33 : Int32)) rfl ?_
  refine W.iload w204 od_0_1113 (pc' := 1115) rfl rfl ?_
  refine W.stC w204 (x' := xc) (nar_16 hx16) V207 (i := 33) (by decide) ⟨by decide, by decide⟩ (by rw [rp_len _ (by decide)]; decide) mem0 od_0_1115 (pc' := 1116) rfl fun T208 h209 w210 K211 V212 => ?_
  rw [rp_set _ (by decide)] at V212
  have V213 : Arv Z h209 a3 k4 .char (64 : Int32) (rp 34 xc 64) (.int (0 : Int32)) := V212
  refine Jvm.Own.W.dup w210 od_0_1116 rfl rfl ?_
  refine W.bipush w210 od_0_1117 (pc' := 1119) rfl (z := (34 : Int32)) rfl ?_
  refine W.iload w210 od_0_1119 (pc' := 1121) rfl rfl ?_
  refine W.stC w210 (x' := xc) (nar_16 hx16) V213 (i := 34) (by decide) ⟨by decide, by decide⟩ (by rw [rp_len _ (by decide)]; decide) mem0 od_0_1121 (pc' := 1122) rfl fun T214 h215 w216 K217 V218 => ?_
  rw [rp_set _ (by decide)] at V218
  have V219 : Arv Z h215 a3 k4 .char (64 : Int32) (rp 35 xc 64) (.int (0 : Int32)) := V218
  refine Jvm.Own.W.dup w216 od_0_1122 rfl rfl ?_
  refine W.bipush w216 od_0_1123 (pc' := 1125) rfl (z := (35 : Int32)) rfl ?_
  refine W.iload w216 od_0_1125 (pc' := 1127) rfl rfl ?_
  refine W.stC w216 (x' := xc) (nar_16 hx16) V219 (i := 35) (by decide) ⟨by decide, by decide⟩ (by rw [rp_len _ (by decide)]; decide) mem0 od_0_1127 (pc' := 1128) rfl fun T220 h221 w222 K223 V224 => ?_
  rw [rp_set _ (by decide)] at V224
  have V225 : Arv Z h221 a3 k4 .char (64 : Int32) (rp 36 xc 64) (.int (0 : Int32)) := V224
  refine Jvm.Own.W.dup w222 od_0_1128 rfl rfl ?_
  refine W.bipush w222 od_0_1129 (pc' := 1131) rfl (z := (36 : Int32)) rfl ?_
  refine W.iload w222 od_0_1131 (pc' := 1133) rfl rfl ?_
  refine W.stC w222 (x' := xc) (nar_16 hx16) V225 (i := 36) (by decide) ⟨by decide, by decide⟩ (by rw [rp_len _ (by decide)]; decide) mem0 od_0_1133 (pc' := 1134) rfl fun T226 h227 w228 K229 V230 => ?_
  rw [rp_set _ (by decide)] at V230
  have V231 : Arv Z h227 a3 k4 .char (64 : Int32) (rp 37 xc 64) (.int (0 : Int32)) := V230
  refine Jvm.Own.W.dup w228 od_0_1134 rfl rfl ?_
  refine W.bipush w228 od_0_1135 (pc' := 1137) rfl (z := (37 : Int32)) rfl ?_
  refine W.iload w228 od_0_1137 (pc' := 1139) rfl rfl ?_
  refine W.stC w228 (x' := xc) (nar_16 hx16) V231 (i := 37) (by decide) ⟨by decide, by decide⟩ (by rw [rp_len _ (by decide)]; decide) mem0 od_0_1139 (pc' := 1140) rfl fun T232 h233 w234 K235 V236 => ?_
  rw [rp_set _ (by decide)] at V236
  have V237 : Arv Z h233 a3 k4 .char (64 : Int32) (rp 38 xc 64) (.int (0 : Int32)) := V236
  refine Jvm.Own.W.dup w234 od_0_1140 rfl rfl ?_
  refine W.bipush w234 od_0_1141 (pc' := 1143) rfl (z := (38 : Int32)) rfl ?_
  refine W.iload w234 od_0_1143 (pc' := 1145) rfl rfl ?_
  refine W.stC w234 (x' := xc) (nar_16 hx16) V237 (i := 38) (by decide) ⟨by decide, by decide⟩ (by rw [rp_len _ (by decide)]; decide) mem0 od_0_1145 (pc' := 1146) rfl fun T238 h239 w240 K241 V242 => ?_
  rw [rp_set _ (by decide)] at V242
  have V243 : Arv Z h239 a3 k4 .char (64 : Int32) (rp 39 xc 64) (.int (0 : Int32)) := V242
  refine Jvm.Own.W.dup w240 od_0_1146 rfl rfl ?_
  refine W.bipush w240 od_0_1147 (pc' := 1149) rfl (z := (39 : Int32)) rfl ?_
  refine W.iload w240 od_0_1149 (pc' := 1151) rfl rfl ?_
  refine W.stC w240 (x' := xc) (nar_16 hx16) V243 (i := 39) (by decide) ⟨by decide, by decide⟩ (by rw [rp_len _ (by decide)]; decide) mem0 od_0_1151 (pc' := 1152) rfl fun T244 h245 w246 K247 V248 => ?_
  rw [rp_set _ (by decide)] at V248
  have V249 : Arv Z h245 a3 k4 .char (64 : Int32) (rp 40 xc 64) (.int (0 : Int32)) := V248
  refine Jvm.Own.W.dup w246 od_0_1152 rfl rfl ?_
  refine W.bipush w246 od_0_1153 (pc' := 1155) rfl (z := (40 : Int32)) rfl ?_
  refine W.iload w246 od_0_1155 (pc' := 1157) rfl rfl ?_
  refine W.stC w246 (x' := xc) (nar_16 hx16) V249 (i := 40) (by decide) ⟨by decide, by decide⟩ (by rw [rp_len _ (by decide)]; decide) mem0 od_0_1157 (pc' := 1158) rfl fun T250 h251 w252 K253 V254 => ?_
  rw [rp_set _ (by decide)] at V254
  have V255 : Arv Z h251 a3 k4 .char (64 : Int32) (rp 41 xc 64) (.int (0 : Int32)) := V254
  refine Jvm.Own.W.dup w252 od_0_1158 rfl rfl ?_
  refine W.bipush w252 od_0_1159 (pc' := 1161) rfl (z := (41 : Int32)) rfl ?_
  refine W.iload w252 od_0_1161 (pc' := 1163) rfl rfl ?_
  refine W.stC w252 (x' := xc) (nar_16 hx16) V255 (i := 41) (by decide) ⟨by decide, by decide⟩ (by rw [rp_len _ (by decide)]; decide) mem0 od_0_1163 (pc' := 1164) rfl fun T256 h257 w258 K259 V260 => ?_
  rw [rp_set _ (by decide)] at V260
  have V261 : Arv Z h257 a3 k4 .char (64 : Int32) (rp 42 xc 64) (.int (0 : Int32)) := V260
  refine Jvm.Own.W.dup w258 od_0_1164 rfl rfl ?_
  refine W.bipush w258 od_0_1165 (pc' := 1167) rfl (z := (42 : Int32)) rfl ?_
  refine W.iload w258 od_0_1167 (pc' := 1169) rfl rfl ?_
  refine W.stC w258 (x' := xc) (nar_16 hx16) V261 (i := 42) (by decide) ⟨by decide, by decide⟩ (by rw [rp_len _ (by decide)]; decide) mem0 od_0_1169 (pc' := 1170) rfl fun T262 h263 w264 K265 V266 => ?_
  rw [rp_set _ (by decide)] at V266
  have V267 : Arv Z h263 a3 k4 .char (64 : Int32) (rp 43 xc 64) (.int (0 : Int32)) := V266
  refine Jvm.Own.W.dup w264 od_0_1170 rfl rfl ?_
  refine W.bipush w264 od_0_1171 (pc' := 1173) rfl (z := (43 : Int32)) rfl ?_
  refine W.iload w264 od_0_1173 (pc' := 1175) rfl rfl ?_
  refine W.stC w264 (x' := xc) (nar_16 hx16) V267 (i := 43) (by decide) ⟨by decide, by decide⟩ (by rw [rp_len _ (by decide)]; decide) mem0 od_0_1175 (pc' := 1176) rfl fun T268 h269 w270 K271 V272 => ?_
  rw [rp_set _ (by decide)] at V272
  have V273 : Arv Z h269 a3 k4 .char (64 : Int32) (rp 44 xc 64) (.int (0 : Int32)) := V272
  refine Jvm.Own.W.dup w270 od_0_1176 rfl rfl ?_
  refine W.bipush w270 od_0_1177 (pc' := 1179) rfl (z := (44 : Int32)) rfl ?_
  refine W.iload w270 od_0_1179 (pc' := 1181) rfl rfl ?_
  refine W.stC w270 (x' := xc) (nar_16 hx16) V273 (i := 44) (by decide) ⟨by decide, by decide⟩ (by rw [rp_len _ (by decide)]; decide) mem0 od_0_1181 (pc' := 1182) rfl fun T274 h275 w276 K277 V278 => ?_
  rw [rp_set _ (by decide)] at V278
  have V279 : Arv Z h275 a3 k4 .char (64 : Int32) (rp 45 xc 64) (.int (0 : Int32)) := V278
  refine Jvm.Own.W.dup w276 od_0_1182 rfl rfl ?_
  refine W.bipush w276 od_0_1183 (pc' := 1185) rfl (z := (45 : Int32)) rfl ?_
  refine W.iload w276 od_0_1185 (pc' := 1187) rfl rfl ?_
  refine W.stC w276 (x' := xc) (nar_16 hx16) V279 (i := 45) (by decide) ⟨by decide, by decide⟩ (by rw [rp_len _ (by decide)]; decide) mem0 od_0_1187 (pc' := 1188) rfl fun T280 h281 w282 K283 V284 => ?_
  rw [rp_set _ (by decide)] at V284
  have V285 : Arv Z h281 a3 k4 .char (64 : Int32) (rp 46 xc 64) (.int (0 : Int32)) := V284
  refine Jvm.Own.W.dup w282 od_0_1188 rfl rfl ?_
  refine W.bipush w282 od_0_1189 (pc' := 1191) rfl (z := (46 : Int32)) rfl ?_
  refine W.iload w282 od_0_1191 (pc' := 1193) rfl rfl ?_
  refine W.stC w282 (x' := xc) (nar_16 hx16) V285 (i := 46) (by decide) ⟨by decide, by decide⟩ (by rw [rp_len _ (by decide)]; decide) mem0 od_0_1193 (pc' := 1194) rfl fun T286 h287 w288 K289 V290 => ?_
  rw [rp_set _ (by decide)] at V290
  have V291 : Arv Z h287 a3 k4 .char (64 : Int32) (rp 47 xc 64) (.int (0 : Int32)) := V290
  refine Jvm.Own.W.dup w288 od_0_1194 rfl rfl ?_
  refine W.bipush w288 od_0_1195 (pc' := 1197) rfl (z := (47 : Int32)) rfl ?_
  refine W.iload w288 od_0_1197 (pc' := 1199) rfl rfl ?_
  refine W.stC w288 (x' := xc) (nar_16 hx16) V291 (i := 47) (by decide) ⟨by decide, by decide⟩ (by rw [rp_len _ (by decide)]; decide) mem0 od_0_1199 (pc' := 1200) rfl fun T292 h293 w294 K295 V296 => ?_
  rw [rp_set _ (by decide)] at V296
  have V297 : Arv Z h293 a3 k4 .char (64 : Int32) (rp 48 xc 64) (.int (0 : Int32)) := V296
  refine Jvm.Own.W.dup w294 od_0_1200 rfl rfl ?_
  refine W.bipush w294 od_0_1201 (pc' := 1203) rfl (z := (48 : Int32)) rfl ?_
  refine W.iload w294 od_0_1203 (pc' := 1205) rfl rfl ?_
  refine W.stC w294 (x' := xc) (nar_16 hx16) V297 (i := 48) (by decide) ⟨by decide, by decide⟩ (by rw [rp_len _ (by decide)]; decide) mem0 od_0_1205 (pc' := 1206) rfl fun T298 h299 w300 K301 V302 => ?_
  rw [rp_set _ (by decide)] at V302
  have V303 : Arv Z h299 a3 k4 .char (64 : Int32) (rp 49 xc 64) (.int (0 : Int32)) := V302
  refine Jvm.Own.W.dup w300 od_0_1206 rfl rfl ?_
  refine W.bipush w300 od_0_1207 (pc' := 1209) rfl (z := (49 : Int32)) rfl ?_
  refine W.iload w300 od_0_1209 (pc' := 1211) rfl rfl ?_
  refine W.stC w300 (x' := xc) (nar_16 hx16) V303 (i := 49) (by decide) ⟨by decide, by decide⟩ (by rw [rp_len _ (by decide)]; decide) mem0 od_0_1211 (pc' := 1212) rfl fun T304 h305 w306 K307 V308 => ?_
  rw [rp_set _ (by decide)] at V308
  have V309 : Arv Z h305 a3 k4 .char (64 : Int32) (rp 50 xc 64) (.int (0 : Int32)) := V308
  refine Jvm.Own.W.dup w306 od_0_1212 rfl rfl ?_
  refine W.bipush w306 od_0_1213 (pc' := 1215) rfl (z := (50 : Int32)) rfl ?_
  refine W.iload w306 od_0_1215 (pc' := 1217) rfl rfl ?_
  refine W.stC w306 (x' := xc) (nar_16 hx16) V309 (i := 50) (by decide) ⟨by decide, by decide⟩ (by rw [rp_len _ (by decide)]; decide) mem0 od_0_1217 (pc' := 1218) rfl fun T310 h311 w312 K313 V314 => ?_
  rw [rp_set _ (by decide)] at V314
  have V315 : Arv Z h311 a3 k4 .char (64 : Int32) (rp 51 xc 64) (.int (0 : Int32)) := V314
  refine Jvm.Own.W.dup w312 od_0_1218 rfl rfl ?_
  refine W.bipush w312 od_0_1219 (pc' := 1221) rfl (z := (51 : Int32)) rfl ?_
  refine W.iload w312 od_0_1221 (pc' := 1223) rfl rfl ?_
  refine W.stC w312 (x' := xc) (nar_16 hx16) V315 (i := 51) (by decide) ⟨by decide, by decide⟩ (by rw [rp_len _ (by decide)]; decide) mem0 od_0_1223 (pc' := 1224) rfl fun T316 h317 w318 K319 V320 => ?_
  rw [rp_set _ (by decide)] at V320
  have V321 : Arv Z h317 a3 k4 .char (64 : Int32) (rp 52 xc 64) (.int (0 : Int32)) := V320
  refine Jvm.Own.W.dup w318 od_0_1224 rfl rfl ?_
  refine W.bipush w318 od_0_1225 (pc' := 1227) rfl (z := (52 : Int32)) rfl ?_
  refine W.iload w318 od_0_1227 (pc' := 1229) rfl rfl ?_
  refine W.stC w318 (x' := xc) (nar_16 hx16) V321 (i := 52) (by decide) ⟨by decide, by decide⟩ (by rw [rp_len _ (by decide)]; decide) mem0 od_0_1229 (pc' := 1230) rfl fun T322 h323 w324 K325 V326 => ?_
  rw [rp_set _ (by decide)] at V326
  have V327 : Arv Z h323 a3 k4 .char (64 : Int32) (rp 53 xc 64) (.int (0 : Int32)) := V326
  refine Jvm.Own.W.dup w324 od_0_1230 rfl rfl ?_
  refine W.bipush w324 od_0_1231 (pc' := 1233) rfl (z := (53 : Int32)) rfl ?_
  refine W.iload w324 od_0_1233 (pc' := 1235) rfl rfl ?_
  refine W.stC w324 (x' := xc) (nar_16 hx16) V327 (i := 53) (by decide) ⟨by decide, by decide⟩ (by rw [rp_len _ (by decide)]; decide) mem0 od_0_1235 (pc' := 1236) rfl fun T328 h329 w330 K331 V332 => ?_
  rw [rp_set _ (by decide)] at V332
  have V333 : Arv Z h329 a3 k4 .char (64 : Int32) (rp 54 xc 64) (.int (0 : Int32)) := V332
  refine Jvm.Own.W.dup w330 od_0_1236 rfl rfl ?_
  refine W.bipush w330 od_0_1237 (pc' := 1239) rfl (z := (54 : Int32)) rfl ?_
  refine W.iload w330 od_0_1239 (pc' := 1241) rfl rfl ?_
  refine W.stC w330 (x' := xc) (nar_16 hx16) V333 (i := 54) (by decide) ⟨by decide, by decide⟩ (by rw [rp_len _ (by decide)]; decide) mem0 od_0_1241 (pc' := 1242) rfl fun T334 h335 w336 K337 V338 => ?_
  rw [rp_set _ (by decide)] at V338
  have V339 : Arv Z h335 a3 k4 .char (64 : Int32) (rp 55 xc 64) (.int (0 : Int32)) := V338
  refine Jvm.Own.W.dup w336 od_0_1242 rfl rfl ?_
  refine W.bipush w336 od_0_1243 (pc' := 1245) rfl (z := (55 : Int32)) rfl ?_
  refine W.iload w336 od_0_1245 (pc' := 1247) rfl rfl ?_
  refine W.stC w336 (x' := xc) (nar_16 hx16) V339 (i := 55) (by decide) ⟨by decide, by decide⟩ (by rw [rp_len _ (by decide)]; decide) mem0 od_0_1247 (pc' := 1248) rfl fun T340 h341 w342 K343 V344 => ?_
  rw [rp_set _ (by decide)] at V344
  have V345 : Arv Z h341 a3 k4 .char (64 : Int32) (rp 56 xc 64) (.int (0 : Int32)) := V344
  refine Jvm.Own.W.dup w342 od_0_1248 rfl rfl ?_
  refine W.bipush w342 od_0_1249 (pc' := 1251) rfl (z := (56 : Int32)) rfl ?_
  refine W.iload w342 od_0_1251 (pc' := 1253) rfl rfl ?_
  refine W.stC w342 (x' := xc) (nar_16 hx16) V345 (i := 56) (by decide) ⟨by decide, by decide⟩ (by rw [rp_len _ (by decide)]; decide) mem0 od_0_1253 (pc' := 1254) rfl fun T346 h347 w348 K349 V350 => ?_
  rw [rp_set _ (by decide)] at V350
  have V351 : Arv Z h347 a3 k4 .char (64 : Int32) (rp 57 xc 64) (.int (0 : Int32)) := V350
  refine Jvm.Own.W.dup w348 od_0_1254 rfl rfl ?_
  refine W.bipush w348 od_0_1255 (pc' := 1257) rfl (z := (57 : Int32)) rfl ?_
  refine W.iload w348 od_0_1257 (pc' := 1259) rfl rfl ?_
  refine W.stC w348 (x' := xc) (nar_16 hx16) V351 (i := 57) (by decide) ⟨by decide, by decide⟩ (by rw [rp_len _ (by decide)]; decide) mem0 od_0_1259 (pc' := 1260) rfl fun T352 h353 w354 K355 V356 => ?_
  rw [rp_set _ (by decide)] at V356
  have V357 : Arv Z h353 a3 k4 .char (64 : Int32) (rp 58 xc 64) (.int (0 : Int32)) := V356
  refine Jvm.Own.W.dup w354 od_0_1260 rfl rfl ?_
  refine W.bipush w354 od_0_1261 (pc' := 1263) rfl (z := (58 : Int32)) rfl ?_
  refine W.iload w354 od_0_1263 (pc' := 1265) rfl rfl ?_
  refine W.stC w354 (x' := xc) (nar_16 hx16) V357 (i := 58) (by decide) ⟨by decide, by decide⟩ (by rw [rp_len _ (by decide)]; decide) mem0 od_0_1265 (pc' := 1266) rfl fun T358 h359 w360 K361 V362 => ?_
  rw [rp_set _ (by decide)] at V362
  have V363 : Arv Z h359 a3 k4 .char (64 : Int32) (rp 59 xc 64) (.int (0 : Int32)) := V362
  refine Jvm.Own.W.dup w360 od_0_1266 rfl rfl ?_
  refine W.bipush w360 od_0_1267 (pc' := 1269) rfl (z := (59 : Int32)) rfl ?_
  refine W.iload w360 od_0_1269 (pc' := 1271) rfl rfl ?_
  refine W.stC w360 (x' := xc) (nar_16 hx16) V363 (i := 59) (by decide) ⟨by decide, by decide⟩ (by rw [rp_len _ (by decide)]; decide) mem0 od_0_1271 (pc' := 1272) rfl fun T364 h365 w366 K367 V368 => ?_
  rw [rp_set _ (by decide)] at V368
  have V369 : Arv Z h365 a3 k4 .char (64 : Int32) (rp 60 xc 64) (.int (0 : Int32)) := V368
  refine Jvm.Own.W.dup w366 od_0_1272 rfl rfl ?_
  refine W.bipush w366 od_0_1273 (pc' := 1275) rfl (z := (60 : Int32)) rfl ?_
  refine W.iload w366 od_0_1275 (pc' := 1277) rfl rfl ?_
  refine W.stC w366 (x' := xc) (nar_16 hx16) V369 (i := 60) (by decide) ⟨by decide, by decide⟩ (by rw [rp_len _ (by decide)]; decide) mem0 od_0_1277 (pc' := 1278) rfl fun T370 h371 w372 K373 V374 => ?_
  rw [rp_set _ (by decide)] at V374
  have V375 : Arv Z h371 a3 k4 .char (64 : Int32) (rp 61 xc 64) (.int (0 : Int32)) := V374
  refine Jvm.Own.W.dup w372 od_0_1278 rfl rfl ?_
  refine W.bipush w372 od_0_1279 (pc' := 1281) rfl (z := (61 : Int32)) rfl ?_
  refine W.iload w372 od_0_1281 (pc' := 1283) rfl rfl ?_
  refine W.stC w372 (x' := xc) (nar_16 hx16) V375 (i := 61) (by decide) ⟨by decide, by decide⟩ (by rw [rp_len _ (by decide)]; decide) mem0 od_0_1283 (pc' := 1284) rfl fun T376 h377 w378 K379 V380 => ?_
  rw [rp_set _ (by decide)] at V380
  have V381 : Arv Z h377 a3 k4 .char (64 : Int32) (rp 62 xc 64) (.int (0 : Int32)) := V380
  refine Jvm.Own.W.dup w378 od_0_1284 rfl rfl ?_
  refine W.bipush w378 od_0_1285 (pc' := 1287) rfl (z := (62 : Int32)) rfl ?_
  refine W.iload w378 od_0_1287 (pc' := 1289) rfl rfl ?_
  refine W.stC w378 (x' := xc) (nar_16 hx16) V381 (i := 62) (by decide) ⟨by decide, by decide⟩ (by rw [rp_len _ (by decide)]; decide) mem0 od_0_1289 (pc' := 1290) rfl fun T382 h383 w384 K385 V386 => ?_
  rw [rp_set _ (by decide)] at V386
  have V387 : Arv Z h383 a3 k4 .char (64 : Int32) (rp 63 xc 64) (.int (0 : Int32)) := V386
  refine Jvm.Own.W.dup w384 od_0_1290 rfl rfl ?_
  refine W.bipush w384 od_0_1291 (pc' := 1293) rfl (z := (63 : Int32)) rfl ?_
  refine W.iload w384 od_0_1293 (pc' := 1295) rfl rfl ?_
  refine W.stC w384 (x' := xc) (nar_16 hx16) V387 (i := 63) (by decide) ⟨by decide, by decide⟩ (by rw [rp_len _ (by decide)]; decide) mem0 od_0_1295 (pc' := 1296) rfl fun T388 h389 w390 K391 V392 => ?_
  rw [rp_set _ (by decide)] at V392
  have V393 : Arv Z h389 a3 k4 .char (Int32.ofNat (List.replicate 64 xc).length) ((List.replicate 64 xc).map Value.int) (.int (0 : Int32)) := by rw [List.length_replicate, ← rp_end]; exact V392
  refine W.astore w390 od_0_1296 (pc' := 1298) rfl (Ls' := #[.val (.int p0), .val (.int p1), .val (.int p2), .val (.int p3), .val (.long p4), .second, .val (.int (Int32.ofNat (i6))), .val (.int (Int32.ofNat (j7))), .val (.int ca), .val (.int cb), .val (.int (Int32.ofNat (n10))), .val (.int xc), .val (.int sel), .val (.ref a3), .unset]) rfl rfl ?_
  refine W.aload w390 od_0_1298 (pc' := 1300) rfl rfl rfl ?_
  refine W.iload w390 od_0_1300 (pc' := 1302) rfl rfl ?_
  refine W.iload w390 od_0_1302 (pc' := 1304) rfl rfl ?_
  refine W.stC w390 (x' := ca) (nar_16 hca) V393 (i := i6) (n_nat (by omega)) ⟨n_nn (by omega), (n_lt (by omega) (by simp)).mpr (by simp only [List.length_set, List.length_replicate]; omega)⟩ (by simp only [List.length_map, List.length_set, List.length_replicate]; omega) mem0 od_0_1304 (pc' := 1305) rfl fun T394 h395 w396 K397 V398 => ?_
  have V399 : Arv Z h395 a3 k4 .char (Int32.ofNat ((List.replicate 64 xc).set i6 ca).length) (((List.replicate 64 xc).set i6 ca).map Value.int) (.int (0 : Int32)) := by rw [List.length_set, List.map_set]; exact V398
  refine W.aload w396 od_0_1305 (pc' := 1307) rfl rfl rfl ?_
  refine W.iload w396 od_0_1307 (pc' := 1309) rfl rfl ?_
  refine W.iload w396 od_0_1309 (pc' := 1311) rfl rfl ?_
  refine W.stC w396 (x' := cb) (nar_16 hcb) V399 (i := j7) (n_nat (by omega)) ⟨n_nn (by omega), (n_lt (by omega) (by simp)).mpr (by simp only [List.length_set, List.length_replicate]; omega)⟩ (by simp only [List.length_map, List.length_set, List.length_replicate]; omega) mem0 od_0_1311 (pc' := 1312) rfl fun T400 h401 w402 K403 V404 => ?_
  have V405 : Arv Z h401 a3 k4 .char (Int32.ofNat (((List.replicate 64 xc).set i6 ca).set j7 cb).length) ((((List.replicate 64 xc).set i6 ca).set j7 cb).map Value.int) (.int (0 : Int32)) := by rw [List.length_set, List.map_set]; exact V404
  refine W.iload w402 od_0_1312 (pc' := 1314) rfl rfl ?_
  refine W.callS w402 (ow_3 hw) (ow_4 hw) (ow_5 hw) (ow_6 hw) (by decide) opd_17 (Ctr.pay (c_hexd hw w402.old) (own_ew hw) (ow_6 hw) (ow_5 hw) (kf := 1) (kl := 12) (by decide) (by decide)) mN od_0_1314 (pc' := 1317) rfl rfl rfl (rest := []) rfl (Wd := 0) rfl (by decide) (by decide) (by decide) (by decide) fun v408 T406 h407 M409 w410 q411 => ?_
  obtain ⟨zcb, rfl, rfl, e412, hzcb⟩ := q411
  obtain rfl := e412.symm
  show Go Z _ _ _ κ _ (T406.setTop (mkF (km κ) 1317 #[.val (.int p0), .val (.int p1), .val (.int p2), .val (.int p3), .val (.long p4), .second, .val (.int (Int32.ofNat (i6))), .val (.int (Int32.ofNat (j7))), .val (.int ca), .val (.int cb), .val (.int (Int32.ofNat (n10))), .val (.int xc), .val (.int sel), .val (.ref a3), .unset] [(.int zcb)]))
  rcases Decidable.em (zcb = (0 : Int32)) with hc413 | hc413
  · refine W.ifYes w410 od_0_1317 (pc' := 1339) (by decide) (by decide) ((if0 _ _).trans (teq hc413).1) ?_
    refine W.iconst w410 od_0_1339 (pc' := 1340) rfl (z := (0 : Int32)) rfl ?_
    have hAS := all_set (P := hexd) (l := List.replicate 64 xc) (ca := ca) (cb := cb) (fun c hc => by rw [List.eq_of_mem_replicate hc]; exact hxh) (i := i6) (j := j7) (by simp; omega) (by simp; omega)
    exact g_1340 hw hi6 hj7 hca hcb hxh hx16 V405 (Or.inr ⟨rfl, fun r => (hzcb.elim (fun q => absurd (q.1.symm.trans hc413) (by decide)) (fun q => q.2)) (hAS.mp r).1⟩) ((w410.less mN).grow (by decide) (by decide))
  · refine W.ifNo w410 od_0_1317 (pc' := 1320) rfl ((if0 _ _).trans (feq hc413).1) ?_
    refine W.iload w410 od_0_1320 (pc' := 1322) rfl rfl ?_
    refine W.iload w410 od_0_1322 (pc' := 1324) rfl rfl ?_
    rcases Decidable.em ((Int32.ofNat (i6)) = (Int32.ofNat (j7))) with hc414 | hc414
    · refine W.icmpYes w410 od_0_1324 (pc' := 1335) (by decide) (by decide) (teq hc414).1 ?_
      refine W.iconst w410 od_0_1335 (pc' := 1336) rfl (z := (1 : Int32)) rfl ?_
      refine W.goto w410 od_0_1336 (pc' := 1340) (by decide) (by decide) ?_
      have hAS := all_set (P := hexd) (l := List.replicate 64 xc) (ca := ca) (cb := cb) (fun c hc => by rw [List.eq_of_mem_replicate hc]; exact hxh) (i := i6) (j := j7) (by simp; omega) (by simp; omega)
      exact g_1340 hw hi6 hj7 hca hcb hxh hx16 V405 (Or.inl ⟨rfl, hAS.mpr ⟨(hzcb.elim (fun q => q.2) (fun q => absurd q.1 hc413)), Or.inl ((n_eq (by omega) (by omega)).mp hc414)⟩⟩) ((w410.less mN).grow (by decide) (by decide))
    · refine W.icmpNo w410 od_0_1324 (pc' := 1327) rfl (feq hc414).1 ?_
      refine W.iload w410 od_0_1327 (pc' := 1329) rfl rfl ?_
      refine W.callS w410 (ow_3 hw) (ow_4 hw) (ow_5 hw) (ow_6 hw) (by decide) opd_17 (Ctr.pay (c_hexd hw w410.old) (own_ew hw) (ow_6 hw) (ow_5 hw) (kf := 1) (kl := 12) (by decide) (by decide)) mN od_0_1329 (pc' := 1332) rfl rfl rfl (rest := []) rfl (Wd := 0) rfl (by decide) (by decide) (by decide) (by decide) fun v417 T415 h416 M418 w419 q420 => ?_
      obtain ⟨zca, rfl, rfl, e421, hzca⟩ := q420
      obtain rfl := e421.symm
      show Go Z _ _ _ κ _ (T415.setTop (mkF (km κ) 1332 #[.val (.int p0), .val (.int p1), .val (.int p2), .val (.int p3), .val (.long p4), .second, .val (.int (Int32.ofNat (i6))), .val (.int (Int32.ofNat (j7))), .val (.int ca), .val (.int cb), .val (.int (Int32.ofNat (n10))), .val (.int xc), .val (.int sel), .val (.ref a3), .unset] [(.int zca)]))
      rcases Decidable.em (zca = (0 : Int32)) with hc422 | hc422
      · refine W.ifYes w419 od_0_1332 (pc' := 1339) (by decide) (by decide) ((if0 _ _).trans (teq hc422).1) ?_
        refine W.iconst w419 od_0_1339 (pc' := 1340) rfl (z := (0 : Int32)) rfl ?_
        have hAS := all_set (P := hexd) (l := List.replicate 64 xc) (ca := ca) (cb := cb) (fun c hc => by rw [List.eq_of_mem_replicate hc]; exact hxh) (i := i6) (j := j7) (by simp; omega) (by simp; omega)
        exact g_1340 hw hi6 hj7 hca hcb hxh hx16 V405 (Or.inr ⟨rfl, fun r => (hAS.mp r).2.elim (fun q => hc414 ((n_eq (by omega) (by omega)).mpr q)) (hzca.elim (fun q => absurd (q.1.symm.trans hc422) (by decide)) (fun q => q.2))⟩) ((w419.less mN).grow (by decide) (by decide))
      · refine W.ifNo w419 od_0_1332 (pc' := 1335) rfl ((if0 _ _).trans (feq hc422).1) ?_
        refine W.iconst w419 od_0_1335 (pc' := 1336) rfl (z := (1 : Int32)) rfl ?_
        refine W.goto w419 od_0_1336 (pc' := 1340) (by decide) (by decide) ?_
        have hAS := all_set (P := hexd) (l := List.replicate 64 xc) (ca := ca) (cb := cb) (fun c hc => by rw [List.eq_of_mem_replicate hc]; exact hxh) (i := i6) (j := j7) (by simp; omega) (by simp; omega)
        exact g_1340 hw hi6 hj7 hca hcb hxh hx16 V405 (Or.inl ⟨rfl, hAS.mpr ⟨(hzcb.elim (fun q => q.2) (fun q => absurd q.1 hc413)), Or.inr (hzca.elim (fun q => q.2) (fun q => absurd q.1 hc422))⟩⟩) ((w419.less mN).grow (by decide) (by decide))
set_option maxRecDepth 65536 in
set_option maxHeartbeats 40000000 in
theorem g_54 {l : Launch} {Z : State} {a0 : Array Value} (hw : HW Z a0) {κ : Ka} {T0 : State} {h0 : Heap} {p0 p1 p2 p3 : Int32} {p4 : Int64} {i6 j7 n10 : Nat} {ca cb : Int32} (hi6 : i6 < 64) (hj7 : j7 < 64) (hca : chr16 ca) (hcb : chr16 cb) {xc : Int32} (hxh : hexd xc) (hx16 : chr16 xc) (w0 : W l Z a0 EL0 nw0 x.cls code maxLocals ret room_1 κ T0 h0 [] 0 0) : Go Z EL0 nw0 room_1 κ (fun v h M' => v = some (.int 1)) (T0.setTop (mkF (km κ) 54 #[.val (.int p0), .val (.int p1), .val (.int p2), .val (.int p3), .val (.long p4), .second, .val (.int (Int32.ofNat (i6))), .val (.int (Int32.ofNat (j7))), .val (.int ca), .val (.int cb), .val (.int (Int32.ofNat (n10))), .unset, .unset, .unset, .unset] [(.int xc)])) := by
  refine W.istore w0 od_0_54 (pc' := 56) rfl (Ls' := #[.val (.int p0), .val (.int p1), .val (.int p2), .val (.int p3), .val (.long p4), .second, .val (.int (Int32.ofNat (i6))), .val (.int (Int32.ofNat (j7))), .val (.int ca), .val (.int cb), .val (.int (Int32.ofNat (n10))), .val (.int xc), .unset, .unset, .unset]) rfl ?_
  refine W.lload w0 od_0_56 (pc' := 58) rfl rfl ?_
  refine W.iconst w0 od_0_58 (pc' := 59) rfl (z := (4 : Int32)) rfl ?_
  refine W.lushr w0 od_0_59 (pc' := 60) rfl (z := (XT.ushrL p4 (4 : Int32))) rfl ?_
  refine W.ldcJ w0 (ow_1 hw) od_0_60 (pc' := 63) rfl ?_
  refine W.land w0 od_0_63 (pc' := 64) rfl (z := ((XT.ushrL p4 (4 : Int32)) &&& (7 : Int64))) rfl ?_
  obtain ⟨sel, es⟩ : ∃ z : Int32, (((XT.ushrL p4 (4 : Int32)) &&& (7 : Int64))).toInt32 = z := ⟨_, rfl⟩
  refine W.l2i w0 od_0_64 (pc' := 65) rfl (z := sel) es ?_
  refine W.istore w0 od_0_65 (pc' := 67) rfl (Ls' := #[.val (.int p0), .val (.int p1), .val (.int p2), .val (.int p3), .val (.long p4), .second, .val (.int (Int32.ofNat (i6))), .val (.int (Int32.ofNat (j7))), .val (.int ca), .val (.int cb), .val (.int (Int32.ofNat (n10))), .val (.int xc), .val (.int sel), .unset, .unset]) rfl ?_
  refine W.iload w0 od_0_67 (pc' := 69) rfl rfl ?_
  refine W.iconst w0 od_0_69 (pc' := 70) rfl (z := (5 : Int32)) rfl ?_
  rcases Decidable.em (sel = (5 : Int32)) with hc1 | hc1
  · refine W.icmpNo w0 od_0_70 (pc' := 73) rfl (teq hc1).2 ?_
    exact g_73 hw hxh hx16 (w0.less mN)
  · refine W.icmpYes w0 od_0_70 (pc' := 484) (by decide) (by decide) (feq hc1).2 ?_
    refine W.iload w0 od_0_484 (pc' := 486) rfl rfl ?_
    refine W.bipush w0 od_0_486 (pc' := 488) rfl (z := (6 : Int32)) rfl ?_
    rcases Decidable.em (sel = (6 : Int32)) with hc2 | hc2
    · refine W.icmpNo w0 od_0_488 (pc' := 491) rfl (teq hc2).2 ?_
      exact g_491 hw hxh hx16 (w0.less mN)
    · refine W.icmpYes w0 od_0_488 (pc' := 890) (by decide) (by decide) (feq hc2).2 ?_
      refine W.iload w0 od_0_890 (pc' := 892) rfl rfl ?_
      refine W.bipush w0 od_0_892 (pc' := 894) rfl (z := (7 : Int32)) rfl ?_
      rcases Decidable.em (sel = (7 : Int32)) with hc3 | hc3
      · refine W.icmpNo w0 od_0_894 (pc' := 897) rfl (teq hc3).2 ?_
        refine W.iload w0 od_0_897 (pc' := 899) rfl rfl ?_
        refine W.callS w0 (ow_75 hw) (ow_76 hw) (ow_9 hw) (ow_77 hw) (by decide) opd_22 (Ctr.pay (c_vof hw hca w0.old) (own_ew hw) (ow_77 hw) (ow_9 hw) (kf := 3) (kl := 41) (by decide) (by decide)) mN od_0_899 (pc' := 902) rfl rfl rfl (rest := []) rfl (Wd := 0) rfl (by decide) (by decide) (by decide) (by decide) fun v6 T4 h5 M7 w8 q9 => ?_
        obtain ⟨a10, t11, rfl, rfl, K12, F13⟩ := q9
        show Go Z _ _ _ κ _ (T4.setTop (mkF (km κ) 902 #[.val (.int p0), .val (.int p1), .val (.int p2), .val (.int p3), .val (.long p4), .second, .val (.int (Int32.ofNat (i6))), .val (.int (Int32.ofNat (j7))), .val (.int ca), .val (.int cb), .val (.int (Int32.ofNat (n10))), .val (.int xc), .val (.int sel), .unset, .unset] [(.ref a10)]))
        refine W.callS w8 (ow_36 hw) (ow_37 hw) (ow_38 hw) (ow_39 hw) (by decide) opd_21 (Ctr.pay (c_isHash hw F13 w8.old) (own_ew hw) (ow_39 hw) (ow_38 hw) (kf := 7) (kl := 93) (by decide) (by decide)) mN od_0_902 (pc' := 905) rfl rfl rfl (rest := []) rfl (Wd := 0) rfl (by decide) (by decide) (by decide) (by decide) fun v16 T14 h15 M17 w18 q19 => ?_
        obtain ⟨zh, rfl, rfl, eh, hH⟩ := q19
        obtain rfl := eh.symm
        show Go Z _ _ _ κ _ (T14.setTop (mkF (km κ) 905 #[.val (.int p0), .val (.int p1), .val (.int p2), .val (.int p3), .val (.long p4), .second, .val (.int (Int32.ofNat (i6))), .val (.int (Int32.ofNat (j7))), .val (.int ca), .val (.int cb), .val (.int (Int32.ofNat (n10))), .val (.int xc), .val (.int sel), .unset, .unset] [(.int zh)]))
        have hz : zh = 0 := hH.elim (fun q => absurd q.2.1 (by simp)) (fun q => q.1)
        refine W.ifNo w18 od_0_905 (pc' := 908) rfl ((if0 _ _).trans (teq hz).2) ?_
        refine W.iconst w18 od_0_908 (pc' := 909) rfl (z := (1 : Int32)) rfl ?_
        refine W.goto w18 od_0_909 (pc' := 913) (by decide) (by decide) ?_
        exact W.retN w18 (t := .boolean) (z' := (1 : Int32)) rfl rfl (by simp) od_0_913 (M' := []) mN (by decide) (by decide) rfl
      · refine W.icmpYes w0 od_0_894 (pc' := 914) (by decide) (by decide) (feq hc3).2 ?_
        exact g_914 hw hi6 hj7 hca hcb hxh hx16 (w0.less mN)
set_option maxRecDepth 65536 in
set_option maxHeartbeats 40000000 in
theorem c_law {l : Launch} {Z : State} {a0 : Array Value} (hw : HW Z a0) {h0 : Heap} {p0 p1 p2 p3 : Int32} {p4 : Int64} (hO : Old Z Z.heap.size h0) : Ctr l Z EL0 nw0 x code maxLocals ret room_1 [.int p0, .int p1, .int p2, .int p3, .long p4] h0 [] (fun v h M' => v = some (.int 1)) := by
  refine of_body (a0 := a0) opn_28 (own_ew hw) hO (Ls := #[.val (.int p0), .val (.int p1), .val (.int p2), .val (.int p3), .val (.long p4), .second, .unset, .unset, .unset, .unset, .unset, .unset, .unset, .unset, .unset]) (fun m => by first | (simp [entryFrame, mkF, argsToLocals, Value.category, maxLocals]; done) | rfl) (fun κ T0 w0 hnm => ?_)
  refine W.iloadN w0 od_0_0 (pc' := 1) rfl rfl ?_
  refine W.bipush w0 od_0_1 (pc' := 3) rfl (z := (63 : Int32)) rfl ?_
  obtain ⟨i6, ei6, hi6⟩ : ∃ i : Nat, p0 &&& (63 : Int32) = Int32.ofNat i ∧ i < 64 := and63 p0
  refine W.iand w0 od_0_3 (pc' := 4) rfl (z := (Int32.ofNat (i6))) ei6 ?_
  refine W.istore w0 od_0_4 (pc' := 6) rfl (Ls' := #[.val (.int p0), .val (.int p1), .val (.int p2), .val (.int p3), .val (.long p4), .second, .val (.int (Int32.ofNat (i6))), .unset, .unset, .unset, .unset, .unset, .unset, .unset, .unset]) rfl ?_
  refine W.iloadN w0 od_0_6 (pc' := 7) rfl rfl ?_
  refine W.bipush w0 od_0_7 (pc' := 9) rfl (z := (63 : Int32)) rfl ?_
  obtain ⟨j7, ej7, hj7⟩ : ∃ i : Nat, p1 &&& (63 : Int32) = Int32.ofNat i ∧ i < 64 := and63 p1
  refine W.iand w0 od_0_9 (pc' := 10) rfl (z := (Int32.ofNat (j7))) ej7 ?_
  refine W.istore w0 od_0_10 (pc' := 12) rfl (Ls' := #[.val (.int p0), .val (.int p1), .val (.int p2), .val (.int p3), .val (.long p4), .second, .val (.int (Int32.ofNat (i6))), .val (.int (Int32.ofNat (j7))), .unset, .unset, .unset, .unset, .unset, .unset, .unset]) rfl ?_
  refine W.iloadN w0 od_0_12 (pc' := 13) rfl rfl ?_
  obtain ⟨ca, eca, hca⟩ : ∃ z : Int32, (p2).toUInt32.toUInt16.toUInt32.toInt32 = z ∧ chr16 z := ⟨_, rfl, i2c_chr _⟩
  refine W.i2c w0 od_0_13 (pc' := 14) rfl (z := ca) eca ?_
  refine W.istore w0 od_0_14 (pc' := 16) rfl (Ls' := #[.val (.int p0), .val (.int p1), .val (.int p2), .val (.int p3), .val (.long p4), .second, .val (.int (Int32.ofNat (i6))), .val (.int (Int32.ofNat (j7))), .val (.int ca), .unset, .unset, .unset, .unset, .unset, .unset]) rfl ?_
  refine W.iloadN w0 od_0_16 (pc' := 17) rfl rfl ?_
  obtain ⟨cb, ecb, hcb⟩ : ∃ z : Int32, (p3).toUInt32.toUInt16.toUInt32.toInt32 = z ∧ chr16 z := ⟨_, rfl, i2c_chr _⟩
  refine W.i2c w0 od_0_17 (pc' := 18) rfl (z := cb) ecb ?_
  refine W.istore w0 od_0_18 (pc' := 20) rfl (Ls' := #[.val (.int p0), .val (.int p1), .val (.int p2), .val (.int p3), .val (.long p4), .second, .val (.int (Int32.ofNat (i6))), .val (.int (Int32.ofNat (j7))), .val (.int ca), .val (.int cb), .unset, .unset, .unset, .unset, .unset]) rfl ?_
  refine W.lload w0 od_0_20 (pc' := 22) rfl rfl ?_
  refine W.ldcJ w0 (ow_0 hw) od_0_22 (pc' := 25) rfl ?_
  refine W.land w0 od_0_25 (pc' := 26) rfl (z := (p4 &&& (15 : Int64))) rfl ?_
  obtain ⟨n10, en, hn10⟩ : ∃ n : Nat, ((p4 &&& (15 : Int64))).toInt32 = Int32.ofNat n ∧ n < 16 := and15L p4
  refine W.l2i w0 od_0_26 (pc' := 27) rfl (z := (Int32.ofNat (n10))) en ?_
  refine W.istore w0 od_0_27 (pc' := 29) rfl (Ls' := #[.val (.int p0), .val (.int p1), .val (.int p2), .val (.int p3), .val (.long p4), .second, .val (.int (Int32.ofNat (i6))), .val (.int (Int32.ofNat (j7))), .val (.int ca), .val (.int cb), .val (.int (Int32.ofNat (n10))), .unset, .unset, .unset, .unset]) rfl ?_
  refine W.iload w0 od_0_29 (pc' := 31) rfl rfl ?_
  refine W.bipush w0 od_0_31 (pc' := 33) rfl (z := (10 : Int32)) rfl ?_
  rcases Decidable.em ((Int32.ofNat (n10)) < (10 : Int32)) with hc1 | hc1
  · refine W.icmpNo w0 od_0_33 (pc' := 36) rfl (tlt hc1).2.1 ?_
    refine W.bipush w0 od_0_36 (pc' := 38) rfl (z := (48 : Int32)) rfl ?_
    refine W.iload w0 od_0_38 (pc' := 40) rfl rfl ?_
    refine W.iadd w0 od_0_40 (pc' := 41) rfl (z := (Int32.ofNat (48 + n10))) (n_add _ _) ?_
    refine W.i2c w0 od_0_41 (pc' := 42) rfl (z := (Int32.ofNat (48 + n10))) (i2c_nat (by omega)) ?_
    refine W.goto w0 od_0_42 (pc' := 54) (by decide) (by decide) ?_
    have g10 : n10 < 10 := by
      have q := n_lt (a := n10) (b := 10) (by omega) (by omega)
      exact q.mp hc1
    exact g_54 hw hi6 hj7 hca hcb (xc := (Int32.ofNat (48 + n10))) (hex_nat (by omega)) (chr_nat (by omega)) (w0.less mN)
  · refine W.icmpYes w0 od_0_33 (pc' := 45) (by decide) (by decide) (flt hc1).2.1 ?_
    refine W.bipush w0 od_0_45 (pc' := 47) rfl (z := (97 : Int32)) rfl ?_
    refine W.iload w0 od_0_47 (pc' := 49) rfl rfl ?_
    refine W.iadd w0 od_0_49 (pc' := 50) rfl (z := (Int32.ofNat (97 + n10))) (n_add _ _) ?_
    refine W.bipush w0 od_0_50 (pc' := 52) rfl (z := (10 : Int32)) rfl ?_
    refine W.isub w0 od_0_52 (pc' := 53) rfl (z := (Int32.ofNat (97 + n10 - (10)))) (n_sub (a := 97 + n10) (b := 10) (by omega)) ?_
    refine W.i2c w0 od_0_53 (pc' := 54) rfl (z := (Int32.ofNat (97 + n10 - (10)))) (i2c_nat (by omega)) ?_
    have g10 : ¬ n10 < 10 := by
      have q := n_lt (a := n10) (b := 10) (by omega) (by omega)
      exact fun z => hc1 (q.mpr z)
    exact g_54 hw hi6 hj7 hca hcb (xc := (Int32.ofNat (97 + n10 - (10)))) (hex_nat (by omega)) (chr_nat (by omega)) (w0.less mN)
set_option maxRecDepth 65536 in
set_option maxHeartbeats 40000000 in
theorem comes_1 {Post : Tables → Env → Array Value → State → Outcome → State → Prop} (hpost : ∀ tb e args s v u, (limb_1_1.after args s (.returned v) u = true ∧ limb_1_2.after args s (.returned v) u = true ∧ True) → FrameEnd s (.returned v) u (Jvm.fieldLocs frame_1_writes args s ++ Jvm.arrayLocs frame_1_arrays args s ++ Jvm.staticLocs frame_1_statics s) 16 640 → Post tb e args s (.returned v) u) :
    ArmFor flags0 classFile x code maxLocals ret World_1 tables_1 room_1 Calls_1 rest_1 Pre_1 Post := by
  intro l hfl _ _ p e ha hc hk s m args below hf hA hF happ hP
  obtain ⟨hcalls, hrest, hpre⟩ := hP
  obtain ⟨-, -, -, hnamed, -, -, -, hat⟩ := (Spec.applies_iff hf).mp happ
  obtain ⟨hg, hn⟩ := and_e (Cond.before_iff.mp (show (Jvm.Cond.and given_1 narrow_1).before args s = true from hpre))
  obtain ⟨hcnt, hg0⟩ := and_e hg
  obtain ⟨hv0, hg1⟩ := and_e hg0
  obtain ⟨hv1, hg2⟩ := and_e hg1
  obtain ⟨hv2, hg3⟩ := and_e hg2
  obtain ⟨hv3, hg4⟩ := and_e hg3
  obtain ⟨w0, w1, w2, w3, w4, rfl⟩ : ∃ w0 w1 w2 w3 w4 : Value, args = #[w0, w1, w2, w3, w4] := by
    have hs : args.size = 5 := by simpa [Cond.value, given_1] using hcnt
    obtain ⟨L⟩ := args
    match L, hs with
    | [w0, w1, w2, w3, w4], _ => exact ⟨w0, w1, w2, w3, w4, rfl⟩
  have hw0 := fun d (hd : d ∈ tables_1) => atoms_spec (ws := Jvm.Cond.code x code maxLocals ret :: tables_1) hat d (List.mem_cons_of_mem _ hd)
  have hw1 := atoms_spec (ws := Jvm.Cond.code x code maxLocals ret :: tables_1) hat _ (List.mem_cons_self ..)
  have hfit : Fit s := fun {y c} hc i hi => by
    obtain ⟨ha, rfl⟩ := Array.getElem?_eq_some_iff.mp hc
    have q := List.all_eq_true.mp ((Array.all_eq_true_iff_forall_mem.mp hF) _ (Array.getElem_mem ha)) i (List.mem_range.mpr hi)
    simpa [Array.getElem?_eq_getElem hi] using q
  obtain ⟨hsets, hown0⟩ := atoms_of _ (rest_1_c_eq ▸ (show rest_1_c.before _ s = true from hrest))
  have hr0 := Cond.before_iff.mp hown0
  obtain ⟨i0, ei0⟩ := is_v hv0
  obtain rfl : w0 = (.int i0) := Option.some.inj ei0
  obtain ⟨i1, ei1⟩ := is_v hv1
  obtain rfl : w1 = (.int i1) := Option.some.inj ei1
  obtain ⟨i2, ei2⟩ := is_v hv2
  obtain rfl : w2 = (.int i2) := Option.some.inj ei2
  obtain ⟨i3, ei3⟩ := is_v hv3
  obtain rfl : w3 = (.int i3) := Option.some.inj ei3
  obtain ⟨i4, ei4⟩ := isL_v hg4
  obtain rfl : w4 = (.long i4) := Option.some.inj ei4
  have cst : Cst s := by
    obtain ⟨z, ez⟩ := is_v (Cond.before_iff.mp (hsets _ (List.mem_of_getElem? (i := 1) rfl)))
    obtain ⟨f, ef, rf⟩ := isR_v (Cond.before_iff.mp (hsets _ (List.mem_of_getElem? (i := 8) rfl)))
    exact ⟨⟨z, Sta.start ez (Or.inl (hsets _ (List.mem_of_getElem? (i := 0) rfl))), gotF (Cond.eq_ints ez (Term.int_eval (0))) (not_v (Cond.before_iff.mp (hsets _ (List.mem_of_getElem? (i := 2) rfl))))⟩, f, Sta.start ef (Or.inl (hsets _ (List.mem_of_getElem? (i := 7) rfl))), rf⟩
  have xs0 : XS0 s := ⟨Sta.start (eqI_v (Cond.before_iff.mp (hsets _ (List.mem_of_getElem? (i := 12) rfl)))) (Or.inl (hsets _ (List.mem_of_getElem? (i := 11) rfl))), Sta.start (eqI_v (Cond.before_iff.mp (hsets _ (List.mem_of_getElem? (i := 15) rfl)))) (Or.inl (hsets _ (List.mem_of_getElem? (i := 14) rfl))), Sta.start (eqI_v (Cond.before_iff.mp (hsets _ (List.mem_of_getElem? (i := 18) rfl)))) (Or.inl (hsets _ (List.mem_of_getElem? (i := 17) rfl)))⟩
  have hw : HW s _ := ⟨hw0, cst, xs0⟩
  have hch : CHv s EL0 s.vm s.heap := fun p hp => nomatch hp
  obtain ⟨a1, a2, a3, a4, a5, a6, a7, -⟩ := (Spec.appliesLoose_iff hf).mp ((Spec.applies_iff_loose hf).mp happ).1
  obtain ⟨n, o, h1, h2, h3, v, L, M', rfl, hq, N, -, -, -, hE⟩ := c_law (l := l) hw (h0 := s.heap) (p0 := i0) (p1 := i1) (p2 := i2) (p3 := i3) (p4 := i4) (Old.start s) p e ha hc hk s m _ below hf ((Spec.appliesLoose_iff hf).mpr ⟨a1, a2, a3, a4, a5, a6, a7, by show (Cond.and _ .tt).before _ s = true; rw [Cond.before_and, hw1]; rfl⟩) ⟨rfl, State.Warmed39.refl s, rfl, hch, fun x hx => nomatch hx⟩ trivial
  subst hq
  obtain ⟨e1, e2, e3⟩ := hE.2 rfl
  refine ⟨n, _, h1, h2, h3, hpost _ _ _ _ _ _ ⟨Cond.after_iff.mpr rfl, Cond.after_iff.mpr (eq_i res_at (Term.int_eval (1)) rfl), trivial⟩ ⟨e1, e2, (e3.sift fun y hy => Or.inr (N y hy)).mono (by decide) (by decide)⟩⟩
theorem main_1_1 : Claimed_1_1 := comes_1 fun _ _ _ _ _ _ h hF => ⟨h.1, hF⟩
theorem main_1_2 : Claimed_1_2 := comes_1 fun _ _ _ _ _ _ h hF => ⟨h.2.1, hF⟩
end Jvm.Pilot.@@N@@
namespace Jvm.Pilot.@@N@@
open Jvm Jvm.ClassFile Sem Op Lib Jvm.Free Jvm.Stand Jvm.Pilot.@@N@@.Jvm.D
/-! MADE BY PROGRAM (witnessworld.py) out of the Statement's table words and the real class files: 20 classes; the members and pool entries that the words name. The judged class is class 1, her method 1. -/
namespace start1
open Jvm.ClassFile
def u (s : String) : CpInfo := .utf8 (stringToUtf16 s)
/-- a pool by its gaps: so many unusable entries, then the entry; so many at the end -/
def gap : Nat → List CpInfo → List CpInfo
  | 0, r => r
  | n + 1, r => .unusable :: gap n r
def poolList (es : List (Nat × CpInfo)) (last : Nat) : List CpInfo := es.foldr (fun e r => gap e.1 (e.2 :: r)) (gap last [])
def pool (es : List (Nat × CpInfo)) (last : Nat) : Array CpInfo := ⟨poolList es last⟩
def fileOf (pool : Array CpInfo) (this : Nat) (attrs : Array Attribute := #[]) (ms : Array MethodInfo := #[]) (fl : Nat := 33) (sup : Nat := 0) (ifs : Array Nat := #[]) (fds : Array FieldInfo := #[]) : ClassFile where
  minorVersion := 0
  majorVersion := 65
  constantPool := pool
  accessFlags := fl
  thisClass := this
  superClass := sup
  interfaces := ifs
  fields := fds
  methods := ms
  attributes := attrs
def plain (name : String) (sup : Option ClassId) : Class where
  name := name
  kind := .ordinary
  loader := none
  accessFlags := 33
  super := sup
  interfaces := #[]
  cf := none
  fields := #[]
  methods := #[]
  instanceTypes := #[]
  staticTypes := #[]
  resolved := #[]
  callSites := []
  init := .initialized
  statics := none
  mirror := none

def pool0 : Array CpInfo := pool [(5, u "<init>"), (0, u "()V"), (1, .class_ 10), (1, u "java/lang/Object")] 113

def k0c0 : Code := { maxStack := 0, maxLocals := 1, code := object_method_1_code, exceptionTable := #[], attributes := #[] }
def k0m0 : Method := { name := "<init>", desc := "()V", sig := { parameters := [], returnType := none }, accessFlags := 1, code := some k0c0 }
/-- java/lang/Object -/
def k0 : Class := { plain "java/lang/Object" none with
  accessFlags := 33
  interfaces := #[]
  cf := some (fileOf pool0 8 #[] #[{ accessFlags := 1, nameIndex := 5, descriptorIndex := 6, attributes := #[] }] 33 0 #[] #[])
  fields := #[]
  methods := #[k0m0]
  instanceTypes := #[]
  staticTypes := #[]
  resolved := Array.replicate 124 none
  statics := none }

def pool1 : Array CpInfo := pool [(2, .class_ 4), (1, u "java/lang/Object"), (0, u "<init>"), (0, u "()V"), (0, .long 15), (1, .long 7), (1, .class_ 12), (0, u "java/lang/String"), (0, .methodref 11 14), (0, .nameAndType 5 15), (0, u "([C)V"), (0, .methodref 17 18), (0, .class_ 19), (0, .nameAndType 20 21), (0, u "com/example/vestledger/vestledger/ledger/HashChain"), (0, u "isHash"), (0, u "(Ljava/lang/String;)Z"), (0, .methodref 11 23), (0, .nameAndType 24 25), (0, u "valueOf"), (0, u "(C)Ljava/lang/String;"), (0, .methodref 27 28), (0, .class_ 29), (0, .nameAndType 30 31), (0, u "com/example/vestledger/vestledger/ledger/HashChainIsHashPinLaw"), (0, u "isHexDigit"), (0, u "(C)Z"), (2, u "law"), (0, u "(IIIIJ)Z")] 5

def k1m0 : Method := { name := "<init>", desc := "()V", sig := { parameters := [], returnType := none }, accessFlags := 1, code := none }
def k1c1 : Code := { maxStack := 4, maxLocals := 15, code := code, exceptionTable := #[], attributes := #[] }
def k1m1 : Method := { name := "law", desc := "(IIIIJ)Z", sig := { parameters := [.int, .int, .int, .int, .long], returnType := some .boolean }, accessFlags := 9, code := some k1c1 }
def k1c2 : Code := { maxStack := 2, maxLocals := 1, code := method_3_code, exceptionTable := #[], attributes := #[] }
def k1m2 : Method := { name := "isHexDigit", desc := "(C)Z", sig := { parameters := [.char], returnType := some .boolean }, accessFlags := 10, code := some k1c2 }
/-- com/example/vestledger/vestledger/ledger/HashChainIsHashPinLaw -/
def k1 : Class := { plain "com/example/vestledger/vestledger/ledger/HashChainIsHashPinLaw" (some 0) with
  accessFlags := 49
  interfaces := #[]
  cf := some (fileOf pool1 27 #[] #[{ accessFlags := 1, nameIndex := 5, descriptorIndex := 6, attributes := #[] }, { accessFlags := 9, nameIndex := 34, descriptorIndex := 35, attributes := #[] }, { accessFlags := 10, nameIndex := 30, descriptorIndex := 31, attributes := #[] }] 49 2 #[] #[])
  fields := #[]
  methods := #[k1m0, k1m1, k1m2]
  instanceTypes := #[]
  staticTypes := #[]
  resolved := Array.replicate 41 none
  statics := none }

def pool2 : Array CpInfo := pool [(1, .class_ 2), (0, u "java/io/Serializable"), (0, .class_ 4), (0, u "java/lang/Object")] 2

/-- java/io/Serializable -/
def k2 : Class := { plain "java/io/Serializable" (some 0) with
  accessFlags := 1537
  interfaces := #[]
  cf := some (fileOf pool2 1 #[] #[] 1537 3 #[] #[])
  fields := #[]
  methods := #[]
  instanceTypes := #[]
  staticTypes := #[]
  resolved := Array.replicate 7 none
  statics := none }

def pool3 : Array CpInfo := pool [(1, .class_ 2), (0, u "java/lang/Comparable"), (0, .class_ 4), (0, u "java/lang/Object")] 7

/-- java/lang/Comparable -/
def k3 : Class := { plain "java/lang/Comparable" (some 0) with
  accessFlags := 1537
  interfaces := #[]
  cf := some (fileOf pool3 1 #[] #[] 1537 3 #[] #[])
  fields := #[]
  methods := #[]
  instanceTypes := #[]
  staticTypes := #[]
  resolved := Array.replicate 12 none
  statics := none }

def pool4 : Array CpInfo := pool [(2, .class_ 4), (1, u "java/lang/CharSequence"), (42, .class_ 48), (0, u "java/lang/CharSequence$1CodePointIterator"), (10, .class_ 60), (0, u "java/lang/CharSequence$1CharIterator"), (5, .class_ 67), (0, u "java/lang/Object")] 63

/-- java/lang/CharSequence -/
def k4 : Class := { plain "java/lang/CharSequence" (some 0) with
  accessFlags := 1537
  interfaces := #[]
  cf := some (fileOf pool4 2 #[.nestMembers #[47, 59]] #[] 1537 66 #[] #[])
  fields := #[]
  methods := #[]
  instanceTypes := #[]
  staticTypes := #[]
  resolved := Array.replicate 131 none
  statics := none }

def pool5 : Array CpInfo := pool [(1, .class_ 2), (0, u "java/lang/constant/Constable"), (0, .class_ 4), (0, u "java/lang/Object")] 6

/-- java/lang/constant/Constable -/
def k5 : Class := { plain "java/lang/constant/Constable" (some 0) with
  accessFlags := 1537
  interfaces := #[]
  cf := some (fileOf pool5 1 #[] #[] 1537 3 #[] #[])
  fields := #[]
  methods := #[]
  instanceTypes := #[]
  staticTypes := #[]
  resolved := Array.replicate 11 none
  statics := none }

def pool6 : Array CpInfo := pool [(1, .class_ 2), (0, u "java/lang/constant/ConstantDesc"), (0, .class_ 4), (0, u "java/lang/Object")] 32

/-- java/lang/constant/ConstantDesc -/
def k6 : Class := { plain "java/lang/constant/ConstantDesc" (some 0) with
  accessFlags := 1537
  interfaces := #[]
  cf := some (fileOf pool6 1 #[] #[] 1537 3 #[] #[])
  fields := #[]
  methods := #[]
  instanceTypes := #[]
  staticTypes := #[]
  resolved := Array.replicate 37 none
  statics := none }

def pool7 : Array CpInfo := pool [(1, .methodref 2 3), (0, .class_ 4), (0, .nameAndType 5 6), (0, u "java/lang/Object"), (0, u "<init>"), (0, u "()V"), (2, .fieldref 10 11), (0, .class_ 12), (0, .nameAndType 13 14), (0, u "java/lang/String"), (0, u "value"), (0, u "[B"), (0, .fieldref 10 16), (0, .nameAndType 17 18), (0, u "coder"), (0, u "B"), (2, u "hash"), (0, u "I"), (2, u "hashIsZero"), (0, u "Z"), (0, .methodref 10 28), (0, .nameAndType 5 29), (0, u "([CIILjava/lang/Void;)V"), (8, .fieldref 10 39), (0, .nameAndType 40 26), (0, u "COMPACT_STRINGS"), (1, .class_ 44), (1, u "java/lang/StringUTF16"), (0, u "compress"), (1, .methodref 42 48), (0, .nameAndType 49 50), (0, u "coderFromArrayLen"), (0, u "([BI)B"), (2, u "toBytes"), (53, .class_ 109), (1, u "java/lang/StringLatin1"), (32, u "()Z"), (34, .methodref 42 178), (0, .nameAndType 45 179), (0, u "([CII)[B"), (29, .methodref 10 210), (0, .nameAndType 5 211), (0, u "([BB)V"), (122, u "()I"), (0, .methodref 10 336), (0, .nameAndType 17 337), (0, u "()B"), (25, u "([BI)C"), (5, u "(C)Z"), (21, u "(II)V"), (35, u "(I)C"), (64, .methodref 10 493), (0, .nameAndType 494 142), (0, u "isLatin1"), (0, .methodref 107 496), (0, .nameAndType 497 363), (0, u "charAt"), (0, .methodref 42 496), (2, u "checkIndex"), (5, u "length"), (67, .class_ 576), (0, u "java/lang/CharSequence"), (22, u "CASE_INSENSITIVE_ORDER"), (0, u "Ljava/util/Comparator;"), (181, u "valueOf"), (0, u "(C)Ljava/lang/String;"), (226, u "([C)V"), (4, .methodref 107 1016), (0, .nameAndType 1017 369), (0, u "canEncode"), (0, .methodref 107 1019), (0, .nameAndType 53 1020), (0, u "(C)[B"), (0, .methodref 42 1019), (31, .fieldref 1054 1055), (0, .class_ 1056), (0, .nameAndType 1057 1058), (0, u "jdk/internal/util/Preconditions"), (0, u "SIOOBE_FORMATTER"), (0, u "Ljava/util/function/BiFunction;"), (0, .methodref 1054 1060), (0, .nameAndType 501 1061), (0, u "(IILjava/util/function/BiFunction;)I"), (39, u "serialPersistentFields"), (0, u "[Ljava/io/ObjectStreamField;"), (0, .class_ 1104), (0, u "java/lang/String$CaseInsensitiveComparator"), (1, .class_ 1107), (0, u "java/io/Serializable"), (0, .class_ 1109), (0, u "java/lang/Comparable"), (0, .class_ 1111), (0, u "java/lang/constant/Constable"), (0, .class_ 1113), (0, u "java/lang/constant/ConstantDesc"), (2, u "serialVersionUID"), (0, u "J"), (3, u "REPL"), (0, u "C"), (2, u "LATIN1"), (1, u "UTF16")] 323

def k7m0 : Method := { name := "<init>", desc := "()V", sig := { parameters := [], returnType := none }, accessFlags := 1, code := none }
def k7c1 : Code := { maxStack := 5, maxLocals := 2, code := jdk_42_method_3_code, exceptionTable := #[], attributes := #[] }
def k7m1 : Method := { name := "<init>", desc := "([C)V", sig := { parameters := [(.array .char)], returnType := none }, accessFlags := 1, code := some k7c1 }
def k7c2 : Code := { maxStack := 2, maxLocals := 1, code := jdk_42_method_54_code, exceptionTable := #[], attributes := #[] }
def k7m2 : Method := { name := "length", desc := "()I", sig := { parameters := [], returnType := some .int }, accessFlags := 1, code := some k7c2 }
def k7c3 : Code := { maxStack := 2, maxLocals := 2, code := jdk_42_method_56_code, exceptionTable := #[], attributes := #[] }
def k7m3 : Method := { name := "charAt", desc := "(I)C", sig := { parameters := [.int], returnType := some .char }, accessFlags := 1, code := some k7c3 }
def k7c4 : Code := { maxStack := 4, maxLocals := 1, code := jdk_42_method_139_code, exceptionTable := #[], attributes := #[] }
def k7m4 : Method := { name := "valueOf", desc := "(C)Ljava/lang/String;", sig := { parameters := [.char], returnType := some (.object "java/lang/String") }, accessFlags := 9, code := some k7c4 }
def k7c5 : Code := { maxStack := 4, maxLocals := 6, code := jdk_42_method_149_code, exceptionTable := #[], attributes := #[] }
def k7m5 : Method := { name := "<init>", desc := "([CIILjava/lang/Void;)V", sig := { parameters := [(.array .char), .int, .int, (.object "java/lang/Void")], returnType := none }, accessFlags := 2, code := some k7c5 }
def k7c6 : Code := { maxStack := 2, maxLocals := 3, code := jdk_42_method_151_code, exceptionTable := #[], attributes := #[] }
def k7m6 : Method := { name := "<init>", desc := "([BB)V", sig := { parameters := [(.array .byte), .byte], returnType := none }, accessFlags := 0, code := some k7c6 }
def k7c7 : Code := { maxStack := 1, maxLocals := 1, code := jdk_42_method_152_code, exceptionTable := #[], attributes := #[] }
def k7m7 : Method := { name := "coder", desc := "()B", sig := { parameters := [], returnType := some .byte }, accessFlags := 0, code := some k7c7 }
def k7c8 : Code := { maxStack := 1, maxLocals := 1, code := jdk_42_method_154_code, exceptionTable := #[], attributes := #[] }
def k7m8 : Method := { name := "isLatin1", desc := "()Z", sig := { parameters := [], returnType := some .boolean }, accessFlags := 0, code := some k7c8 }
def k7c9 : Code := { maxStack := 3, maxLocals := 2, code := jdk_42_method_155_code, exceptionTable := #[], attributes := #[] }
def k7m9 : Method := { name := "checkIndex", desc := "(II)V", sig := { parameters := [.int, .int], returnType := none }, accessFlags := 8, code := some k7c9 }
/-- java/lang/String -/
def k7 : Class := { plain "java/lang/String" (some 0) with
  accessFlags := 49
  interfaces := #[2, 3, 4, 5, 6]
  cf := some (fileOf pool7 10 #[.nestMembers #[1103]] #[{ accessFlags := 1, nameIndex := 5, descriptorIndex := 6, attributes := #[] }, { accessFlags := 1, nameIndex := 5, descriptorIndex := 1010, attributes := #[] }, { accessFlags := 1, nameIndex := 507, descriptorIndex := 334, attributes := #[] }, { accessFlags := 1, nameIndex := 497, descriptorIndex := 427, attributes := #[] }, { accessFlags := 9, nameIndex := 782, descriptorIndex := 783, attributes := #[] }, { accessFlags := 2, nameIndex := 5, descriptorIndex := 29, attributes := #[] }, { accessFlags := 0, nameIndex := 5, descriptorIndex := 211, attributes := #[] }, { accessFlags := 0, nameIndex := 17, descriptorIndex := 337, attributes := #[] }, { accessFlags := 0, nameIndex := 494, descriptorIndex := 142, attributes := #[] }, { accessFlags := 8, nameIndex := 501, descriptorIndex := 391, attributes := #[] }] 49 2 #[1106, 1108, 575, 1110, 1112] #[{ accessFlags := 18, nameIndex := 13, descriptorIndex := 14, attributes := #[] }, { accessFlags := 18, nameIndex := 17, descriptorIndex := 18, attributes := #[] }, { accessFlags := 2, nameIndex := 21, descriptorIndex := 22, attributes := #[] }, { accessFlags := 2, nameIndex := 25, descriptorIndex := 26, attributes := #[] }, { accessFlags := 26, nameIndex := 1116, descriptorIndex := 1117, attributes := #[] }, { accessFlags := 24, nameIndex := 40, descriptorIndex := 26, attributes := #[] }, { accessFlags := 26, nameIndex := 1101, descriptorIndex := 1102, attributes := #[] }, { accessFlags := 26, nameIndex := 1121, descriptorIndex := 1122, attributes := #[] }, { accessFlags := 25, nameIndex := 599, descriptorIndex := 600, attributes := #[] }, { accessFlags := 24, nameIndex := 1125, descriptorIndex := 18, attributes := #[] }, { accessFlags := 24, nameIndex := 1127, descriptorIndex := 18, attributes := #[] }])
  fields := #[{ name := "value", type := (.array .byte), accessFlags := 18, slot := 0, constantValue := 0 }, { name := "coder", type := .byte, accessFlags := 18, slot := 1, constantValue := 0 }, { name := "hash", type := .int, accessFlags := 2, slot := 2, constantValue := 0 }, { name := "hashIsZero", type := .boolean, accessFlags := 2, slot := 3, constantValue := 0 }, { name := "serialVersionUID", type := .long, accessFlags := 26, slot := 0, constantValue := 0 }, { name := "COMPACT_STRINGS", type := .boolean, accessFlags := 24, slot := 1, constantValue := 0 }, { name := "serialPersistentFields", type := (.array (.object "java/io/ObjectStreamField")), accessFlags := 26, slot := 2, constantValue := 0 }, { name := "REPL", type := .char, accessFlags := 26, slot := 3, constantValue := 0 }, { name := "CASE_INSENSITIVE_ORDER", type := (.object "java/util/Comparator"), accessFlags := 25, slot := 4, constantValue := 0 }, { name := "LATIN1", type := .byte, accessFlags := 24, slot := 5, constantValue := 0 }, { name := "UTF16", type := .byte, accessFlags := 24, slot := 6, constantValue := 0 }]
  methods := #[k7m0, k7m1, k7m2, k7m3, k7m4, k7m5, k7m6, k7m7, k7m8, k7m9]
  instanceTypes := #[(.array .byte), .byte, .int, .boolean]
  staticTypes := #[.long, .boolean, (.array (.object "java/io/ObjectStreamField")), .char, (.object "java/util/Comparator"), .byte, .byte]
  resolved := Array.replicate 1451 none
  statics := some 0 }

def pool8 : Array CpInfo := pool [(3, .class_ 4), (0, u "java/lang/String"), (1, .class_ 8), (1, u "java/lang/Object"), (0, u "<init>"), (0, u "()V"), (0, .methodref 12 13), (0, .class_ 14), (0, .nameAndType 15 16), (0, u "java/lang/StringUTF16"), (0, u "newBytesLength"), (0, u "(I)I"), (3, .integer 1073741823), (23, .fieldref 12 45), (0, .nameAndType 46 47), (0, u "$assertionsDisabled"), (0, u "Z"), (0, .methodref 12 49), (0, .nameAndType 50 51), (0, u "length"), (0, u "([B)I"), (7, .fieldref 12 60), (0, .nameAndType 61 62), (0, u "HI_BYTE_SHIFT"), (0, u "I"), (0, .fieldref 12 64), (0, .nameAndType 65 62), (0, u "LO_BYTE_SHIFT"), (1, .methodref 12 68), (0, .nameAndType 69 70), (0, u "checkIndex"), (0, u "(I[B)V"), (0, .methodref 12 72), (0, .nameAndType 73 74), (0, u "getChar"), (0, u "([BI)C"), (32, .methodref 12 108), (0, .nameAndType 109 110), (0, u "newBytesFor"), (0, u "(I)[B"), (0, .methodref 12 112), (0, .nameAndType 113 114), (0, u "putChar"), (0, u "([BII)V"), (0, .methodref 12 116), (0, .nameAndType 117 118), (0, u "compress"), (0, u "([CI[BII)I"), (0, .methodref 12 120), (0, .nameAndType 121 122), (0, u "toBytes"), (0, u "([CII)[B"), (138, u "coderFromArrayLen"), (0, u "([BI)B"), (106, .class_ 371), (1, u "java/lang/StringUTF16$LinesSpliterator"), (20, u "charAt"), (21, .methodref 3 415), (0, .nameAndType 69 416), (0, u "(II)V"), (13, u "MAX_LENGTH"), (44, u "(C)[B"), (151, .class_ 628), (0, u "java/lang/StringUTF16$CodePointsSpliterator"), (0, .class_ 630), (0, u "java/lang/StringUTF16$CharsSpliterator")] 4

def k8m0 : Method := { name := "<init>", desc := "()V", sig := { parameters := [], returnType := none }, accessFlags := 0, code := none }
def k8c1 : Code := { maxStack := 1, maxLocals := 1, code := jdk_52_method_2_code, exceptionTable := #[], attributes := #[] }
def k8m1 : Method := { name := "newBytesFor", desc := "(I)[B", sig := { parameters := [.int], returnType := some (.array .byte) }, accessFlags := 9, code := some k8c1 }
def k8c2 : Code := { maxStack := 4, maxLocals := 1, code := jdk_52_method_3_code, exceptionTable := #[], attributes := #[] }
def k8m2 : Method := { name := "newBytesLength", desc := "(I)I", sig := { parameters := [.int], returnType := some .int }, accessFlags := 9, code := some k8c2 }
def k8c3 : Code := { maxStack := 4, maxLocals := 3, code := jdk_52_method_4_code, exceptionTable := #[], attributes := #[] }
def k8m3 : Method := { name := "putChar", desc := "([BII)V", sig := { parameters := [(.array .byte), .int, .int], returnType := none }, accessFlags := 8, code := some k8c3 }
def k8c4 : Code := { maxStack := 3, maxLocals := 2, code := jdk_52_method_5_code, exceptionTable := #[], attributes := #[] }
def k8m4 : Method := { name := "getChar", desc := "([BI)C", sig := { parameters := [(.array .byte), .int], returnType := some .char }, accessFlags := 8, code := some k8c4 }
def k8c5 : Code := { maxStack := 2, maxLocals := 1, code := jdk_52_method_6_code, exceptionTable := #[], attributes := #[] }
def k8m5 : Method := { name := "length", desc := "([B)I", sig := { parameters := [(.array .byte)], returnType := some .int }, accessFlags := 9, code := some k8c5 }
def k8c6 : Code := { maxStack := 4, maxLocals := 5, code := jdk_52_method_14_code, exceptionTable := #[], attributes := #[] }
def k8m6 : Method := { name := "toBytes", desc := "([CII)[B", sig := { parameters := [(.array .char), .int, .int], returnType := some (.array .byte) }, accessFlags := 9, code := some k8c6 }
def k8c7 : Code := { maxStack := 2, maxLocals := 2, code := jdk_52_method_15_code, exceptionTable := #[], attributes := #[] }
def k8m7 : Method := { name := "coderFromArrayLen", desc := "([BI)B", sig := { parameters := [(.array .byte), .int], returnType := some .byte }, accessFlags := 8, code := some k8c7 }
def k8c8 : Code := { maxStack := 5, maxLocals := 6, code := jdk_52_method_16_code, exceptionTable := #[], attributes := #[] }
def k8m8 : Method := { name := "compress", desc := "([CII)[B", sig := { parameters := [(.array .char), .int, .int], returnType := some (.array .byte) }, accessFlags := 9, code := some k8c8 }
def k8c9 : Code := { maxStack := 3, maxLocals := 7, code := jdk_52_method_21_code, exceptionTable := #[], attributes := #[] }
def k8m9 : Method := { name := "compress", desc := "([CI[BII)I", sig := { parameters := [(.array .char), .int, (.array .byte), .int, .int], returnType := some .int }, accessFlags := 9, code := some k8c9 }
def k8c10 : Code := { maxStack := 3, maxLocals := 2, code := jdk_52_method_24_code, exceptionTable := #[], attributes := #[] }
def k8m10 : Method := { name := "toBytes", desc := "(C)[B", sig := { parameters := [.char], returnType := some (.array .byte) }, accessFlags := 9, code := some k8c10 }
def k8c11 : Code := { maxStack := 2, maxLocals := 2, code := jdk_52_method_83_code, exceptionTable := #[], attributes := #[] }
def k8m11 : Method := { name := "charAt", desc := "([BI)C", sig := { parameters := [(.array .byte), .int], returnType := some .char }, accessFlags := 9, code := some k8c11 }
def k8c12 : Code := { maxStack := 2, maxLocals := 2, code := jdk_52_method_91_code, exceptionTable := #[], attributes := #[] }
def k8m12 : Method := { name := "checkIndex", desc := "(I[B)V", sig := { parameters := [.int, (.array .byte)], returnType := none }, accessFlags := 9, code := some k8c12 }
/-- java/lang/StringUTF16 -/
def k8 : Class := { plain "java/lang/StringUTF16" (some 0) with
  accessFlags := 48
  interfaces := #[]
  cf := some (fileOf pool8 12 #[.nestMembers #[627, 629, 369]] #[{ accessFlags := 0, nameIndex := 9, descriptorIndex := 10, attributes := #[] }, { accessFlags := 9, nameIndex := 109, descriptorIndex := 110, attributes := #[] }, { accessFlags := 9, nameIndex := 15, descriptorIndex := 16, attributes := #[] }, { accessFlags := 8, nameIndex := 113, descriptorIndex := 114, attributes := #[] }, { accessFlags := 8, nameIndex := 73, descriptorIndex := 74, attributes := #[] }, { accessFlags := 9, nameIndex := 50, descriptorIndex := 51, attributes := #[] }, { accessFlags := 9, nameIndex := 121, descriptorIndex := 122, attributes := #[] }, { accessFlags := 8, nameIndex := 261, descriptorIndex := 262, attributes := #[] }, { accessFlags := 9, nameIndex := 117, descriptorIndex := 122, attributes := #[] }, { accessFlags := 9, nameIndex := 117, descriptorIndex := 118, attributes := #[] }, { accessFlags := 9, nameIndex := 121, descriptorIndex := 475, attributes := #[] }, { accessFlags := 9, nameIndex := 392, descriptorIndex := 74, attributes := #[] }, { accessFlags := 9, nameIndex := 69, descriptorIndex := 70, attributes := #[] }] 48 6 #[] #[{ accessFlags := 26, nameIndex := 61, descriptorIndex := 62, attributes := #[] }, { accessFlags := 26, nameIndex := 65, descriptorIndex := 62, attributes := #[] }, { accessFlags := 24, nameIndex := 430, descriptorIndex := 62, attributes := #[] }, { accessFlags := 4120, nameIndex := 46, descriptorIndex := 47, attributes := #[] }])
  fields := #[{ name := "HI_BYTE_SHIFT", type := .int, accessFlags := 26, slot := 0, constantValue := 0 }, { name := "LO_BYTE_SHIFT", type := .int, accessFlags := 26, slot := 1, constantValue := 0 }, { name := "MAX_LENGTH", type := .int, accessFlags := 24, slot := 2, constantValue := 0 }, { name := "$assertionsDisabled", type := .boolean, accessFlags := 4120, slot := 3, constantValue := 0 }]
  methods := #[k8m0, k8m1, k8m2, k8m3, k8m4, k8m5, k8m6, k8m7, k8m8, k8m9, k8m10, k8m11, k8m12]
  instanceTypes := #[]
  staticTypes := #[.int, .int, .int, .boolean]
  resolved := Array.replicate 635 none
  statics := some 1 }

def pool9 : Array CpInfo := pool [(1, .class_ 2), (0, u "com/example/vestledger/vestledger/ledger/HashChain"), (1, .class_ 6), (1, u "java/lang/Object"), (12, u "sha256"), (0, u "Ljava/security/MessageDigest;"), (11, u "last"), (0, u "[B"), (2, u "sought"), (18, .class_ 56), (0, u "java/lang/String"), (9, u "SUFFIX"), (0, u "I"), (8, u "OPENING"), (6, u "CLOSING"), (7, .methodref 55 92), (0, .nameAndType 93 94), (0, u "length"), (0, u "()I"), (0, .methodref 1 96), (0, .nameAndType 97 98), (0, u "areDigits"), (0, u "(Ljava/lang/String;I)Z"), (0, .methodref 55 100), (0, .nameAndType 101 102), (0, u "charAt"), (0, u "(I)C"), (2, u "isHash"), (0, u "(Ljava/lang/String;)Z"), (24, u "soughtFound"), (0, u "Z"), (64, u "HEX"), (0, u "Ljava/util/HexFormat;"), (13, u "FIELD"), (0, u "Ljava/lang/String;"), (3, u "DIGITS"), (1, u "OPENING_TEXT"), (0, u "CLOSING_TEXT"), (0, u "CLOSING_BRACE"), (0, u "B")] 40

def k9c0 : Code := { maxStack := 2, maxLocals := 1, code := prog_8_method_6_code, exceptionTable := #[], attributes := #[] }
def k9m0 : Method := { name := "isHash", desc := "(Ljava/lang/String;)Z", sig := { parameters := [(.object "java/lang/String")], returnType := some .boolean }, accessFlags := 8, code := some k9c0 }
def k9c1 : Code := { maxStack := 3, maxLocals := 4, code := prog_8_method_7_code, exceptionTable := #[], attributes := #[] }
def k9m1 : Method := { name := "areDigits", desc := "(Ljava/lang/String;I)Z", sig := { parameters := [(.object "java/lang/String"), .int], returnType := some .boolean }, accessFlags := 10, code := some k9c1 }
/-- com/example/vestledger/vestledger/ledger/HashChain -/
def k9 : Class := { plain "com/example/vestledger/vestledger/ledger/HashChain" (some 0) with
  accessFlags := 48
  interfaces := #[]
  cf := some (fileOf pool9 1 #[] #[{ accessFlags := 8, nameIndex := 105, descriptorIndex := 106, attributes := #[] }, { accessFlags := 10, nameIndex := 97, descriptorIndex := 98, attributes := #[] }] 48 4 #[] #[{ accessFlags := 24, nameIndex := 212, descriptorIndex := 213, attributes := #[] }, { accessFlags := 26, nameIndex := 217, descriptorIndex := 67, attributes := #[] }, { accessFlags := 26, nameIndex := 219, descriptorIndex := 213, attributes := #[] }, { accessFlags := 26, nameIndex := 76, descriptorIndex := 33, attributes := #[] }, { accessFlags := 26, nameIndex := 220, descriptorIndex := 213, attributes := #[] }, { accessFlags := 26, nameIndex := 83, descriptorIndex := 33, attributes := #[] }, { accessFlags := 26, nameIndex := 66, descriptorIndex := 67, attributes := #[] }, { accessFlags := 26, nameIndex := 221, descriptorIndex := 222, attributes := #[] }, { accessFlags := 26, nameIndex := 197, descriptorIndex := 198, attributes := #[] }, { accessFlags := 18, nameIndex := 19, descriptorIndex := 20, attributes := #[] }, { accessFlags := 2, nameIndex := 32, descriptorIndex := 33, attributes := #[] }, { accessFlags := 18, nameIndex := 36, descriptorIndex := 33, attributes := #[] }, { accessFlags := 2, nameIndex := 131, descriptorIndex := 132, attributes := #[] }])
  fields := #[{ name := "FIELD", type := (.object "java/lang/String"), accessFlags := 24, slot := 0, constantValue := 0 }, { name := "DIGITS", type := .int, accessFlags := 26, slot := 1, constantValue := 0 }, { name := "OPENING_TEXT", type := (.object "java/lang/String"), accessFlags := 26, slot := 2, constantValue := 0 }, { name := "OPENING", type := (.array .byte), accessFlags := 26, slot := 3, constantValue := 0 }, { name := "CLOSING_TEXT", type := (.object "java/lang/String"), accessFlags := 26, slot := 4, constantValue := 0 }, { name := "CLOSING", type := (.array .byte), accessFlags := 26, slot := 5, constantValue := 0 }, { name := "SUFFIX", type := .int, accessFlags := 26, slot := 6, constantValue := 0 }, { name := "CLOSING_BRACE", type := .byte, accessFlags := 26, slot := 7, constantValue := 0 }, { name := "HEX", type := (.object "java/util/HexFormat"), accessFlags := 26, slot := 8, constantValue := 0 }, { name := "sha256", type := (.object "java/security/MessageDigest"), accessFlags := 18, slot := 0, constantValue := 0 }, { name := "last", type := (.array .byte), accessFlags := 2, slot := 1, constantValue := 0 }, { name := "sought", type := (.array .byte), accessFlags := 18, slot := 2, constantValue := 0 }, { name := "soughtFound", type := .boolean, accessFlags := 2, slot := 3, constantValue := 0 }]
  methods := #[k9m0, k9m1]
  instanceTypes := #[(.object "java/security/MessageDigest"), (.array .byte), (.array .byte), .boolean]
  staticTypes := #[(.object "java/lang/String"), .int, (.object "java/lang/String"), (.array .byte), (.object "java/lang/String"), (.array .byte), .int, .byte, (.object "java/util/HexFormat")]
  resolved := Array.replicate 263 none
  statics := none }

def pool10 : Array CpInfo := pool [(1, .class_ 2), (0, u "java/lang/String"), (1, .class_ 6), (1, u "java/lang/Object"), (0, u "<init>"), (0, u "()V"), (0, .methodref 1 10), (0, .nameAndType 11 12), (0, u "checkIndex"), (0, u "(II)V"), (1, .class_ 16), (1, u "java/lang/StringLatin1"), (36, u "([BI)C"), (36, u "canEncode"), (14, u "(C)Z"), (15, u "$assertionsDisabled"), (0, u "Z"), (98, .class_ 223), (1, u "java/lang/StringLatin1$LinesSpliterator"), (28, u "charAt"), (127, u "toBytes"), (1, u "(C)[B"), (7, .class_ 391), (0, u "java/lang/StringLatin1$CharsSpliterator")] 3

def k10m0 : Method := { name := "<init>", desc := "()V", sig := { parameters := [], returnType := none }, accessFlags := 0, code := none }
def k10c1 : Code := { maxStack := 2, maxLocals := 2, code := jdk_43_method_2_code, exceptionTable := #[], attributes := #[] }
def k10m1 : Method := { name := "charAt", desc := "([BI)C", sig := { parameters := [(.array .byte), .int], returnType := some .char }, accessFlags := 9, code := some k10c1 }
def k10c2 : Code := { maxStack := 2, maxLocals := 1, code := jdk_43_method_3_code, exceptionTable := #[], attributes := #[] }
def k10m2 : Method := { name := "canEncode", desc := "(C)Z", sig := { parameters := [.char], returnType := some .boolean }, accessFlags := 9, code := some k10c2 }
def k10c3 : Code := { maxStack := 4, maxLocals := 1, code := jdk_43_method_46_code, exceptionTable := #[], attributes := #[] }
def k10m3 : Method := { name := "toBytes", desc := "(C)[B", sig := { parameters := [.char], returnType := some (.array .byte) }, accessFlags := 9, code := some k10c3 }
/-- java/lang/StringLatin1 -/
def k10 : Class := { plain "java/lang/StringLatin1" (some 0) with
  accessFlags := 48
  interfaces := #[]
  cf := some (fileOf pool10 14 #[.nestMembers #[390, 221]] #[{ accessFlags := 0, nameIndex := 7, descriptorIndex := 8, attributes := #[] }, { accessFlags := 9, nameIndex := 252, descriptorIndex := 53, attributes := #[] }, { accessFlags := 9, nameIndex := 90, descriptorIndex := 105, attributes := #[] }, { accessFlags := 9, nameIndex := 380, descriptorIndex := 382, attributes := #[] }] 48 4 #[] #[{ accessFlags := 4120, nameIndex := 121, descriptorIndex := 122, attributes := #[] }])
  fields := #[{ name := "$assertionsDisabled", type := .boolean, accessFlags := 4120, slot := 0, constantValue := 0 }]
  methods := #[k10m0, k10m1, k10m2, k10m3]
  instanceTypes := #[]
  staticTypes := #[.boolean]
  resolved := Array.replicate 395 none
  statics := none }

def pool11 : Array CpInfo := pool [(2, .class_ 4), (1, u "java/lang/Object"), (0, u "<init>"), (0, u "()V"), (17, .class_ 26), (1, u "jdk/internal/util/Preconditions"), (6, u "checkIndex"), (21, .class_ 56), (0, u "jdk/internal/util/Preconditions$4"), (57, .class_ 115), (0, u "jdk/internal/util/Preconditions$1"), (7, u "SIOOBE_FORMATTER"), (0, u "Ljava/util/function/BiFunction;"), (0, .class_ 126), (0, u "jdk/internal/util/Preconditions$2"), (3, u "AIOOBE_FORMATTER"), (0, .class_ 132), (0, u "jdk/internal/util/Preconditions$3"), (3, u "IOOBE_FORMATTER"), (41, u "(IILjava/util/function/BiFunction;)I")] 15

def k11m0 : Method := { name := "<init>", desc := "()V", sig := { parameters := [], returnType := none }, accessFlags := 1, code := none }
def k11c1 : Code := { maxStack := 3, maxLocals := 3, code := jdk_41_method_11_code, exceptionTable := #[], attributes := #[] }
def k11m1 : Method := { name := "checkIndex", desc := "(IILjava/util/function/BiFunction;)I", sig := { parameters := [.int, .int, (.object "java/util/function/BiFunction")], returnType := some .int }, accessFlags := 9, code := some k11c1 }
/-- jdk/internal/util/Preconditions -/
def k11 : Class := { plain "jdk/internal/util/Preconditions" (some 0) with
  accessFlags := 33
  interfaces := #[]
  cf := some (fileOf pool11 24 #[.nestMembers #[55, 131, 125, 114]] #[{ accessFlags := 1, nameIndex := 5, descriptorIndex := 6, attributes := #[] }, { accessFlags := 9, nameIndex := 33, descriptorIndex := 178, attributes := #[] }] 33 2 #[] #[{ accessFlags := 25, nameIndex := 123, descriptorIndex := 124, attributes := #[] }, { accessFlags := 25, nameIndex := 130, descriptorIndex := 124, attributes := #[] }, { accessFlags := 25, nameIndex := 136, descriptorIndex := 124, attributes := #[] }])
  fields := #[{ name := "SIOOBE_FORMATTER", type := (.object "java/util/function/BiFunction"), accessFlags := 25, slot := 0, constantValue := 0 }, { name := "AIOOBE_FORMATTER", type := (.object "java/util/function/BiFunction"), accessFlags := 25, slot := 1, constantValue := 0 }, { name := "IOOBE_FORMATTER", type := (.object "java/util/function/BiFunction"), accessFlags := 25, slot := 2, constantValue := 0 }]
  methods := #[k11m0, k11m1]
  instanceTypes := #[]
  staticTypes := #[(.object "java/util/function/BiFunction"), (.object "java/util/function/BiFunction"), (.object "java/util/function/BiFunction")]
  resolved := Array.replicate 194 none
  statics := some 2 }

def pool12 : Array CpInfo := pool [(9, u "<init>"), (6, .class_ 18), (1, u "java/lang/Object"), (0, u "()V"), (1, .class_ 23), (1, u "jdk/internal/util/ArraysSupport"), (0, u "LOG2_ARRAY_LONG_INDEX_SCALE"), (0, u "I"), (2, u "U"), (0, u "Ljdk/internal/misc/Unsafe;"), (8, u "BIG_ENDIAN"), (0, u "Z"), (8, u "LOG2_BYTE_BIT_SIZE"), (4, u "LOG2_ARRAY_INT_INDEX_SCALE"), (54, u "JLA"), (0, u "Ljdk/internal/access/JavaLangAccess;"), (11, u "LOG2_ARRAY_BOOLEAN_INDEX_SCALE"), (9, u "LOG2_ARRAY_BYTE_INDEX_SCALE"), (5, u "LOG2_ARRAY_CHAR_INDEX_SCALE"), (5, u "LOG2_ARRAY_SHORT_INDEX_SCALE"), (18, u "LOG2_ARRAY_FLOAT_INDEX_SCALE"), (24, u "LOG2_ARRAY_DOUBLE_INDEX_SCALE"), (89, u "T_BOOLEAN"), (2, u "T_CHAR"), (1, u "T_FLOAT"), (1, u "T_DOUBLE"), (1, u "T_BYTE"), (1, u "T_SHORT"), (1, u "T_INT"), (1, u "T_LONG"), (1, u "SOFT_MAX_ARRAY_LENGTH")] 83

def k12m0 : Method := { name := "<init>", desc := "()V", sig := { parameters := [], returnType := none }, accessFlags := 2, code := none }
/-- jdk/internal/util/ArraysSupport -/
def k12 : Class := { plain "jdk/internal/util/ArraysSupport" (some 0) with
  accessFlags := 33
  interfaces := #[]
  cf := some (fileOf pool12 21 #[] #[{ accessFlags := 2, nameIndex := 9, descriptorIndex := 19, attributes := #[] }] 33 16 #[] #[{ accessFlags := 24, nameIndex := 28, descriptorIndex := 29, attributes := #[] }, { accessFlags := 26, nameIndex := 38, descriptorIndex := 39, attributes := #[] }, { accessFlags := 25, nameIndex := 121, descriptorIndex := 25, attributes := #[] }, { accessFlags := 25, nameIndex := 131, descriptorIndex := 25, attributes := #[] }, { accessFlags := 25, nameIndex := 137, descriptorIndex := 25, attributes := #[] }, { accessFlags := 25, nameIndex := 143, descriptorIndex := 25, attributes := #[] }, { accessFlags := 25, nameIndex := 53, descriptorIndex := 25, attributes := #[] }, { accessFlags := 25, nameIndex := 24, descriptorIndex := 25, attributes := #[] }, { accessFlags := 25, nameIndex := 162, descriptorIndex := 25, attributes := #[] }, { accessFlags := 25, nameIndex := 187, descriptorIndex := 25, attributes := #[] }, { accessFlags := 26, nameIndex := 48, descriptorIndex := 25, attributes := #[] }, { accessFlags := 25, nameIndex := 277, descriptorIndex := 25, attributes := #[] }, { accessFlags := 25, nameIndex := 280, descriptorIndex := 25, attributes := #[] }, { accessFlags := 25, nameIndex := 282, descriptorIndex := 25, attributes := #[] }, { accessFlags := 25, nameIndex := 284, descriptorIndex := 25, attributes := #[] }, { accessFlags := 25, nameIndex := 286, descriptorIndex := 25, attributes := #[] }, { accessFlags := 25, nameIndex := 288, descriptorIndex := 25, attributes := #[] }, { accessFlags := 25, nameIndex := 290, descriptorIndex := 25, attributes := #[] }, { accessFlags := 25, nameIndex := 292, descriptorIndex := 25, attributes := #[] }, { accessFlags := 26, nameIndex := 108, descriptorIndex := 109, attributes := #[] }, { accessFlags := 25, nameIndex := 294, descriptorIndex := 25, attributes := #[] }])
  fields := #[{ name := "U", type := (.object "jdk/internal/misc/Unsafe"), accessFlags := 24, slot := 0, constantValue := 0 }, { name := "BIG_ENDIAN", type := .boolean, accessFlags := 26, slot := 1, constantValue := 0 }, { name := "LOG2_ARRAY_BOOLEAN_INDEX_SCALE", type := .int, accessFlags := 25, slot := 2, constantValue := 0 }, { name := "LOG2_ARRAY_BYTE_INDEX_SCALE", type := .int, accessFlags := 25, slot := 3, constantValue := 0 }, { name := "LOG2_ARRAY_CHAR_INDEX_SCALE", type := .int, accessFlags := 25, slot := 4, constantValue := 0 }, { name := "LOG2_ARRAY_SHORT_INDEX_SCALE", type := .int, accessFlags := 25, slot := 5, constantValue := 0 }, { name := "LOG2_ARRAY_INT_INDEX_SCALE", type := .int, accessFlags := 25, slot := 6, constantValue := 0 }, { name := "LOG2_ARRAY_LONG_INDEX_SCALE", type := .int, accessFlags := 25, slot := 7, constantValue := 0 }, { name := "LOG2_ARRAY_FLOAT_INDEX_SCALE", type := .int, accessFlags := 25, slot := 8, constantValue := 0 }, { name := "LOG2_ARRAY_DOUBLE_INDEX_SCALE", type := .int, accessFlags := 25, slot := 9, constantValue := 0 }, { name := "LOG2_BYTE_BIT_SIZE", type := .int, accessFlags := 26, slot := 10, constantValue := 0 }, { name := "T_BOOLEAN", type := .int, accessFlags := 25, slot := 11, constantValue := 0 }, { name := "T_CHAR", type := .int, accessFlags := 25, slot := 12, constantValue := 0 }, { name := "T_FLOAT", type := .int, accessFlags := 25, slot := 13, constantValue := 0 }, { name := "T_DOUBLE", type := .int, accessFlags := 25, slot := 14, constantValue := 0 }, { name := "T_BYTE", type := .int, accessFlags := 25, slot := 15, constantValue := 0 }, { name := "T_SHORT", type := .int, accessFlags := 25, slot := 16, constantValue := 0 }, { name := "T_INT", type := .int, accessFlags := 25, slot := 17, constantValue := 0 }, { name := "T_LONG", type := .int, accessFlags := 25, slot := 18, constantValue := 0 }, { name := "JLA", type := (.object "jdk/internal/access/JavaLangAccess"), accessFlags := 26, slot := 19, constantValue := 0 }, { name := "SOFT_MAX_ARRAY_LENGTH", type := .int, accessFlags := 25, slot := 20, constantValue := 0 }]
  methods := #[k12m0]
  instanceTypes := #[]
  staticTypes := #[(.object "jdk/internal/misc/Unsafe"), .boolean, .int, .int, .int, .int, .int, .int, .int, .int, .int, .int, .int, .int, .int, .int, .int, .int, .int, (.object "jdk/internal/access/JavaLangAccess"), .int]
  resolved := Array.replicate 378 none
  statics := none }

def pool13 : Array CpInfo := pool [(1, u "java/lang/Cloneable"), (0, .class_ 1), (0, u "java/lang/Object"), (0, .class_ 3)] 3

/-- java/lang/Cloneable -/
def k13 : Class := { plain "java/lang/Cloneable" (some 0) with
  accessFlags := 1537
  interfaces := #[]
  cf := some (fileOf pool13 2 #[] #[] 1537 4 #[] #[])
  fields := #[]
  methods := #[]
  instanceTypes := #[]
  staticTypes := #[]
  resolved := Array.replicate 8 none
  statics := none }

/-- the primitive byte -/
def k14 : Class := { plain "byte" none with kind := .primitive 'B', accessFlags := 0x411 }
/-- [B -/
def k15 : Class := { plain "[B" (some 0) with kind := .array 14 .byte, interfaces := #[13, 2], accessFlags := 1041 }

/-- the primitive char -/
def k16 : Class := { plain "char" none with kind := .primitive 'C', accessFlags := 0x411 }
/-- [C -/
def k17 : Class := { plain "[C" (some 0) with kind := .array 16 .char, interfaces := #[13, 2], accessFlags := 1041 }

/-- the primitive int -/
def k18 : Class := { plain "int" none with kind := .primitive 'I', accessFlags := 0x411 }
/-- [I -/
def k19 : Class := { plain "[I" (some 0) with kind := .array 18 .int, interfaces := #[13, 2], accessFlags := 1041 }

def heap : Heap := #[{ cls := 7, slots := #[.long 0, .int 1, .null, .int 0, .null, .int 0, .int 0], vm := .statics 7 },
  { cls := 8, slots := #[.int 0, .int 8, .int 0, .int 1], vm := .statics 8 },
  { cls := 11, slots := #[.null, .null, .null], vm := .statics 11 }]
def classes : Array Class := #[k0, k1, k2, k3, k4, k5, k6, k7, k8, k9, k10, k11, k12, k13, k14, k15, k16, k17, k18, k19]
def interned : List (Array UInt16 × Addr) := []
def slotsUsed : Nat := 14
def theMethod : MethodId := ⟨1, 1⟩
def args0 : Array Value := #[.int 5, .int 6, .int 7, .int 1, .long 3]
def aboutOver (below : List Frame) : State where
  vm := { classes := classes, interned := interned.toArray }
  heap := heap
  slotsUsed := slotsUsed
  threads := #[{ frames := .invoking theMethod args0 :: below }]
def below0 : List Frame := [.native { method := ⟨0, 0⟩, args := #[] }]
def about1 : State := aboutOver below0
def p0 : Program := .bare "" "" ""
def e0 : Env := launch0.env 0 0 0
theorem w_frames : about1.frames = Frame.invoking theMethod args0 :: below0 := rfl
set_option maxRecDepth 65536 in
theorem w_args : argsFit about1.vm theMethod args0 = true := by decide +kernel
set_option maxRecDepth 65536 in
theorem w_heap : heapFits about1 = true := by decide +kernel
set_option maxRecDepth 65536 in
theorem w_runnable : about1.curStatus? = some .runnable := by decide +kernel
set_option maxRecDepth 65536 in
theorem w_alone : about1.alone = true := by decide +kernel
set_option maxRecDepth 65536 in
theorem w_named : about1.methodNamed? x = some theMethod := by decide +kernel
set_option maxRecDepth 65536 in
theorem w_hears : about1.hears theMethod below0 = true := by decide +kernel
set_option maxRecDepth 65536 in
theorem w_ripe : about1.ripe theMethod args0 below0 = true := by decide +kernel
theorem w_running : about1.status = .running := rfl
set_option maxRecDepth 65536 in
theorem w_room : about1.hasRoom e0.platform room_1 = true :=
  launch0.hasRoom_least _ room_1 (by decide +kernel) (by decide +kernel) (by decide +kernel) (by decide +kernel) (by decide +kernel) (by decide +kernel)
theorem allAtoms_all (ts : List Jvm.Cond) (a : Array Jvm.Value) (st : Jvm.State) : (allAtoms ts).before a st = ts.all (fun c => c.before a st) := by
  induction ts with
  | nil => rfl
  | cons c t ih =>
    show (Jvm.Cond.and c (allAtoms t)).before a st = _
    rw [Jvm.Cond.before_and, ih, List.all_cons]
def words1 : List Jvm.Cond := Jvm.Cond.code x code maxLocals ret :: tables_1
/-- a 'code' word, met by the world's own term for the bytes: nothing is compared byte by byte -/
theorem code_word {y : MethodName} {bytes : ByteArray} {mx : Nat} {rt : Option FieldType} {a : Array Value} {s : State} {m : MethodId} {meth : Method} {c : Code} (h1 : s.methodNamed? y = some m) (h2 : s.vm.method? m = some meth) (h3 : meth.code = some c) (h4 : c.code = bytes)
    (h5 : (c.maxLocals == mx && c.exceptionTable.isEmpty && decide (c.maxStack ≤ mostOperands) && decide (meth.sig.returnType = rt) && !meth.locks && decide (parseMethodDescriptor y.desc = some meth.sig)) = true) : (Jvm.Cond.code y bytes mx rt).before a s = true := by
  simp only [Bool.and_eq_true, beq_iff_eq, Bool.not_eq_true', decide_eq_true_eq] at h5
  obtain ⟨⟨⟨⟨⟨g1, g2⟩, g3⟩, g4⟩, g5⟩, g6⟩ := h5
  simp [Cond.before, Cond.holds, Cond.value, h1, h2, h3, h4, g1, g2, g3, g4, g5, g6]
def isCode : Jvm.Cond → Bool
  | .code _ _ _ _ => true
  | _ => false
theorem all_split {L : List Jvm.Cond} {P : Jvm.Cond → Bool} (h1 : L.all (fun c => isCode c || P c) = true) (h2 : ∀ c ∈ L.filter isCode, P c = true) : L.all P = true := by
  refine List.all_eq_true.mpr fun c hc => ?_
  have h := List.all_eq_true.mp h1 c hc
  rcases Bool.eq_false_or_eq_true (isCode c) with hi | hi
  · exact h2 c (List.mem_filter.mpr ⟨hc, hi⟩)
  · simpa [hi] using h
set_option maxRecDepth 65536 in
theorem w_c0 : (Jvm.Cond.code x code maxLocals ret).before args0 about1 = true := code_word (m := ⟨1, 1⟩) (meth := k1m1) (c := k1c1) (by decide +kernel) rfl rfl rfl (by decide +kernel)
set_option maxRecDepth 65536 in
theorem w_c1 : (Jvm.Cond.code ({ cls := "com/example/vestledger/vestledger/ledger/HashChainIsHashPinLaw", name := "isHexDigit", desc := "(C)Z" } : Jvm.MethodName) method_3_code (1 : Nat) (Option.some Jvm.ClassFile.FieldType.boolean)).before args0 about1 = true := code_word (m := ⟨1, 2⟩) (meth := k1m2) (c := k1c2) (by decide +kernel) rfl rfl rfl (by decide +kernel)
set_option maxRecDepth 65536 in
theorem w_c2 : (Jvm.Cond.code ({ cls := "java/lang/String", name := "<init>", desc := "([C)V" } : Jvm.MethodName) jdk_42_method_3_code (2 : Nat) (Option.none : Option Jvm.ClassFile.FieldType)).before args0 about1 = true := code_word (m := ⟨7, 1⟩) (meth := k7m1) (c := k7c1) (by decide +kernel) rfl rfl rfl (by decide +kernel)
set_option maxRecDepth 65536 in
theorem w_c3 : (Jvm.Cond.code ({ cls := "java/lang/String", name := "<init>", desc := "([CIILjava/lang/Void;)V" } : Jvm.MethodName) jdk_42_method_149_code (6 : Nat) (Option.none : Option Jvm.ClassFile.FieldType)).before args0 about1 = true := code_word (m := ⟨7, 5⟩) (meth := k7m5) (c := k7c5) (by decide +kernel) rfl rfl rfl (by decide +kernel)
set_option maxRecDepth 65536 in
theorem w_c4 : (Jvm.Cond.code ({ cls := "java/lang/Object", name := "<init>", desc := "()V" } : Jvm.MethodName) object_method_1_code (1 : Nat) (Option.none : Option Jvm.ClassFile.FieldType)).before args0 about1 = true := code_word (m := ⟨0, 0⟩) (meth := k0m0) (c := k0c0) (by decide +kernel) rfl rfl rfl (by decide +kernel)
set_option maxRecDepth 65536 in
theorem w_c5 : (Jvm.Cond.code ({ cls := "java/lang/StringUTF16", name := "compress", desc := "([CII)[B" } : Jvm.MethodName) jdk_52_method_16_code (6 : Nat) (Option.some (Jvm.ClassFile.FieldType.array Jvm.ClassFile.FieldType.byte))).before args0 about1 = true := code_word (m := ⟨8, 8⟩) (meth := k8m8) (c := k8c8) (by decide +kernel) rfl rfl rfl (by decide +kernel)
set_option maxRecDepth 65536 in
theorem w_c6 : (Jvm.Cond.code ({ cls := "java/lang/StringUTF16", name := "compress", desc := "([CI[BII)I" } : Jvm.MethodName) jdk_52_method_21_code (7 : Nat) (Option.some Jvm.ClassFile.FieldType.int)).before args0 about1 = true := code_word (m := ⟨8, 9⟩) (meth := k8m9) (c := k8c9) (by decide +kernel) rfl rfl rfl (by decide +kernel)
set_option maxRecDepth 65536 in
theorem w_c7 : (Jvm.Cond.code ({ cls := "java/lang/StringUTF16", name := "coderFromArrayLen", desc := "([BI)B" } : Jvm.MethodName) jdk_52_method_15_code (2 : Nat) (Option.some Jvm.ClassFile.FieldType.byte)).before args0 about1 = true := code_word (m := ⟨8, 7⟩) (meth := k8m7) (c := k8c7) (by decide +kernel) rfl rfl rfl (by decide +kernel)
set_option maxRecDepth 65536 in
theorem w_c8 : (Jvm.Cond.code ({ cls := "com/example/vestledger/vestledger/ledger/HashChain", name := "isHash", desc := "(Ljava/lang/String;)Z" } : Jvm.MethodName) prog_8_method_6_code (1 : Nat) (Option.some Jvm.ClassFile.FieldType.boolean)).before args0 about1 = true := code_word (m := ⟨9, 0⟩) (meth := k9m0) (c := k9c0) (by decide +kernel) rfl rfl rfl (by decide +kernel)
set_option maxRecDepth 65536 in
theorem w_c9 : (Jvm.Cond.code ({ cls := "java/lang/String", name := "length", desc := "()I" } : Jvm.MethodName) jdk_42_method_54_code (1 : Nat) (Option.some Jvm.ClassFile.FieldType.int)).before args0 about1 = true := code_word (m := ⟨7, 2⟩) (meth := k7m2) (c := k7c2) (by decide +kernel) rfl rfl rfl (by decide +kernel)
set_option maxRecDepth 65536 in
theorem w_c10 : (Jvm.Cond.code ({ cls := "java/lang/String", name := "coder", desc := "()B" } : Jvm.MethodName) jdk_42_method_152_code (1 : Nat) (Option.some Jvm.ClassFile.FieldType.byte)).before args0 about1 = true := code_word (m := ⟨7, 7⟩) (meth := k7m7) (c := k7c7) (by decide +kernel) rfl rfl rfl (by decide +kernel)
set_option maxRecDepth 65536 in
theorem w_c11 : (Jvm.Cond.code ({ cls := "com/example/vestledger/vestledger/ledger/HashChain", name := "areDigits", desc := "(Ljava/lang/String;I)Z" } : Jvm.MethodName) prog_8_method_7_code (4 : Nat) (Option.some Jvm.ClassFile.FieldType.boolean)).before args0 about1 = true := code_word (m := ⟨9, 1⟩) (meth := k9m1) (c := k9c1) (by decide +kernel) rfl rfl rfl (by decide +kernel)
set_option maxRecDepth 65536 in
theorem w_c12 : (Jvm.Cond.code ({ cls := "java/lang/String", name := "charAt", desc := "(I)C" } : Jvm.MethodName) jdk_42_method_56_code (2 : Nat) (Option.some Jvm.ClassFile.FieldType.char)).before args0 about1 = true := code_word (m := ⟨7, 3⟩) (meth := k7m3) (c := k7c3) (by decide +kernel) rfl rfl rfl (by decide +kernel)
set_option maxRecDepth 65536 in
theorem w_c13 : (Jvm.Cond.code ({ cls := "java/lang/String", name := "isLatin1", desc := "()Z" } : Jvm.MethodName) jdk_42_method_154_code (1 : Nat) (Option.some Jvm.ClassFile.FieldType.boolean)).before args0 about1 = true := code_word (m := ⟨7, 8⟩) (meth := k7m8) (c := k7c8) (by decide +kernel) rfl rfl rfl (by decide +kernel)
set_option maxRecDepth 65536 in
theorem w_c14 : (Jvm.Cond.code ({ cls := "java/lang/StringLatin1", name := "charAt", desc := "([BI)C" } : Jvm.MethodName) jdk_43_method_2_code (2 : Nat) (Option.some Jvm.ClassFile.FieldType.char)).before args0 about1 = true := code_word (m := ⟨10, 1⟩) (meth := k10m1) (c := k10c1) (by decide +kernel) rfl rfl rfl (by decide +kernel)
set_option maxRecDepth 65536 in
theorem w_c15 : (Jvm.Cond.code ({ cls := "java/lang/String", name := "checkIndex", desc := "(II)V" } : Jvm.MethodName) jdk_42_method_155_code (2 : Nat) (Option.none : Option Jvm.ClassFile.FieldType)).before args0 about1 = true := code_word (m := ⟨7, 9⟩) (meth := k7m9) (c := k7c9) (by decide +kernel) rfl rfl rfl (by decide +kernel)
set_option maxRecDepth 65536 in
theorem w_c16 : (Jvm.Cond.code ({ cls := "jdk/internal/util/Preconditions", name := "checkIndex", desc := "(IILjava/util/function/BiFunction;)I" } : Jvm.MethodName) jdk_41_method_11_code (3 : Nat) (Option.some Jvm.ClassFile.FieldType.int)).before args0 about1 = true := code_word (m := ⟨11, 1⟩) (meth := k11m1) (c := k11c1) (by decide +kernel) rfl rfl rfl (by decide +kernel)
set_option maxRecDepth 65536 in
theorem w_c17 : (Jvm.Cond.code ({ cls := "java/lang/String", name := "valueOf", desc := "(C)Ljava/lang/String;" } : Jvm.MethodName) jdk_42_method_139_code (1 : Nat) (Option.some (Jvm.ClassFile.FieldType.object "java/lang/String"))).before args0 about1 = true := code_word (m := ⟨7, 4⟩) (meth := k7m4) (c := k7c4) (by decide +kernel) rfl rfl rfl (by decide +kernel)
set_option maxRecDepth 65536 in
theorem w_c18 : (Jvm.Cond.code ({ cls := "java/lang/StringLatin1", name := "canEncode", desc := "(C)Z" } : Jvm.MethodName) jdk_43_method_3_code (1 : Nat) (Option.some Jvm.ClassFile.FieldType.boolean)).before args0 about1 = true := code_word (m := ⟨10, 2⟩) (meth := k10m2) (c := k10c2) (by decide +kernel) rfl rfl rfl (by decide +kernel)
set_option maxRecDepth 65536 in
theorem w_c19 : (Jvm.Cond.code ({ cls := "java/lang/StringLatin1", name := "toBytes", desc := "(C)[B" } : Jvm.MethodName) jdk_43_method_46_code (1 : Nat) (Option.some (Jvm.ClassFile.FieldType.array Jvm.ClassFile.FieldType.byte))).before args0 about1 = true := code_word (m := ⟨10, 3⟩) (meth := k10m3) (c := k10c3) (by decide +kernel) rfl rfl rfl (by decide +kernel)
set_option maxRecDepth 65536 in
theorem w_c20 : (Jvm.Cond.code ({ cls := "java/lang/String", name := "<init>", desc := "([BB)V" } : Jvm.MethodName) jdk_42_method_151_code (3 : Nat) (Option.none : Option Jvm.ClassFile.FieldType)).before args0 about1 = true := code_word (m := ⟨7, 6⟩) (meth := k7m6) (c := k7c6) (by decide +kernel) rfl rfl rfl (by decide +kernel)
set_option maxRecDepth 65536 in
theorem w_c21 : (Jvm.Cond.code ({ cls := "java/lang/StringUTF16", name := "toBytes", desc := "([CII)[B" } : Jvm.MethodName) jdk_52_method_14_code (5 : Nat) (Option.some (Jvm.ClassFile.FieldType.array Jvm.ClassFile.FieldType.byte))).before args0 about1 = true := code_word (m := ⟨8, 6⟩) (meth := k8m6) (c := k8c6) (by decide +kernel) rfl rfl rfl (by decide +kernel)
set_option maxRecDepth 65536 in
theorem w_c22 : (Jvm.Cond.code ({ cls := "java/lang/StringUTF16", name := "newBytesFor", desc := "(I)[B" } : Jvm.MethodName) jdk_52_method_2_code (1 : Nat) (Option.some (Jvm.ClassFile.FieldType.array Jvm.ClassFile.FieldType.byte))).before args0 about1 = true := code_word (m := ⟨8, 1⟩) (meth := k8m1) (c := k8c1) (by decide +kernel) rfl rfl rfl (by decide +kernel)
set_option maxRecDepth 65536 in
theorem w_c23 : (Jvm.Cond.code ({ cls := "java/lang/StringUTF16", name := "newBytesLength", desc := "(I)I" } : Jvm.MethodName) jdk_52_method_3_code (1 : Nat) (Option.some Jvm.ClassFile.FieldType.int)).before args0 about1 = true := code_word (m := ⟨8, 2⟩) (meth := k8m2) (c := k8c2) (by decide +kernel) rfl rfl rfl (by decide +kernel)
set_option maxRecDepth 65536 in
theorem w_c24 : (Jvm.Cond.code ({ cls := "java/lang/StringUTF16", name := "putChar", desc := "([BII)V" } : Jvm.MethodName) jdk_52_method_4_code (3 : Nat) (Option.none : Option Jvm.ClassFile.FieldType)).before args0 about1 = true := code_word (m := ⟨8, 3⟩) (meth := k8m3) (c := k8c3) (by decide +kernel) rfl rfl rfl (by decide +kernel)
set_option maxRecDepth 65536 in
theorem w_c25 : (Jvm.Cond.code ({ cls := "java/lang/StringUTF16", name := "getChar", desc := "([BI)C" } : Jvm.MethodName) jdk_52_method_5_code (2 : Nat) (Option.some Jvm.ClassFile.FieldType.char)).before args0 about1 = true := code_word (m := ⟨8, 4⟩) (meth := k8m4) (c := k8c4) (by decide +kernel) rfl rfl rfl (by decide +kernel)
set_option maxRecDepth 65536 in
theorem w_c26 : (Jvm.Cond.code ({ cls := "java/lang/StringUTF16", name := "charAt", desc := "([BI)C" } : Jvm.MethodName) jdk_52_method_83_code (2 : Nat) (Option.some Jvm.ClassFile.FieldType.char)).before args0 about1 = true := code_word (m := ⟨8, 11⟩) (meth := k8m11) (c := k8c11) (by decide +kernel) rfl rfl rfl (by decide +kernel)
set_option maxRecDepth 65536 in
theorem w_c27 : (Jvm.Cond.code ({ cls := "java/lang/StringUTF16", name := "checkIndex", desc := "(I[B)V" } : Jvm.MethodName) jdk_52_method_91_code (2 : Nat) (Option.none : Option Jvm.ClassFile.FieldType)).before args0 about1 = true := code_word (m := ⟨8, 12⟩) (meth := k8m12) (c := k8c12) (by decide +kernel) rfl rfl rfl (by decide +kernel)
set_option maxRecDepth 65536 in
theorem w_c28 : (Jvm.Cond.code ({ cls := "java/lang/StringUTF16", name := "length", desc := "([B)I" } : Jvm.MethodName) jdk_52_method_6_code (1 : Nat) (Option.some Jvm.ClassFile.FieldType.int)).before args0 about1 = true := code_word (m := ⟨8, 5⟩) (meth := k8m5) (c := k8c5) (by decide +kernel) rfl rfl rfl (by decide +kernel)
set_option maxRecDepth 65536 in
theorem w_c29 : (Jvm.Cond.code ({ cls := "java/lang/StringUTF16", name := "toBytes", desc := "(C)[B" } : Jvm.MethodName) jdk_52_method_24_code (2 : Nat) (Option.some (Jvm.ClassFile.FieldType.array Jvm.ClassFile.FieldType.byte))).before args0 about1 = true := code_word (m := ⟨8, 10⟩) (meth := k8m10) (c := k8c10) (by decide +kernel) rfl rfl rfl (by decide +kernel)
def codes1 : List Jvm.Cond := [Jvm.Cond.code x code maxLocals ret, Jvm.Cond.code ({ cls := "com/example/vestledger/vestledger/ledger/HashChainIsHashPinLaw", name := "isHexDigit", desc := "(C)Z" } : Jvm.MethodName) method_3_code (1 : Nat) (Option.some Jvm.ClassFile.FieldType.boolean), Jvm.Cond.code ({ cls := "java/lang/String", name := "<init>", desc := "([C)V" } : Jvm.MethodName) jdk_42_method_3_code (2 : Nat) (Option.none : Option Jvm.ClassFile.FieldType), Jvm.Cond.code ({ cls := "java/lang/String", name := "<init>", desc := "([CIILjava/lang/Void;)V" } : Jvm.MethodName) jdk_42_method_149_code (6 : Nat) (Option.none : Option Jvm.ClassFile.FieldType), Jvm.Cond.code ({ cls := "java/lang/Object", name := "<init>", desc := "()V" } : Jvm.MethodName) object_method_1_code (1 : Nat) (Option.none : Option Jvm.ClassFile.FieldType), Jvm.Cond.code ({ cls := "java/lang/StringUTF16", name := "compress", desc := "([CII)[B" } : Jvm.MethodName) jdk_52_method_16_code (6 : Nat) (Option.some (Jvm.ClassFile.FieldType.array Jvm.ClassFile.FieldType.byte)), Jvm.Cond.code ({ cls := "java/lang/StringUTF16", name := "compress", desc := "([CI[BII)I" } : Jvm.MethodName) jdk_52_method_21_code (7 : Nat) (Option.some Jvm.ClassFile.FieldType.int), Jvm.Cond.code ({ cls := "java/lang/StringUTF16", name := "coderFromArrayLen", desc := "([BI)B" } : Jvm.MethodName) jdk_52_method_15_code (2 : Nat) (Option.some Jvm.ClassFile.FieldType.byte), Jvm.Cond.code ({ cls := "com/example/vestledger/vestledger/ledger/HashChain", name := "isHash", desc := "(Ljava/lang/String;)Z" } : Jvm.MethodName) prog_8_method_6_code (1 : Nat) (Option.some Jvm.ClassFile.FieldType.boolean), Jvm.Cond.code ({ cls := "java/lang/String", name := "length", desc := "()I" } : Jvm.MethodName) jdk_42_method_54_code (1 : Nat) (Option.some Jvm.ClassFile.FieldType.int), Jvm.Cond.code ({ cls := "java/lang/String", name := "coder", desc := "()B" } : Jvm.MethodName) jdk_42_method_152_code (1 : Nat) (Option.some Jvm.ClassFile.FieldType.byte), Jvm.Cond.code ({ cls := "com/example/vestledger/vestledger/ledger/HashChain", name := "areDigits", desc := "(Ljava/lang/String;I)Z" } : Jvm.MethodName) prog_8_method_7_code (4 : Nat) (Option.some Jvm.ClassFile.FieldType.boolean), Jvm.Cond.code ({ cls := "java/lang/String", name := "charAt", desc := "(I)C" } : Jvm.MethodName) jdk_42_method_56_code (2 : Nat) (Option.some Jvm.ClassFile.FieldType.char), Jvm.Cond.code ({ cls := "java/lang/String", name := "isLatin1", desc := "()Z" } : Jvm.MethodName) jdk_42_method_154_code (1 : Nat) (Option.some Jvm.ClassFile.FieldType.boolean), Jvm.Cond.code ({ cls := "java/lang/StringLatin1", name := "charAt", desc := "([BI)C" } : Jvm.MethodName) jdk_43_method_2_code (2 : Nat) (Option.some Jvm.ClassFile.FieldType.char), Jvm.Cond.code ({ cls := "java/lang/String", name := "checkIndex", desc := "(II)V" } : Jvm.MethodName) jdk_42_method_155_code (2 : Nat) (Option.none : Option Jvm.ClassFile.FieldType), Jvm.Cond.code ({ cls := "jdk/internal/util/Preconditions", name := "checkIndex", desc := "(IILjava/util/function/BiFunction;)I" } : Jvm.MethodName) jdk_41_method_11_code (3 : Nat) (Option.some Jvm.ClassFile.FieldType.int), Jvm.Cond.code ({ cls := "java/lang/String", name := "valueOf", desc := "(C)Ljava/lang/String;" } : Jvm.MethodName) jdk_42_method_139_code (1 : Nat) (Option.some (Jvm.ClassFile.FieldType.object "java/lang/String")), Jvm.Cond.code ({ cls := "java/lang/StringLatin1", name := "canEncode", desc := "(C)Z" } : Jvm.MethodName) jdk_43_method_3_code (1 : Nat) (Option.some Jvm.ClassFile.FieldType.boolean), Jvm.Cond.code ({ cls := "java/lang/StringLatin1", name := "toBytes", desc := "(C)[B" } : Jvm.MethodName) jdk_43_method_46_code (1 : Nat) (Option.some (Jvm.ClassFile.FieldType.array Jvm.ClassFile.FieldType.byte)), Jvm.Cond.code ({ cls := "java/lang/String", name := "<init>", desc := "([BB)V" } : Jvm.MethodName) jdk_42_method_151_code (3 : Nat) (Option.none : Option Jvm.ClassFile.FieldType), Jvm.Cond.code ({ cls := "java/lang/StringUTF16", name := "toBytes", desc := "([CII)[B" } : Jvm.MethodName) jdk_52_method_14_code (5 : Nat) (Option.some (Jvm.ClassFile.FieldType.array Jvm.ClassFile.FieldType.byte)), Jvm.Cond.code ({ cls := "java/lang/StringUTF16", name := "newBytesFor", desc := "(I)[B" } : Jvm.MethodName) jdk_52_method_2_code (1 : Nat) (Option.some (Jvm.ClassFile.FieldType.array Jvm.ClassFile.FieldType.byte)), Jvm.Cond.code ({ cls := "java/lang/StringUTF16", name := "newBytesLength", desc := "(I)I" } : Jvm.MethodName) jdk_52_method_3_code (1 : Nat) (Option.some Jvm.ClassFile.FieldType.int), Jvm.Cond.code ({ cls := "java/lang/StringUTF16", name := "putChar", desc := "([BII)V" } : Jvm.MethodName) jdk_52_method_4_code (3 : Nat) (Option.none : Option Jvm.ClassFile.FieldType), Jvm.Cond.code ({ cls := "java/lang/StringUTF16", name := "getChar", desc := "([BI)C" } : Jvm.MethodName) jdk_52_method_5_code (2 : Nat) (Option.some Jvm.ClassFile.FieldType.char), Jvm.Cond.code ({ cls := "java/lang/StringUTF16", name := "charAt", desc := "([BI)C" } : Jvm.MethodName) jdk_52_method_83_code (2 : Nat) (Option.some Jvm.ClassFile.FieldType.char), Jvm.Cond.code ({ cls := "java/lang/StringUTF16", name := "checkIndex", desc := "(I[B)V" } : Jvm.MethodName) jdk_52_method_91_code (2 : Nat) (Option.none : Option Jvm.ClassFile.FieldType), Jvm.Cond.code ({ cls := "java/lang/StringUTF16", name := "length", desc := "([B)I" } : Jvm.MethodName) jdk_52_method_6_code (1 : Nat) (Option.some Jvm.ClassFile.FieldType.int), Jvm.Cond.code ({ cls := "java/lang/StringUTF16", name := "toBytes", desc := "(C)[B" } : Jvm.MethodName) jdk_52_method_24_code (2 : Nat) (Option.some (Jvm.ClassFile.FieldType.array Jvm.ClassFile.FieldType.byte))]
set_option maxRecDepth 65536 in
theorem codes_eq : words1.filter isCode = codes1 := rfl
theorem w_codes : ∀ c ∈ words1.filter isCode, c.before args0 about1 = true := by
  rw [codes_eq]
  intro c hc
  simp only [codes1, List.mem_cons, List.not_mem_nil, or_false] at hc
  rcases hc with rfl | rfl | rfl | rfl | rfl | rfl | rfl | rfl | rfl | rfl | rfl | rfl | rfl | rfl | rfl | rfl | rfl | rfl | rfl | rfl | rfl | rfl | rfl | rfl | rfl | rfl | rfl | rfl | rfl | rfl
  · exact w_c0
  · exact w_c1
  · exact w_c2
  · exact w_c3
  · exact w_c4
  · exact w_c5
  · exact w_c6
  · exact w_c7
  · exact w_c8
  · exact w_c9
  · exact w_c10
  · exact w_c11
  · exact w_c12
  · exact w_c13
  · exact w_c14
  · exact w_c15
  · exact w_c16
  · exact w_c17
  · exact w_c18
  · exact w_c19
  · exact w_c20
  · exact w_c21
  · exact w_c22
  · exact w_c23
  · exact w_c24
  · exact w_c25
  · exact w_c26
  · exact w_c27
  · exact w_c28
  · exact w_c29
set_option maxRecDepth 65536 in
theorem w_t1 : (words1.take 24).all (fun c => isCode c || c.before args0 about1) = true := by decide +kernel
set_option maxRecDepth 65536 in
theorem w_t2 : ((words1.drop 24).take 24).all (fun c => isCode c || c.before args0 about1) = true := by decide +kernel
set_option maxRecDepth 65536 in
theorem w_t3 : (((words1.drop 24).drop 24).take 24).all (fun c => isCode c || c.before args0 about1) = true := by decide +kernel
set_option maxRecDepth 65536 in
theorem w_t4 : ((((words1.drop 24).drop 24).drop 24).take 24).all (fun c => isCode c || c.before args0 about1) = true := by decide +kernel
set_option maxRecDepth 65536 in
theorem w_t5 : (((((words1.drop 24).drop 24).drop 24).drop 24).take 24).all (fun c => isCode c || c.before args0 about1) = true := by decide +kernel
set_option maxRecDepth 65536 in
theorem w_t6 : (((((words1.drop 24).drop 24).drop 24).drop 24).drop 24).all (fun c => isCode c || c.before args0 about1) = true := by decide +kernel
theorem w_tables : (allAtoms (Jvm.Cond.code x code maxLocals ret :: tables_1)).before args0 about1 = true := by
  rw [allAtoms_all]
  show words1.all (fun c => c.before args0 about1) = true
  refine all_split ?_ w_codes
  rw [← List.take_append_drop 24 words1, List.all_append, w_t1, ← List.take_append_drop 24 (words1.drop 24), List.all_append, w_t2, ← List.take_append_drop 24 ((words1.drop 24).drop 24), List.all_append, w_t3, ← List.take_append_drop 24 (((words1.drop 24).drop 24).drop 24), List.all_append, w_t4, ← List.take_append_drop 24 ((((words1.drop 24).drop 24).drop 24).drop 24), List.all_append, w_t5, w_t6]
  rfl
set_option maxRecDepth 65536 in
theorem w_rest : rest_1_c.before args0 about1 = true := by decide +kernel
set_option maxRecDepth 65536 in
theorem w_case : (Jvm.Cond.and given_1 narrow_1).before args0 about1 = true := by decide +kernel
theorem w_applies : (headSpec (Jvm.Cond.code x code maxLocals ret :: tables_1) room_1).applies x e0.platform about1 = true :=
  (Spec.applies_iff w_frames).mpr ⟨w_running, w_runnable, w_alone, w_named, w_hears, w_ripe, w_room, w_tables⟩
theorem atStart : AtStart classFile x code maxLocals ret World_1 tables_1 room_1 Calls_1 rest_1 Pre_1 launch0 p0 e0 about1 theMethod args0 below0 :=
  ⟨lists_1, trivial, launch0.admits_env _ _ _, launch0.least_env, fairChoices_fair.cas, fairChoices_fair.clock, w_frames, w_args, w_heap, w_applies, trivial, w_rest, w_case⟩
end start1
theorem witness_1 : WitnessClaimed_1 := ⟨start1.p0, start1.e0, start1.about1, start1.theMethod, start1.args0, start1.below0, start1.atStart⟩
end Jvm.Pilot.@@N@@
