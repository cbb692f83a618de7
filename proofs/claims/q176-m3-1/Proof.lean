import JvmDerived
import JvmDerived.Pilot.@@N@@Statement
import JvmDerived.Pilot.@@N@@Code
set_option linter.unusedVariables false
set_option linter.unusedSimpArgs false
namespace Jvm.Own
open Jvm Jvm.ClassFile Sem Op Lib Jvm.Free Jvm.Stand Jvm.LawKit Jvm.RoadKit Bundle
/-! OWN LAYER: one bundle (W) for all that a walk knows of the machine; one goal (Go): from this state the method returns as Q says. Every step is a law 'W.step w .. : Go (behind) → Go (before)'. -/
abbrev Ka : Type := Program × Env × State × MethodId × List Frame × Method × Code × Array Value
abbrev kp (κ : Ka) : Program := κ.1
abbrev ke (κ : Ka) : Env := κ.2.1
abbrev ks (κ : Ka) : State := κ.2.2.1
abbrev km (κ : Ka) : MethodId := κ.2.2.2.1
abbrev kb (κ : Ka) : List Frame := κ.2.2.2.2.1
abbrev kt (κ : Ka) : Method := κ.2.2.2.2.2.1
abbrev kc (κ : Ka) : Code := κ.2.2.2.2.2.2.1
abbrev ka (κ : Ka) : Array Value := κ.2.2.2.2.2.2.2
/-- how a walk ends: the wide frame; under nar the narrow one too -/
def EndOk (nw : Bool) (U : State) (o : Outcome) (U' : State) (L : List Loc) (k n : Nat) : Prop := ReturnedEndW U o U' L k n ∧ (nw = true → FrameEnd U o U' L k n)
/-- the places that the walk may write: made since the law's start, and no String constant's -/
def Mut (Z : State) (EL : List (String × Nat)) (vm : Vm) (h : Heap) (M : List Addr) : Prop := ∀ x ∈ M, Z.heap.size ≤ x ∧ x < h.size ∧ Safe Z EL vm h x
def Ctr (l : Launch) (Z : State) (EL : List (String × Nat)) (nw : Bool) (y : MethodName) (bytes : ByteArray) (ml : Nat) (ret : Option FieldType) (rm : Room) (as : List Value) (h0 : Heap) (M : List Addr) (Q : Option Value → Heap → List Addr → Prop) : Prop :=
  MetFree l y (head1 [Cond.code y bytes ml ret] rm) (fun a U => a = as.toArray ∧ Z.Warmed39 U.vm ∧ U.heap = h0 ∧ CHv Z EL U.vm h0 ∧ Mut Z EL U.vm h0 M) (fun _ _ _ _ _ => True)
    (fun _ U o U' => ∃ v L M', o = .returned v ∧ Q v U'.heap M' ∧ Fr Z.heap.size L ∧ CHr Z EL U.vm U.heap U'.vm U'.heap ∧ Mut Z EL U'.vm U'.heap M' ∧ Old Z Z.heap.size U'.heap ∧ EndOk nw U o U' L rm.cells rm.slots)
def W (l : Launch) (Z : State) (a0 : Array Value) (EL : List (String × Nat)) (nw : Bool) (own : String) (bytes : ByteArray) (ml : Nat) (ret : Option FieldType) (R : Room) (κ : Ka) (T : State) (h : Heap) (M : List Addr) (cells slots : Nat) : Prop :=
  ((kp κ).tables.exec = Jvm.exec ∧ (kc κ).code = bytes ∧ (kc κ).maxLocals = ml ∧ (kt κ).sig.returnType = ret ∧ (kt κ).locks = false ∧ EW Z a0 EL) ∧
  ∃ (vm0 : Vm) (k0 : Nat) (locs : List Loc), Stand (kp κ) l (ke κ) R ((ks κ).setVm vm0) (km κ) (ka κ) (kb κ) (kt κ) (kc κ) T locs cells slots ∧ Fr Z.heap.size locs ∧ Z.Warmed39 vm0 ∧ vm0.findClass own = some (km κ).cls ∧ (ks κ).Since vm0 k0 ∧ k0 ≤ h.size ∧ T.heap = h ∧
    CHr Z EL (ks κ).vm (ks κ).heap vm0 h ∧ Mut Z EL vm0 h M ∧ Old Z Z.heap.size h ∧ (nw = true → (ks κ).WarmedH vm0)
def Go (Z : State) (EL : List (String × Nat)) (nw : Bool) (R : Room) (κ : Ka) (Q : Option Value → Heap → List Addr → Prop) (U : State) : Prop :=
  ∃ s₂ o, Steps (kp κ).tables (ke κ) (kb κ) U s₂ ∧ s₂.status = .running ∧ Ended s₂ (kb κ) o ∧ ∃ v L M', o = .returned v ∧ Q v s₂.heap M' ∧ Fr Z.heap.size L ∧ CHr Z EL (ks κ).vm (ks κ).heap s₂.vm s₂.heap ∧ Mut Z EL s₂.vm s₂.heap M' ∧ Old Z Z.heap.size s₂.heap ∧ EndOk nw (ks κ) o s₂ L R.cells R.slots
section Base
variable {l : Launch} {Z : State} {a0 : Array Value} {EL : List (String × Nat)} {nw : Bool} {own : String} {bytes : ByteArray} {ml : Nat} {ret : Option FieldType} {R : Room} {κ : Ka} {T : State} {h : Heap} {M : List Addr} {cells slots : Nat} {Q : Option Value → Heap → List Addr → Prop} {U U' : State} {G : JFrame}
theorem Go.via (st : ∀ t, Steps (kp κ).tables (ke κ) (kb κ) U' t → Steps (kp κ).tables (ke κ) (kb κ) U t) (g : Go Z EL nw R κ Q U') : Go Z EL nw R κ Q U := by
  obtain ⟨s₂, o, h1, r⟩ := g
  exact ⟨s₂, o, st _ h1, r⟩
theorem Go.tr (st : Steps (kp κ).tables (ke κ) (kb κ) U U') (g : Go Z EL nw R κ Q U') : Go Z EL nw R κ Q U := Go.via (fun _ k => st.trans k) g
theorem Go.mono {Q' : Option Value → Heap → List Addr → Prop} (g : Go Z EL nw R κ Q U) (q : ∀ v h M, Q v h M → Q' v h M) : Go Z EL nw R κ Q' U := by
  obtain ⟨s₂, o, h1, h2, h3, v, L, M', h4, h5, r⟩ := g
  exact ⟨s₂, o, h1, h2, h3, v, L, M', h4, q _ _ _ h5, r⟩
theorem W.old (w : W l Z a0 EL nw own bytes ml ret R κ T h M cells slots) : Old Z Z.heap.size h := by
  obtain ⟨-, vm0, k0, locs, -, -, -, -, -, -, -, -, -, hO, -⟩ := w
  exact hO
theorem W.ew (w : W l Z a0 EL nw own bytes ml ret R κ T h M cells slots) : EW Z a0 EL := w.1.2.2.2.2.2
theorem W.mut (w : W l Z a0 EL nw own bytes ml ret R κ T h M cells slots) {x : Addr} (hx : x ∈ M) : Z.heap.size ≤ x ∧ x < h.size := by
  obtain ⟨-, vm0, k0, locs, -, -, -, -, -, -, -, -, hM, -⟩ := w
  exact ⟨(hM x hx).1, (hM x hx).2.1⟩
theorem W.grow (w : W l Z a0 EL nw own bytes ml ret R κ T h M cells slots) {cells' slots' : Nat} (hc : cells ≤ cells') (hs : slots ≤ slots') : W l Z a0 EL nw own bytes ml ret R κ T h M cells' slots' := by
  obtain ⟨hC, vm0, k0, locs, X, r⟩ := w
  exact ⟨hC, vm0, k0, locs, X.mono hc hs, r⟩
theorem W.less (w : W l Z a0 EL nw own bytes ml ret R κ T h M cells slots) {M' : List Addr} (hM : ∀ x ∈ M', x ∈ M) : W l Z a0 EL nw own bytes ml ret R κ T h M' cells slots := by
  obtain ⟨hC, vm0, k0, locs, X, h1, h2, h3, h4, h5, h6, h7, h8, r⟩ := w
  exact ⟨hC, vm0, k0, locs, X, h1, h2, h3, h4, h5, h6, h7, fun x hx => h8 x (hM x hx), r⟩
/-- a pure step -/
theorem W.pure (w : W l Z a0 EL nw own bytes ml ret R κ T h M cells slots) (st : (kp κ).tables.exec = Jvm.exec → (kc κ).code = bytes → At T (km κ) (kc κ) (kb κ) → ∀ t, Steps (kp κ).tables (ke κ) (kb κ) U' t → Steps (kp κ).tables (ke κ) (kb κ) U t) (g : Go Z EL nw R κ Q U') : Go Z EL nw R κ Q U := by
  obtain ⟨⟨hx, hby, -⟩, vm0, k0, locs, X, -⟩ := w
  exact Go.via (st hx hby X.here) g
/-- the tables have moved by a resolution alone -/
theorem W.noted (w : W l Z a0 EL nw own bytes ml ret R κ T h M cells slots) (st : ∀ (s : State) (locs : List Loc), (kp κ).tables.exec = Jvm.exec → (kc κ).code = bytes → (kc κ).maxLocals = ml → Z.Warmed39 s.vm → s.vm.findClass own = some (km κ).cls → T.heap = h → Stand (kp κ) l (ke κ) R s (km κ) (ka κ) (kb κ) (kt κ) (kc κ) T locs cells slots →
      ∃ T', Stand (kp κ) l (ke κ) R s (km κ) (ka κ) (kb κ) (kt κ) (kc κ) T' locs cells slots ∧ T'.heap = h ∧ ∀ t, Steps (kp κ).tables (ke κ) (kb κ) (T'.setTop G) t → Steps (kp κ).tables (ke κ) (kb κ) U t)
    (g : ∀ T', W l Z a0 EL nw own bytes ml ret R κ T' h M cells slots → Go Z EL nw R κ Q (T'.setTop G)) : Go Z EL nw R κ Q U := by
  obtain ⟨hC, vm0, k0, locs, X, h1, h2, h3, h4, h5, h6, r⟩ := w
  obtain ⟨T', X', e', k⟩ := st ((ks κ).setVm vm0) locs hC.1 hC.2.1 hC.2.2.1 h2 h3 h6 X
  exact Go.via k (g T' ⟨hC, vm0, k0, locs, X', h1, h2, h3, h4, h5, e', r⟩)
theorem mem0 {x : Addr} {L : List Addr} : x ∈ x :: L := List.mem_cons_self ..
theorem memS {x y : Addr} {L : List Addr} (q : x ∈ L) : x ∈ y :: L := List.mem_cons_of_mem _ q
theorem memA {x : Addr} {L K : List Addr} (q : x ∈ K) : x ∈ L ++ K := List.mem_append_right _ q
theorem memB {x : Addr} {L K : List Addr} (q : x ∈ L) : x ∈ L ++ K := List.mem_append_left _ q
theorem keepE {h h' : Heap} (E : Ext h h') : Keep h h' [] := (Keep.refl h []).ext E
theorem neL {x a : Addr} {h : Heap} (q : x < h.size) (r : h.size ≤ a) : x ≠ a := Nat.ne_of_lt (Nat.lt_of_lt_of_le q r)
/-- something was made: an object or an array, as Ext says; its place may be written -/
theorem W.made (w : W l Z a0 EL nw own bytes ml ret R κ T h M cells slots) {k n : Nat} {P : Heap → Prop} (st : ∀ (s : State) (locs : List Loc), (kp κ).tables.exec = Jvm.exec → (kc κ).code = bytes → (kc κ).maxLocals = ml → Z.Warmed39 s.vm → s.vm.findClass own = some (km κ).cls → T.heap = h → Stand (kp κ) l (ke κ) R s (km κ) (ka κ) (kb κ) (kt κ) (kc κ) T locs cells slots →
      ∃ T' h', Stand (kp κ) l (ke κ) R s (km κ) (ka κ) (kb κ) (kt κ) (kc κ) T' locs (cells + k) (slots + n) ∧ T'.heap = h' ∧ Ext h h' ∧ h.size < h'.size ∧ P h' ∧ ∀ t, Steps (kp κ).tables (ke κ) (kb κ) (T'.setTop G) t → Steps (kp κ).tables (ke κ) (kb κ) U t)
    (g : ∀ T' h', W l Z a0 EL nw own bytes ml ret R κ T' h' (h.size :: M) (cells + k) (slots + n) → Keep h h' [] → P h' → Go Z EL nw R κ Q (T'.setTop G)) : Go Z EL nw R κ Q U := by
  obtain ⟨hC, vm0, k0, locs, X, h1, h2, h3, h4, h5, h6, h7, h8, h9, r⟩ := w
  obtain ⟨T', h', X', e', E, hlt, hP, k⟩ := st ((ks κ).setVm vm0) locs hC.1 hC.2.1 hC.2.2.1 h2 h3 h6 X
  refine Go.via k (g T' h' ⟨hC, vm0, k0, locs, X', h1, h2, h3, h4, Nat.le_trans h5 E.1, e', h7.trans (CHr.ext E h7.1), fun x hx => ?_, h9.ext E, r⟩ (keepE E) hP)
  rcases List.mem_cons.mp hx with rfl | hx
  · exact ⟨h9.1 ▸ h9.2.1, hlt, Safe.ext E h7.1 (Safe.new (Nat.le_refl _))⟩
  · obtain ⟨a, b, c⟩ := h8 x hx
    exact ⟨a, Nat.lt_of_lt_of_le b E.1, Safe.ext E h7.1 c⟩
/-- one place was written -/
theorem W.wrote (w : W l Z a0 EL nw own bytes ml ret R κ T h M cells slots) {a : Addr} (ha : a ∈ M) {sl : Nat} {v : Value} (st : ∀ (s : State) (locs : List Loc), (kp κ).tables.exec = Jvm.exec → (kc κ).code = bytes → (kc κ).maxLocals = ml → Z.Warmed39 s.vm → s.vm.findClass own = some (km κ).cls → T.heap = h → Stand (kp κ) l (ke κ) R s (km κ) (ka κ) (kb κ) (kt κ) (kc κ) T locs cells slots →
      ∃ T' h', Stand (kp κ) l (ke κ) R s (km κ) (ka κ) (kb κ) (kt κ) (kc κ) T' (locs ++ [⟨a, sl⟩]) cells slots ∧ T'.heap = h' ∧ Wr h h' a sl v ∧ ∀ t, Steps (kp κ).tables (ke κ) (kb κ) (T'.setTop G) t → Steps (kp κ).tables (ke κ) (kb κ) U t)
    (g : ∀ T' h', W l Z a0 EL nw own bytes ml ret R κ T' h' M cells slots → Wr h h' a sl v → Go Z EL nw R κ Q (T'.setTop G)) : Go Z EL nw R κ Q U := by
  obtain ⟨hC, vm0, k0, locs, X, h1, h2, h3, h4, h5, h6, h7, h8, h9, r⟩ := w
  obtain ⟨T', h', X', e', Wr', k⟩ := st ((ks κ).setVm vm0) locs hC.1 hC.2.1 hC.2.2.1 h2 h3 h6 X
  obtain ⟨a1, a2, a3⟩ := h8 a ha
  refine Go.via k (g T' h' ⟨hC, vm0, k0, _, X', Fr.snoc X' h1 a1, h2, h3, h4, by rw [Wr'.size]; exact h5, e', h7.trans (CHr.wr Wr' a3 h7.1), fun x hx => ?_, h9.wr Wr' a1, r⟩ Wr')
  obtain ⟨a, b, c⟩ := h8 x hx
  exact ⟨a, by rw [Wr'.size]; exact b, Safe.wr Wr' a3 h7.1 c⟩
/-- old places among ws were written, at once -/
theorem W.kept (w : W l Z a0 EL nw own bytes ml ret R κ T h M cells slots) {ws : List Addr} (hws : ∀ x ∈ ws, x ∈ M) {P : Heap → Prop} (st : ∀ (s : State) (locs : List Loc), (kp κ).tables.exec = Jvm.exec → (kc κ).code = bytes → (kc κ).maxLocals = ml → Z.Warmed39 s.vm → s.vm.findClass own = some (km κ).cls → T.heap = h → Fr Z.heap.size locs → Stand (kp κ) l (ke κ) R s (km κ) (ka κ) (kb κ) (kt κ) (kc κ) T locs cells slots →
      ∃ T' h' L, Stand (kp κ) l (ke κ) R s (km κ) (ka κ) (kb κ) (kt κ) (kc κ) T' L cells slots ∧ T'.heap = h' ∧ Fr Z.heap.size L ∧ Keep h h' ws ∧ P h' ∧ ∀ t, Steps (kp κ).tables (ke κ) (kb κ) (T'.setTop G) t → Steps (kp κ).tables (ke κ) (kb κ) U t)
    (g : ∀ T' h', W l Z a0 EL nw own bytes ml ret R κ T' h' M cells slots → Keep h h' ws → P h' → Go Z EL nw R κ Q (T'.setTop G)) : Go Z EL nw R κ Q U := by
  obtain ⟨hC, vm0, k0, locs, X, h1, h2, h3, h4, h5, h6, h7, h8, h9, r⟩ := w
  obtain ⟨T', h', L, X', e', N', K, hP, k⟩ := st ((ks κ).setVm vm0) locs hC.1 hC.2.1 hC.2.2.1 h2 h3 h6 h1 X
  have hs : ∀ x ∈ ws, Safe Z EL vm0 h x := fun x hx => (h8 x (hws x hx)).2.2
  refine Go.via k (g T' h' ⟨hC, vm0, k0, L, X', N', h2, h3, h4, Nat.le_trans h5 K.1, e', h7.trans (CHr.keep K hs h7.1), fun x hx => ?_, h9.keep K (fun x hx => (h8 x (hws x hx)).1), r⟩ K hP)
  obtain ⟨a, b, c⟩ := h8 x hx
  exact ⟨a, Nat.lt_of_lt_of_le b K.1, Safe.keep K hs h7.1 c⟩
/-- the walk leaves -/
theorem W.leave (w : W l Z a0 EL nw own bytes ml ret R κ T h M cells slots) {v : Option Value} (hv : ret = none → v = none) (hc : cells ≤ R.cells) (hs : slots ≤ R.slots) {M' : List Addr} (hM : ∀ x ∈ M', x ∈ M) (hq : Q v h M')
    (st : ∀ (s : State) (locs : List Loc) (fs : List Frame), (kp κ).tables.exec = Jvm.exec → (kc κ).code = bytes → (kt κ).sig.returnType = ret → Stand (kp κ) l (ke κ) R s (km κ) (ka κ) (kb κ) (kt κ) (kc κ) T locs cells slots →
      (∀ (f : JFrame) (acts : List Action), f.method = km κ → f.locked = none → f.entered = [] → (doReturn (ke κ) (T.setTop f) acts v).1 = T.setFrames fs) → Steps (kp κ).tables (ke κ) (kb κ) U (T.setFrames fs)) : Go Z EL nw R κ Q U := by
  obtain ⟨⟨hx, hby, hml, hret, hlk, hEL⟩, vm0, k0, locs, X, h1, h2, h3, h4, h5, h6, h7, h8, h9, h10⟩ := w
  obtain ⟨fs, l1, l2, l3, l4, l5⟩ := X.leave (v := v) (fun q => hv (hret.symm.trans q)) hlk
  have A := CHv.at X h2 hEL h7.1
  obtain ⟨b1, b2, b3⟩ := h4.ended (U := T.setFrames fs) l4 (by show k0 ≤ T.heap.size; rw [h6]; exact h5) l5
  refine ⟨T.setFrames fs, _, st _ locs fs hx hby hret X l1, l2, l3, v, locs, M', rfl, ?_, h1, ?_, ?_, ?_, ⟨⟨⟨_, rfl⟩, b1, b2, b3.mono hc hs⟩, fun q => ⟨⟨_, rfl⟩, State.WarmedH.trans (h10 q) l4, b3.mono hc hs⟩⟩⟩
  · show Q v T.heap M'
    rw [h6]; exact hq
  · show CHr Z EL (ks κ).vm (ks κ).heap T.vm T.heap
    rw [h6]; exact h7.trans A
  · intro x hx
    obtain ⟨a, b, c⟩ := h8 x (hM x hx)
    show Z.heap.size ≤ x ∧ x < T.heap.size ∧ Safe Z EL T.vm T.heap x
    rw [h6]; exact ⟨a, b, A.safe b c⟩
  · show Old Z Z.heap.size T.heap
    rw [h6]; exact h9
/-- entering a body -/
theorem of_body {y : MethodName} {rm : Room} {as : List Value} {h0 : Heap} (hp : plainFor y = true) (hEL : EW Z a0 EL) (hO : Old Z Z.heap.size h0) {Ls : Array Slot} (hent : ∀ m, entryFrame m as.toArray ml = mkF m 0 Ls [])
    (body : ∀ (κ : Ka) (T : State), W l Z a0 EL nw y.cls bytes ml ret rm κ T h0 M 0 0 → (kt κ).name = y.name → Go Z EL nw rm κ Q (T.setTop (mkF (km κ) 0 Ls []))) : Ctr l Z EL nw y bytes ml ret rm as h0 M Q := by
  refine MetFree.of_bodySF hp hisR ?_
  intro p e s m args below meth c s₁ Bd hml0 hP hK
  obtain ⟨rfl, hZ, hh, hCH, hMu⟩ := hP
  have X0 : Stand p l e rm s m as.toArray below meth c s₁ [] 0 0 := Stand.of_body Bd
  have e0 : s₁.heap = h0 := by rw [← hh, Bd.state]; rfl
  have hnm := (name_of_methodNamed Bd.named Bd.method).1
  have w : W l Z a0 EL nw y.cls bytes ml ret rm (p, e, s, m, below, meth, c, as.toArray) s₁ h0 M 0 0 :=
    ⟨⟨Bd.exec, Bd.bytes, hml0, Bd.returns, BodyLoose.notSynchronized Bd, hEL⟩, s.vm, 0, [], X0, Fr.nil _, hZ, findClass_of_methodNamed Bd.named, (State.WarmedH.refl s).since 0, Nat.zero_le _, e0, hh ▸ CHr.refl (hh ▸ hCH), hMu, hO, fun _ => State.WarmedH.refl s⟩
  have g := body _ s₁ w hnm
  rw [← hent] at g
  exact g
end Base
section Calls
variable {l : Launch} {Z : State} {a0 : Array Value} {EL : List (String × Nat)} {nw : Bool} {own : String} {bytes : ByteArray} {ml : Nat} {ret : Option FieldType} {R : Room} {κ : Ka} {T : State} {h : Heap} {M : List Addr} {cells slots : Nat} {Q : Option Value → Heap → List Addr → Prop} {U U' : State} {G : JFrame}
/-- who pays a call of y with the arguments as at the heap h -/
def Pay (l : Launch) (Z : State) (EL : List (String × Nat)) (nw : Bool) (y : MethodName) (len kf kl kn kw : Nat) (as : List Value) (h : Heap) (M : List Addr) (Q : Option Value → Heap → List Addr → Prop) : Prop :=
  ∀ (R : Room) (p : Program) (e : Env) (below : List Frame) (s : State) (vm0 : Vm) (args : Array Value) (Wd : Nat), Z.Warmed39 vm0 → CHv Z EL vm0 h → Mut Z EL vm0 h M → kf ≤ R.frames → Wd + kl ≤ R.locals →
    BackS l R p e below (s.setVm vm0) args y len Wd (fun P a => a = as.toArray ∧ P.U.heap = h ∧ P.cells + kn ≤ R.cells ∧ P.slots + kw ≤ R.slots)
      (fun P _ v B => ∃ L M', Q v B.U.heap M' ∧ Fr Z.heap.size L ∧ B.locs = P.locs ++ L ∧ B.cells = P.cells + kn ∧ B.slots = P.slots + kw ∧ CHr Z EL vm0 h B.U.vm B.U.heap ∧ Mut Z EL B.U.vm B.U.heap M' ∧ Old Z Z.heap.size B.U.heap ∧ (nw = true → (s.setVm vm0).WarmedH B.U.vm))
theorem Mut.at {vm0 vm1 : Vm} {h' : Heap} (C : CHr Z EL vm0 h vm1 h') (m : Mut Z EL vm0 h M) : Mut Z EL vm1 h' M := fun x hx => by
  obtain ⟨a, b, c⟩ := m x hx
  exact ⟨a, Nat.lt_of_lt_of_le b C.2.1, C.safe b c⟩
theorem Ctr.pay {y : MethodName} {rm : Room} {as : List Value} {len : Nat} (hM : Ctr l Z EL nw y bytes ml ret rm as h M Q) (hEL : EW Z a0 EL) (wc : (Cond.code y bytes ml ret).before a0 Z = true) (wz : (Cond.initialized y.cls).before a0 Z = true) {kf kl : Nat} (ekf : rm.frames + 1 ≤ kf) (ekl : ml + 11 + rm.locals ≤ kl) :
    Pay l Z EL nw y len kf kl rm.cells rm.slots as h M Q := by
  intro R p e below s vm0 args Wd hZ H hMu hf hl
  refine BackS.of_freeW (bytes := bytes) (maxL := ml) (ret := ret) (E := fun _ first o t L k n => k = rm.cells ∧ n = rm.slots ∧ ∃ v M', o = .returned v ∧ Q v t.heap M' ∧ Fr Z.heap.size L ∧ CHr Z EL first.vm first.heap t.vm t.heap ∧ Mut Z EL t.vm t.heap M' ∧ Old Z Z.heap.size t.heap ∧ (nw = true → first.WarmedH t.vm)) hM (Nat.le_trans ekf hf) (by show Wd + (ml + 11) + rm.locals ≤ R.locals; omega)
    (fun m meth c A a Y hp => have hU : Z.Warmed39 A.U.vm := wtrans (s := s.setVm vm0) hZ Y.warmed
      ⟨by show (Cond.and _ .tt).before a A.U = true; rw [Cond.before_and, mv hU wc]; rfl, mv hU wc, mv hU wz, hp.2.2.1, hp.2.2.2⟩)
    (fun m meth c A a g mk Y hp => ⟨hp.1, wtrans (s := s.setVm vm0) hZ Y.warmed, hp.2.1, (CHv.at Y hZ hEL H).1, (show Mut Z EL A.U.vm h M from hMu.at (CHv.at Y hZ hEL H))⟩) (fun _ _ _ _ _ _ _ _ _ => trivial)
    (fun _ _ _ _ ⟨v, L, M', h1, h2, h3, h4, h5, h6, h7⟩ => ⟨L, _, _, h7.1, rfl, rfl, v, M', h1, h2, h3, h4, h5, h6, fun q => (h7.2 q).2.1⟩)
    (fun m meth c A a g mk v t L k n Y hp _ _ ⟨e1, e2, v', M', e3, e4, e5, e6, e7, e8, e9⟩ => by
      cases e3; subst e1 e2
      refine ⟨L, M', e4, e5, rfl, rfl, rfl, (CHv.at Y hZ hEL H).trans ?_, e7, e8, fun q => State.WarmedH.trans Y.warmed (e9 q)⟩
      rw [← hp.2.1]; exact e6)
theorem Pay.of_back {y : MethodName} {as : List Value} {len kf kl kn kw : Nat} {Q' : Option Value → Heap → List Loc → Prop} {ws : List Addr} (hEL : EW Z a0 EL) (hO : Old Z Z.heap.size h)
    (hB : ∀ (R : Room) (p : Program) (e : Env) (below : List Frame) (s : State) (args : Array Value) (Wd : Nat), Z.Warmed39 s.vm → kf ≤ R.frames → Wd + kl ≤ R.locals →
      Back l R p e below s args y len Wd (fun P a => a = as.toArray ∧ P.U.heap = h ∧ P.cells + kn ≤ R.cells ∧ P.slots + kw ≤ R.slots) (fun P _ v B => ∃ L, Q' v B.U.heap L ∧ B.locs = P.locs ++ L ∧ B.cells = P.cells + kn ∧ B.slots = P.slots + kw))
    (hws : ∀ x ∈ ws, x ∈ M) (hQ : ∀ v h' L, Q' v h' L → Q v h' [] ∧ Fr Z.heap.size L ∧ Keep h h' ws) : Pay l Z EL nw y len kf kl kn kw as h M Q := by
  intro R p e below s vm0 args Wd hZ H hMu hf hl m meth c A g ig mk a X hg hsize hdg hW hn hp
  obtain ⟨v, B, X', ⟨L, q1, q2, q3, q4⟩, st⟩ := hB R p e below (s.setVm vm0) args Wd hZ hf hl m meth c A g ig mk a X hg hsize hdg hW hn hp
  obtain ⟨r1, r2, K⟩ := hQ _ _ _ q1
  have C1 := CHr.keep K (fun x hx => (hMu x (hws x hx)).2.2) H
  have C2 := C1.trans (CHv.at X' hZ hEL C1.1)
  refine ⟨v, B, X'.retabled X'.warmed.wide, X'.warmed.since _, by rw [hp.2.1]; exact K.1, ⟨L, [], r1, r2, q2, q3, q4, C2, (fun x hx => nomatch hx), hO.keep K (fun x hx => (hMu x (hws x hx)).1), fun _ => X'.warmed⟩, st⟩
/-- a call was made and paid -/
theorem W.called (w : W l Z a0 EL nw own bytes ml ret R κ T h M cells slots) {y : MethodName} {len kf kl kn kw : Nat} {as : List Value} {M0 : List Addr} {Qc : Option Value → Heap → List Addr → Prop} (P : Pay l Z EL nw y len kf kl kn kw as h M0 Qc) (hM0 : ∀ x ∈ M0, x ∈ M) {Wd : Nat} (hf : kf ≤ R.frames) (hlo : Wd + kl ≤ R.locals) (hcl : cells + kn ≤ R.cells) (hsl : slots + kw ≤ R.slots) {F : Option Value → JFrame}
    (st : ∀ (s : State) (locs : List Loc) (Post : Pt → Array Value → Option Value → Pt → Prop), (kp κ).tables.exec = Jvm.exec → (kc κ).code = bytes → (kc κ).maxLocals = ml → Z.Warmed39 s.vm → s.vm.findClass own = some (km κ).cls → T.heap = h → Stand (kp κ) l (ke κ) R s (km κ) (ka κ) (kb κ) (kt κ) (kc κ) T locs cells slots →
      BackS l R (kp κ) (ke κ) (kb κ) s (ka κ) y len Wd (fun P a => a = as.toArray ∧ P.U.heap = h ∧ P.cells + kn ≤ R.cells ∧ P.slots + kw ≤ R.slots) Post →
      ∃ (v : Option Value) (vm₁ : Vm) (B : Pt), s.WarmedH vm₁ ∧ Stand (kp κ) l (ke κ) R (s.setVm B.U.vm) (km κ) (ka κ) (kb κ) (kt κ) (kc κ) B.U B.locs B.cells B.slots ∧ s.Since B.U.vm B.U.heap.size ∧ T.heap.size ≤ B.U.heap.size ∧ Post ⟨T.setVm vm₁, locs, cells, slots⟩ as.toArray v B ∧ Steps (kp κ).tables (ke κ) (kb κ) U (B.U.setTop (F v)))
    (g : ∀ v T' h' M', W l Z a0 EL nw own bytes ml ret R κ T' h' (M' ++ M) (cells + kn) (slots + kw) → Qc v h' M' → Go Z EL nw R κ Q (T'.setTop (F v))) : Go Z EL nw R κ Q U := by
  obtain ⟨hC, vm0, k0, locs, X, h1, h2, h3, h4, h5, h6, h7, h8, h9, h10⟩ := w
  have hK := P R (kp κ) (ke κ) (kb κ) (ks κ) vm0 (ka κ) Wd h2 h7.1 (fun x hx => h8 x (hM0 x hx)) hf hlo
  obtain ⟨v, vm₁, ⟨T', L', c', n'⟩, hW, X', hS, hg, ⟨L, M', q1, q2, q3, q4, q5, q6, q7, q8, q9⟩, k⟩ := st ((ks κ).setVm vm0) locs _ hC.1 hC.2.1 hC.2.2.1 h2 h3 h6 X hK
  dsimp only [Pt.U, Pt.locs, Pt.cells, Pt.slots] at X' hS hg q1 q3 q4 q5 q6 q7 q8 q9 k
  subst q3 q4 q5
  refine Go.tr k (g v T' T'.heap M' ⟨hC, T'.vm, T'.heap.size, _, X', h1.app q2, State.Warmed39.trans (t := (ks κ).setVm vm0) h2 hS.1, ?_, h4.trans hS (by rw [← h6] at h5; exact Nat.le_trans h5 hg), Nat.le_refl _, rfl, h7.trans q6, fun x hx => ?_, q8, fun q => State.WarmedH.trans (h10 q) (q9 q)⟩ q1)
  · rw [hS.1.alike.findClass]; exact h3
  · rcases List.mem_append.mp hx with hx | hx
    · exact q7 x hx
    · exact (h8.at q6) x hx
theorem mr0 (m : MethodId) (pc : Nat) (Ls : Array Slot) (S : List Value) : (mkF m pc Ls S).monitorRoom = 0 := rfl
theorem W.callS (w : W l Z a0 EL nw own bytes ml ret R κ T h M cells slots) {index : Nat} {y : MethodName} {yb : ByteArray} {yl : Nat} {yr : Option FieldType} (w1 : (Cond.methodLink own index y).before a0 Z = true) (w2 : (Cond.static y).before a0 Z = true) (w3 : (Cond.initialized y.cls).before a0 Z = true) (w4 : (Cond.code y yb yl yr).before a0 Z = true)
    (hy : y.cls ≠ "java/lang/invoke/MethodHandle" ∧ y.cls ≠ "java/lang/invoke/VarHandle") {ps : List FieldType} {rt : Option FieldType} (hd : parseMethodDescriptor y.desc = some ⟨ps, rt⟩)
    {kf kl kn kw : Nat} {as : List Value} {M0 : List Addr} {Qc : Option Value → Heap → List Addr → Prop} (P : Pay l Z EL nw y 3 kf kl kn kw as h M0 Qc) (hM0 : ∀ x ∈ M0, x ∈ M) {pc pc' : Nat} {Ls : Array Slot} {S rest : List Value} (hdg : decode bytes pc = .ok (.invokestatic index, 3)) (hp : pc + 3 = pc') (hsz : Ls.size = ml) (hln : as.length = ps.length) (hst : S = as.reverse ++ rest)
    {Wd : Nat} (hwd : (rest.map fun v => v.category).sum = Wd) (hf : kf ≤ R.frames) (hlo : Wd + kl ≤ R.locals) (hcl : cells + kn ≤ R.cells) (hsl : slots + kw ≤ R.slots)
    (g : ∀ v T' h' M', W l Z a0 EL nw own bytes ml ret R κ T' h' (M' ++ M) (cells + kn) (slots + kw) → Qc v h' M' → Go Z EL nw R κ Q (T'.setTop (mkF (km κ) pc' Ls (v.toList ++ rest)))) : Go Z EL nw R κ Q (T.setTop (mkF (km κ) pc Ls S)) := by
  subst hp
  refine w.called P hM0 hf hlo hcl hsl (F := fun v => mkF (km κ) (pc + 3) Ls (v.toList ++ rest)) (fun s locs Post hx hby hml hZ hown eT X hK => ?_) g
  exact callSS X hx hown (mvT hZ w1) (mvT hZ w2) (mvT hZ w3) (mvT hZ w4) hy hK (g := mkF (km κ) pc Ls S) rfl (hsz.trans hml.symm) (lenOf hd hln) hst (by rw [mr0]; omega) (hb hby hdg) (fun vm₁ _ => ⟨rfl, eT, hcl, hsl⟩)
theorem W.callI (w : W l Z a0 EL nw own bytes ml ret R κ T h M cells slots) {index : Nat} {y : MethodName} {yb : ByteArray} {yl : Nat} (w1 : (Cond.methodLink own index y).before a0 Z = true) (w2 : (Cond.instanceMethod y).before a0 Z = true) (w4 : (Cond.code y yb yl none).before a0 Z = true) (hy1 : y.name = "<init>")
    (hy : y.cls ≠ "java/lang/invoke/MethodHandle" ∧ y.cls ≠ "java/lang/invoke/VarHandle") {ps : List FieldType} {rt : Option FieldType} (hd : parseMethodDescriptor y.desc = some ⟨ps, rt⟩)
    {kf kl kn kw : Nat} {a : Addr} {as : List Value} {M0 : List Addr} {Qc : Option Value → Heap → List Addr → Prop} (P : Pay l Z EL nw y 3 kf kl kn kw (.ref a :: as) h M0 Qc) (hM0 : ∀ x ∈ M0, x ∈ M) {pc pc' : Nat} {Ls : Array Slot} {S rest : List Value} (hdg : decode bytes pc = .ok (.invokespecial index, 3)) (hp : pc + 3 = pc') (hsz : Ls.size = ml) (hln : as.length = ps.length) (hst : S = as.reverse ++ .ref a :: rest)
    {Wd : Nat} (hwd : (rest.map fun v => v.category).sum = Wd) (hf : kf ≤ R.frames) (hlo : Wd + kl ≤ R.locals) (hcl : cells + kn ≤ R.cells) (hsl : slots + kw ≤ R.slots)
    (g : ∀ v T' h' M', W l Z a0 EL nw own bytes ml ret R κ T' h' (M' ++ M) (cells + kn) (slots + kw) → Qc v h' M' → Go Z EL nw R κ Q (T'.setTop (mkF (km κ) pc' Ls (v.toList ++ rest)))) : Go Z EL nw R κ Q (T.setTop (mkF (km κ) pc Ls S)) := by
  subst hp
  refine w.called P hM0 hf hlo hcl hsl (F := fun v => mkF (km κ) (pc + 3) Ls (v.toList ++ rest)) (fun s locs Post hx hby hml hZ hown eT X hK => ?_) g
  exact X.specialBackS hx hy1 hown (mvT hZ w1) (mvT hZ w2) (mvT hZ w4) hy hK (g := mkF (km κ) pc Ls S) rfl (hsz.trans hml.symm) (Steps.refl _) (lenOf hd hln) hst (by rw [mr0]; omega) (hb hby hdg) (fun vm₁ _ => ⟨rfl, eT, hcl, hsl⟩)
theorem W.callV (w : W l Z a0 EL nw own bytes ml ret R κ T h M cells slots) {index : Nat} {C : String} {y z : MethodName} (w1 : (Cond.methodLink own index y).before a0 Z = true) (w2 : (Cond.declares y).before a0 Z = true) (nf : ∀ (s : State), Z.Warmed39 s.vm → NotFace s y) (w3 : (Cond.selects C y z).before a0 Z = true) (w4 : (Cond.instanceMethod z).before a0 Z = true)
    (hy : y.cls ≠ "java/lang/invoke/MethodHandle" ∧ y.cls ≠ "java/lang/invoke/VarHandle") {ps : List FieldType} {rt : Option FieldType} (hd : parseMethodDescriptor y.desc = some ⟨ps, rt⟩) {a : Addr} (E : Exa Z h a C)
    {kf kl kn kw : Nat} {as : List Value} {M0 : List Addr} {Qc : Option Value → Heap → List Addr → Prop} (P : Pay l Z EL nw z 3 kf kl kn kw (.ref a :: as) h M0 Qc) (hM0 : ∀ x ∈ M0, x ∈ M) {pc pc' : Nat} {Ls : Array Slot} {S rest : List Value} (hdg : decode bytes pc = .ok (.invokevirtual index, 3)) (hp : pc + 3 = pc') (hsz : Ls.size = ml) (hln : as.length = ps.length) (hst : S = as.reverse ++ .ref a :: rest)
    {Wd : Nat} (hwd : (rest.map fun v => v.category).sum = Wd) (hf : kf ≤ R.frames) (hlo : Wd + kl ≤ R.locals) (hcl : cells + kn ≤ R.cells) (hsl : slots + kw ≤ R.slots)
    (g : ∀ v T' h' M', W l Z a0 EL nw own bytes ml ret R κ T' h' (M' ++ M) (cells + kn) (slots + kw) → Qc v h' M' → Go Z EL nw R κ Q (T'.setTop (mkF (km κ) pc' Ls (v.toList ++ rest)))) : Go Z EL nw R κ Q (T.setTop (mkF (km κ) pc Ls S)) := by
  subst hp
  refine w.called P hM0 hf hlo hcl hsl (F := fun v => mkF (km κ) (pc + 3) Ls (v.toList ++ rest)) (fun s locs Post hx hby hml hZ hown eT X hK => ?_) g
  obtain ⟨cB, kB, q1, q2, q3⟩ := isOf hZ eT E
  exact X.virtualBackS hx hown (mvT hZ w1) (mvT hZ w2) (nf s hZ) (mvT hZ w3) (mvT hZ w4) hy hK q1 q3 (g := mkF (km κ) pc Ls S) rfl (hsz.trans hml.symm) (Steps.refl _) (lenOf hd hln) hst (by rw [mr0]; omega) (hb hby hdg) (fun vm₁ _ => ⟨rfl, eT, hcl, hsl⟩)
theorem W.callU (w : W l Z a0 EL nw own bytes ml ret R κ T h M cells slots) {index : Nat} {K : String} {y : MethodName} {yb : ByteArray} {yl : Nat} {yr : Option FieldType} (w1 : (Cond.methodLink own index y).before a0 Z = true) (w2 : (Cond.sameMethod y.cls y.cls y.name y.desc).before a0 Z = true) (w3 : (Cond.instanceMethod y).before a0 Z = true) (w4 : (Cond.superclass own y.cls).before a0 Z = true) (w5 : (Cond.code y yb yl yr).before a0 Z = true) (hn : y.name ≠ "<init>")
    {ps : List FieldType} {rt : Option FieldType} (hd : parseMethodDescriptor y.desc = some ⟨ps, rt⟩) {a : Addr} (F : Ins Z h a K true)
    {kf kl kn kw : Nat} {as : List Value} {M0 : List Addr} {Qc : Option Value → Heap → List Addr → Prop} (P : Pay l Z EL nw y 3 kf kl kn kw (.ref a :: as) h M0 Qc) (hM0 : ∀ x ∈ M0, x ∈ M) {pc pc' : Nat} {Ls : Array Slot} {S rest : List Value} (hdg : decode bytes pc = .ok (.invokespecial index, 3)) (hp : pc + 3 = pc') (hsz : Ls.size = ml) (hln : as.length = ps.length) (hst : S = as.reverse ++ .ref a :: rest)
    {Wd : Nat} (hwd : (rest.map fun v => v.category).sum = Wd) (hf : kf ≤ R.frames) (hlo : Wd + kl ≤ R.locals) (hcl : cells + kn ≤ R.cells) (hsl : slots + kw ≤ R.slots)
    (g : ∀ v T' h' M', W l Z a0 EL nw own bytes ml ret R κ T' h' (M' ++ M) (cells + kn) (slots + kw) → Qc v h' M' → Go Z EL nw R κ Q (T'.setTop (mkF (km κ) pc' Ls (v.toList ++ rest)))) : Go Z EL nw R κ Q (T.setTop (mkF (km κ) pc Ls S)) := by
  subst hp
  refine w.called P hM0 hf hlo hcl hsl (F := fun v => mkF (km κ) (pc + 3) Ls (v.toList ++ rest)) (fun s locs Post hx hby hml hZ hown eT X hK => ?_) g
  exact superBackS X hx hZ hown w1 w2 w3 w4 hn hK eT F (g := mkF (km κ) pc Ls S) rfl (hsz.trans hml.symm) w5 (lenOf hd hln) hst (by rw [mr0]; omega) (hb hby hdg) (fun vm₁ _ => ⟨rfl, eT, hcl, hsl⟩)
theorem W.callF (w : W l Z a0 EL nw own bytes ml ret R κ T h M cells slots) {index count : Nat} {C : String} {y z : MethodName} (w1 : (Cond.methodLink own index y).before a0 Z = true) (w2 : (Cond.declares y).before a0 Z = true) (w3 : (Cond.interfaceMethod y.cls y.cls y.name y.desc).before a0 Z = true) (w4 : (Cond.selects C y z).before a0 Z = true) (w5 : (Cond.instanceMethod z).before a0 Z = true)
    (w6 : (Cond.publicMethod z).before a0 Z = true) (w7 : (Cond.unhidden C y.name y.desc).before a0 Z = true) (w8 : (Cond.castable C y.cls).before a0 Z = true) (k3 : ((Cond.interfaceMethod y.cls y.cls y.name y.desc).onTables && (Cond.interfaceMethod y.cls y.cls y.name y.desc).keepsFace) = true)
    (hy : y.cls ≠ "java/lang/invoke/MethodHandle" ∧ y.cls ≠ "java/lang/invoke/VarHandle") {ps : List FieldType} {rt : Option FieldType} (hd : parseMethodDescriptor y.desc = some ⟨ps, rt⟩) {a : Addr} (E : Exa Z h a C)
    {kf kl kn kw : Nat} {as : List Value} {M0 : List Addr} {Qc : Option Value → Heap → List Addr → Prop} (P : Pay l Z EL nw z 5 kf kl kn kw (.ref a :: as) h M0 Qc) (hM0 : ∀ x ∈ M0, x ∈ M) {pc pc' : Nat} {Ls : Array Slot} {S rest : List Value} (hdg : decode bytes pc = .ok (.invokeinterface index count, 5)) (hp : pc + 5 = pc') (hsz : Ls.size = ml) (hln : as.length = ps.length) (hst : S = as.reverse ++ .ref a :: rest)
    {Wd : Nat} (hwd : (rest.map fun v => v.category).sum = Wd) (hf : kf ≤ R.frames) (hlo : Wd + kl ≤ R.locals) (hcl : cells + kn ≤ R.cells) (hsl : slots + kw ≤ R.slots)
    (g : ∀ v T' h' M', W l Z a0 EL nw own bytes ml ret R κ T' h' (M' ++ M) (cells + kn) (slots + kw) → Qc v h' M' → Go Z EL nw R κ Q (T'.setTop (mkF (km κ) pc' Ls (v.toList ++ rest)))) : Go Z EL nw R κ Q (T.setTop (mkF (km κ) pc Ls S)) := by
  subst hp
  refine w.called P hM0 hf hlo hcl hsl (F := fun v => mkF (km κ) (pc + 5) Ls (v.toList ++ rest)) (fun s locs Post hx hby hml hZ hown eT X hK => ?_) g
  obtain ⟨cB, kB, q1, q2, q3⟩ := isOf hZ eT E
  exact X.interfaceBackS hx hown (mvT hZ w1) (mvT hZ w2) (mvT hZ w3 k3) (mvT hZ w4) (mvT hZ w5) (mvT hZ w6) (mvT hZ w7) (mvT hZ w8) hy hK q1 q2 q3 (g := mkF (km κ) pc Ls S) rfl (hsz.trans hml.symm) (Steps.refl _) (lenOf hd hln) hst (by rw [mr0]; omega) (hb hby hdg) (fun vm₁ _ => ⟨rfl, eT, hcl, hsl⟩)
/-- a private method is declared too -/
theorem decl_of {y : MethodName} {yb : ByteArray} {yl : Nat} {yr : Option FieldType} (w1 : (Cond.instanceMethod y).before a0 Z = true) (w2 : (Cond.code y yb yl yr).before a0 Z = true) : (Cond.declares y).before a0 Z = true := by
  obtain ⟨m, meth, h1, h2, h3, -⟩ := Cond.instanceMethod_spec w1
  obtain ⟨meth', c, q1, -, -, -, -, -, -, hsig⟩ := Cond.code_spec h1 w2
  cases h2.symm.trans q1
  simp [Cond.before, Cond.holds, Cond.value, h1, h2, h3, hsig]
/-- the lookup from a class finds what the class declares itself -/
theorem sm_of {C : String} {y y' : MethodName} (w1 : (Cond.declares y).before a0 Z = true) (w2 : (Cond.selects C y' y').before a0 Z = true) (hc : y'.cls = y.cls) (hy : y.cls ≠ "java/lang/invoke/MethodHandle" ∧ y.cls ≠ "java/lang/invoke/VarHandle") : (Cond.sameMethod y.cls y.cls y.name y.desc).before a0 Z = true := by
  obtain ⟨m, meth, h1, h2, -, -⟩ := Cond.declares_spec w1
  obtain ⟨c2, r2, m2, q1, q2, q3, q4, kP, hkP, hkPi⟩ := Cond.selects_spec w2
  have hf := State.methodFound?_of_named h1 hy
  have hc1 := findClass_of_methodNamed h1
  have hc2 := findClass_of_methodNamed q3
  rw [hc] at hc2
  have e : m2.cls = m.cls := Option.some.inj (hc2.symm.trans hc1)
  rw [e] at hkP
  have h1' : Z.methodNamed? ⟨y.cls, y.name, y.desc⟩ = some m := h1
  simp [Cond.before, Cond.holds, Cond.value, hc1, hf, h1', hkP, hkPi]
theorem nfSel {C : String} {y : MethodName} (w : (Cond.selects C y y).before a0 Z = true) : ∀ (s : State), Z.Warmed39 s.vm → NotFace s y := fun s hZ => notFace_of_selects (args := #[]) (mvT hZ w)
theorem nfCls {C : String} {y y' : MethodName} (w : (Cond.selects C y' y').before a0 Z = true) (hc : y'.cls = y.cls) : ∀ (s : State), Z.Warmed39 s.vm → NotFace s y := fun s hZ r0 h0 => by
  obtain ⟨c2, r2, m2, q1, q2, q3, q4, kP, hkP, hkPi⟩ := Cond.selects_spec (mvT (args := #[]) hZ w)
  have a := findClass_of_methodNamed h0
  have b := findClass_of_methodNamed q3
  rw [hc] at b
  have e : m2.cls = r0.cls := Option.some.inj (b.symm.trans a)
  rw [e] at hkP
  exact ⟨kP, hkP, hkPi⟩
theorem nfSup {S : String} {y : MethodName} (w : (Cond.superclass y.cls S).before a0 Z = true) : ∀ (s : State), Z.Warmed39 s.vm → NotFace s y := fun s hZ => nf_super (args := #[]) (mvT hZ w)
end Calls
section Heap1
variable {l : Launch} {Z : State} {a0 : Array Value} {EL : List (String × Nat)} {nw : Bool} {own : String} {bytes : ByteArray} {ml : Nat} {ret : Option FieldType} {R : Room} {κ : Ka} {T : State} {h : Heap} {M : List Addr} {cells slots : Nat} {Q : Option Value → Heap → List Addr → Prop} {pc pc' : Nat} {Ls : Array Slot} {S rest : List Value}
theorem W.newO (w : W l Z a0 EL nw own bytes ml ret R κ T h M cells slots) {index n : Nat} {C : String} (w1 : (Cond.classLink own index C).before a0 Z = true) (w2 : (Cond.instantiable C n).before a0 Z = true) (w3 : (Cond.initialized C).before a0 Z = true) (hd : decode bytes pc = .ok (.new index, 3)) (hp : pc + 3 = pc') (hc : cells + 1 ≤ R.cells) (hs : slots + n ≤ R.slots)
    (g : ∀ T' h' a, W l Z a0 EL nw own bytes ml ret R κ T' h' (a :: M) (cells + 1) (slots + n) → Keep h h' [] → h.size ≤ a → Exa Z h' a C → (∀ {O nm d : String} {ty : FieldType}, Laid Z a0 C O nm d → parseFieldDescriptor d = some ty → Fld Z h' a O nm d (defaultValue ty)) → Go Z EL nw R κ Q (T'.setTop (mkF (km κ) pc' Ls (.ref a :: S)))) : Go Z EL nw R κ Q (T.setTop (mkF (km κ) pc Ls S)) := by
  subst hp
  refine w.made (k := 1) (n := n) (P := fun h' => Exa Z h' h.size C ∧ (∀ {O nm d : String} {ty : FieldType}, Laid Z a0 C O nm d → parseFieldDescriptor d = some ty → Fld Z h' h.size O nm d (defaultValue ty))) (G := mkF (km κ) (pc + 3) Ls (.ref h.size :: S)) (fun s locs hx hby hml hZ hown eT X => ?_) (fun T' h' w' K hP => g T' h' _ w' K (Nat.le_refl _) hP.1 hP.2)
  obtain ⟨T', h', X', e', E, A, D, -, st⟩ := RoadKit.newO X hx hZ hown w1 w2 w3 eT (g := mkF (km κ) pc Ls S) rfl (hb hby hd) hc hs
  exact ⟨T', h', X', e', E, A.lt, ⟨A, D⟩, st⟩
theorem W.newP (w : W l Z a0 EL nw own bytes ml ret R κ T h M cells slots) {aty : ArrayType} {ty : FieldType} (hty : newarray.typeOf aty = ty) (w1 : (Cond.arrayClass ty).before a0 Z = true) {n : Int32} (hd : decode bytes pc = .ok (.newarray aty, 2)) (hp : pc + 2 = pc') (hn : ¬ n < 0) {cap : Nat} (hcap : n.toNatClampNeg = cap) (hbig : cap ≤ 67108864) (hc : cells + 1 ≤ R.cells) (hs : slots + cap ≤ R.slots)
    (g : ∀ T' h' a k, W l Z a0 EL nw own bytes ml ret R κ T' h' (a :: M) (cells + 1) (slots + cap) → Keep h h' [] → h.size ≤ a → Arv Z h' a k ty n (List.replicate cap (defaultValue ty)) (defaultValue ty) → Go Z EL nw R κ Q (T'.setTop (mkF (km κ) pc' Ls (.ref a :: S)))) : Go Z EL nw R κ Q (T.setTop (mkF (km κ) pc Ls (.int n :: S))) := by
  subst hp hty
  refine w.made (k := 1) (n := cap) (P := fun h' => ∃ k, Arv Z h' h.size k (newarray.typeOf aty) n (List.replicate cap (defaultValue (newarray.typeOf aty))) (defaultValue (newarray.typeOf aty))) (G := mkF (km κ) (pc + 2) Ls (.ref h.size :: S)) (fun s locs hx hby hml hZ hown eT X => ?_) (fun T' h' w' K hP => g T' h' _ _ w' K (Nat.le_refl _) hP.choose_spec)
  obtain ⟨T', h', k, X', e', E, A, st⟩ := RoadKit.newP X hx hZ w1 eT (g := mkF (km κ) pc Ls (.int n :: S)) rfl (hb hby hd) rfl hn (cap := cap) (Nat.le_of_eq hcap) (by omega) hc hs
  exact ⟨T', h', X', e', E, A.lt, ⟨k, (Arv.new A hn).pad (pad_rep [] (defaultValue (newarray.typeOf aty)) cap)⟩, st⟩
theorem W.newPB (w : W l Z a0 EL nw own bytes ml ret R κ T h M cells slots) {aty : ArrayType} {ty : FieldType} (hty : newarray.typeOf aty = ty) (w1 : (Cond.arrayClass ty).before a0 Z = true) {n : Int32} (hd : decode bytes pc = .ok (.newarray aty, 2)) (hp : pc + 2 = pc') (hn : ¬ n < 0) {len cap : Nat} (hlen : n.toNatClampNeg = len) (hcap : len ≤ cap) (hbig : cap ≤ 67108864) (hc : cells + 1 ≤ R.cells) (hs : slots + cap ≤ R.slots)
    (g : ∀ T' h' a k, W l Z a0 EL nw own bytes ml ret R κ T' h' (a :: M) (cells + 1) (slots + cap) → Keep h h' [] → h.size ≤ a → Arv Z h' a k ty n (List.replicate len (defaultValue ty)) (defaultValue ty) → Go Z EL nw R κ Q (T'.setTop (mkF (km κ) pc' Ls (.ref a :: S)))) : Go Z EL nw R κ Q (T.setTop (mkF (km κ) pc Ls (.int n :: S))) := by
  subst hp hty
  refine w.made (k := 1) (n := cap) (P := fun h' => ∃ k, Arv Z h' h.size k (newarray.typeOf aty) n (List.replicate len (defaultValue (newarray.typeOf aty))) (defaultValue (newarray.typeOf aty))) (G := mkF (km κ) (pc + 2) Ls (.ref h.size :: S)) (fun s locs hx hby hml hZ hown eT X => ?_) (fun T' h' w' K hP => g T' h' _ _ w' K (Nat.le_refl _) hP.choose_spec)
  obtain ⟨T', h', k, X', e', E, A, st⟩ := RoadKit.newP X hx hZ w1 eT (g := mkF (km κ) pc Ls (.int n :: S)) rfl (hb hby hd) rfl hn (cap := cap) (by omega) (by omega) hc hs
  exact ⟨T', h', X', e', E, A.lt, ⟨k, (Arv.new A hn).pad (pad_rep [] (defaultValue (newarray.typeOf aty)) len)⟩, st⟩
theorem W.getF (w : W l Z a0 EL nw own bytes ml ret R κ T h M cells slots) {R0 O n d host : String} {index : Nat} (w1 : (Cond.fieldLink own index R0 n d).before a0 Z = true ∨ (Cond.fieldLinkNest own index R0 n d host).before a0 Z = true) (via : Via Z R0 O n d) {a : Addr} {v : Value} (F : Fld Z h a O n d v) (hd : decode bytes pc = .ok (.getfield index, 3)) (hp : pc + 3 = pc')
    (g : ∀ T', W l Z a0 EL nw own bytes ml ret R κ T' h M cells slots → Go Z EL nw R κ Q (T'.setTop (mkF (km κ) pc' Ls (v :: S)))) : Go Z EL nw R κ Q (T.setTop (mkF (km κ) pc Ls (.ref a :: S))) := by
  subst hp
  exact w.noted (G := mkF (km κ) (pc + 3) Ls (v :: S)) (fun s locs hx hby hml hZ hown eT X => RoadKit.getF X hx hZ hown w1 via eT F (g := mkF (km κ) pc Ls (.ref a :: S)) rfl rfl (hb hby hd)) g
theorem W.getS (w : W l Z a0 EL nw own bytes ml ret R κ T h M cells slots) {R0 O n d : String} {index : Nat} (w1 : (Cond.fieldLink own index R0 n d).before a0 Z = true) (via : Via Z R0 O n d) {v : Value} (F : Sta Z h O n d v) (hd : decode bytes pc = .ok (.getstatic index, 3)) (hp : pc + 3 = pc')
    (g : ∀ T', W l Z a0 EL nw own bytes ml ret R κ T' h M cells slots → Go Z EL nw R κ Q (T'.setTop (mkF (km κ) pc' Ls (v :: S)))) : Go Z EL nw R κ Q (T.setTop (mkF (km κ) pc Ls S)) := by
  subst hp
  exact w.noted (G := mkF (km κ) (pc + 3) Ls (v :: S)) (fun s locs hx hby hml hZ hown eT X => RoadKit.getS (host := "") X hx hZ hown w1 via eT F (g := mkF (km κ) pc Ls S) rfl (hb hby hd)) g
theorem W.putF (w : W l Z a0 EL nw own bytes ml ret R κ T h M cells slots) {R0 O n d host C : String} {index kk : Nat} {ty : FieldType} (w1 : (Cond.fieldLink own index R0 n d).before a0 Z = true ∨ (Cond.fieldLinkNest own index R0 n d host).before a0 Z = true) (via : Via Z R0 O n d) {a : Addr} {v old : Value} (F : Fld Z h a O n d old) (E : Exa Z h a C)
    (L : (Cond.lays C O n d).before a0 Z = true ∨ ((Cond.laysFinal C O n d).before a0 Z = true ∧ own = O ∧ (kt κ).name = "<init>")) (wi : (Cond.instantiable C kk).before a0 Z = true) (hty : parseFieldDescriptor d = some ty) (hn : narrow ty v = v) (hf : fits ty v = true) (ha : a ∈ M) (hd : decode bytes pc = .ok (.putfield index, 3)) (hp : pc + 3 = pc')
    (g : ∀ T' h', W l Z a0 EL nw own bytes ml ret R κ T' h' M cells slots → Wr h h' a (RoadKit.slotOf Z O n d) v → Go Z EL nw R κ Q (T'.setTop (mkF (km κ) pc' Ls S))) : Go Z EL nw R κ Q (T.setTop (mkF (km κ) pc Ls (v :: .ref a :: S))) := by
  subst hp
  exact w.wrote ha (G := mkF (km κ) (pc + 3) Ls S) (fun s locs hx hby hml hZ hown eT X => RoadKit.putF X hx hZ hown w1 via eT F E L wi hty hn hf (g := mkF (km κ) pc Ls (v :: .ref a :: S)) rfl rfl (hb hby hd)) g
theorem W.putFN (w : W l Z a0 EL nw own bytes ml ret R κ T h M cells slots) {R0 O n d C : String} {index kk : Nat} {ty : FieldType} (w1 : (Cond.fieldLink own index R0 n d).before a0 Z = true) (via : Via Z R0 O n d) {a : Addr} {v v' old : Value} (F : Fld Z h a O n d old) (E : Exa Z h a C)
    (L : (Cond.lays C O n d).before a0 Z = true ∨ ((Cond.laysFinal C O n d).before a0 Z = true ∧ own = O ∧ (kt κ).name = "<init>")) (wi : (Cond.instantiable C kk).before a0 Z = true) (hty : parseFieldDescriptor d = some ty) (hn : narrow ty v = v') (hf : fits ty v' = true) (ha : a ∈ M) (hd : decode bytes pc = .ok (.putfield index, 3)) (hp : pc + 3 = pc')
    (g : ∀ T' h', W l Z a0 EL nw own bytes ml ret R κ T' h' M cells slots → Wr h h' a (RoadKit.slotOf Z O n d) v' → Go Z EL nw R κ Q (T'.setTop (mkF (km κ) pc' Ls S))) : Go Z EL nw R κ Q (T.setTop (mkF (km κ) pc Ls (v :: .ref a :: S))) := by
  subst hp
  exact w.wrote ha (G := mkF (km κ) (pc + 3) Ls S) (fun s locs hx hby hml hZ hown eT X => RoadKit.putFN X hx hZ hown w1 via eT F E L wi hty hn hf (g := mkF (km κ) pc Ls (v :: .ref a :: S)) rfl rfl (hb hby hd)) g
theorem W.stC (w : W l Z a0 EL nw own bytes ml ret R κ T h M cells slots) {a : Addr} {k : ClassId} {z j x x' : Int32} (hn : nar .char x = x') {vs : List Value} {dv : Value} (V : Arv Z h a k .char z vs dv) {i : Nat} (hj : j.toNatClampNeg = i) (hj0 : ¬ j < 0 ∧ j < z) (hi : i < vs.length) (ha : a ∈ M) (hd : decode bytes pc = .ok (.castore, 1)) (hp : pc + 1 = pc')
    (g : ∀ T' h', W l Z a0 EL nw own bytes ml ret R κ T' h' M cells slots → Keep h h' [a] → Arv Z h' a k .char z (vs.set i (.int x')) dv → Go Z EL nw R κ Q (T'.setTop (mkF (km κ) pc' Ls S))) : Go Z EL nw R κ Q (T.setTop (mkF (km κ) pc Ls (.int x :: .int j :: .ref a :: S))) := by
  subst hp hn
  obtain ⟨c, A, q, Sz, N, H, Gf⟩ := V
  exact w.wrote ha (G := mkF (km κ) (pc + 1) Ls S) (fun s locs hx hby hml hZ hown eT X => RoadKit.stC X hx hZ eT A (inb_of Sz hj0) (g := mkF (km κ) pc Ls (.int x :: .int j :: .ref a :: S)) rfl rfl (hb hby hd)) (fun T' h' w' W' => g T' h' w' (Keep.of_wr W') (Arv.set A q Sz N H Gf (fits_nar_char _) W' i hj hi))
theorem W.stB (w : W l Z a0 EL nw own bytes ml ret R κ T h M cells slots) {a : Addr} {k : ClassId} {z j x x' : Int32} (hn : nar .byte x = x') {vs : List Value} {dv : Value} (V : Arv Z h a k .byte z vs dv) {i : Nat} (hj : j.toNatClampNeg = i) (hj0 : ¬ j < 0 ∧ j < z) (hi : i < vs.length) (ha : a ∈ M) (hd : decode bytes pc = .ok (.bastore, 1)) (hp : pc + 1 = pc')
    (g : ∀ T' h', W l Z a0 EL nw own bytes ml ret R κ T' h' M cells slots → Keep h h' [a] → Arv Z h' a k .byte z (vs.set i (.int x')) dv → Go Z EL nw R κ Q (T'.setTop (mkF (km κ) pc' Ls S))) : Go Z EL nw R κ Q (T.setTop (mkF (km κ) pc Ls (.int x :: .int j :: .ref a :: S))) := by
  subst hp hn
  obtain ⟨c, A, q, Sz, N, H, Gf⟩ := V
  exact w.wrote ha (G := mkF (km κ) (pc + 1) Ls S) (fun s locs hx hby hml hZ hown eT X => RoadKit.stB X hx hZ eT A (inb_of Sz hj0) (g := mkF (km κ) pc Ls (.int x :: .int j :: .ref a :: S)) rfl rfl (hb hby hd)) (fun T' h' w' W' => g T' h' w' (Keep.of_wr W') (Arv.set A q Sz N H Gf (fits_nar_byte _) W' i hj hi))
theorem W.stI (w : W l Z a0 EL nw own bytes ml ret R κ T h M cells slots) {a : Addr} {k : ClassId} {z j x : Int32} {vs : List Value} {dv : Value} (V : Arv Z h a k .int z vs dv) {i : Nat} (hj : j.toNatClampNeg = i) (hj0 : ¬ j < 0 ∧ j < z) (hi : i < vs.length) (ha : a ∈ M) (hd : decode bytes pc = .ok (.iastore, 1)) (hp : pc + 1 = pc')
    (g : ∀ T' h', W l Z a0 EL nw own bytes ml ret R κ T' h' M cells slots → Keep h h' [a] → Arv Z h' a k .int z (vs.set i (.int x)) dv → Go Z EL nw R κ Q (T'.setTop (mkF (km κ) pc' Ls S))) : Go Z EL nw R κ Q (T.setTop (mkF (km κ) pc Ls (.int x :: .int j :: .ref a :: S))) := by
  subst hp
  obtain ⟨c, A, q, Sz, N, H, Gf⟩ := V
  exact w.wrote ha (G := mkF (km κ) (pc + 1) Ls S) (fun s locs hx hby hml hZ hown eT X => RoadKit.stI X hx hZ eT A (inb_of Sz hj0) (g := mkF (km κ) pc Ls (.int x :: .int j :: .ref a :: S)) rfl rfl (hb hby hd)) (fun T' h' w' W' => g T' h' w' (Keep.of_wr W') (Arv.set A q Sz N H Gf rfl W' i hj hi))
theorem W.stJ (w : W l Z a0 EL nw own bytes ml ret R κ T h M cells slots) {a : Addr} {k : ClassId} {z j : Int32} {x : Int64} {vs : List Value} {dv : Value} (V : Arv Z h a k .long z vs dv) {i : Nat} (hj : j.toNatClampNeg = i) (hj0 : ¬ j < 0 ∧ j < z) (hi : i < vs.length) (ha : a ∈ M) (hd : decode bytes pc = .ok (.lastore, 1)) (hp : pc + 1 = pc')
    (g : ∀ T' h', W l Z a0 EL nw own bytes ml ret R κ T' h' M cells slots → Keep h h' [a] → Arv Z h' a k .long z (vs.set i (.long x)) dv → Go Z EL nw R κ Q (T'.setTop (mkF (km κ) pc' Ls S))) : Go Z EL nw R κ Q (T.setTop (mkF (km κ) pc Ls (.long x :: .int j :: .ref a :: S))) := by
  subst hp
  obtain ⟨c, A, q, Sz, N, H, Gf⟩ := V
  exact w.wrote ha (G := mkF (km κ) (pc + 1) Ls S) (fun s locs hx hby hml hZ hown eT X => RoadKit.stJ X hx hZ eT A (inb_of Sz hj0) (g := mkF (km κ) pc Ls (.long x :: .int j :: .ref a :: S)) rfl rfl (hb hby hd)) (fun T' h' w' W' => g T' h' w' (Keep.of_wr W') (Arv.set A q Sz N H Gf rfl W' i hj hi))
theorem W.alen (w : W l Z a0 EL nw own bytes ml ret R κ T h M cells slots) {a : Addr} {k : ClassId} {ty : FieldType} {z : Int32} {vs : List Value} {dv : Value} (V : Arv Z h a k ty z vs dv) (hd : decode bytes pc = .ok (.arraylength, 1)) (hp : pc + 1 = pc') (g : Go Z EL nw R κ Q (T.setTop (mkF (km κ) pc' Ls (.int z :: S)))) : Go Z EL nw R κ Q (T.setTop (mkF (km κ) pc Ls (.ref a :: S))) := by
  subst hp
  obtain ⟨c, A, q, Sz, N, H, Gf⟩ := V
  obtain ⟨⟨hx, hby, -⟩, vm0, k0, locs, X, -, h2, -, -, -, h6, -⟩ := w
  refine Go.via (X.arraylength hx (by rw [h6]; exact A.1) (State.isArrayOf_alike (T := (ks κ).setVm vm0) h2.alike A.2.1) (g := mkF (km κ) pc Ls (.ref a :: S)) rfl rfl (hb hby hd)) ?_
  rw [len_of Sz N]; exact g
theorem W.ldC (w : W l Z a0 EL nw own bytes ml ret R κ T h M cells slots) {a : Addr} {k : ClassId} {z j : Int32} {vs : List Value} {dv v : Value} (V : Arv Z h a k .char z vs dv) (hj0 : ¬ j < 0 ∧ j < z) (hv : vs.getD j.toNatClampNeg dv = v) (hd : decode bytes pc = .ok (.caload, 1)) (hp : pc + 1 = pc') (g : Go Z EL nw R κ Q (T.setTop (mkF (km κ) pc' Ls (v :: S)))) : Go Z EL nw R κ Q (T.setTop (mkF (km κ) pc Ls (.int j :: .ref a :: S))) := by
  subst hp
  obtain ⟨c, A, q, Sz, N, H, Gf⟩ := V
  obtain ⟨⟨hx, hby, -⟩, vm0, k0, locs, X, -, h2, -, -, -, h6, -⟩ := w
  exact Go.via (X.caload hx (by rw [h6]; exact A.1) (State.isArrayOf_alike (T := (ks κ).setVm vm0) h2.alike A.2.1) A.2.2 (inb_of Sz hj0) (H.at (inb_of Sz hj0) hv) (g := mkF (km κ) pc Ls (.int j :: .ref a :: S)) rfl rfl (hb hby hd)) g
theorem W.ldB (w : W l Z a0 EL nw own bytes ml ret R κ T h M cells slots) {a : Addr} {k : ClassId} {z j : Int32} {vs : List Value} {dv v : Value} (V : Arv Z h a k .byte z vs dv) (hj0 : ¬ j < 0 ∧ j < z) (hv : vs.getD j.toNatClampNeg dv = v) (hd : decode bytes pc = .ok (.baload, 1)) (hp : pc + 1 = pc') (g : Go Z EL nw R κ Q (T.setTop (mkF (km κ) pc' Ls (v :: S)))) : Go Z EL nw R κ Q (T.setTop (mkF (km κ) pc Ls (.int j :: .ref a :: S))) := by
  subst hp
  obtain ⟨c, A, q, Sz, N, H, Gf⟩ := V
  obtain ⟨⟨hx, hby, -⟩, vm0, k0, locs, X, -, h2, -, -, -, h6, -⟩ := w
  exact Go.via (X.baloadBytes hx (by rw [h6]; exact A.1) (State.isArrayOf_alike (T := (ks κ).setVm vm0) h2.alike A.2.1) A.2.2 (inb_of Sz hj0) (H.at (inb_of Sz hj0) hv) (g := mkF (km κ) pc Ls (.int j :: .ref a :: S)) rfl rfl (hb hby hd)) g
theorem W.ldI (w : W l Z a0 EL nw own bytes ml ret R κ T h M cells slots) {a : Addr} {k : ClassId} {z j : Int32} {vs : List Value} {dv v : Value} (V : Arv Z h a k .int z vs dv) (hj0 : ¬ j < 0 ∧ j < z) (hv : vs.getD j.toNatClampNeg dv = v) (hd : decode bytes pc = .ok (.iaload, 1)) (hp : pc + 1 = pc') (g : Go Z EL nw R κ Q (T.setTop (mkF (km κ) pc' Ls (v :: S)))) : Go Z EL nw R κ Q (T.setTop (mkF (km κ) pc Ls (.int j :: .ref a :: S))) := by
  subst hp
  obtain ⟨c, A, q, Sz, N, H, Gf⟩ := V
  obtain ⟨⟨hx, hby, -⟩, vm0, k0, locs, X, -, h2, -, -, -, h6, -⟩ := w
  exact Go.via (X.iaload hx (by rw [h6]; exact A.1) (State.isArrayOf_alike (T := (ks κ).setVm vm0) h2.alike A.2.1) A.2.2 (inb_of Sz hj0) (H.at (inb_of Sz hj0) hv) (g := mkF (km κ) pc Ls (.int j :: .ref a :: S)) rfl rfl (hb hby hd)) g
theorem W.ldJ (w : W l Z a0 EL nw own bytes ml ret R κ T h M cells slots) {a : Addr} {k : ClassId} {z j : Int32} {vs : List Value} {dv v : Value} (V : Arv Z h a k .long z vs dv) (hj0 : ¬ j < 0 ∧ j < z) (hv : vs.getD j.toNatClampNeg dv = v) (hd : decode bytes pc = .ok (.laload, 1)) (hp : pc + 1 = pc') (g : Go Z EL nw R κ Q (T.setTop (mkF (km κ) pc' Ls (v :: S)))) : Go Z EL nw R κ Q (T.setTop (mkF (km κ) pc Ls (.int j :: .ref a :: S))) := by
  subst hp
  obtain ⟨c, A, q, Sz, N, H, Gf⟩ := V
  obtain ⟨⟨hx, hby, -⟩, vm0, k0, locs, X, -, h2, -, -, -, h6, -⟩ := w
  exact Go.via (X.laload hx (by rw [h6]; exact A.1) (State.isArrayOf_alike (T := (ks κ).setVm vm0) h2.alike A.2.1) A.2.2 (inb_of Sz hj0) (H.at (inb_of Sz hj0) hv) (g := mkF (km κ) pc Ls (.int j :: .ref a :: S)) rfl rfl (hb hby hd)) g
theorem W.ldA (w : W l Z a0 EL nw own bytes ml ret R κ T h M cells slots) {a : Addr} {k : ClassId} {ty : FieldType} {z j : Int32} {vs : List Value} {dv v : Value} (V : Arv Z h a k ty z vs dv) (hty : ty.isReference = true) (hj0 : ¬ j < 0 ∧ j < z) (hv : vs.getD j.toNatClampNeg dv = v) (hd : decode bytes pc = .ok (.aaload, 1)) (hp : pc + 1 = pc') (g : Go Z EL nw R κ Q (T.setTop (mkF (km κ) pc' Ls (v :: S)))) : Go Z EL nw R κ Q (T.setTop (mkF (km κ) pc Ls (.int j :: .ref a :: S))) := by
  subst hp
  obtain ⟨c, A, q, Sz, N, H, Gf⟩ := V
  obtain ⟨⟨hx, hby, -⟩, vm0, k0, locs, X, -, h2, -, -, -, h6, -⟩ := w
  exact Go.via (X.aaload hx (by rw [h6]; exact A.1) (State.isArrayOf_alike (T := (ks κ).setVm vm0) h2.alike A.2.1) hty A.2.2 (inb_of Sz hj0) (H.at (inb_of Sz hj0) hv) (g := mkF (km κ) pc Ls (.int j :: .ref a :: S)) rfl rfl (hb hby hd)) g
theorem W.ldcI (w : W l Z a0 EL nw own bytes ml ret R κ T h M cells slots) {index : Nat} {v : Int32} (w1 : (Cond.constant own index v).before a0 Z = true) (hd : decode bytes pc = .ok (.ldc index, 2)) (hp : pc + 2 = pc') (g : Go Z EL nw R κ Q (T.setTop (mkF (km κ) pc' Ls (.int v :: S)))) : Go Z EL nw R κ Q (T.setTop (mkF (km κ) pc Ls S)) := by
  subst hp
  obtain ⟨⟨hx, hby, -⟩, vm0, k0, locs, X, -, h2, h3, -⟩ := w
  exact Go.via (X.ldcInt hx h3 (mvT (s := (ks κ).setVm vm0) h2 w1) (g := mkF (km κ) pc Ls S) rfl (hb hby hd)) g
theorem W.ldcJ (w : W l Z a0 EL nw own bytes ml ret R κ T h M cells slots) {index : Nat} {v : Int64} (w1 : (Cond.constantLong own index v).before a0 Z = true) (hd : decode bytes pc = .ok (.ldc2_w index, 3)) (hp : pc + 3 = pc') (g : Go Z EL nw R κ Q (T.setTop (mkF (km κ) pc' Ls (.long v :: S)))) : Go Z EL nw R κ Q (T.setTop (mkF (km κ) pc Ls S)) := by
  subst hp
  obtain ⟨⟨hx, hby, -⟩, vm0, k0, locs, X, -, h2, h3, -⟩ := w
  exact Go.via (X.ldc2Long hx h3 (mvT (s := (ks κ).setVm vm0) h2 w1) (g := mkF (km κ) pc Ls S) rfl (hb hby hd)) g
theorem W.initO (w : W l Z a0 EL nw own bytes ml ret R κ T h M cells slots) {index : Nat} (w1 : (Cond.methodLink own index Lib.objectInit).before a0 Z = true) (w2 : (Cond.instanceMethod Lib.objectInit).before a0 Z = true) (w3 : (Cond.code Lib.objectInit ⟨#[0xb1]⟩ 1 none).before a0 Z = true) {a : Addr} (hd : decode bytes pc = .ok (.invokespecial index, 3)) (hp : pc + 3 = pc') (hsz : Ls.size = ml) (hf : 1 ≤ R.frames) {Wd : Nat} (hwd : (S.map fun v => v.category).sum = Wd) (hlo : Wd + 12 ≤ R.locals)
    (g : ∀ T', W l Z a0 EL nw own bytes ml ret R κ T' h M cells slots → Go Z EL nw R κ Q (T'.setTop (mkF (km κ) pc' Ls S))) : Go Z EL nw R κ Q (T.setTop (mkF (km κ) pc Ls (.ref a :: S))) := by
  subst hp
  exact w.noted (G := mkF (km κ) (pc + 3) Ls S) (fun s locs hx hby hml hZ hown eT X => RoadKit.initO X hx hZ hown w1 w2 w3 eT (g := mkF (km κ) pc Ls (.ref a :: S)) rfl (hsz.trans hml.symm) rfl (hb hby hd) hf (W := Wd) (by rw [mr0]; omega) hlo) g
theorem W.cast (w : W l Z a0 EL nw own bytes ml ret R κ T h M cells slots) {index : Nat} {K : String} (w1 : (Cond.classLink own index K).before a0 Z = true) {a : Addr} (F : Ins Z h a K true) (hd : decode bytes pc = .ok (.checkcast index, 3)) (hp : pc + 3 = pc')
    (g : ∀ T', W l Z a0 EL nw own bytes ml ret R κ T' h M cells slots → Go Z EL nw R κ Q (T'.setTop (mkF (km κ) pc' Ls (.ref a :: S)))) : Go Z EL nw R κ Q (T.setTop (mkF (km κ) pc Ls (.ref a :: S))) := by
  subst hp
  exact w.noted (G := mkF (km κ) (pc + 3) Ls (.ref a :: S)) (fun s locs hx hby hml hZ hown eT X => RoadKit.castY X hx hZ hown w1 eT F (g := mkF (km κ) pc Ls (.ref a :: S)) rfl rfl (hb hby hd)) g
theorem W.inst (w : W l Z a0 EL nw own bytes ml ret R κ T h M cells slots) {index : Nat} {K : String} (w1 : (Cond.classLink own index K).before a0 Z = true) {a : Addr} (F : Ins Z h a K true) (hd : decode bytes pc = .ok (.instanceof index, 3)) (hp : pc + 3 = pc')
    (g : ∀ T', W l Z a0 EL nw own bytes ml ret R κ T' h M cells slots → Go Z EL nw R κ Q (T'.setTop (mkF (km κ) pc' Ls (.int 1 :: S)))) : Go Z EL nw R κ Q (T.setTop (mkF (km κ) pc Ls (.ref a :: S))) := by
  subst hp
  exact w.noted (G := mkF (km κ) (pc + 3) Ls (.int 1 :: S)) (fun s locs hx hby hml hZ hown eT X => RoadKit.instY X hx hZ hown w1 eT F (g := mkF (km κ) pc Ls (.ref a :: S)) rfl rfl (hb hby hd)) g
theorem W.retI (w : W l Z a0 EL nw own bytes ml ret R κ T h M cells slots) {z : Int32} (hr : ret = some .int) (hd : decode bytes pc = .ok (.ireturn, 1)) {M' : List Addr} (hM : ∀ x ∈ M', x ∈ M) (hc : cells ≤ R.cells) (hs : slots ≤ R.slots) (hq : Q (some (.int z)) h M') : Go Z EL nw R κ Q (T.setTop (mkF (km κ) pc Ls (.int z :: S))) :=
  w.leave (fun q => by rw [hr] at q; cases q) hc hs hM hq (fun s locs fs hx hby hret X hl => retOut X hx (hret.trans hr) rfl (Or.inl ⟨rfl, Or.inl rfl, _, rfl⟩) (hb hby hd) hl)
theorem W.retN (w : W l Z a0 EL nw own bytes ml ret R κ T h M cells slots) {z z' : Int32} {t : FieldType} (hr : ret = some t) (hn : nar t z = z') (ht : t = .boolean ∨ t = .byte ∨ t = .char ∨ t = .short) (hd : decode bytes pc = .ok (.ireturn, 1)) {M' : List Addr} (hM : ∀ x ∈ M', x ∈ M) (hc : cells ≤ R.cells) (hs : slots ≤ R.slots) (hq : Q (some (.int z')) h M') : Go Z EL nw R κ Q (T.setTop (mkF (km κ) pc Ls (.int z :: S))) := by
  subst hn
  exact w.leave (fun q => by rw [hr] at q; cases q) hc hs hM hq (fun s locs fs hx hby hret X hl => RoadKit.retN X hx (hret.trans hr) ht (hb hby hd) hl)
theorem W.retJ (w : W l Z a0 EL nw own bytes ml ret R κ T h M cells slots) {z : Int64} (hr : ret = some .long) (hd : decode bytes pc = .ok (.lreturn, 1)) {M' : List Addr} (hM : ∀ x ∈ M', x ∈ M) (hc : cells ≤ R.cells) (hs : slots ≤ R.slots) (hq : Q (some (.long z)) h M') : Go Z EL nw R κ Q (T.setTop (mkF (km κ) pc Ls (.long z :: S))) :=
  w.leave (fun q => by rw [hr] at q; cases q) hc hs hM hq (fun s locs fs hx hby hret X hl => retOut X hx (hret.trans hr) rfl (Or.inr (Or.inl ⟨rfl, rfl, _, rfl⟩)) (hb hby hd) hl)
theorem nar_ref {t : FieldType} {v : Value} (ht : t.isReference = true) (hv : v.isRef = true) : narrow t v = v := by rcases ref_cases hv with rfl | ⟨a, rfl⟩ <;> cases t <;> first | rfl | (simp [FieldType.isReference] at ht)
theorem W.retR (w : W l Z a0 EL nw own bytes ml ret R κ T h M cells slots) {v : Value} {t : FieldType} (hr : ret = some t) (ht : t.isReference = true) (hv : v.isRef = true) (hd : decode bytes pc = .ok (.areturn, 1)) {M' : List Addr} (hM : ∀ x ∈ M', x ∈ M) (hc : cells ≤ R.cells) (hs : slots ≤ R.slots) (hq : Q (some v) h M') : Go Z EL nw R κ Q (T.setTop (mkF (km κ) pc Ls (v :: S))) :=
  w.leave (fun q => by rw [hr] at q; cases q) hc hs hM hq (fun s locs fs hx hby hret X hl => retOut X hx (hret.trans hr) (nar_ref ht hv) (Or.inr (Or.inr (Or.inr (Or.inr ⟨rfl, ht, hv⟩)))) (hb hby hd) hl)
theorem W.ret0 (w : W l Z a0 EL nw own bytes ml ret R κ T h M cells slots) (hr : ret = none) (hd : decode bytes pc = .ok (.return_, 1)) {M' : List Addr} (hM : ∀ x ∈ M', x ∈ M) (hc : cells ≤ R.cells) (hs : slots ≤ R.slots) (hq : Q none h M') : Go Z EL nw R κ Q (T.setTop (mkF (km κ) pc Ls [])) :=
  w.leave (fun _ => rfl) hc hs hM hq (fun s locs fs hx hby hret X hl => X.returnOut hx (hret.trans hr) (hb hby hd) hl)
theorem W.ldcS (w : W l Z a0 EL nw own bytes ml ret R κ T h M cells slots) (hnw : nw = false) {index : Nat} {text : String} (w1 : (Cond.stringLink own index text).before a0 Z = true) (wS : ∀ a ∈ Bundle.stringAtoms, a.before a0 Z = true) (hmem : (own, index) ∈ EL) {vs : List Value} {z : Int32}
    (ht : (∀ c ∈ text.toList, c.toNat < 256) ∧ text.toList.map (fun c => Value.int (Jvm.Lit.byteI c.toNat.toUInt16)) = vs) (hz : ¬ z < 0) (hl : z.toNatClampNeg = vs.length) (hd : decode bytes pc = .ok (.ldc index, 2)) (hp : pc + 2 = pc') {n : Nat} (hn : 4 * text.toList.length ≤ n) (hbig : n ≤ 536870912) (hc : cells + 2 ≤ R.cells) (hs : slots + (n + 4) ≤ R.slots)
    (g : ∀ T' h' a b k, W l Z a0 EL nw own bytes ml ret R κ T' h' M (cells + 2) (slots + (n + 4)) → Keep h h' [] → Exa Z h' a "java/lang/String" → Fld Z h' a "java/lang/String" "coder" "B" (.int 0) → Fld Z h' a "java/lang/String" "value" "[B" (.ref b) → Arv Z h' b k .byte z vs (.int 0) → (∀ x ∈ M, x ≠ a ∧ x ≠ b) → Go Z EL nw R κ Q (T'.setTop (mkF (km κ) pc' Ls (.ref a :: S)))) : Go Z EL nw R κ Q (T.setTop (mkF (km κ) pc Ls S)) := by
  subst hp
  obtain ⟨hC, vm0, k0, locs, X, h1, h2, h3, h4, h5, h6, h7, h8, h9, h10⟩ := w
  obtain ⟨a, T', h', k1, b, k, X', e', E, hS', hk', hZ', hown', q1, q2, q3, q4, -, -, q7, -, q9, st⟩ := ldcCH X hC.1 h2 h3 w1 wS h6 h4 h5 hC.2.2.2.2.2 hmem h7.1 ht hz hl (g := mkF (km κ) pc Ls S) rfl (hb hC.2.1 hd) hn hbig hc hs
  have hM' := h8.at q7
  exact Go.via st (g T' h' a b k ⟨hC, T'.vm, k1, locs, X', h1, hZ', hown', hS', hk', e', h7.trans q7, hM', h9.ext E, fun q => by rw [hnw] at q; cases q⟩ (keepE E) q1 q2 q3 q4 (fun x hx => q9 x (hM' x hx).2.2))
theorem W.copy (w : W l Z a0 EL nw own bytes ml ret R κ T h M cells slots) {index : Nat} (w1 : (Cond.methodLink own index Jvm.Stand.acN).before a0 Z = true) (w2 : (Cond.native Jvm.Stand.acN).before a0 Z = true) (w3 : (Cond.static Jvm.Stand.acN).before a0 Z = true) (w4 : (Cond.initialized "java/lang/System").before a0 Z = true)
    {a b : Addr} {k k' : ClassId} {ty : FieldType} {z z' sp dp nn : Int32} {vs vd us : List Value} {dv dd : Value} (A : Arv Z h a k ty z vs dv) (B : Arv Z h b k' ty z' vd dd) (hty : refKind ty = false) (h1 : ¬ sp < 0) (h2 : ¬ dp < 0) (h3 : ¬ nn < 0) (h4 : sp.toNatClampNeg + nn.toNatClampNeg ≤ z.toNatClampNeg) (h5 : dp.toNatClampNeg + nn.toNatClampNeg ≤ z'.toNatClampNeg)
    (hus : vd.take dp.toNatClampNeg ++ ((List.range nn.toNatClampNeg).map fun i => vs.getD (sp.toNatClampNeg + i) dv) ++ vd.drop (dp.toNatClampNeg + nn.toNatClampNeg) = us) (hl : dp.toNatClampNeg + nn.toNatClampNeg ≤ vd.length) (hb' : b ∈ M) (hd : decode bytes pc = .ok (.invokestatic index, 3)) (hp : pc + 3 = pc') (hsz : Ls.size = ml) (hf : 1 ≤ R.frames) {Wd : Nat} (hwd : (S.map fun v => v.category).sum = Wd) (hlo : Wd + (nativeFrameWords "java/lang/System" "arraycopy" 5 + 11) ≤ R.locals)
    (g : ∀ T' h', W l Z a0 EL nw own bytes ml ret R κ T' h' M cells slots → Keep h h' [b] → Arv Z h' b k' ty z' us dd → Go Z EL nw R κ Q (T'.setTop (mkF (km κ) pc' Ls S))) : Go Z EL nw R κ Q (T.setTop (mkF (km κ) pc Ls (.int nn :: .int dp :: .ref b :: .int sp :: .ref a :: S))) := by
  subst hp hus
  refine w.kept (ws := [b]) (fun x hx => by rw [List.mem_singleton.mp hx]; exact hb') (G := mkF (km κ) (pc + 3) Ls S) (P := fun h' => Arv Z h' b k' ty z' _ dd) (fun s locs hx hby hml hZ hown eT N X => ?_) g
  obtain ⟨T', h', L, X', e', N', K, A', st⟩ := RoadKit.cpA X hx hZ hown w1 w2 w3 w4 eT A B (Or.inl ⟨rfl, hty⟩) h1 h2 h3 h4 h5 rfl hl N (w.mut hb').1 (g := mkF (km κ) pc Ls (.int nn :: .int dp :: .ref b :: .int sp :: .ref a :: S)) rfl (hsz.trans hml.symm) rfl (hb hby hd) hf (W := Wd) (by rw [mr0]; omega) hlo
  exact ⟨T', h', L, X', e', N', K, A', st⟩
theorem W.copyN (w : W l Z a0 EL nw own bytes ml ret R κ T h M cells slots) {index : Nat} (w1 : (Cond.methodLink own index Jvm.Stand.acN).before a0 Z = true) (w2 : (Cond.native Jvm.Stand.acN).before a0 Z = true) (w3 : (Cond.static Jvm.Stand.acN).before a0 Z = true) (w4 : (Cond.initialized "java/lang/System").before a0 Z = true)
    {a b : Addr} {k k' : ClassId} {ty : FieldType} {z z' sp dp nn : Int32} {vs vd us : List Value} {dv dd : Value} (A : Arv Z h a k ty z vs dv) (B : Arv Z h b k' ty z' vd dd) (hty : refKind ty = false) {a' b' n' L1 L2 : Nat} (h1 : ¬ sp < 0 ∧ sp.toNatClampNeg = a') (h2 : ¬ dp < 0 ∧ dp.toNatClampNeg = b') (h3 : ¬ nn < 0 ∧ nn.toNatClampNeg = n') (hz : z.toNatClampNeg = L1) (hz' : z'.toNatClampNeg = L2) (h4 : a' + n' ≤ L1) (h5 : b' + n' ≤ L2)
    (hus : vd.take b' ++ ((List.range n').map fun i => vs.getD (a' + i) dv) ++ vd.drop (b' + n') = us) (hl : b' + n' ≤ vd.length) (hb' : b ∈ M) (hd : decode bytes pc = .ok (.invokestatic index, 3)) (hp : pc + 3 = pc') (hsz : Ls.size = ml) (hf : 1 ≤ R.frames) {Wd : Nat} (hwd : (S.map fun v => v.category).sum = Wd) (hlo : Wd + 18 ≤ R.locals)
    (g : ∀ T' h', W l Z a0 EL nw own bytes ml ret R κ T' h' M cells slots → Keep h h' [b] → Arv Z h' b k' ty z' us dd → Go Z EL nw R κ Q (T'.setTop (mkF (km κ) pc' Ls S))) : Go Z EL nw R κ Q (T.setTop (mkF (km κ) pc Ls (.int nn :: .int dp :: .ref b :: .int sp :: .ref a :: S))) := by
  obtain ⟨g1, rfl⟩ := h1
  obtain ⟨g2, rfl⟩ := h2
  obtain ⟨g3, rfl⟩ := h3
  subst hz hz'
  exact w.copy w1 w2 w3 w4 A B hty g1 g2 g3 h4 h5 hus hl hb' hd hp hsz hf hwd (by have e : nativeFrameWords "java/lang/System" "arraycopy" 5 = 7 := (by decide); omega) g
theorem W.clone (w : W l Z a0 EL nw own bytes ml ret R κ T h M cells slots) {index : Nat} {ad : String} (w1 : (Cond.methodLink own index ⟨ad, "clone", "()Ljava/lang/Object;"⟩).before a0 Z = true) (w2 : (Cond.sameMethod ad "java/lang/Object" "clone" "()Ljava/lang/Object;").before a0 Z = true) (w3 : (Cond.native ⟨"java/lang/Object", "clone", "()Ljava/lang/Object;"⟩).before a0 Z = true)
    (w4 : (Cond.instanceMethod ⟨"java/lang/Object", "clone", "()Ljava/lang/Object;"⟩).before a0 Z = true) (w5 : (Cond.selects ad ⟨ad, "clone", "()Ljava/lang/Object;"⟩ ⟨"java/lang/Object", "clone", "()Ljava/lang/Object;"⟩).before a0 Z = true) (w6 : (Cond.castable ad "java/lang/Cloneable").before a0 Z = true)
    {a : Addr} {k : ClassId} {ty : FieldType} {z : Int32} {vs : List Value} {dv : Value} (F : Arv Z h a k ty z vs dv) (E : Exa Z h a ad) (hd : decode bytes pc = .ok (.invokevirtual index, 3)) (hp : pc + 3 = pc') (hsz : Ls.size = ml) (hf : 1 ≤ R.frames) {Wd cap : Nat} (hwd : (S.map fun v => v.category).sum = Wd) (hlo : Wd + 14 ≤ R.locals) (hcap : z.toNatClampNeg ≤ cap) (hc : cells + 1 ≤ R.cells) (hs : slots + cap ≤ R.slots)
    (g : ∀ T' h' b, W l Z a0 EL nw own bytes ml ret R κ T' h' (b :: M) (cells + 1) (slots + cap) → Keep h h' [] → h.size ≤ b → Arv Z h' b k ty z vs dv → Exa Z h' b ad → Go Z EL nw R κ Q (T'.setTop (mkF (km κ) pc' Ls (.ref b :: S)))) : Go Z EL nw R κ Q (T.setTop (mkF (km κ) pc Ls (.ref a :: S))) := by
  subst hp
  refine w.made (k := 1) (n := cap) (P := fun h' => Arv Z h' h.size k ty z vs dv ∧ Exa Z h' h.size ad) (G := mkF (km κ) (pc + 3) Ls (.ref h.size :: S)) (fun s locs hx hby hml hZ hown eT X => ?_) (fun T' h' w' K hP => g T' h' _ w' K (Nat.le_refl _) hP.1 hP.2)
  obtain ⟨T', h', X', e', Ex, A, E', st⟩ := cloneH X hx hZ hown w1 w2 w3 w4 w5 w6 eT F.arh E (g := mkF (km κ) pc Ls (.ref a :: S)) rfl (hsz.trans hml.symm) rfl (hb hby hd) hf (W := Wd) (by rw [mr0]; omega) hlo hcap hc hs
  exact ⟨T', h', X', e', Ex, E'.lt, ⟨A, E'⟩, st⟩
theorem mN {M : List Addr} : ∀ x ∈ ([] : List Addr), x ∈ M := fun _ q => nomatch q
theorem mC {a : Addr} {L M : List Addr} (q : a ∈ M) (r : ∀ x ∈ L, x ∈ M) : ∀ x ∈ a :: L, x ∈ M := fun x z => (List.mem_cons.mp z).elim (fun u => u ▸ q) (r x)
end Heap1
section Pure
variable {l : Launch} {Z : State} {a0 : Array Value} {EL : List (String × Nat)} {nw : Bool} {own : String} {bytes : ByteArray} {ml : Nat} {ret : Option FieldType} {R : Room} {κ : Ka} {T : State} {h : Heap} {M : List Addr} {cells slots : Nat} {Q : Option Value → Heap → List Addr → Prop} {pc pc' : Nat} {Ls Ls' : Array Slot} {S : List Value}
theorem W.iloadN (w : W l Z a0 EL nw own bytes ml ret R κ T h M cells slots) {k : Fin 4} {v : Int32} (hd : decode bytes pc = .ok (.iload_n k, 1)) (hp : pc + 1 = pc') (hl : Ls[k.val]? = some (.val (.int v)))
    (g : Go Z EL nw R κ Q (T.setTop (mkF (km κ) pc' Ls (.int v :: S)))) : Go Z EL nw R κ Q (T.setTop (mkF (km κ) pc Ls (S))) := by
  subst hp
  exact w.pure (fun hx hby H t k => XS.iloadN H hx rfl (g := mkF (km κ) pc Ls (S)) (hb hby hd) hl k) g
theorem W.iload (w : W l Z a0 EL nw own bytes ml ret R κ T h M cells slots) {k : Nat} {v : Int32} (hd : decode bytes pc = .ok (.iload k, 2)) (hp : pc + 2 = pc') (hl : Ls[k]? = some (.val (.int v)))
    (g : Go Z EL nw R κ Q (T.setTop (mkF (km κ) pc' Ls (.int v :: S)))) : Go Z EL nw R κ Q (T.setTop (mkF (km κ) pc Ls (S))) := by
  subst hp
  exact w.pure (fun hx hby H t k => XS.iload H hx rfl (g := mkF (km κ) pc Ls (S)) (hb hby hd) hl k) g
theorem W.lloadN (w : W l Z a0 EL nw own bytes ml ret R κ T h M cells slots) {k : Fin 4} {v : Int64} (hd : decode bytes pc = .ok (.lload_n k, 1)) (hp : pc + 1 = pc') (hl : Ls[k.val]? = some (.val (.long v)))
    (g : Go Z EL nw R κ Q (T.setTop (mkF (km κ) pc' Ls (.long v :: S)))) : Go Z EL nw R κ Q (T.setTop (mkF (km κ) pc Ls (S))) := by
  subst hp
  exact w.pure (fun hx hby H t k => XT.lloadN H hx rfl (g := mkF (km κ) pc Ls (S)) (hb hby hd) hl k) g
theorem W.lload (w : W l Z a0 EL nw own bytes ml ret R κ T h M cells slots) {k : Nat} {v : Int64} (hd : decode bytes pc = .ok (.lload k, 2)) (hp : pc + 2 = pc') (hl : Ls[k]? = some (.val (.long v)))
    (g : Go Z EL nw R κ Q (T.setTop (mkF (km κ) pc' Ls (.long v :: S)))) : Go Z EL nw R κ Q (T.setTop (mkF (km κ) pc Ls (S))) := by
  subst hp
  exact w.pure (fun hx hby H t k => XT.lload H hx rfl (g := mkF (km κ) pc Ls (S)) (hb hby hd) hl k) g
theorem W.aloadN (w : W l Z a0 EL nw own bytes ml ret R κ T h M cells slots) {k : Fin 4} {v : Value} (hd : decode bytes pc = .ok (.aload_n k, 1)) (hp : pc + 1 = pc') (hl : Ls[k.val]? = some (.val v)) (hv : v.isRef = true)
    (g : Go Z EL nw R κ Q (T.setTop (mkF (km κ) pc' Ls (v :: S)))) : Go Z EL nw R κ Q (T.setTop (mkF (km κ) pc Ls (S))) := by
  subst hp
  exact w.pure (fun hx hby H t k => XS.aloadN H hx rfl (g := mkF (km κ) pc Ls (S)) (hb hby hd) hl hv k) g
theorem W.aload (w : W l Z a0 EL nw own bytes ml ret R κ T h M cells slots) {k : Nat} {v : Value} (hd : decode bytes pc = .ok (.aload k, 2)) (hp : pc + 2 = pc') (hl : Ls[k]? = some (.val v)) (hv : v.isRef = true)
    (g : Go Z EL nw R κ Q (T.setTop (mkF (km κ) pc' Ls (v :: S)))) : Go Z EL nw R κ Q (T.setTop (mkF (km κ) pc Ls (S))) := by
  subst hp
  exact w.pure (fun hx hby H t k => XS.aload H hx rfl (g := mkF (km κ) pc Ls (S)) (hb hby hd) hl hv k) g
theorem W.istoreN (w : W l Z a0 EL nw own bytes ml ret R κ T h M cells slots) {k : Fin 4} {x : Int32} (hd : decode bytes pc = .ok (.istore_n k, 1)) (hp : pc + 1 = pc') (hl : storeLocals Ls k.val (.int x) = some Ls')
    (g : Go Z EL nw R κ Q (T.setTop (mkF (km κ) pc' Ls' (S)))) : Go Z EL nw R κ Q (T.setTop (mkF (km κ) pc Ls (.int x :: S))) := by
  subst hp
  exact w.pure (fun hx hby H t k => XS.istoreN H hx rfl (g := mkF (km κ) pc Ls (.int x :: S)) (hb hby hd) rfl hl k) g
theorem W.istore (w : W l Z a0 EL nw own bytes ml ret R κ T h M cells slots) {k : Nat} {x : Int32} (hd : decode bytes pc = .ok (.istore k, 2)) (hp : pc + 2 = pc') (hl : storeLocals Ls k (.int x) = some Ls')
    (g : Go Z EL nw R κ Q (T.setTop (mkF (km κ) pc' Ls' (S)))) : Go Z EL nw R κ Q (T.setTop (mkF (km κ) pc Ls (.int x :: S))) := by
  subst hp
  exact w.pure (fun hx hby H t k => XS.istore H hx rfl (g := mkF (km κ) pc Ls (.int x :: S)) (hb hby hd) rfl hl k) g
theorem W.lstoreN (w : W l Z a0 EL nw own bytes ml ret R κ T h M cells slots) {k : Fin 4} {x : Int64} (hd : decode bytes pc = .ok (.lstore_n k, 1)) (hp : pc + 1 = pc') (hl : storeLocals Ls k.val (.long x) = some Ls')
    (g : Go Z EL nw R κ Q (T.setTop (mkF (km κ) pc' Ls' (S)))) : Go Z EL nw R κ Q (T.setTop (mkF (km κ) pc Ls (.long x :: S))) := by
  subst hp
  exact w.pure (fun hx hby H t k => XT.lstoreN H hx rfl (g := mkF (km κ) pc Ls (.long x :: S)) (hb hby hd) rfl hl k) g
theorem W.lstore (w : W l Z a0 EL nw own bytes ml ret R κ T h M cells slots) {k : Nat} {x : Int64} (hd : decode bytes pc = .ok (.lstore k, 2)) (hp : pc + 2 = pc') (hl : storeLocals Ls k (.long x) = some Ls')
    (g : Go Z EL nw R κ Q (T.setTop (mkF (km κ) pc' Ls' (S)))) : Go Z EL nw R κ Q (T.setTop (mkF (km κ) pc Ls (.long x :: S))) := by
  subst hp
  exact w.pure (fun hx hby H t k => XT.lstore H hx rfl (g := mkF (km κ) pc Ls (.long x :: S)) (hb hby hd) rfl hl k) g
theorem W.astoreN (w : W l Z a0 EL nw own bytes ml ret R κ T h M cells slots) {k : Fin 4} {x : Value} (hd : decode bytes pc = .ok (.astore_n k, 1)) (hp : pc + 1 = pc') (hv : x.isRef = true) (hl : storeLocals Ls k.val x = some Ls')
    (g : Go Z EL nw R κ Q (T.setTop (mkF (km κ) pc' Ls' (S)))) : Go Z EL nw R κ Q (T.setTop (mkF (km κ) pc Ls (x :: S))) := by
  subst hp
  exact w.pure (fun hx hby H t k => XS.astoreN H hx rfl (g := mkF (km κ) pc Ls (x :: S)) (hb hby hd) rfl hv hl k) g
theorem W.astore (w : W l Z a0 EL nw own bytes ml ret R κ T h M cells slots) {k : Nat} {x : Value} (hd : decode bytes pc = .ok (.astore k, 2)) (hp : pc + 2 = pc') (hv : x.isRef = true) (hl : storeLocals Ls k x = some Ls')
    (g : Go Z EL nw R κ Q (T.setTop (mkF (km κ) pc' Ls' (S)))) : Go Z EL nw R κ Q (T.setTop (mkF (km κ) pc Ls (x :: S))) := by
  subst hp
  exact w.pure (fun hx hby H t k => XS.astore H hx rfl (g := mkF (km κ) pc Ls (x :: S)) (hb hby hd) rfl hv hl k) g
theorem W.iinc (w : W l Z a0 EL nw own bytes ml ret R κ T h M cells slots) {k : Nat} {cst : Int} {x : Int32} (hd : decode bytes pc = .ok (.iinc k cst, 3)) (hp : pc + 3 = pc') {z : Int32} (hz : x + Int32.ofInt cst = z) (hl : Ls[k]? = some (.val (.int x))) (hl' : storeLocals Ls k (.int z) = some Ls')
    (g : Go Z EL nw R κ Q (T.setTop (mkF (km κ) pc' Ls' (S)))) : Go Z EL nw R κ Q (T.setTop (mkF (km κ) pc Ls (S))) := by
  subst hp hz
  exact w.pure (fun hx hby H t k => XS.iinc H hx rfl (g := mkF (km κ) pc Ls (S)) (hb hby hd) hl hl' k) g
theorem W.iconst (w : W l Z a0 EL nw own bytes ml ret R κ T h M cells slots) {i : Int} (hd : decode bytes pc = .ok (.iconst i, 1)) (hp : pc + 1 = pc') {z : Int32} (hz : Int32.ofInt i = z)
    (g : Go Z EL nw R κ Q (T.setTop (mkF (km κ) pc' Ls (.int z :: S)))) : Go Z EL nw R κ Q (T.setTop (mkF (km κ) pc Ls (S))) := by
  subst hp hz
  exact w.pure (fun hx hby H t k => XS.iconst H hx rfl (g := mkF (km κ) pc Ls (S)) (hb hby hd)  k) g
theorem W.bipush (w : W l Z a0 EL nw own bytes ml ret R κ T h M cells slots) {i : Int} (hd : decode bytes pc = .ok (.bipush i, 2)) (hp : pc + 2 = pc') {z : Int32} (hz : (Int8.ofInt i).toInt32 = z)
    (g : Go Z EL nw R κ Q (T.setTop (mkF (km κ) pc' Ls (.int z :: S)))) : Go Z EL nw R κ Q (T.setTop (mkF (km κ) pc Ls (S))) := by
  subst hp hz
  exact w.pure (fun hx hby H t k => XS.bipush H hx rfl (g := mkF (km κ) pc Ls (S)) (hb hby hd)  k) g
theorem W.sipush (w : W l Z a0 EL nw own bytes ml ret R κ T h M cells slots) {i : Int} (hd : decode bytes pc = .ok (.sipush i, 3)) (hp : pc + 3 = pc') {z : Int32} (hz : (Int16.ofInt i).toInt32 = z)
    (g : Go Z EL nw R κ Q (T.setTop (mkF (km κ) pc' Ls (.int z :: S)))) : Go Z EL nw R κ Q (T.setTop (mkF (km κ) pc Ls (S))) := by
  subst hp hz
  exact w.pure (fun hx hby H t k => XS.sipush H hx rfl (g := mkF (km κ) pc Ls (S)) (hb hby hd)  k) g
theorem W.lconst (w : W l Z a0 EL nw own bytes ml ret R κ T h M cells slots) {k : Fin 2} (hd : decode bytes pc = .ok (.lconst k, 1)) (hp : pc + 1 = pc') {z : Int64} (hz : Int64.ofNat k = z)
    (g : Go Z EL nw R κ Q (T.setTop (mkF (km κ) pc' Ls (.long z :: S)))) : Go Z EL nw R κ Q (T.setTop (mkF (km κ) pc Ls (S))) := by
  subst hp hz
  exact w.pure (fun hx hby H t k => XT.lconst H hx rfl (g := mkF (km κ) pc Ls (S)) (hb hby hd)  k) g
theorem W.aconstNull (w : W l Z a0 EL nw own bytes ml ret R κ T h M cells slots)  (hd : decode bytes pc = .ok (.aconst_null, 1)) (hp : pc + 1 = pc')
    (g : Go Z EL nw R κ Q (T.setTop (mkF (km κ) pc' Ls (.null :: S)))) : Go Z EL nw R κ Q (T.setTop (mkF (km κ) pc Ls (S))) := by
  subst hp
  exact w.pure (fun hx hby H t k => XS.aconstNull H hx rfl (g := mkF (km κ) pc Ls (S)) (hb hby hd)  k) g
theorem W.iadd (w : W l Z a0 EL nw own bytes ml ret R κ T h M cells slots) {x y : Int32} (hd : decode bytes pc = .ok (.iadd, 1)) (hp : pc + 1 = pc') {z : Int32} (hz : x + y = z)
    (g : Go Z EL nw R κ Q (T.setTop (mkF (km κ) pc' Ls (.int z :: S)))) : Go Z EL nw R κ Q (T.setTop (mkF (km κ) pc Ls (.int y :: .int x :: S))) := by
  subst hp hz
  exact w.pure (fun hx hby H t k => XS.iadd H hx rfl (g := mkF (km κ) pc Ls (.int y :: .int x :: S)) (hb hby hd) rfl k) g
theorem W.isub (w : W l Z a0 EL nw own bytes ml ret R κ T h M cells slots) {x y : Int32} (hd : decode bytes pc = .ok (.isub, 1)) (hp : pc + 1 = pc') {z : Int32} (hz : x - y = z)
    (g : Go Z EL nw R κ Q (T.setTop (mkF (km κ) pc' Ls (.int z :: S)))) : Go Z EL nw R κ Q (T.setTop (mkF (km κ) pc Ls (.int y :: .int x :: S))) := by
  subst hp hz
  exact w.pure (fun hx hby H t k => XS.isub H hx rfl (g := mkF (km κ) pc Ls (.int y :: .int x :: S)) (hb hby hd) rfl k) g
theorem W.imul (w : W l Z a0 EL nw own bytes ml ret R κ T h M cells slots) {x y : Int32} (hd : decode bytes pc = .ok (.imul, 1)) (hp : pc + 1 = pc') {z : Int32} (hz : x * y = z)
    (g : Go Z EL nw R κ Q (T.setTop (mkF (km κ) pc' Ls (.int z :: S)))) : Go Z EL nw R κ Q (T.setTop (mkF (km κ) pc Ls (.int y :: .int x :: S))) := by
  subst hp hz
  exact w.pure (fun hx hby H t k => XS.imul H hx rfl (g := mkF (km κ) pc Ls (.int y :: .int x :: S)) (hb hby hd) rfl k) g
theorem W.iand (w : W l Z a0 EL nw own bytes ml ret R κ T h M cells slots) {x y : Int32} (hd : decode bytes pc = .ok (.iand, 1)) (hp : pc + 1 = pc') {z : Int32} (hz : x &&& y = z)
    (g : Go Z EL nw R κ Q (T.setTop (mkF (km κ) pc' Ls (.int z :: S)))) : Go Z EL nw R κ Q (T.setTop (mkF (km κ) pc Ls (.int y :: .int x :: S))) := by
  subst hp hz
  exact w.pure (fun hx hby H t k => XS.iand H hx rfl (g := mkF (km κ) pc Ls (.int y :: .int x :: S)) (hb hby hd) rfl k) g
theorem W.ior (w : W l Z a0 EL nw own bytes ml ret R κ T h M cells slots) {x y : Int32} (hd : decode bytes pc = .ok (.ior, 1)) (hp : pc + 1 = pc') {z : Int32} (hz : x ||| y = z)
    (g : Go Z EL nw R κ Q (T.setTop (mkF (km κ) pc' Ls (.int z :: S)))) : Go Z EL nw R κ Q (T.setTop (mkF (km κ) pc Ls (.int y :: .int x :: S))) := by
  subst hp hz
  exact w.pure (fun hx hby H t k => XT.ior H hx rfl (g := mkF (km κ) pc Ls (.int y :: .int x :: S)) (hb hby hd) rfl k) g
theorem W.ixor (w : W l Z a0 EL nw own bytes ml ret R κ T h M cells slots) {x y : Int32} (hd : decode bytes pc = .ok (.ixor, 1)) (hp : pc + 1 = pc') {z : Int32} (hz : x ^^^ y = z)
    (g : Go Z EL nw R κ Q (T.setTop (mkF (km κ) pc' Ls (.int z :: S)))) : Go Z EL nw R κ Q (T.setTop (mkF (km κ) pc Ls (.int y :: .int x :: S))) := by
  subst hp hz
  exact w.pure (fun hx hby H t k => XT.ixor H hx rfl (g := mkF (km κ) pc Ls (.int y :: .int x :: S)) (hb hby hd) rfl k) g
theorem W.ishl (w : W l Z a0 EL nw own bytes ml ret R κ T h M cells slots) {x y : Int32} (hd : decode bytes pc = .ok (.ishl, 1)) (hp : pc + 1 = pc') {z : Int32} (hz : x <<< (y &&& 31) = z)
    (g : Go Z EL nw R κ Q (T.setTop (mkF (km κ) pc' Ls (.int z :: S)))) : Go Z EL nw R κ Q (T.setTop (mkF (km κ) pc Ls (.int y :: .int x :: S))) := by
  subst hp hz
  exact w.pure (fun hx hby H t k => XT.ishl H hx rfl (g := mkF (km κ) pc Ls (.int y :: .int x :: S)) (hb hby hd) rfl k) g
theorem W.ishr (w : W l Z a0 EL nw own bytes ml ret R κ T h M cells slots) {x y : Int32} (hd : decode bytes pc = .ok (.ishr, 1)) (hp : pc + 1 = pc') {z : Int32} (hz : x >>> (y &&& 31) = z)
    (g : Go Z EL nw R κ Q (T.setTop (mkF (km κ) pc' Ls (.int z :: S)))) : Go Z EL nw R κ Q (T.setTop (mkF (km κ) pc Ls (.int y :: .int x :: S))) := by
  subst hp hz
  exact w.pure (fun hx hby H t k => XT.ishr H hx rfl (g := mkF (km κ) pc Ls (.int y :: .int x :: S)) (hb hby hd) rfl k) g
theorem W.iushr (w : W l Z a0 EL nw own bytes ml ret R κ T h M cells slots) {x y : Int32} (hd : decode bytes pc = .ok (.iushr, 1)) (hp : pc + 1 = pc') {z : Int32} (hz : XT.ushr x y = z)
    (g : Go Z EL nw R κ Q (T.setTop (mkF (km κ) pc' Ls (.int z :: S)))) : Go Z EL nw R κ Q (T.setTop (mkF (km κ) pc Ls (.int y :: .int x :: S))) := by
  subst hp hz
  exact w.pure (fun hx hby H t k => XT.iushr H hx rfl (g := mkF (km κ) pc Ls (.int y :: .int x :: S)) (hb hby hd) rfl k) g
theorem W.ladd (w : W l Z a0 EL nw own bytes ml ret R κ T h M cells slots) {x y : Int64} (hd : decode bytes pc = .ok (.ladd, 1)) (hp : pc + 1 = pc') {z : Int64} (hz : x + y = z)
    (g : Go Z EL nw R κ Q (T.setTop (mkF (km κ) pc' Ls (.long z :: S)))) : Go Z EL nw R κ Q (T.setTop (mkF (km κ) pc Ls (.long y :: .long x :: S))) := by
  subst hp hz
  exact w.pure (fun hx hby H t k => XT.ladd H hx rfl (g := mkF (km κ) pc Ls (.long y :: .long x :: S)) (hb hby hd) rfl k) g
theorem W.lsub (w : W l Z a0 EL nw own bytes ml ret R κ T h M cells slots) {x y : Int64} (hd : decode bytes pc = .ok (.lsub, 1)) (hp : pc + 1 = pc') {z : Int64} (hz : x - y = z)
    (g : Go Z EL nw R κ Q (T.setTop (mkF (km κ) pc' Ls (.long z :: S)))) : Go Z EL nw R κ Q (T.setTop (mkF (km κ) pc Ls (.long y :: .long x :: S))) := by
  subst hp hz
  exact w.pure (fun hx hby H t k => XT.lsub H hx rfl (g := mkF (km κ) pc Ls (.long y :: .long x :: S)) (hb hby hd) rfl k) g
theorem W.lmul (w : W l Z a0 EL nw own bytes ml ret R κ T h M cells slots) {x y : Int64} (hd : decode bytes pc = .ok (.lmul, 1)) (hp : pc + 1 = pc') {z : Int64} (hz : x * y = z)
    (g : Go Z EL nw R κ Q (T.setTop (mkF (km κ) pc' Ls (.long z :: S)))) : Go Z EL nw R κ Q (T.setTop (mkF (km κ) pc Ls (.long y :: .long x :: S))) := by
  subst hp hz
  exact w.pure (fun hx hby H t k => XT.lmul H hx rfl (g := mkF (km κ) pc Ls (.long y :: .long x :: S)) (hb hby hd) rfl k) g
theorem W.land (w : W l Z a0 EL nw own bytes ml ret R κ T h M cells slots) {x y : Int64} (hd : decode bytes pc = .ok (.land, 1)) (hp : pc + 1 = pc') {z : Int64} (hz : x &&& y = z)
    (g : Go Z EL nw R κ Q (T.setTop (mkF (km κ) pc' Ls (.long z :: S)))) : Go Z EL nw R κ Q (T.setTop (mkF (km κ) pc Ls (.long y :: .long x :: S))) := by
  subst hp hz
  exact w.pure (fun hx hby H t k => XT.land H hx rfl (g := mkF (km κ) pc Ls (.long y :: .long x :: S)) (hb hby hd) rfl k) g
theorem W.lor (w : W l Z a0 EL nw own bytes ml ret R κ T h M cells slots) {x y : Int64} (hd : decode bytes pc = .ok (.lor, 1)) (hp : pc + 1 = pc') {z : Int64} (hz : x ||| y = z)
    (g : Go Z EL nw R κ Q (T.setTop (mkF (km κ) pc' Ls (.long z :: S)))) : Go Z EL nw R κ Q (T.setTop (mkF (km κ) pc Ls (.long y :: .long x :: S))) := by
  subst hp hz
  exact w.pure (fun hx hby H t k => XT.lor H hx rfl (g := mkF (km κ) pc Ls (.long y :: .long x :: S)) (hb hby hd) rfl k) g
theorem W.lxor (w : W l Z a0 EL nw own bytes ml ret R κ T h M cells slots) {x y : Int64} (hd : decode bytes pc = .ok (.lxor, 1)) (hp : pc + 1 = pc') {z : Int64} (hz : x ^^^ y = z)
    (g : Go Z EL nw R κ Q (T.setTop (mkF (km κ) pc' Ls (.long z :: S)))) : Go Z EL nw R κ Q (T.setTop (mkF (km κ) pc Ls (.long y :: .long x :: S))) := by
  subst hp hz
  exact w.pure (fun hx hby H t k => XT.lxor H hx rfl (g := mkF (km κ) pc Ls (.long y :: .long x :: S)) (hb hby hd) rfl k) g
theorem W.lshl (w : W l Z a0 EL nw own bytes ml ret R κ T h M cells slots) {x : Int64} {y : Int32} (hd : decode bytes pc = .ok (.lshl, 1)) (hp : pc + 1 = pc') {z : Int64} (hz : x <<< (y.toInt64 &&& 63) = z)
    (g : Go Z EL nw R κ Q (T.setTop (mkF (km κ) pc' Ls (.long z :: S)))) : Go Z EL nw R κ Q (T.setTop (mkF (km κ) pc Ls (.int y :: .long x :: S))) := by
  subst hp hz
  exact w.pure (fun hx hby H t k => XT.lshl H hx rfl (g := mkF (km κ) pc Ls (.int y :: .long x :: S)) (hb hby hd) rfl k) g
theorem W.lshr (w : W l Z a0 EL nw own bytes ml ret R κ T h M cells slots) {x : Int64} {y : Int32} (hd : decode bytes pc = .ok (.lshr, 1)) (hp : pc + 1 = pc') {z : Int64} (hz : x >>> (y.toInt64 &&& 63) = z)
    (g : Go Z EL nw R κ Q (T.setTop (mkF (km κ) pc' Ls (.long z :: S)))) : Go Z EL nw R κ Q (T.setTop (mkF (km κ) pc Ls (.int y :: .long x :: S))) := by
  subst hp hz
  exact w.pure (fun hx hby H t k => XT.lshr H hx rfl (g := mkF (km κ) pc Ls (.int y :: .long x :: S)) (hb hby hd) rfl k) g
theorem W.lushr (w : W l Z a0 EL nw own bytes ml ret R κ T h M cells slots) {x : Int64} {y : Int32} (hd : decode bytes pc = .ok (.lushr, 1)) (hp : pc + 1 = pc') {z : Int64} (hz : XT.ushrL x y = z)
    (g : Go Z EL nw R κ Q (T.setTop (mkF (km κ) pc' Ls (.long z :: S)))) : Go Z EL nw R κ Q (T.setTop (mkF (km κ) pc Ls (.int y :: .long x :: S))) := by
  subst hp hz
  exact w.pure (fun hx hby H t k => XT.lushr H hx rfl (g := mkF (km κ) pc Ls (.int y :: .long x :: S)) (hb hby hd) rfl k) g
theorem W.idiv (w : W l Z a0 EL nw own bytes ml ret R κ T h M cells slots) {x y : Int32} (hd : decode bytes pc = .ok (.idiv, 1)) (hp : pc + 1 = pc') {z : Int32} (hz : x / y = z) (hy : y ≠ 0)
    (g : Go Z EL nw R κ Q (T.setTop (mkF (km κ) pc' Ls (.int z :: S)))) : Go Z EL nw R κ Q (T.setTop (mkF (km κ) pc Ls (.int y :: .int x :: S))) := by
  subst hp hz
  exact w.pure (fun hx hby H t k => XS.idiv H hx rfl (g := mkF (km κ) pc Ls (.int y :: .int x :: S)) (hb hby hd) rfl hy k) g
theorem W.irem (w : W l Z a0 EL nw own bytes ml ret R κ T h M cells slots) {x y : Int32} (hd : decode bytes pc = .ok (.irem, 1)) (hp : pc + 1 = pc') {z : Int32} (hz : x - (x / y) * y = z) (hy : y ≠ 0)
    (g : Go Z EL nw R κ Q (T.setTop (mkF (km κ) pc' Ls (.int z :: S)))) : Go Z EL nw R κ Q (T.setTop (mkF (km κ) pc Ls (.int y :: .int x :: S))) := by
  subst hp hz
  exact w.pure (fun hx hby H t k => XS.irem H hx rfl (g := mkF (km κ) pc Ls (.int y :: .int x :: S)) (hb hby hd) rfl hy k) g
theorem W.ldiv (w : W l Z a0 EL nw own bytes ml ret R κ T h M cells slots) {x y : Int64} (hd : decode bytes pc = .ok (.ldiv, 1)) (hp : pc + 1 = pc') {z : Int64} (hz : x / y = z) (hy : y ≠ 0)
    (g : Go Z EL nw R κ Q (T.setTop (mkF (km κ) pc' Ls (.long z :: S)))) : Go Z EL nw R κ Q (T.setTop (mkF (km κ) pc Ls (.long y :: .long x :: S))) := by
  subst hp hz
  exact w.pure (fun hx hby H t k => XT.ldiv H hx rfl (g := mkF (km κ) pc Ls (.long y :: .long x :: S)) (hb hby hd) rfl hy k) g
theorem W.lrem (w : W l Z a0 EL nw own bytes ml ret R κ T h M cells slots) {x y : Int64} (hd : decode bytes pc = .ok (.lrem, 1)) (hp : pc + 1 = pc') {z : Int64} (hz : x - (x / y) * y = z) (hy : y ≠ 0)
    (g : Go Z EL nw R κ Q (T.setTop (mkF (km κ) pc' Ls (.long z :: S)))) : Go Z EL nw R κ Q (T.setTop (mkF (km κ) pc Ls (.long y :: .long x :: S))) := by
  subst hp hz
  exact w.pure (fun hx hby H t k => XT.lrem H hx rfl (g := mkF (km κ) pc Ls (.long y :: .long x :: S)) (hb hby hd) rfl hy k) g
theorem W.ineg (w : W l Z a0 EL nw own bytes ml ret R κ T h M cells slots) {x : Int32} (hd : decode bytes pc = .ok (.ineg, 1)) (hp : pc + 1 = pc') {z : Int32} (hz : -x = z)
    (g : Go Z EL nw R κ Q (T.setTop (mkF (km κ) pc' Ls (.int z :: S)))) : Go Z EL nw R κ Q (T.setTop (mkF (km κ) pc Ls (.int x :: S))) := by
  subst hp hz
  exact w.pure (fun hx hby H t k => XS.ineg H hx rfl (g := mkF (km κ) pc Ls (.int x :: S)) (hb hby hd) rfl k) g
theorem W.lneg (w : W l Z a0 EL nw own bytes ml ret R κ T h M cells slots) {x : Int64} (hd : decode bytes pc = .ok (.lneg, 1)) (hp : pc + 1 = pc') {z : Int64} (hz : -x = z)
    (g : Go Z EL nw R κ Q (T.setTop (mkF (km κ) pc' Ls (.long z :: S)))) : Go Z EL nw R κ Q (T.setTop (mkF (km κ) pc Ls (.long x :: S))) := by
  subst hp hz
  exact w.pure (fun hx hby H t k => XT.lneg H hx rfl (g := mkF (km κ) pc Ls (.long x :: S)) (hb hby hd) rfl k) g
theorem W.i2l (w : W l Z a0 EL nw own bytes ml ret R κ T h M cells slots) {x : Int32} (hd : decode bytes pc = .ok (.i2l, 1)) (hp : pc + 1 = pc') {z : Int64} (hz : x.toInt64 = z)
    (g : Go Z EL nw R κ Q (T.setTop (mkF (km κ) pc' Ls (.long z :: S)))) : Go Z EL nw R κ Q (T.setTop (mkF (km κ) pc Ls (.int x :: S))) := by
  subst hp hz
  exact w.pure (fun hx hby H t k => XT.i2l H hx rfl (g := mkF (km κ) pc Ls (.int x :: S)) (hb hby hd) rfl k) g
theorem W.l2i (w : W l Z a0 EL nw own bytes ml ret R κ T h M cells slots) {x : Int64} (hd : decode bytes pc = .ok (.l2i, 1)) (hp : pc + 1 = pc') {z : Int32} (hz : x.toInt32 = z)
    (g : Go Z EL nw R κ Q (T.setTop (mkF (km κ) pc' Ls (.int z :: S)))) : Go Z EL nw R κ Q (T.setTop (mkF (km κ) pc Ls (.long x :: S))) := by
  subst hp hz
  exact w.pure (fun hx hby H t k => XT.l2i H hx rfl (g := mkF (km κ) pc Ls (.long x :: S)) (hb hby hd) rfl k) g
theorem W.i2b (w : W l Z a0 EL nw own bytes ml ret R κ T h M cells slots) {x : Int32} (hd : decode bytes pc = .ok (.i2b, 1)) (hp : pc + 1 = pc') {z : Int32} (hz : x.toInt8.toInt32 = z)
    (g : Go Z EL nw R κ Q (T.setTop (mkF (km κ) pc' Ls (.int z :: S)))) : Go Z EL nw R κ Q (T.setTop (mkF (km κ) pc Ls (.int x :: S))) := by
  subst hp hz
  exact w.pure (fun hx hby H t k => XT.i2b H hx rfl (g := mkF (km κ) pc Ls (.int x :: S)) (hb hby hd) rfl k) g
theorem W.i2c (w : W l Z a0 EL nw own bytes ml ret R κ T h M cells slots) {x : Int32} (hd : decode bytes pc = .ok (.i2c, 1)) (hp : pc + 1 = pc') {z : Int32} (hz : x.toUInt32.toUInt16.toUInt32.toInt32 = z)
    (g : Go Z EL nw R κ Q (T.setTop (mkF (km κ) pc' Ls (.int z :: S)))) : Go Z EL nw R κ Q (T.setTop (mkF (km κ) pc Ls (.int x :: S))) := by
  subst hp hz
  exact w.pure (fun hx hby H t k => XT.i2c H hx rfl (g := mkF (km κ) pc Ls (.int x :: S)) (hb hby hd) rfl k) g
theorem W.i2s (w : W l Z a0 EL nw own bytes ml ret R κ T h M cells slots) {x : Int32} (hd : decode bytes pc = .ok (.i2s, 1)) (hp : pc + 1 = pc') {z : Int32} (hz : x.toInt16.toInt32 = z)
    (g : Go Z EL nw R κ Q (T.setTop (mkF (km κ) pc' Ls (.int z :: S)))) : Go Z EL nw R κ Q (T.setTop (mkF (km κ) pc Ls (.int x :: S))) := by
  subst hp hz
  exact w.pure (fun hx hby H t k => XT.i2s H hx rfl (g := mkF (km κ) pc Ls (.int x :: S)) (hb hby hd) rfl k) g
theorem W.lcmp (w : W l Z a0 EL nw own bytes ml ret R κ T h M cells slots) {x y : Int64} (hd : decode bytes pc = .ok (.lcmp, 1)) (hp : pc + 1 = pc') {z : Int32} (hz : XT.cmpL x y = z)
    (g : Go Z EL nw R κ Q (T.setTop (mkF (km κ) pc' Ls (.int z :: S)))) : Go Z EL nw R κ Q (T.setTop (mkF (km κ) pc Ls (.long y :: .long x :: S))) := by
  subst hp hz
  exact w.pure (fun hx hby H t k => XT.lcmp H hx rfl (g := mkF (km κ) pc Ls (.long y :: .long x :: S)) (hb hby hd) rfl k) g
theorem W.dup (w : W l Z a0 EL nw own bytes ml ret R κ T h M cells slots) {x : Value} (hd : decode bytes pc = .ok (.dup, 1)) (hp : pc + 1 = pc') (hc : x.category = 1)
    (g : Go Z EL nw R κ Q (T.setTop (mkF (km κ) pc' Ls (x :: x :: S)))) : Go Z EL nw R κ Q (T.setTop (mkF (km κ) pc Ls (x :: S))) := by
  subst hp
  exact w.pure (fun hx hby H t k => XS.dup H hx rfl (g := mkF (km κ) pc Ls (x :: S)) (hb hby hd) rfl hc k) g
theorem W.pop (w : W l Z a0 EL nw own bytes ml ret R κ T h M cells slots) {x : Value} (hd : decode bytes pc = .ok (.pop, 1)) (hp : pc + 1 = pc') (hc : x.category = 1)
    (g : Go Z EL nw R κ Q (T.setTop (mkF (km κ) pc' Ls (S)))) : Go Z EL nw R κ Q (T.setTop (mkF (km κ) pc Ls (x :: S))) := by
  subst hp
  exact w.pure (fun hx hby H t k => XT.pop H hx rfl (g := mkF (km κ) pc Ls (x :: S)) (hb hby hd) rfl hc k) g
theorem W.dupX1 (w : W l Z a0 EL nw own bytes ml ret R κ T h M cells slots) {x y : Value} (hd : decode bytes pc = .ok (.dup_x1, 1)) (hp : pc + 1 = pc') (hc : x.category = 1) (hc' : y.category = 1)
    (g : Go Z EL nw R κ Q (T.setTop (mkF (km κ) pc' Ls (x :: y :: x :: S)))) : Go Z EL nw R κ Q (T.setTop (mkF (km κ) pc Ls (x :: y :: S))) := by
  subst hp
  exact w.pure (fun hx hby H t k => XT.dupX1 H hx rfl (g := mkF (km κ) pc Ls (x :: y :: S)) (hb hby hd) rfl hc hc' k) g
theorem W.dup2 (w : W l Z a0 EL nw own bytes ml ret R κ T h M cells slots) {x y : Value} (hd : decode bytes pc = .ok (.dup2, 1)) (hp : pc + 1 = pc') (hc : x.category = 1) (hc' : y.category = 1)
    (g : Go Z EL nw R κ Q (T.setTop (mkF (km κ) pc' Ls (x :: y :: x :: y :: S)))) : Go Z EL nw R κ Q (T.setTop (mkF (km κ) pc Ls (x :: y :: S))) := by
  subst hp
  exact w.pure (fun hx hby H t k => XT.dup2 H hx rfl (g := mkF (km κ) pc Ls (x :: y :: S)) (hb hby hd) rfl hc hc' k) g
theorem W.dup2L (w : W l Z a0 EL nw own bytes ml ret R κ T h M cells slots) {x : Int64} (hd : decode bytes pc = .ok (.dup2, 1)) (hp : pc + 1 = pc')
    (g : Go Z EL nw R κ Q (T.setTop (mkF (km κ) pc' Ls (.long x :: .long x :: S)))) : Go Z EL nw R κ Q (T.setTop (mkF (km κ) pc Ls (.long x :: S))) := by
  subst hp
  exact w.pure (fun hx hby H t k => XT.dup2L H hx rfl (g := mkF (km κ) pc Ls (.long x :: S)) (hb hby hd) rfl k) g
theorem W.goto (w : W l Z a0 EL nw own bytes ml ret R κ T h M cells slots) {o : Int} (hd : decode bytes pc = .ok (.goto o, 3)) (ho : 0 ≤ (pc : Int) + o) (hp : ((pc : Int) + o).toNat = pc')
    (g : Go Z EL nw R κ Q (T.setTop (mkF (km κ) pc' Ls (S)))) : Go Z EL nw R κ Q (T.setTop (mkF (km κ) pc Ls (S))) := by
  subst hp
  exact w.pure (fun hx hby H t k => XS.goto H hx rfl (g := mkF (km κ) pc Ls (S)) (pc0 := pc) rfl (hb hby hd) ho rfl k) g
theorem W.ifYes (w : W l Z a0 EL nw own bytes ml ret R κ T h M cells slots) {cd : ClassFile.Cond} {x : Int32} {o : Int} (hd : decode bytes pc = .ok (.ifCond cd o, 3)) (ho : 0 ≤ (pc : Int) + o) (hp : ((pc : Int) + o).toNat = pc') (hc : ifCond.holds cd x = true)
    (g : Go Z EL nw R κ Q (T.setTop (mkF (km κ) pc' Ls (S)))) : Go Z EL nw R κ Q (T.setTop (mkF (km κ) pc Ls (.int x :: S))) := by
  subst hp
  exact w.pure (fun hx hby H t k => XS.ifYes H hx rfl (g := mkF (km κ) pc Ls (.int x :: S)) (pc0 := pc) rfl (hb hby hd) rfl hc ho rfl k) g
theorem W.ifNo (w : W l Z a0 EL nw own bytes ml ret R κ T h M cells slots) {cd : ClassFile.Cond} {x : Int32} {o : Int} (hd : decode bytes pc = .ok (.ifCond cd o, 3)) (hp : pc + 3 = pc') (hc : ifCond.holds cd x = false)
    (g : Go Z EL nw R κ Q (T.setTop (mkF (km κ) pc' Ls (S)))) : Go Z EL nw R κ Q (T.setTop (mkF (km κ) pc Ls (.int x :: S))) := by
  subst hp
  exact w.pure (fun hx hby H t k => XS.ifNo H hx rfl (g := mkF (km κ) pc Ls (.int x :: S)) (hb hby hd) rfl hc k) g
theorem W.icmpYes (w : W l Z a0 EL nw own bytes ml ret R κ T h M cells slots) {cd : ClassFile.Cond} {x y : Int32} {o : Int} (hd : decode bytes pc = .ok (.if_icmp cd o, 3)) (ho : 0 ≤ (pc : Int) + o) (hp : ((pc : Int) + o).toNat = pc') (hc : if_icmp.holds cd x y = true)
    (g : Go Z EL nw R κ Q (T.setTop (mkF (km κ) pc' Ls (S)))) : Go Z EL nw R κ Q (T.setTop (mkF (km κ) pc Ls (.int y :: .int x :: S))) := by
  subst hp
  exact w.pure (fun hx hby H t k => XS.icmpYes H hx rfl (g := mkF (km κ) pc Ls (.int y :: .int x :: S)) (pc0 := pc) rfl (hb hby hd) rfl hc ho rfl k) g
theorem W.icmpNo (w : W l Z a0 EL nw own bytes ml ret R κ T h M cells slots) {cd : ClassFile.Cond} {x y : Int32} {o : Int} (hd : decode bytes pc = .ok (.if_icmp cd o, 3)) (hp : pc + 3 = pc') (hc : if_icmp.holds cd x y = false)
    (g : Go Z EL nw R κ Q (T.setTop (mkF (km κ) pc' Ls (S)))) : Go Z EL nw R κ Q (T.setTop (mkF (km κ) pc Ls (.int y :: .int x :: S))) := by
  subst hp
  exact w.pure (fun hx hby H t k => XS.icmpNo H hx rfl (g := mkF (km κ) pc Ls (.int y :: .int x :: S)) (hb hby hd) rfl hc k) g
theorem W.ifnullYes (w : W l Z a0 EL nw own bytes ml ret R κ T h M cells slots) {o : Int} (hd : decode bytes pc = .ok (.ifnull o, 3)) (ho : 0 ≤ (pc : Int) + o) (hp : ((pc : Int) + o).toNat = pc')
    (g : Go Z EL nw R κ Q (T.setTop (mkF (km κ) pc' Ls (S)))) : Go Z EL nw R κ Q (T.setTop (mkF (km κ) pc Ls (.null :: S))) := by
  subst hp
  exact w.pure (fun hx hby H t k => XS.ifnullYes H hx rfl (g := mkF (km κ) pc Ls (.null :: S)) (pc0 := pc) rfl (hb hby hd) rfl ho rfl k) g
theorem W.ifnullNo (w : W l Z a0 EL nw own bytes ml ret R κ T h M cells slots) {o : Int} {b : Addr} (hd : decode bytes pc = .ok (.ifnull o, 3)) (hp : pc + 3 = pc')
    (g : Go Z EL nw R κ Q (T.setTop (mkF (km κ) pc' Ls (S)))) : Go Z EL nw R κ Q (T.setTop (mkF (km κ) pc Ls (.ref b :: S))) := by
  subst hp
  exact w.pure (fun hx hby H t k => XS.ifnullNo H hx rfl (g := mkF (km κ) pc Ls (.ref b :: S)) (hb hby hd) rfl k) g
theorem W.ifnonnullYes (w : W l Z a0 EL nw own bytes ml ret R κ T h M cells slots) {o : Int} {b : Addr} (hd : decode bytes pc = .ok (.ifnonnull o, 3)) (ho : 0 ≤ (pc : Int) + o) (hp : ((pc : Int) + o).toNat = pc')
    (g : Go Z EL nw R κ Q (T.setTop (mkF (km κ) pc' Ls (S)))) : Go Z EL nw R κ Q (T.setTop (mkF (km κ) pc Ls (.ref b :: S))) := by
  subst hp
  exact w.pure (fun hx hby H t k => XT.ifnonnullYes H hx rfl (g := mkF (km κ) pc Ls (.ref b :: S)) (pc0 := pc) rfl (hb hby hd) rfl ho rfl k) g
theorem W.ifnonnullNo (w : W l Z a0 EL nw own bytes ml ret R κ T h M cells slots) {o : Int} (hd : decode bytes pc = .ok (.ifnonnull o, 3)) (hp : pc + 3 = pc')
    (g : Go Z EL nw R κ Q (T.setTop (mkF (km κ) pc' Ls (S)))) : Go Z EL nw R κ Q (T.setTop (mkF (km κ) pc Ls (.null :: S))) := by
  subst hp
  exact w.pure (fun hx hby H t k => XT.ifnonnullNo H hx rfl (g := mkF (km κ) pc Ls (.null :: S)) (hb hby hd) rfl k) g
theorem W.acmpYes (w : W l Z a0 EL nw own bytes ml ret R κ T h M cells slots) {cd : ClassFile.ACond} {x y : Value} {o : Int} (hd : decode bytes pc = .ok (.if_acmp cd o, 3)) (ho : 0 ≤ (pc : Int) + o) (hp : ((pc : Int) + o).toNat = pc') (hx' : x.isRef = true) (hy' : y.isRef = true) (hc : XT.acmp cd x y = true)
    (g : Go Z EL nw R κ Q (T.setTop (mkF (km κ) pc' Ls (S)))) : Go Z EL nw R κ Q (T.setTop (mkF (km κ) pc Ls (y :: x :: S))) := by
  subst hp
  exact w.pure (fun hx hby H t k => XT.acmpYes H hx rfl (g := mkF (km κ) pc Ls (y :: x :: S)) (pc0 := pc) rfl (hb hby hd) rfl hx' hy' hc ho rfl k) g
theorem W.acmpNo (w : W l Z a0 EL nw own bytes ml ret R κ T h M cells slots) {cd : ClassFile.ACond} {x y : Value} {o : Int} (hd : decode bytes pc = .ok (.if_acmp cd o, 3)) (hp : pc + 3 = pc') (hx' : x.isRef = true) (hy' : y.isRef = true) (hc : XT.acmp cd x y = false)
    (g : Go Z EL nw R κ Q (T.setTop (mkF (km κ) pc' Ls (S)))) : Go Z EL nw R κ Q (T.setTop (mkF (km κ) pc Ls (y :: x :: S))) := by
  subst hp
  exact w.pure (fun hx hby H t k => XT.acmpNo H hx rfl (g := mkF (km κ) pc Ls (y :: x :: S)) (hb hby hd) rfl hx' hy' hc k) g
end Pure
end Jvm.Own
/- laws to paste: Road.backV, Road.lenW, Road.chN, Road.eqW, Road.codOf (cut by pick.py; bodies as the Statement names them) -/
namespace Jvm.Pilot.@@N@@
namespace StrChars
open Jvm Sem ClassFile Op Lib Jvm.Stand Jvm.Free.XT Jvm.Free.ALB Jvm.Free.JM Jvm.Free
open Jvm.Lib.Cold (StaticIs)
/-- a char array whose places are chars -/
def Ch (a : Addr) (A : Cell) (U : State) : Prop := Arr .char a A U ∧ Typed .char A
theorem Ch.mv {a : Addr} {A : Cell} {U U' : State} (h : Ch a A U) (hal : U.vm.Alike U'.vm) (hh : U'.heap = U.heap) : Ch a A U' := ⟨h.1.mv hal hh, h.2⟩
theorem Ch.keep {a : Addr} {A : Cell} {U U' : State} (h : Ch a A U) (hal : U.vm.Alike U'.vm) (hk : U'.heap[a]? = some A) : Ch a A U' := ⟨h.1.keep hal hk, h.2⟩
/-- what place i of a char[]'s cell holds -/
def cv (A : Cell) (i : Nat) : Int32 := match A.slots[i]? with | some (.int x) => x | _ => 0
theorem Ch.get {a : Addr} {A : Cell} {U : State} (h : Ch a A U) {i : Nat} (hi : i < A.slots.size) : A.slots[i]? = some (.int (cv A i)) := by
  have e := Array.getElem?_eq_getElem hi
  have f := h.2 i _ e
  unfold cv; rw [e]
  generalize A.slots[i] = v at f
  cases v <;> simp [fits] at f ⊢
/-- the byte that i2b leaves of a char -/
def lo8 (x : Int32) : Int32 := x.toInt8.toInt32
theorem fits_lo8 (y : Int32) : fits .byte (.int (lo8 y)) = true := by
  have h1 := y.toInt8.le_toInt
  have h2 := y.toInt8.toInt_lt
  simp only [lo8, fits, Bool.and_eq_true, decide_eq_true_eq, Int32.le_iff_toInt_le, Int8.toInt_toInt32, show (-128 : Int32).toInt = -128 from by decide, show (127 : Int32).toInt = 127 from by decide]
  omega
/-- A' is A but that each place j of lo .. hi - 1 holds f j -/
def Laid (A A' : Cell) (lo hi : Nat) (f : Nat → Value) : Prop := A'.cls = A.cls ∧ A'.vm = A.vm ∧ A'.slots.size = A.slots.size ∧ ∀ i, A'.slots[i]? = if lo ≤ i ∧ i < hi then some (f i) else A.slots[i]?
theorem Laid.zero (A : Cell) (lo : Nat) (f : Nat → Value) : Laid A A lo (lo + 0) f := ⟨rfl, rfl, rfl, fun i => by rw [if_neg (by omega)]⟩
theorem Laid.step {A Ak : Cell} {lo k : Nat} {f : Nat → Value} {v : Value} (h : Laid A Ak lo k f) (hlo : lo ≤ k) (hk : k < Ak.slots.size) (hv : v = f k) : Laid A (Ak.setSlot k v) lo (k + 1) f := by
  refine ⟨h.1, h.2.1, by simpa [Cell.setSlot] using h.2.2.1, fun i => ?_⟩
  by_cases e : k = i
  · subst e; rw [Cell.slots_setSlot_self v hk, if_pos (by omega), hv]
  · rw [Cell.slots_setSlot_ne v e, h.2.2.2 i]
    by_cases q : lo ≤ i ∧ i < k
    · rw [if_pos q, if_pos (by omega)]
    · rw [if_neg q, if_neg (by omega)]
def U16 : String := "java/lang/StringUTF16"
namespace Cmp5
def yN : MethodName := ⟨"java/lang/StringUTF16", "compress", "([CI[BII)I"⟩
abbrev yB : ByteArray := jdk_52_method_21_code
theorem d0 : decode yB 0 = .ok (.iconst 0, 1) := by decide +kernel
theorem d1 : decode yB 1 = .ok (.istore 5, 2) := by decide +kernel
theorem d3 : decode yB 3 = .ok (.iload 5, 2) := by decide +kernel
theorem d5 : decode yB 5 = .ok (.iload 4, 2) := by decide +kernel
theorem d7 : decode yB 7 = .ok (.if_icmp (.ge) 37, 3) := by decide +kernel
theorem d10 : decode yB 10 = .ok (.aload_n 0, 1) := by decide +kernel
theorem d11 : decode yB 11 = .ok (.iload_n 1, 1) := by decide +kernel
theorem d12 : decode yB 12 = .ok (.caload, 1) := by decide +kernel
theorem d13 : decode yB 13 = .ok (.istore 6, 2) := by decide +kernel
theorem d15 : decode yB 15 = .ok (.iload 6, 2) := by decide +kernel
theorem d17 : decode yB 17 = .ok (.sipush 255, 3) := by decide +kernel
theorem d20 : decode yB 20 = .ok (.if_icmp (.le) 6, 3) := by decide +kernel
theorem d26 : decode yB 26 = .ok (.aload_n 2, 1) := by decide +kernel
theorem d27 : decode yB 27 = .ok (.iload_n 3, 1) := by decide +kernel
theorem d28 : decode yB 28 = .ok (.iload 6, 2) := by decide +kernel
theorem d30 : decode yB 30 = .ok (.i2b, 1) := by decide +kernel
theorem d31 : decode yB 31 = .ok (.bastore, 1) := by decide +kernel
theorem d32 : decode yB 32 = .ok (.iinc 1 1, 3) := by decide +kernel
theorem d35 : decode yB 35 = .ok (.iinc 3 1, 3) := by decide +kernel
theorem d38 : decode yB 38 = .ok (.iinc 5 1, 3) := by decide +kernel
theorem d41 : decode yB 41 = .ok (.goto (-38), 3) := by decide +kernel
theorem d44 : decode yB 44 = .ok (.iload 4, 2) := by decide +kernel
theorem d46 : decode yB 46 = .ok (.ireturn, 1) := by decide +kernel
def site : List Cond := []
def tab : Cond := tabOf yN yB 7 (some .int) site
def P (b : Addr) (A : Cell) (d : Addr) (B : Cell) (o q len : Nat) (args : Array Value) (s : State) : Prop := args = #[.ref b, .int (Int32.ofNat o), .ref d, .int (Int32.ofNat q), .int (Int32.ofNat len)] ∧ Ch b A s ∧ Arr .byte d B s ∧ b ≠ d ∧ o + len ≤ A.slots.size ∧ q + len ≤ B.slots.size ∧ ∀ i, i < len → ¬ 255 < cv A (o + i)
def E (b : Addr) (A : Cell) (d : Addr) (B : Cell) (o q len : Nat) (r : Option Value) (s u : State) : Prop := r = some (.int (Int32.ofNat len)) ∧ ∃ B', Put d B' s u ∧ Laid B B' q (q + len) (fun j => Value.int (lo8 (cv A (o + (j - q)))))
/-- no char of the range above 255: len; the places written hold each char's low byte -/
theorem law (l : Launch) (b : Addr) (A : Cell) (d : Addr) (B : Cell) (o q len : Nat) : Law l yN 5 5 0 0 yB 7 (some .int) site (P b A d B o q len) (E b A d B o q len) (copyLocs d q len) 0 0 := by
  refine Law.of_walk (plainFor_of_name (by decide +kernel)) (by decide +kernel) (by decide +kernel) (by decide) (fun _ _ h => by rw [h.1]; rfl) (fun _ U U' hal hh h => ⟨h.1, h.2.1.mv hal hh, h.2.2.1.mv hal hh, h.2.2.2⟩) (fun r U U' V V' h1 hal h2 h => ⟨h.1, h.2.elim fun B' q => ⟨B', q.1.mv h1 h2, q.2⟩⟩) ?_
  intro p e s m args below meth c s₁ X0 hexec hbytes hml hret hlk hnm hown hh0 W hP
  obtain ⟨rfl, hA, hB, hne, l1, l2, hp⟩ := hP
  have c1 : Steps p.tables e below (s₁.setTop (entryFrame m #[.ref b, .int (Int32.ofNat o), .ref d, .int (Int32.ofNat q), .int (Int32.ofNat len)] 7)) (s₁.setTop (mkF m 0 #[.val (.ref b), .val (.int (Int32.ofNat o)), .val (.ref d), .val (.int (Int32.ofNat q)), .val (.int (Int32.ofNat len)), .unset, .unset] [])) := entry rfl
  have hA0 := hA.1.mv X0.warmed.alike hh0
  have hB0 := hB.mv X0.warmed.alike hh0
  have a31 := hA.1.2.2.2
  have c2 : Steps p.tables e below (s₁.setTop (entryFrame m #[.ref b, .int (Int32.ofNat o), .ref d, .int (Int32.ofNat q), .int (Int32.ofNat len)] 7)) (s₁.setTop (mkF m 3 #[.val (.ref b), .val (.int (Int32.ofNat o)), .val (.ref d), .val (.int (Int32.ofNat q)), .val (.int (Int32.ofNat len)), .val (.int 0), .unset] [])) := c1.trans (by
    refine iconstV X0.here hexec rfl 0 (hb hbytes d0) (by decide) ?_
    refine XS.istore X0.here hexec rfl (hb hbytes d1) rfl rfl ?_
    exact Steps.refl _)
  have loop : ∀ (r i : Nat), i + r = len → ∀ (z : Slot), (z = .unset ∨ ∃ w, z = .val w ∧ w.category = 1) → ∀ (Tl : State) (Bk : Cell), Stand p l e { frames := 0, locals := 0, cells := 0, slots := 0 } s m #[.ref b, .int (Int32.ofNat o), .ref d, .int (Int32.ofNat q), .int (Int32.ofNat len)] below meth c Tl ([] ++ copyLocs d q i) 0 0 → Put d Bk s₁ Tl → Laid B Bk q (q + i) (fun j => Value.int (lo8 (cv A (o + (j - q))))) →
      Steps p.tables e below (s₁.setTop (entryFrame m #[.ref b, .int (Int32.ofNat o), .ref d, .int (Int32.ofNat q), .int (Int32.ofNat len)] 7)) (Tl.setTop (mkF m 3 #[.val (.ref b), .val (.int (Int32.ofNat (o + i))), .val (.ref d), .val (.int (Int32.ofNat (q + i))), .val (.int (Int32.ofNat len)), .val (.int (Int32.ofNat i)), z] [])) → ∃ (T' : State) (B' : Cell) (z' : Slot), Stand p l e { frames := 0, locals := 0, cells := 0, slots := 0 } s m #[.ref b, .int (Int32.ofNat o), .ref d, .int (Int32.ofNat q), .int (Int32.ofNat len)] below meth c T' ([] ++ copyLocs d q len) 0 0 ∧ Put d B' s₁ T' ∧ Laid B B' q (q + len) (fun j => Value.int (lo8 (cv A (o + (j - q))))) ∧
      Steps p.tables e below (s₁.setTop (entryFrame m #[.ref b, .int (Int32.ofNat o), .ref d, .int (Int32.ofNat q), .int (Int32.ofNat len)] 7)) (T'.setTop (mkF m 3 #[.val (.ref b), .val (.int (Int32.ofNat (o + len))), .val (.ref d), .val (.int (Int32.ofNat (q + len))), .val (.int (Int32.ofNat len)), .val (.int (Int32.ofNat len)), z'] [])) := by
    intro r
    induction r with
    | zero =>
      intro i hi z hz Tl Bk Xl pl fl cl
      have hil : i = len := by omega
      rw [hil] at Xl fl cl
      exact ⟨Tl, Bk, z, Xl, pl, fl, cl⟩
    | succ r ih =>
      intro i hi z hz Tl Bk Xl pl fl cl
      have all := X0.warmed.alike.symm.trans Xl.warmed.alike
      have hAl := hA0.keep all (pl.other hne hA0.1)
      have hBk := hB0.like all pl.1 fl.1 fl.2.1 fl.2.2.1
      have hlt : q + i < Bk.slots.size := by rw [fl.2.2.1]; omega
      have c3 : Steps p.tables e below (s₁.setTop (entryFrame m #[.ref b, .int (Int32.ofNat o), .ref d, .int (Int32.ofNat q), .int (Int32.ofNat len)] 7)) (Tl.setTop (mkF m 12 #[.val (.ref b), .val (.int (Int32.ofNat (o + i))), .val (.ref d), .val (.int (Int32.ofNat (q + i))), .val (.int (Int32.ofNat len)), .val (.int (Int32.ofNat i)), z] [.int (Int32.ofNat (o + i)), .ref b])) := cl.trans (by
        refine XS.iload Xl.here hexec rfl (hb hbytes d3) rfl ?_
        refine XS.iload Xl.here hexec rfl (hb hbytes d5) rfl ?_
        refine XS.icmpNo Xl.here hexec rfl (hb hbytes d7) rfl (ii_ge_f (lt32 (by omega) (by omega))) ?_
        refine XS.aloadN Xl.here hexec rfl (hb hbytes d10) rfl rfl ?_
        refine XS.iloadN Xl.here hexec rfl (hb hbytes d11) rfl ?_
        exact Steps.refl _)
      have c4 : Steps p.tables e below (s₁.setTop (entryFrame m #[.ref b, .int (Int32.ofNat o), .ref d, .int (Int32.ofNat q), .int (Int32.ofNat len)] 7)) (Tl.setTop (mkF m 13 #[.val (.ref b), .val (.int (Int32.ofNat (o + i))), .val (.ref d), .val (.int (Int32.ofNat (q + i))), .val (.int (Int32.ofNat len)), .val (.int (Int32.ofNat i)), z] [.int (cv A (o + i))])) := c3.trans (by
        refine Xl.aget hexec hAl rfl (hA.get (i := o + i) (by omega)) rfl rfl (hb hbytes d12) ?_
        exact Steps.refl _)
      have c5 : Steps p.tables e below (s₁.setTop (entryFrame m #[.ref b, .int (Int32.ofNat o), .ref d, .int (Int32.ofNat q), .int (Int32.ofNat len)] 7)) (Tl.setTop (mkF m 15 #[.val (.ref b), .val (.int (Int32.ofNat (o + i))), .val (.ref d), .val (.int (Int32.ofNat (q + i))), .val (.int (Int32.ofNat len)), .val (.int (Int32.ofNat i)), .val (.int (cv A (o + i)))] [])) := c4.trans (by
        refine XS.istoreS Xl.here hexec rfl (hb hbytes d13) rfl rfl hz ?_
        exact Steps.refl _)
      have c6 : Steps p.tables e below (s₁.setTop (entryFrame m #[.ref b, .int (Int32.ofNat o), .ref d, .int (Int32.ofNat q), .int (Int32.ofNat len)] 7)) (Tl.setTop (mkF m 31 #[.val (.ref b), .val (.int (Int32.ofNat (o + i))), .val (.ref d), .val (.int (Int32.ofNat (q + i))), .val (.int (Int32.ofNat len)), .val (.int (Int32.ofNat i)), .val (.int (cv A (o + i)))] [.int (lo8 (cv A (o + i))), .int (Int32.ofNat (q + i)), .ref d])) := c5.trans (by
        refine XS.iload Xl.here hexec rfl (hb hbytes d15) rfl ?_
        refine sipushV Xl.here hexec rfl 255 (hb hbytes d17) (by decide) ?_
        refine XS.icmpYes Xl.here hexec rfl (pc0 := 20) rfl (hb hbytes d20) rfl (ii_le_t (hp i (by omega))) (by decide) rfl ?_
        refine XS.aloadN Xl.here hexec rfl (hb hbytes d26) rfl rfl ?_
        refine XS.iloadN Xl.here hexec rfl (hb hbytes d27) rfl ?_
        refine XS.iload Xl.here hexec rfl (hb hbytes d28) rfl ?_
        refine i2b Xl.here hexec rfl (hb hbytes d30) rfl ?_
        exact Steps.refl _)
      obtain ⟨T7, X7, p7, st7⟩ := Xl.aput hexec hBk rfl hlt rfl (fits_lo8 (cv A (o + i))) (g := (mkF m 31 #[.val (.ref b), .val (.int (Int32.ofNat (o + i))), .val (.ref d), .val (.int (Int32.ofNat (q + i))), .val (.int (Int32.ofNat len)), .val (.int (Int32.ofNat i)), .val (.int (cv A (o + i)))] [.int (lo8 (cv A (o + i))), .int (Int32.ofNat (q + i)), .ref d])) rfl (rest := []) rfl (hb hbytes d31)
      have c8 : Steps p.tables e below (s₁.setTop (entryFrame m #[.ref b, .int (Int32.ofNat o), .ref d, .int (Int32.ofNat q), .int (Int32.ofNat len)] 7)) (T7.setTop (mkF m 32 #[.val (.ref b), .val (.int (Int32.ofNat (o + i))), .val (.ref d), .val (.int (Int32.ofNat (q + i))), .val (.int (Int32.ofNat len)), .val (.int (Int32.ofNat i)), .val (.int (cv A (o + i)))] [])) := c6.trans (st7 _ (Steps.refl _))
      have c9 : Steps p.tables e below (s₁.setTop (entryFrame m #[.ref b, .int (Int32.ofNat o), .ref d, .int (Int32.ofNat q), .int (Int32.ofNat len)] 7)) (T7.setTop (mkF m 3 #[.val (.ref b), .val (.int (Int32.ofNat (o + i) + 1)), .val (.ref d), .val (.int (Int32.ofNat (q + i) + 1)), .val (.int (Int32.ofNat len)), .val (.int (Int32.ofNat i + 1)), .val (.int (cv A (o + i)))] [])) := c8.trans (by
        refine iincV X7.here hexec rfl 1 (hb hbytes d32) (by decide) rfl rfl ?_
        refine iincV X7.here hexec rfl 1 (hb hbytes d35) (by decide) rfl rfl ?_
        refine iincV X7.here hexec rfl 1 (hb hbytes d38) (by decide) rfl rfl ?_
        refine XS.goto X7.here hexec rfl (pc0 := 41) rfl (hb hbytes d41) (by decide) rfl ?_
        exact Steps.refl _)
      have c10 : Steps p.tables e below (s₁.setTop (entryFrame m #[.ref b, .int (Int32.ofNat o), .ref d, .int (Int32.ofNat q), .int (Int32.ofNat len)] 7)) (T7.setTop (mkF m 3 #[.val (.ref b), .val (.int (Int32.ofNat (o + (i + 1)))), .val (.ref d), .val (.int (Int32.ofNat (q + (i + 1)))), .val (.int (Int32.ofNat len)), .val (.int (Int32.ofNat (i + 1))), .val (.int (cv A (o + i)))] [])) := by
        have := c9
        rw [succ32, succ32, succ32] at this
        exact this
      exact ih (i + 1) (by omega) _ (Or.inr ⟨_, rfl, rfl⟩) T7 _ (by rw [copyLocs_step, ← List.append_assoc]; exact X7) (pl.trans p7) (fl.step (by omega) hlt (by simp)) c10
  obtain ⟨T9, B9, z9, X9, p9, f9, g9⟩ := loop len 0 (by omega) .unset (Or.inl rfl) s₁ B (by simpa [copyLocs] using X0) ⟨hB0.1, fun _ _ => rfl, rfl⟩ (Laid.zero _ _ _) c2
  have c11 : Steps p.tables e below (s₁.setTop (entryFrame m #[.ref b, .int (Int32.ofNat o), .ref d, .int (Int32.ofNat q), .int (Int32.ofNat len)] 7)) (T9.setTop (mkF m 46 #[.val (.ref b), .val (.int (Int32.ofNat (o + len))), .val (.ref d), .val (.int (Int32.ofNat (q + len))), .val (.int (Int32.ofNat len)), .val (.int (Int32.ofNat len)), z9] [.int (Int32.ofNat len)])) := g9.trans (by
    refine XS.iload X9.here hexec rfl (hb hbytes d3) rfl ?_
    refine XS.iload X9.here hexec rfl (hb hbytes d5) rfl ?_
    refine XS.icmpYes X9.here hexec rfl (pc0 := 7) rfl (hb hbytes d7) rfl (ii_ge_t (nlt32 (by omega) (Nat.le_refl _))) (by decide) rfl ?_
    refine XS.iload X9.here hexec rfl (hb hbytes d44) rfl ?_
    exact Steps.refl _)
  exact ⟨T9, some (.int (Int32.ofNat len)), _, _, _, X9, by simp, rfl, rfl, (fun h => by cases h), ⟨rfl, B9, p9.from hh0, f9⟩, fun fs hl => c11.trans (X9.ireturnOut hexec hret rfl (Or.inl rfl) (hb hbytes d46) hl)⟩
end Cmp5
namespace Cmp3
def yN : MethodName := ⟨"java/lang/StringUTF16", "compress", "([CII)[B"⟩
abbrev yB : ByteArray := jdk_52_method_16_code
theorem d0 : decode yB 0 = .ok (.iload_n 2, 1) := by decide +kernel
theorem d1 : decode yB 1 = .ok (.newarray .byte, 2) := by decide +kernel
theorem d3 : decode yB 3 = .ok (.astore_n 3, 1) := by decide +kernel
theorem d4 : decode yB 4 = .ok (.aload_n 0, 1) := by decide +kernel
theorem d5 : decode yB 5 = .ok (.iload_n 1, 1) := by decide +kernel
theorem d6 : decode yB 6 = .ok (.aload_n 3, 1) := by decide +kernel
theorem d7 : decode yB 7 = .ok (.iconst 0, 1) := by decide +kernel
theorem d8 : decode yB 8 = .ok (.iload_n 2, 1) := by decide +kernel
theorem d9 : decode yB 9 = .ok (.invokestatic 115, 3) := by decide +kernel
theorem d12 : decode yB 12 = .ok (.istore 4, 2) := by decide +kernel
theorem d14 : decode yB 14 = .ok (.iload 4, 2) := by decide +kernel
theorem d16 : decode yB 16 = .ok (.iload_n 2, 1) := by decide +kernel
theorem d17 : decode yB 17 = .ok (.if_icmp (.eq) 40, 3) := by decide +kernel
theorem d57 : decode yB 57 = .ok (.aload_n 3, 1) := by decide +kernel
theorem d58 : decode yB 58 = .ok (.areturn, 1) := by decide +kernel
def site : List Cond := [.arrayClass .byte, Cmp5.tab] ++ staticW U16 115 Cmp5.yN
def tab : Cond := tabOf yN yB 6 (some (.array .byte)) site
def P (b : Addr) (A : Cell) (o len : Nat) (args : Array Value) (s : State) : Prop := args = #[.ref b, .int (Int32.ofNat o), .int (Int32.ofNat len)] ∧ Ch b A s ∧ o + len ≤ A.slots.size ∧ len ≤ 536870912 ∧ ∀ i, i < len → ¬ 255 < cv A (o + i)
def E (b : Addr) (A : Cell) (o len : Nat) (r : Option Value) (s u : State) : Prop := NewArr .byte "[B" len (fun j => .int (lo8 (cv A (o + j)))) r s u ∧ u.heap.size = s.heap.size + 1
/-- no char of the range above 255: a new byte[] of their low bytes -/
theorem law (l : Launch) (b : Addr) (A : Cell) (o len : Nat) : Law l yN 3 3 1 18 yB 6 (some (.array .byte)) site (P b A o len) (E b A o len) [] 1 len := by
  refine Law.of_walk (plainFor_of_name (by decide +kernel)) (by decide +kernel) (by decide +kernel) (by decide) (fun _ _ h => by rw [h.1]; rfl) (fun _ U U' hal hh h => ⟨h.1, h.2.1.mv hal hh, h.2.2⟩) (fun r U U' V V' h1 hal h2 h => ⟨NewArr.mv r U U' V V' h1 hal h2 h.1, by rw [h1, h2]; exact h.2⟩) ?_
  intro p e s m args below meth c s₁ X0 hexec hbytes hml hret hlk hnm hown hh0 W hP
  obtain ⟨rfl, hA, l1, l2, hp⟩ := hP
  have a31 := hA.1.2.2.2
  have c1 : Steps p.tables e below (s₁.setTop (entryFrame m #[.ref b, .int (Int32.ofNat o), .int (Int32.ofNat len)] 6)) (s₁.setTop (mkF m 0 #[.val (.ref b), .val (.int (Int32.ofNat o)), .val (.int (Int32.ofNat len)), .unset, .unset, .unset] [])) := entry rfl
  have c2 : Steps p.tables e below (s₁.setTop (entryFrame m #[.ref b, .int (Int32.ofNat o), .int (Int32.ofNat len)] 6)) (s₁.setTop (mkF m 1 #[.val (.ref b), .val (.int (Int32.ofNat o)), .val (.int (Int32.ofNat len)), .unset, .unset, .unset] [.int (Int32.ofNat len)])) := c1.trans (by
    refine XS.iloadN X0.here hexec rfl (hb hbytes d0) rfl ?_
    exact Steps.refl _)
  obtain ⟨T3, B3, X3, ba3, bs3, bv3, bh3, bf3, st3⟩ := X0.anew hexec (atype := .byte) (wk W (.arrayClass .byte)) rfl (by show len * 1 ≤ _; omega) (by omega) (g := (mkF m 1 #[.val (.ref b), .val (.int (Int32.ofNat o)), .val (.int (Int32.ofNat len)), .unset, .unset, .unset] [.int (Int32.ofNat len)])) rfl (hb hbytes d1) (rest := []) rfl (Nat.le_refl _) (by show 0 + len ≤ len; omega)
  rw [hh0] at ba3 st3
  have kp3 : XT.Kept s T3 := (XT.Kept.of_eq hh0).push bh3
  have hA3 := hA.keep X3.warmed.alike (kp3 _ _ hA.1.1)
  have hne : b ≠ s.heap.size := hA.1.ne
  have c4 : Steps p.tables e below (s₁.setTop (entryFrame m #[.ref b, .int (Int32.ofNat o), .int (Int32.ofNat len)] 6)) (T3.setTop (mkF m 3 #[.val (.ref b), .val (.int (Int32.ofNat o)), .val (.int (Int32.ofNat len)), .unset, .unset, .unset] [.ref s.heap.size])) := c2.trans (st3 _ (Steps.refl _))
  have c5 : Steps p.tables e below (s₁.setTop (entryFrame m #[.ref b, .int (Int32.ofNat o), .int (Int32.ofNat len)] 6)) (T3.setTop (mkF m 9 #[.val (.ref b), .val (.int (Int32.ofNat o)), .val (.int (Int32.ofNat len)), .val (.ref s.heap.size), .unset, .unset] [.int (Int32.ofNat len), .int 0, .ref s.heap.size, .int (Int32.ofNat o), .ref b])) := c4.trans (by
    refine XS.astoreN X3.here hexec rfl (hb hbytes d3) rfl rfl rfl ?_
    refine XS.aloadN X3.here hexec rfl (hb hbytes d4) rfl rfl ?_
    refine XS.iloadN X3.here hexec rfl (hb hbytes d5) rfl ?_
    refine XS.aloadN X3.here hexec rfl (hb hbytes d6) rfl rfl ?_
    refine iconstV X3.here hexec rfl 0 (hb hbytes d7) (by decide) ?_
    refine XS.iloadN X3.here hexec rfl (hb hbytes d8) rfl ?_
    exact Steps.refl _)
  obtain ⟨v6, T6, X6, E6, g6⟩ := X3.callS hexec (Cmp5.law l b A s.heap.size B3 o 0 len) hown (wks W (staticW U16 115 Cmp5.yN)) (wk W Cmp5.tab) (W := 0) (Nat.le_of_ble_eq_true rfl) (Nat.le_of_ble_eq_true rfl) (Nat.le_refl _) (by show 0 + len + 0 ≤ len; omega) (g := (mkF m 9 #[.val (.ref b), .val (.int (Int32.ofNat o)), .val (.int (Int32.ofNat len)), .val (.ref s.heap.size), .unset, .unset] [.int (Int32.ofNat len), .int (Int32.ofNat 0), .ref s.heap.size, .int (Int32.ofNat o), .ref b])) rfl (by rw [hml]; rfl) c5 (argsL := [.ref b, .int (Int32.ofNat o), .ref s.heap.size, .int (Int32.ofNat 0), .int (Int32.ofNat len)]) (rest := []) rfl rfl (by show 2 * 0 + 0 ≤ _; decide) (hb hbytes d9) (⟨rfl, hA3, ba3, hne, l1, by rw [bs3]; simp, hp⟩)
  obtain ⟨rfl, B6, p6, f6⟩ := E6
  have c7 : Steps p.tables e below (s₁.setTop (entryFrame m #[.ref b, .int (Int32.ofNat o), .int (Int32.ofNat len)] 6)) (T6.setTop (mkF m 12 #[.val (.ref b), .val (.int (Int32.ofNat o)), .val (.int (Int32.ofNat len)), .val (.ref s.heap.size), .unset, .unset] [.int (Int32.ofNat len)])) := g6
  have c8 : Steps p.tables e below (s₁.setTop (entryFrame m #[.ref b, .int (Int32.ofNat o), .int (Int32.ofNat len)] 6)) (T6.setTop (mkF m 58 #[.val (.ref b), .val (.int (Int32.ofNat o)), .val (.int (Int32.ofNat len)), .val (.ref s.heap.size), .val (.int (Int32.ofNat len)), .unset] [.ref s.heap.size])) := c7.trans (by
    refine XS.istore X6.here hexec rfl (hb hbytes d12) rfl rfl ?_
    refine XS.iload X6.here hexec rfl (hb hbytes d14) rfl ?_
    refine XS.iloadN X6.here hexec rfl (hb hbytes d16) rfl ?_
    refine XS.icmpYes X6.here hexec rfl (pc0 := 17) rfl (hb hbytes d17) rfl (ii_eq_t rfl) (by decide) rfl ?_
    refine XS.aloadN X6.here hexec rfl (hb hbytes d57) rfl rfl ?_
    exact Steps.refl _)
  have X8 := X6.wide (L' := []) (cells' := 1) (slots' := len) (fun x hx hlt => by
    simp only [List.nil_append, copyLocs, List.mem_map, List.mem_range] at hx
    obtain ⟨i, -, rfl⟩ := hx
    exact absurd hlt (Nat.lt_irrefl _)) (Nat.le_refl _) (by omega)
  exact ⟨T6, some (.ref s.heap.size), _, _, _, X8, rfl, rfl, rfl, (fun h => by cases h), ⟨⟨rfl, B6, ba3.like (X3.warmed.alike.symm.trans X6.warmed.alike) p6.1 f6.1 f6.2.1 f6.2.2.1, f6.2.1.trans bv3, by rw [X6.warmed.alike.findClass, f6.1]; exact bf3, by rw [f6.2.2.1, bs3]; simp, fun j hj => by rw [f6.2.2.2 j, if_pos (by omega)]; rfl, kp3.put p6 (Nat.le_refl _)⟩, by rw [p6.2.2, bh3, hh0]; simp⟩, fun fs hl => c8.trans (X8.areturnOut hexec rfl hret rfl (hb hbytes d58) hl)⟩
end Cmp3
namespace CodL
def yN : MethodName := ⟨"java/lang/StringUTF16", "coderFromArrayLen", "([BI)B"⟩
abbrev yB : ByteArray := jdk_52_method_15_code
theorem d0 : decode yB 0 = .ok (.iload_n 1, 1) := by decide +kernel
theorem d1 : decode yB 1 = .ok (.aload_n 0, 1) := by decide +kernel
theorem d2 : decode yB 2 = .ok (.arraylength, 1) := by decide +kernel
theorem d3 : decode yB 3 = .ok (.isub, 1) := by decide +kernel
theorem d4 : decode yB 4 = .ok (.bipush 31, 2) := by decide +kernel
theorem d6 : decode yB 6 = .ok (.iushr, 1) := by decide +kernel
theorem d7 : decode yB 7 = .ok (.i2b, 1) := by decide +kernel
theorem d8 : decode yB 8 = .ok (.ireturn, 1) := by decide +kernel
def site : List Cond := []
def tab : Cond := tabOf yN yB 2 (some .byte) site
def P (d : Addr) (B : Cell) (args : Array Value) (s : State) : Prop := args = #[.ref d, .int (Int32.ofNat B.slots.size)] ∧ Arr .byte d B s
def E (r : Option Value) (s u : State) : Prop := XT.PureE (some (.int 0)) r s u
/-- an array as long as the number of chars: LATIN1 -/
theorem law (l : Launch) (d : Addr) (B : Cell) : Law l yN 2 2 0 0 yB 2 (some .byte) site (P d B) E [] 0 0 := by
  refine Law.of_walk (plainFor_of_name (by decide +kernel)) (by decide +kernel) (by decide +kernel) (by decide) (fun _ _ h => by rw [h.1]; rfl) (fun _ U U' hal hh h => ⟨h.1, h.2.mv hal hh⟩) (fun r U U' V V' h1 hal h2 h => XT.PureE.mv r U U' V V' h1 hal h2 h) ?_
  intro p e s m args below meth c s₁ X0 hexec hbytes hml hret hlk hnm hown hh0 W hP
  obtain ⟨rfl, hB⟩ := hP
  have hB0 := hB.mv X0.warmed.alike hh0
  have c1 : Steps p.tables e below (s₁.setTop (entryFrame m #[.ref d, .int (Int32.ofNat B.slots.size)] 2)) (s₁.setTop (mkF m 0 #[.val (.ref d), .val (.int (Int32.ofNat B.slots.size))] [])) := entry rfl
  have c2 : Steps p.tables e below (s₁.setTop (entryFrame m #[.ref d, .int (Int32.ofNat B.slots.size)] 2)) (s₁.setTop (mkF m 2 #[.val (.ref d), .val (.int (Int32.ofNat B.slots.size))] [.ref d, .int (Int32.ofNat B.slots.size)])) := c1.trans (by
    refine XS.iloadN X0.here hexec rfl (hb hbytes d0) rfl ?_
    refine XS.aloadN X0.here hexec rfl (hb hbytes d1) rfl rfl ?_
    exact Steps.refl _)
  have c3 : Steps p.tables e below (s₁.setTop (entryFrame m #[.ref d, .int (Int32.ofNat B.slots.size)] 2)) (s₁.setTop (mkF m 8 #[.val (.ref d), .val (.int (Int32.ofNat B.slots.size))] [.int (lo8 (ushr (Int32.ofNat B.slots.size - Int32.ofNat B.slots.size) 31))])) := c2.trans (by
    refine X0.alen hexec hB0 rfl rfl (hb hbytes d2) ?_
    refine XS.isub X0.here hexec rfl (hb hbytes d3) rfl ?_
    refine bipushV X0.here hexec rfl 31 (hb hbytes d4) (by decide) ?_
    refine iushr X0.here hexec rfl (hb hbytes d6) rfl ?_
    refine i2b X0.here hexec rfl (hb hbytes d7) rfl ?_
    exact Steps.refl _)
  have e0 : lo8 (ushr (Int32.ofNat B.slots.size - Int32.ofNat B.slots.size) 31) = 0 := by rw [Int32.sub_self]; decide
  rw [e0] at c3
  exact ⟨s₁, some (.int 0), _, _, _, X0, rfl, rfl, rfl, (fun h => by cases h), ⟨rfl, hh0⟩, fun fs hl => c3.trans (X0.ireturnOut hexec hret rfl (Or.inr (Or.inr (Or.inl rfl))) (hb hbytes d8) hl)⟩
end CodL
/-- the String at a is Latin-1 over a new byte[] (the heap's one new cell): the low bytes of the len chars of A from o on; every cell but a is kept -/
def Got (a : Addr) (D : Cell) (fV fC : Field) (A : Cell) (o len : Nat) (r : Option Value) (s u : State) : Prop := r = none ∧ ∃ D' V : Cell, Blank "java/lang/String" a D' u ∧ Same D D' [fV.slot, fC.slot] ∧ D'.slots[fV.slot]? = some (.ref s.heap.size) ∧ D'.slots[fC.slot]? = some (.int 0) ∧ Arr .byte s.heap.size V u ∧ V.vm = .none ∧ u.vm.findClass "[B" = some V.cls ∧ V.slots.size = len ∧ (∀ j, j < len → V.slots[j]? = some (.int (lo8 (cv A (o + j))))) ∧ (∀ (y : Addr) (c : Cell), y ≠ a → s.heap[y]? = some c → u.heap[y]? = some c) ∧ u.heap.size = s.heap.size + 1
theorem Got.mv {a : Addr} {D A : Cell} {fV fC : Field} {o len : Nat} : ∀ r (U U' V V' : State), U'.heap = U.heap → V.vm.Alike V'.vm → V'.heap = V.heap → Got a D fV fC A o len r U V → Got a D fV fC A o len r U' V' :=
  fun r U U' V V' h1 hal h2 ⟨e0, D', X, a1, a2, a3, a4, a5, a6, a7, a8, a9, a10, a11⟩ => ⟨e0, D', X, a1.mv hal h2, a2, by rw [h1]; exact a3, a4, by rw [h1]; exact a5.mv hal h2, a6, by rw [hal.findClass]; exact a7, a8, a9, by rw [h1, h2]; exact a10, by rw [h1, h2]; exact a11⟩
namespace New4
def yN : MethodName := ⟨"java/lang/String", "<init>", "([CIILjava/lang/Void;)V"⟩
abbrev yB : ByteArray := jdk_42_method_149_code
theorem d0 : decode yB 0 = .ok (.aload_n 0, 1) := by decide +kernel
theorem d1 : decode yB 1 = .ok (.invokespecial 1, 3) := by decide +kernel
theorem d4 : decode yB 4 = .ok (.iload_n 3, 1) := by decide +kernel
theorem d5 : decode yB 5 = .ok (.ifCond (.ne) 22, 3) := by decide +kernel
theorem d27 : decode yB 27 = .ok (.getstatic 38, 3) := by decide +kernel
theorem d30 : decode yB 30 = .ok (.ifCond (.eq) 28, 3) := by decide +kernel
theorem d33 : decode yB 33 = .ok (.aload_n 1, 1) := by decide +kernel
theorem d34 : decode yB 34 = .ok (.iload_n 2, 1) := by decide +kernel
theorem d35 : decode yB 35 = .ok (.iload_n 3, 1) := by decide +kernel
theorem d36 : decode yB 36 = .ok (.invokestatic 177, 3) := by decide +kernel
theorem d39 : decode yB 39 = .ok (.astore 5, 2) := by decide +kernel
theorem d41 : decode yB 41 = .ok (.aload_n 0, 1) := by decide +kernel
theorem d42 : decode yB 42 = .ok (.aload 5, 2) := by decide +kernel
theorem d44 : decode yB 44 = .ok (.iload_n 3, 1) := by decide +kernel
theorem d45 : decode yB 45 = .ok (.invokestatic 47, 3) := by decide +kernel
theorem d48 : decode yB 48 = .ok (.putfield 15, 3) := by decide +kernel
theorem d51 : decode yB 51 = .ok (.aload_n 0, 1) := by decide +kernel
theorem d52 : decode yB 52 = .ok (.aload 5, 2) := by decide +kernel
theorem d54 : decode yB 54 = .ok (.putfield 9, 3) := by decide +kernel
theorem d57 : decode yB 57 = .ok (.return_, 1) := by decide +kernel
def site : List Cond := [.fieldLink "java/lang/String" 38 "java/lang/String" "COMPACT_STRINGS" "Z", Cmp3.tab, CodL.tab, .laysFinal "java/lang/String" "java/lang/String" "value" "[B", .fieldLink "java/lang/String" 9 "java/lang/String" "value" "[B", .laysFinal "java/lang/String" "java/lang/String" "coder" "B", .fieldLink "java/lang/String" 15 "java/lang/String" "coder" "B"] ++ objW "java/lang/String" 1 ++ staticW "java/lang/String" 177 Cmp3.yN ++ staticW "java/lang/String" 47 CodL.yN
def tab : Cond := tabOf yN yB 6 none site
def P (a : Addr) (D : Cell) (fV fC : Field) (b : Addr) (A : Cell) (z : Int32) (o len : Nat) (args : Array Value) (s : State) : Prop := args = #[.ref a, .ref b, .int (Int32.ofNat o), .int (Int32.ofNat len), .null] ∧ Blank "java/lang/String" a D s ∧ Found "java/lang/String" "value" "[B" fV s ∧ Found "java/lang/String" "coder" "B" fC s ∧ Ch b A s ∧ StaticIs s "java/lang/String" "COMPACT_STRINGS" "Z" (.int z) ∧ ¬ z = 0 ∧ 0 < len ∧ o + len ≤ A.slots.size ∧ len ≤ 536870912 ∧ ∀ i, i < len → ¬ 255 < cv A (o + i)
def E (a : Addr) (D : Cell) (fV fC : Field) (A : Cell) (o len : Nat) (r : Option Value) (s u : State) : Prop := Got a D fV fC A o len r s u
/-- len > 0, no char of the range above 255: a Latin-1 String of their low bytes -/
theorem law (l : Launch) (a : Addr) (D : Cell) (fV fC : Field) (b : Addr) (A : Cell) (z : Int32) (o len : Nat) : Law l yN 5 4 2 35 yB 6 none site (P a D fV fC b A z o len) (E a D fV fC A o len) [⟨a, fC.slot⟩, ⟨a, fV.slot⟩] 1 len := by
  refine Law.of_walk (plainFor_of_name (by decide +kernel)) (by decide +kernel) (by decide +kernel) (by decide) (fun _ _ h => by rw [h.1]; rfl) (fun _ U U' hal hh h => ⟨h.1, h.2.1.mv hal hh, h.2.2.1.al hal, h.2.2.2.1.al hal, h.2.2.2.2.1.mv hal hh, h.2.2.2.2.2.1.there hal hh, h.2.2.2.2.2.2⟩) (fun r U U' V V' h1 hal h2 h => Got.mv r U U' V V' h1 hal h2 h) ?_
  intro p e s m args below meth c s₁ X0 hexec hbytes hml hret hlk hnm hown hh0 W hP
  obtain ⟨rfl, hB, f1, f2, hA, s1, hz, l0, l1, l2, hp⟩ := hP
  have a31 := hA.1.2.2.2
  have c1 : Steps p.tables e below (s₁.setTop (entryFrame m #[.ref a, .ref b, .int (Int32.ofNat o), .int (Int32.ofNat len), .null] 6)) (s₁.setTop (mkF m 0 #[.val (.ref a), .val (.ref b), .val (.int (Int32.ofNat o)), .val (.int (Int32.ofNat len)), .val .null, .unset] [])) := entry rfl
  have c2 : Steps p.tables e below (s₁.setTop (entryFrame m #[.ref a, .ref b, .int (Int32.ofNat o), .int (Int32.ofNat len), .null] 6)) (s₁.setTop (mkF m 1 #[.val (.ref a), .val (.ref b), .val (.int (Int32.ofNat o)), .val (.int (Int32.ofNat len)), .val .null, .unset] [.ref a])) := c1.trans (by
    refine XS.aloadN X0.here hexec rfl (hb hbytes d0) rfl rfl ?_
    exact Steps.refl _)
  obtain ⟨T3, X3, q3, st3⟩ := X0.oinit hexec hown (wks W (objW "java/lang/String" 1)) (g := (mkF m 1 #[.val (.ref a), .val (.ref b), .val (.int (Int32.ofNat o)), .val (.int (Int32.ofNat len)), .val .null, .unset] [.ref a])) rfl (by rw [hml]; rfl) (rest := []) rfl (hb hbytes d1) (W := 0) (by show 2 * 0 + 0 ≤ _; decide) (Nat.le_of_ble_eq_true rfl) (Nat.le_of_ble_eq_true rfl)
  have hh3 := q3.trans hh0
  have c4 : Steps p.tables e below (s₁.setTop (entryFrame m #[.ref a, .ref b, .int (Int32.ofNat o), .int (Int32.ofNat len), .null] 6)) (T3.setTop (mkF m 27 #[.val (.ref a), .val (.ref b), .val (.int (Int32.ofNat o)), .val (.int (Int32.ofNat len)), .val .null, .unset] [])) := (c2.trans (st3 _ (Steps.refl _))).trans (by
    refine XS.iloadN X3.here hexec rfl (hb hbytes d4) rfl ?_
    refine XS.ifYes X3.here hexec rfl (pc0 := 5) rfl (hb hbytes d5) rfl (i0_ne_t (nz32 (by omega) l0)) (by decide) rfl ?_
    exact Steps.refl _)
  obtain ⟨T5, X5, q5, st5⟩ := X3.sget hexec hown (wk W (.fieldLink "java/lang/String" 38 "java/lang/String" "COMPACT_STRINGS" "Z")) s1 (fun _ _ h => by rw [hh3]; exact h) (g := (mkF m 27 #[.val (.ref a), .val (.ref b), .val (.int (Int32.ofNat o)), .val (.int (Int32.ofNat len)), .val .null, .unset] [])) rfl (hb hbytes d27)
  have hh5 := q5.trans hh3
  have c6 : Steps p.tables e below (s₁.setTop (entryFrame m #[.ref a, .ref b, .int (Int32.ofNat o), .int (Int32.ofNat len), .null] 6)) (T5.setTop (mkF m 30 #[.val (.ref a), .val (.ref b), .val (.int (Int32.ofNat o)), .val (.int (Int32.ofNat len)), .val .null, .unset] [.int z])) := c4.trans (st5 _ (Steps.refl _))
  have c7 : Steps p.tables e below (s₁.setTop (entryFrame m #[.ref a, .ref b, .int (Int32.ofNat o), .int (Int32.ofNat len), .null] 6)) (T5.setTop (mkF m 36 #[.val (.ref a), .val (.ref b), .val (.int (Int32.ofNat o)), .val (.int (Int32.ofNat len)), .val .null, .unset] [.int (Int32.ofNat len), .int (Int32.ofNat o), .ref b])) := c6.trans (by
    refine XS.ifNo X5.here hexec rfl (hb hbytes d30) rfl (i0_eq_f hz) ?_
    refine XS.aloadN X5.here hexec rfl (hb hbytes d33) rfl rfl ?_
    refine XS.iloadN X5.here hexec rfl (hb hbytes d34) rfl ?_
    refine XS.iloadN X5.here hexec rfl (hb hbytes d35) rfl ?_
    exact Steps.refl _)
  obtain ⟨v8, T8, X8, E8, g8⟩ := X5.callS hexec (Cmp3.law l b A o len) hown (wks W (staticW "java/lang/String" 177 Cmp3.yN)) (wk W Cmp3.tab) (W := 0) (Nat.le_of_ble_eq_true rfl) (Nat.le_of_ble_eq_true rfl) (Nat.le_refl _) (by show 0 + len ≤ len; omega) (g := (mkF m 36 #[.val (.ref a), .val (.ref b), .val (.int (Int32.ofNat o)), .val (.int (Int32.ofNat len)), .val .null, .unset] [.int (Int32.ofNat len), .int (Int32.ofNat o), .ref b])) rfl (by rw [hml]; rfl) c7 (argsL := [.ref b, .int (Int32.ofNat o), .int (Int32.ofNat len)]) (rest := []) rfl rfl (by show 2 * 0 + 0 ≤ _; decide) (hb hbytes d36) (⟨rfl, hA.mv X5.warmed.alike hh5, l1, l2, hp⟩)
  obtain ⟨e8, z8⟩ := E8
  obtain ⟨rfl, N, n1, n2, n3, n4, n5, n6⟩ := NewArr.mv _ T5 s _ _ hh5.symm (Vm.Alike.refl _) rfl e8
  rw [hh5] at z8
  have hB1 := hB.keep X8.warmed.alike (n6 _ _ hB.1)
  have hne : s.heap.size ≠ a := (Nat.ne_of_lt (Array.getElem?_eq_some_iff.mp hB.1).1).symm
  have c9 : Steps p.tables e below (s₁.setTop (entryFrame m #[.ref a, .ref b, .int (Int32.ofNat o), .int (Int32.ofNat len), .null] 6)) (T8.setTop (mkF m 39 #[.val (.ref a), .val (.ref b), .val (.int (Int32.ofNat o)), .val (.int (Int32.ofNat len)), .val .null, .unset] [.ref s.heap.size])) := g8
  have c10 : Steps p.tables e below (s₁.setTop (entryFrame m #[.ref a, .ref b, .int (Int32.ofNat o), .int (Int32.ofNat len), .null] 6)) (T8.setTop (mkF m 45 #[.val (.ref a), .val (.ref b), .val (.int (Int32.ofNat o)), .val (.int (Int32.ofNat len)), .val .null, .val (.ref s.heap.size)] [.int (Int32.ofNat N.slots.size), .ref s.heap.size, .ref a])) := by
    have hc : Steps p.tables e below (s₁.setTop (entryFrame m #[.ref a, .ref b, .int (Int32.ofNat o), .int (Int32.ofNat len), .null] 6)) (T8.setTop (mkF m 45 #[.val (.ref a), .val (.ref b), .val (.int (Int32.ofNat o)), .val (.int (Int32.ofNat len)), .val .null, .val (.ref s.heap.size)] [.int (Int32.ofNat len), .ref s.heap.size, .ref a])) := c9.trans (by
      refine XS.astore X8.here hexec rfl (hb hbytes d39) rfl rfl rfl ?_
      refine XS.aloadN X8.here hexec rfl (hb hbytes d41) rfl rfl ?_
      refine XS.aload X8.here hexec rfl (hb hbytes d42) rfl rfl ?_
      refine XS.iloadN X8.here hexec rfl (hb hbytes d44) rfl ?_
      exact Steps.refl _)
    rw [n4]; exact hc
  obtain ⟨v11, T11, X11, E11, g11⟩ := X8.callS hexec (CodL.law l s.heap.size N) hown (wks W (staticW "java/lang/String" 47 CodL.yN)) (wk W CodL.tab) (W := 1) (Nat.le_of_ble_eq_true rfl) (Nat.le_of_ble_eq_true rfl) (Nat.le_refl _) (by show 0 + len + 0 ≤ len; omega) (g := (mkF m 45 #[.val (.ref a), .val (.ref b), .val (.int (Int32.ofNat o)), .val (.int (Int32.ofNat len)), .val .null, .val (.ref s.heap.size)] [.int (Int32.ofNat N.slots.size), .ref s.heap.size, .ref a])) rfl (by rw [hml]; rfl) c10 (argsL := [.ref s.heap.size, .int (Int32.ofNat N.slots.size)]) (rest := [.ref a]) rfl rfl (by show 2 * 0 + (1 + 0) ≤ _; decide) (hb hbytes d45) (⟨rfl, n1⟩)
  obtain ⟨rfl, q11⟩ := E11
  have hB11 := hB1.mv (X8.warmed.alike.symm.trans X11.warmed.alike) q11
  have c12 : Steps p.tables e below (s₁.setTop (entryFrame m #[.ref a, .ref b, .int (Int32.ofNat o), .int (Int32.ofNat len), .null] 6)) (T11.setTop (mkF m 48 #[.val (.ref a), .val (.ref b), .val (.int (Int32.ofNat o)), .val (.int (Int32.ofNat len)), .val .null, .val (.ref s.heap.size)] [.int 0, .ref a])) := g11
  obtain ⟨T13, X13, p13, bl13, sl13, st13⟩ := X11.finit hexec hown (wk W (.fieldLink "java/lang/String" 15 "java/lang/String" "coder" "B")) (Or.inr ⟨_, (wk W (.laysFinal "java/lang/String" "java/lang/String" "coder" "B"))⟩) (Or.inl ⟨rfl, hnm⟩) f2 (Or.inl rfl) hB11 (t := .byte) (by decide +kernel) rfl (g := (mkF m 48 #[.val (.ref a), .val (.ref b), .val (.int (Int32.ofNat o)), .val (.int (Int32.ofNat len)), .val .null, .val (.ref s.heap.size)] [.int 0, .ref a])) rfl (rest := []) rfl (hb hbytes d48)
  have c14 : Steps p.tables e below (s₁.setTop (entryFrame m #[.ref a, .ref b, .int (Int32.ofNat o), .int (Int32.ofNat len), .null] 6)) (T13.setTop (mkF m 54 #[.val (.ref a), .val (.ref b), .val (.int (Int32.ofNat o)), .val (.int (Int32.ofNat len)), .val .null, .val (.ref s.heap.size)] [.ref s.heap.size, .ref a])) := (c12.trans (st13 _ (Steps.refl _))).trans (by
    refine XS.aloadN X13.here hexec rfl (hb hbytes d51) rfl rfl ?_
    refine XS.aload X13.here hexec rfl (hb hbytes d52) rfl rfl ?_
    exact Steps.refl _)
  obtain ⟨T15, X15, p15, bl15, sl15, st15⟩ := X13.finit hexec hown (wk W (.fieldLink "java/lang/String" 9 "java/lang/String" "value" "[B")) (Or.inr ⟨_, (wk W (.laysFinal "java/lang/String" "java/lang/String" "value" "[B"))⟩) (Or.inl ⟨rfl, hnm⟩) f1 (Or.inl rfl) bl13 (t := (.array .byte)) (by decide +kernel) rfl (g := (mkF m 54 #[.val (.ref a), .val (.ref b), .val (.int (Int32.ofNat o)), .val (.int (Int32.ofNat len)), .val .null, .val (.ref s.heap.size)] [.ref s.heap.size, .ref a])) rfl (rest := []) rfl (hb hbytes d54)
  have c16 : Steps p.tables e below (s₁.setTop (entryFrame m #[.ref a, .ref b, .int (Int32.ofNat o), .int (Int32.ofNat len), .null] 6)) (T15.setTop (mkF m 57 #[.val (.ref a), .val (.ref b), .val (.int (Int32.ofNat o)), .val (.int (Int32.ofNat len)), .val .null, .val (.ref s.heap.size)] [])) := c14.trans (st15 _ (Steps.refl _))
  have ap := apart (Or.inr ⟨_, (wk W (.laysFinal "java/lang/String" "java/lang/String" "value" "[B"))⟩) (Or.inr ⟨_, (wk W (.laysFinal "java/lang/String" "java/lang/String" "coder" "B"))⟩) f1 f2 (t₁ := .array .byte) (t₂ := .byte) (by decide +kernel) (by decide +kernel) (by decide)
  have al := X8.warmed.alike.symm.trans X15.warmed.alike
  have n7 : T11.heap[s.heap.size]? = some N := by rw [q11]; exact n1.1
  exact ⟨T15, none, _, _, _, X15, by simp, rfl, by omega, (fun _ => rfl), ⟨rfl, _, N, bl15, ((Same.refl D _).set _ (by simp)).set _ (by simp), sl15, (Cell.slots_setSlot_ne _ ap).trans sl13, n1.keep al (p15.other hne (p13.other hne n7)), n2, by rw [al.findClass]; exact n3, n4, n5, fun y c h1 h2 => p15.other h1 (p13.other h1 (by rw [q11]; exact n6 y c h2)), by rw [p15.2.2, p13.2.2, q11]; exact z8⟩, fun fs hl => c16.trans (X15.returnOut hexec hret (hb hbytes d57) hl)⟩
end New4
namespace New1
def yN : MethodName := ⟨"java/lang/String", "<init>", "([C)V"⟩
abbrev yB : ByteArray := jdk_42_method_3_code
theorem d0 : decode yB 0 = .ok (.aload_n 0, 1) := by decide +kernel
theorem d1 : decode yB 1 = .ok (.aload_n 1, 1) := by decide +kernel
theorem d2 : decode yB 2 = .ok (.iconst 0, 1) := by decide +kernel
theorem d3 : decode yB 3 = .ok (.aload_n 1, 1) := by decide +kernel
theorem d4 : decode yB 4 = .ok (.arraylength, 1) := by decide +kernel
theorem d5 : decode yB 5 = .ok (.aconst_null, 1) := by decide +kernel
theorem d6 : decode yB 6 = .ok (.invokespecial 27, 3) := by decide +kernel
theorem d9 : decode yB 9 = .ok (.return_, 1) := by decide +kernel
def site : List Cond := [New4.tab] ++ initW "java/lang/String" 27 New4.yN
def tab : Cond := tabOf yN yB 2 none site
def P (a : Addr) (D : Cell) (fV fC : Field) (b : Addr) (A : Cell) (z : Int32) (args : Array Value) (s : State) : Prop := args = #[.ref a, .ref b] ∧ Blank "java/lang/String" a D s ∧ Found "java/lang/String" "value" "[B" fV s ∧ Found "java/lang/String" "coder" "B" fC s ∧ Ch b A s ∧ StaticIs s "java/lang/String" "COMPACT_STRINGS" "Z" (.int z) ∧ ¬ z = 0 ∧ 0 < A.slots.size ∧ A.slots.size ≤ 536870912 ∧ ∀ i, i < A.slots.size → ¬ 255 < cv A i
def E (a : Addr) (D : Cell) (fV fC : Field) (A : Cell) (r : Option Value) (s u : State) : Prop := Got a D fV fC A 0 A.slots.size r s u
/-- new String(chars), not empty, no char above 255: a Latin-1 String of their low bytes -/
theorem law (l : Launch) (a : Addr) (D : Cell) (fV fC : Field) (b : Addr) (A : Cell) (z : Int32) : Law l yN 2 1 3 52 yB 2 none site (P a D fV fC b A z) (E a D fV fC A) [⟨a, fC.slot⟩, ⟨a, fV.slot⟩] 1 A.slots.size := by
  refine Law.of_walk (plainFor_of_name (by decide +kernel)) (by decide +kernel) (by decide +kernel) (by decide) (fun _ _ h => by rw [h.1]; rfl) (fun _ U U' hal hh h => ⟨h.1, h.2.1.mv hal hh, h.2.2.1.al hal, h.2.2.2.1.al hal, h.2.2.2.2.1.mv hal hh, h.2.2.2.2.2.1.there hal hh, h.2.2.2.2.2.2⟩) (fun r U U' V V' h1 hal h2 h => Got.mv r U U' V V' h1 hal h2 h) ?_
  intro p e s m args below meth c s₁ X0 hexec hbytes hml hret hlk hnm hown hh0 W hP
  obtain ⟨rfl, hB, f1, f2, hA, s1, hz, l0, l2, hp⟩ := hP
  have c1 : Steps p.tables e below (s₁.setTop (entryFrame m #[.ref a, .ref b] 2)) (s₁.setTop (mkF m 0 #[.val (.ref a), .val (.ref b)] [])) := entry rfl
  have c2 : Steps p.tables e below (s₁.setTop (entryFrame m #[.ref a, .ref b] 2)) (s₁.setTop (mkF m 6 #[.val (.ref a), .val (.ref b)] [.null, .int (Int32.ofNat A.slots.size), .int 0, .ref b, .ref a])) := c1.trans (by
    refine XS.aloadN X0.here hexec rfl (hb hbytes d0) rfl rfl ?_
    refine XS.aloadN X0.here hexec rfl (hb hbytes d1) rfl rfl ?_
    refine iconstV X0.here hexec rfl 0 (hb hbytes d2) (by decide) ?_
    refine XS.aloadN X0.here hexec rfl (hb hbytes d3) rfl rfl ?_
    refine X0.alen hexec (hA.1.mv X0.warmed.alike hh0) rfl rfl (hb hbytes d4) ?_
    refine XS.aconstNull X0.here hexec rfl (hb hbytes d5) ?_
    exact Steps.refl _)
  obtain ⟨v3, T3, X3, E3, g3⟩ := X0.callN hexec (New4.law l a D fV fC b A z 0 A.slots.size) rfl hown (wks W (initW "java/lang/String" 27 New4.yN)) (W New4.tab (by simp only [site, List.mem_cons, List.mem_append, true_or, or_true])) (W := 0) (Nat.le_of_ble_eq_true rfl) (Nat.le_of_ble_eq_true rfl) (Nat.le_refl _) (by show 0 + A.slots.size ≤ A.slots.size; omega) (g := (mkF m 6 #[.val (.ref a), .val (.ref b)] [.null, .int (Int32.ofNat A.slots.size), .int (Int32.ofNat 0), .ref b, .ref a])) rfl (by rw [hml]; rfl) c2 (argsL := [.ref b, .int (Int32.ofNat 0), .int (Int32.ofNat A.slots.size), .null]) (rest := []) rfl rfl (by show 2 * 0 + 0 ≤ _; decide) (hb hbytes d6) (⟨rfl, hB.mv X0.warmed.alike hh0, f1.al X0.warmed.alike, f2.al X0.warmed.alike, hA.mv X0.warmed.alike hh0, s1.there X0.warmed.alike hh0, hz, l0, by omega, l2, fun i hi => by rw [Nat.zero_add]; exact hp i hi⟩)
  have e0 := Got.mv _ s₁ s _ _ hh0.symm (Vm.Alike.refl _) rfl E3
  obtain rfl := e0.1
  have c4 : Steps p.tables e below (s₁.setTop (entryFrame m #[.ref a, .ref b] 2)) (T3.setTop (mkF m 9 #[.val (.ref a), .val (.ref b)] [])) := g3
  exact ⟨T3, none, _, _, _, X3, by simp, rfl, by omega, (fun _ => rfl), e0, fun fs hl => c4.trans (X3.returnOut hexec hret (hb hbytes d9) hl)⟩
theorem pays {l : Launch} {R : Room} {p : Program} {e : Env} {below : List Frame} {s : State} {sargs : Array Value} {len W : Nat} (a : Addr) (D : Cell) (fV fC : Field) (b : Addr) (A : Cell) (z : Int32) (htab : tab.before sargs s = true) (hfr : 4 ≤ R.frames) (hlo : W + 65 ≤ R.locals) :
    Back l R p e below s sargs yN len W (fun A₁ a₁ => A₁.cells + 1 ≤ R.cells ∧ A₁.slots + A.slots.size ≤ R.slots ∧ P a D fV fC b A z a₁ A₁.U) (fun A₁ _ v₁ B₁ => E a D fV fC A v₁ A₁.U B₁.U ∧ B₁.locs = A₁.locs ++ [⟨a, fC.slot⟩, ⟨a, fV.slot⟩] ∧ B₁.cells = A₁.cells + 1 ∧ B₁.slots = A₁.slots + A.slots.size) :=
  (law l a D fV fC b A z).pays htab hfr (by omega)
end New1
/-- the byte, read back as charAt reads it, is the char -/
theorem lo8_mask {x : Int32} (h0 : ¬ x < 0) (h1 : ¬ 255 < x) : lo8 x &&& 255 = x := by
  have t : ∀ k : Fin 256, lo8 (Int32.ofNat k.val) &&& 255 = Int32.ofNat k.val := by decide +kernel
  rw [Int32.lt_iff_toInt_lt] at h0 h1
  have e0 : (0 : Int32).toInt = 0 := rfl
  have e1 : (255 : Int32).toInt = 255 := rfl
  obtain ⟨k, hk⟩ : ∃ k : Nat, x.toInt = k := ⟨x.toInt.toNat, by omega⟩
  have hx : x = Int32.ofNat k := Int32.toInt_inj.mp (by rw [hk, Int32.toInt_ofNat_small (by omega)])
  rw [hx]
  exact t ⟨k, by omega⟩
end StrChars
namespace StrChars.Road
open Jvm Sem ClassFile Op Lib Jvm.Stand Jvm.Free Jvm.Free.XT
open Jvm.Lib.Cold (StaticIs)
abbrev ST : String := "java/lang/String"
/-- every table word that New1's law asks, flat -/
abbrev words : List Jvm.Cond := [.code New1.yN New1.yB 2 none, .initialized ST, .methodLink ST 27 New4.yN, .instanceMethod New4.yN,
  .code New4.yN New4.yB 6 none, .fieldLink ST 38 ST "COMPACT_STRINGS" "Z", .laysFinal ST ST "value" "[B", .fieldLink ST 9 ST "value" "[B", .laysFinal ST ST "coder" "B", .fieldLink ST 15 ST "coder" "B",
  .methodLink ST 1 Lib.objectInit, .instanceMethod Lib.objectInit, .code Lib.objectInit ⟨#[0xb1]⟩ 1 none, .methodLink ST 177 Cmp3.yN, .static Cmp3.yN, .methodLink ST 47 CodL.yN, .static CodL.yN,
  .code Cmp3.yN Cmp3.yB 6 (some (.array .byte)), .initialized U16, .arrayClass .byte, .methodLink U16 115 Cmp5.yN, .static Cmp5.yN, .code Cmp5.yN Cmp5.yB 7 (some .int), .code CodL.yN CodL.yB 2 (some .byte)]
theorem tab_of {a : Array Value} {s : State} (h : ∀ w ∈ words, w.before a s = true) : New1.tab.before a s = true := by
  have h5 : Cmp5.tab.before a s = true := unparts (wk h (.code Cmp5.yN Cmp5.yB 7 (some .int))) (wks h (.initialized Cmp5.yN.cls :: Cmp5.site))
  have hc : CodL.tab.before a s = true := unparts (wk h (.code CodL.yN CodL.yB 2 (some .byte))) (wks h (.initialized CodL.yN.cls :: CodL.site))
  have q5 : ∀ w ∈ Cmp5.tab :: words, w.before a s = true := fun w hw => (List.mem_cons.mp hw).elim (fun e => e ▸ h5) (h w)
  have h3 : Cmp3.tab.before a s = true := unparts (wk q5 (.code Cmp3.yN Cmp3.yB 6 (some (.array .byte)))) (wks q5 (.initialized Cmp3.yN.cls :: Cmp3.site))
  have q3 : ∀ w ∈ Cmp3.tab :: CodL.tab :: words, w.before a s = true := fun w hw => (List.mem_cons.mp hw).elim (fun e => e ▸ h3) fun hw => (List.mem_cons.mp hw).elim (fun e => e ▸ hc) (h w)
  have h4 : New4.tab.before a s = true := unparts (wk q3 (.code New4.yN New4.yB 6 none)) (wks q3 (.initialized New4.yN.cls :: New4.site))
  have q4 : ∀ w ∈ New4.tab :: words, w.before a s = true := fun w hw => (List.mem_cons.mp hw).elim (fun e => e ▸ h4) (h w)
  exact unparts (wk q4 (.code New1.yN New1.yB 2 none)) (wks q4 (.initialized New1.yN.cls :: New1.site))
/-- the words ride from the start Z to the walk's own state -/
theorem moved {Z s : State} {a0 args : Array Value} (hZ : Z.Warmed39 s.vm) (hw : ∀ d ∈ words, d.before a0 Z = true) : ∀ d ∈ words, d.before args s = true := fun d hd => by
  have q := hw d hd
  have t : ∀ d ∈ words, d = .arrayClass .byte ∨ (d.onTables && d.keepsFace) = true := by decide +kernel
  rcases t d hd with rfl | t
  · exact RoadKit.mvA hZ q
  · exact RoadKit.mv hZ q t
/-- WHAT COMES BACK, over the tables of the start Z: h the heap at the call, h' behind it -/
def Q (Z : State) (x : Addr) (A : Cell) (h : Heap) (v : Option Value) (h' : Heap) (L : List Loc) : Prop := v = none ∧ (∀ y ∈ L, y.base = x) ∧ RoadKit.Keep h h' [x] ∧ h'.size = h.size + 1 ∧ RoadKit.Exa Z h' x ST ∧ RoadKit.Fld Z h' x ST "value" "[B" (.ref h.size) ∧ RoadKit.Fld Z h' x ST "coder" "B" (.int 0) ∧
  (∃ V : Cell, RoadKit.Arr Z h' h.size V .byte ∧ V.vm = .none ∧ Z.vm.findClass "[B" = some V.cls ∧ V.slots.size = A.slots.size ∧ ∀ j, j < A.slots.size → V.slots[j]? = some (.int (lo8 (cv A j)))) ∧
  ∀ (O n d : String) (w : Value), RoadKit.Fld Z h x O n d w → RoadKit.slotOf Z O n d ≠ RoadKit.slotOf Z ST "value" "[B" → RoadKit.slotOf Z O n d ≠ RoadKit.slotOf Z ST "coder" "B" → RoadKit.Fld Z h' x O n d w
/-- **new String(chars) AT A CALL, IN THE ROAD'S FORM**: for specialBack behind newO: x the fresh String, b the char[] with the cell A -/
theorem back {p : Program} {l : Launch} {e : Env} {R : Room} {s : State} {args : Array Value} {below : List Frame} {len W : Nat} {Z : State} {a0 : Array Value} {h : Heap} (hZ : Z.Warmed39 s.vm) (hw : ∀ d ∈ words, d.before a0 Z = true) {kI : Nat} (wi : (Jvm.Cond.instantiable ST kI).before a0 Z = true)
    {x b : Addr} {A : Cell} {z : Int32} {v0 c0 : Value} (E : RoadKit.Exa Z h x ST) (V : RoadKit.Fld Z h x ST "value" "[B" v0) (C : RoadKit.Fld Z h x ST "coder" "B" c0) (K : RoadKit.Arr Z h b A .char) (hty : Typed .char A) (S : RoadKit.Sta Z h ST "COMPACT_STRINGS" "Z" (.int z)) (hz : ¬ z = 0)
    (l0 : 0 < A.slots.size) (l2 : A.slots.size ≤ 536870912) (hp : ∀ i, i < A.slots.size → ¬ 255 < cv A i) (hfr : 4 ≤ R.frames) (hlo : W + 65 ≤ R.locals) :
    Back l R p e below s args New1.yN len W (fun P a => a = #[.ref x, .ref b] ∧ P.U.heap = h ∧ P.cells + 1 ≤ R.cells ∧ P.slots + A.slots.size ≤ R.slots)
      (fun P _ v B => ∃ L, Q Z x A h v B.U.heap L ∧ B.locs = P.locs ++ L ∧ B.cells = P.cells + 1 ∧ B.slots = P.slots + A.slots.size) := by
  intro m meth c P g ig mk a X hg hsize hdg hW hn hp'
  obtain ⟨rfl, rfl, r1, r2⟩ := hp'
  have al : Z.vm.Alike P.U.vm := hZ.alike.trans X.warmed.alike
  obtain ⟨D, cfV, kV, iV, fV, hD, gV, stV, knV, obV, asV, slV⟩ := id V
  obtain ⟨D', cfC, kC, iC, fC, hD', gC, stC, -, -, asC, slC⟩ := id C
  cases hD.symm.trans hD'
  obtain ⟨D2, kD, e1, e2, e3, e4, e5⟩ := id E
  cases hD.symm.trans e1
  obtain ⟨c2, k2, i1, i2, i3, -⟩ := Cond.instantiable_spec wi
  cases e2.symm.trans i1
  cases e3.symm.trans i2
  obtain ⟨kU, u1, u2⟩ := al.2.2 _ _ e3
  have hB : Blank ST x D P.U := ⟨hD, ⟨knV, fun q hq => by rw [hq] at obV; cases obV⟩, by rw [al.findClass]; exact e2, kU, u1, by rw [u2]; exact i3, by rw [u2]; exact e5 i3⟩
  have F1 : Found ST "value" "[B" fV P.U := ⟨SBG.found_only al ⟨cfV, kV, iV, gV⟩, stV⟩
  have F2 : Found ST "coder" "B" fC P.U := ⟨SBG.found_only al ⟨cfC, kC, iC, gC⟩, stC⟩
  have hA : Ch b A P.U := ⟨⟨K.1, State.isArrayOf_alike al K.2.1, K.2.2, by omega⟩, hty⟩
  have hS : StaticIs P.U ST "COMPACT_STRINGS" "Z" (.int z) := by
    obtain ⟨cfS, iS, kS, fS, st, cS, t1, t2, t3, t4, t5, t6, t7⟩ := S
    exact StaticIs.there (s := { Z with heap := P.U.heap }) ⟨cfS, iS, kS, fS, st, cS, t1, t2, t3, t4, t5, (fun q => by rw [q] at t6; cases t6), t7⟩ al rfl
  obtain ⟨v, B, X', ⟨⟨hv, E', V', q1, q2, q3, q4, q5, q6, q7, q8, q9, q10, q11⟩, hl, hc, hs⟩, st⟩ := New1.pays x D fV fC b A z (tab_of (moved hZ hw)) hfr hlo m meth c P g ig mk _ X hg hsize hdg hW hn ⟨r1, r2, rfl, hB, F1, F2, hA, hS, hz, l0, l2, hp⟩
  have al' : Z.vm.Alike B.U.vm := hZ.alike.trans X'.warmed.alike
  have hsz : E'.slots.size = D.slots.size := by
    obtain ⟨-, -, -, kB, w1, w2, w3⟩ := q1
    obtain ⟨kB', y1, y2⟩ := al'.2.2 _ _ e3
    rw [q2.2.1] at w1
    cases w1.symm.trans y1
    rw [w3, e5 i3, y2]
  refine ⟨v, B, X', ⟨_, ⟨hv, ?_, ⟨by omega, fun y cy hy hn' => q10 y cy (by simpa using hn') hy, fun y cy hy => ?_⟩, q11, ⟨E', _, q1.1, by rw [q2.2.1]; exact e2, by rw [q2.2.1]; exact e3, by rw [q2.1]; exact obV, fun _ => by rw [hsz]; exact e5 i3⟩,
    ⟨E', cfV, kV, iV, fV, q1.1, gV, stV, by rw [q2.1]; exact knV, by rw [q2.1]; exact obV, by rw [q2.2.1]; exact asV, q3⟩, ⟨E', cfC, kC, iC, fC, q1.1, gC, stC, by rw [q2.1]; exact knV, by rw [q2.1]; exact obV, by rw [q2.2.1]; exact asC, q4⟩,
    ⟨V', ⟨q5.1, State.isArrayOf_alike al'.symm q5.2.1, q5.2.2.1⟩, q6, by rw [← al'.findClass]; exact q7, q8, fun j hj => by have := q9 j hj; rwa [Nat.zero_add] at this⟩, fun O n d w F n1 n2 => ?_⟩, hl, hc, hs⟩, st⟩
  · intro y hy
    simp only [List.mem_cons, List.not_mem_nil, or_false] at hy
    rcases hy with rfl | rfl <;> rfl
  · by_cases q : y = x
    · subst q
      cases hD.symm.trans hy
      exact ⟨E', q1.1, q2.2.1, q2.1, hsz⟩
    · exact ⟨cy, q10 y cy q hy, rfl, rfl, rfl⟩
  · obtain ⟨D3, cf, k, i, f, g1, g2, g3, g4, g5, g6, g7⟩ := F
    cases hD.symm.trans g1
    simp only [RoadKit.slotOf, g2, gV, gC, Option.map_some, Option.getD_some] at n1 n2
    exact ⟨E', cf, k, i, f, q1.1, g2, g3, by rw [q2.1]; exact g4, by rw [q2.1]; exact g5, by rw [q2.2.1]; exact g6, by rw [q2.2.2 f.slot (by simp [n1, n2])]; exact g7⟩
end StrChars.Road
namespace StrChars.Road
open Jvm Sem ClassFile Op Lib Jvm.Stand Jvm.Free Jvm.Free.XT
/-- WHAT COMES BACK, the byte[] as a list of values -/
def QA (Z : State) (x : Addr) (zn : Int32) (cs : List Int32) (h : Heap) (v : Option Value) (h' : Heap) (L : List Loc) : Prop := v = none ∧ (∀ y ∈ L, y.base = x) ∧ RoadKit.Keep h h' [x] ∧ h'.size = h.size + 1 ∧ RoadKit.Exa Z h' x ST ∧ RoadKit.Fld Z h' x ST "value" "[B" (.ref h.size) ∧ RoadKit.Fld Z h' x ST "coder" "B" (.int 0) ∧
  (∃ kb, Z.vm.findClass "[B" = some kb ∧ RoadKit.Arv Z h' h.size kb .byte zn (cs.map fun c => .int (lo8 c)) (.int 0)) ∧
  ∀ (O n d : String) (w : Value), RoadKit.Fld Z h x O n d w → RoadKit.slotOf Z O n d ≠ RoadKit.slotOf Z ST "value" "[B" → RoadKit.slotOf Z O n d ≠ RoadKit.slotOf Z ST "coder" "B" → RoadKit.Fld Z h' x O n d w
/-- **new String(chars) AT A CALL, THE ARRAYS AS LISTS**: the char[] at b holds cs, not empty, no char above 255 -/
theorem backArv {p : Program} {l : Launch} {e : Env} {R : Room} {s : State} {args : Array Value} {below : List Frame} {len W : Nat} {Z : State} {a0 : Array Value} {h : Heap} (hZ : Z.Warmed39 s.vm) (hw : ∀ d ∈ words, d.before a0 Z = true) {kI : Nat} (wi : (Jvm.Cond.instantiable ST kI).before a0 Z = true)
    {x b : Addr} {k : ClassId} {zn z : Int32} {cs : List Int32} {dv v0 c0 : Value} (E : RoadKit.Exa Z h x ST) (V : RoadKit.Fld Z h x ST "value" "[B" v0) (C : RoadKit.Fld Z h x ST "coder" "B" c0) (K : RoadKit.Arv Z h b k .char zn (cs.map Value.int) dv) (S : RoadKit.Sta Z h ST "COMPACT_STRINGS" "Z" (.int z)) (hz : ¬ z = 0)
    (hlen : zn.toNatClampNeg = cs.length) (h0 : 0 < cs.length) (hbig : cs.length ≤ 536870912) (hall : ∀ c ∈ cs, ¬ 255 < c) (hfr : 4 ≤ R.frames) (hlo : W + 65 ≤ R.locals) :
    Back l R p e below s args New1.yN len W (fun P a => a = #[.ref x, .ref b] ∧ P.U.heap = h ∧ P.cells + 1 ≤ R.cells ∧ P.slots + cs.length ≤ R.slots)
      (fun P _ v B => ∃ L, QA Z x zn cs h v B.U.heap L ∧ B.locs = P.locs ++ L ∧ B.cells = P.cells + 1 ∧ B.slots = P.slots + cs.length) := by
  obtain ⟨A, K1, K2, K3, K4, K5, K6⟩ := K
  have e : A.slots.size = cs.length := K3.trans hlen
  have hat : ∀ (i : Nat) (hi : i < cs.length), A.slots[i]? = some (.int cs[i]) := fun i hi => by rw [K5 i (by omega)]; simp [List.getD_eq_getElem?_getD, hi]
  have hcv : ∀ (i : Nat) (hi : i < cs.length), cv A i = cs[i] := fun i hi => by unfold cv; rw [hat i hi]
  have hty : Typed .char A := fun i v hv => by
    have hi : i < A.slots.size := (Array.getElem?_eq_some_iff.mp hv).1
    have q := K5 i hi
    rw [hv] at q
    rw [Option.some.inj q]
    exact K6 i hi
  refine Back.mono (back hZ hw wi E V C K1 hty S hz (by omega) (by omega) (fun i hi => by rw [hcv i (by omega)]; exact hall _ (List.getElem_mem _)) hfr hlo) (fun P a hp => ⟨hp.1, hp.2.1, hp.2.2.1, by rw [e]; exact hp.2.2.2⟩) (fun P a v B hp hq => ?_)
  obtain ⟨L, ⟨q1, q2, q3, q4, q5, q6, q7, ⟨V', v1, v2, v3, v4, v5⟩, q9⟩, hl, hc, hs⟩ := hq
  refine ⟨L, ⟨q1, q2, q3, q4, q5, q6, q7, ⟨V'.cls, v3, V', v1, rfl, by rw [v4, e, hlen], K4, fun i hi => ?_, fun i hi => ?_⟩, q9⟩, hl, hc, by rw [hs, e]⟩
  · have hi' : i < cs.length := by omega
    rw [v5 i (by omega), hcv i hi']; simp [List.getD_eq_getElem?_getD, hi']
  · have hi' : i < cs.length := by omega
    simp only [List.getD_eq_getElem?_getD, List.getElem?_map, List.getElem?_eq_getElem hi', Option.map_some, Option.getD_some]
    exact fits_lo8 _
end StrChars.Road
namespace StrChars.Road
open Jvm Sem ClassFile Op Lib Jvm.Stand Jvm.Free Jvm.Free.XT
/-- WHAT COMES BACK, in the writer's own shape -/
def QV (Z : State) (x : Addr) (N : Int32) (bs : List Int32) (h : Heap) (n0 : Nat) (v : Option Value) (h' : Heap) (L : List Loc) : Prop := v = none ∧ RoadKit.Fr n0 L ∧ RoadKit.Keep h h' [x] ∧ RoadKit.Exa Z h' x ST ∧ RoadKit.Fld Z h' x ST "coder" "B" (.int 0) ∧
  ∃ (t : Addr) (kb : ClassId), n0 ≤ t ∧ h.size ≤ t ∧ ¬ t = x ∧ RoadKit.Fld Z h' x ST "value" "[B" (.ref t) ∧ RoadKit.Arv Z h' t kb .byte N (bs.map Value.int) (.int 0)
/-- **new String(chars) AT A CALL, FOR THE WRITER**: a char[] of n known ints, each 0 to 255 -/
theorem backV {p : Program} {l : Launch} {e : Env} {R : Room} {s : State} {args : Array Value} {below : List Frame} {len W : Nat} {Z : State} {a0 : Array Value} {h : Heap} (hZ : Z.Warmed39 s.vm) (hw : ∀ d ∈ words, d.before a0 Z = true) {kI : Nat} (wi : (Jvm.Cond.instantiable ST kI).before a0 Z = true)
    {x b : Addr} {kC : ClassId} {cs bs : List Int32} {d v0 c0 : Value} {z N : Int32} {n n0 : Nat} (hx0 : n0 ≤ x) (hh0 : n0 ≤ h.size) (E : RoadKit.Exa Z h x ST) (V : RoadKit.Fld Z h x ST "value" "[B" v0) (C : RoadKit.Fld Z h x ST "coder" "B" c0) (K : RoadKit.Arv Z h b kC .char N (cs.map Value.int) d) (S : RoadKit.Sta Z h ST "COMPACT_STRINGS" "Z" (.int z)) (hz : ¬ z = 0)
    (hn : cs.length = n) (hN : N = Int32.ofNat n) (l0 : 0 < n) (l2 : n ≤ 4000) (hp : ∀ c ∈ cs, ¬ c < 0 ∧ ¬ (255 : Int32) < c) (hb : bs = cs.map (fun c => c.toInt8.toInt32)) (hfr : 4 ≤ R.frames) (hlo : W + 65 ≤ R.locals) :
    Back l R p e below s args (⟨"java/lang/String", "<init>", "([C)V"⟩ : MethodName) len W (fun P a => a = #[.ref x, .ref b] ∧ P.U.heap = h ∧ P.cells + 1 ≤ R.cells ∧ P.slots + n ≤ R.slots)
      (fun P _ v B => ∃ L, QV Z x N bs h n0 v B.U.heap L ∧ B.locs = P.locs ++ L ∧ B.cells = P.cells + 1 ∧ B.slots = P.slots + n) := by
  subst hn hN hb
  refine Back.mono (backArv hZ hw wi E V C K S hz (n32 (by omega)) l0 (by omega) (fun c hc => (hp c hc).2) hfr hlo) (fun P a hp => hp) (fun P a v B hp hq => ?_)
  obtain ⟨L, ⟨q1, q2, q3, q4, q5, q6, q7, ⟨kb, v1, v2⟩, q9⟩, hl, hc, hs⟩ := hq
  exact ⟨L, ⟨q1, fun y hy => by rw [q2 y hy]; exact hx0, q3, q5, q7, h.size, kb, hh0, Nat.le_refl _, Nat.ne_of_gt E.lt, q6, by rw [List.map_map]; exact v2⟩, hl, hc, hs⟩
end StrChars.Road
namespace StrChars
open Jvm Sem ClassFile Op Lib Jvm.Stand Jvm.Free.XT Jvm.Free.ALB Jvm.Free.JM Jvm.Free
open Jvm.Lib.Cold (StaticIs)
def hi8 (x : Int32) : Int32 := lo8 (x >>> ((8 : Int32) &&& 31))
/-- what StringUTF16.getChar makes of two bytes -/
def pairCh (u v : Int32) : Int32 := (((u &&& 255) <<< ((0 : Int32) &&& 31)) ||| ((v &&& 255) <<< ((8 : Int32) &&& 31))).toUInt32.toUInt16.toUInt32.toInt32
theorem shr0 (c : Int32) : c >>> ((0 : Int32) &&& 31) = c := by
  have e : ((0 : Int32) &&& 31) = 0 := by decide
  rw [e]
  apply Int32.toBitVec_inj.mp
  rw [Int32.toBitVec_shiftRight]
  have e1 : ((0 : Int32).toBitVec.smod 32) = 0#32 := by decide
  rw [e1, BitVec.sshiftRight_eq']
  exact BitVec.sshiftRight_zero
theorem lo8_and (x : Int32) : (lo8 x &&& 255).toBitVec.toNat = x.toBitVec.toNat % 256 := by
  have h : (lo8 x).toBitVec = (x.toBitVec.signExtend 8).signExtend 32 := by rw [lo8, Int8.toBitVec_toInt32, Int32.toBitVec_toInt8]
  rw [Int32.toBitVec_and, BitVec.toNat_and, h]
  have e : ((x.toBitVec.signExtend 8).signExtend 32).toNat % 256 = x.toBitVec.toNat % 256 := by
    rw [BitVec.toNat_signExtend]
    have hlt := x.toBitVec.isLt
    simp only [BitVec.toNat_setWidth, BitVec.toNat_signExtend]
    split <;> split <;> omega
  rw [← e]
  exact Nat.and_two_pow_sub_one_eq_mod _ 8
theorem pair_says {c : Int32} (h0 : ¬ c < 0) (h1 : ¬ 65535 < c) : pairCh (lo8 c) (hi8 c) = c := by
  rw [Int32.lt_iff_toInt_lt] at h0 h1
  have e0 : (0 : Int32).toInt = 0 := rfl
  have e1 : (65535 : Int32).toInt = 65535 := rfl
  have hc : c.toInt = c.toBitVec.toNat := by
    have := c.toBitVec.isLt
    have e : c.toInt = c.toBitVec.toInt := rfl
    rw [e] at h0 h1
    rw [e]
    rw [BitVec.toInt_eq_toNat_cond] at h0 h1 ⊢
    split at h0 <;> split <;> omega
  have hn : c.toBitVec.toNat < 65536 := by omega
  have a1 := lo8_and c
  have a2 : (hi8 c &&& 255).toBitVec.toNat = c.toBitVec.toNat / 256 := by
    rw [hi8, lo8_and]
    have e : ((8 : Int32) &&& 31) = 8 := by decide
    rw [e, Int32.toBitVec_shiftRight]
    have e2 : ((8 : Int32).toBitVec.smod 32) = 8#32 := by decide
    rw [e2, BitVec.sshiftRight_eq', BitVec.toNat_sshiftRight_of_msb_false (by rw [BitVec.msb_eq_false_iff_two_mul_lt]; omega)]
    show c.toBitVec.toNat >>> 8 % 256 = _
    rw [Nat.shiftRight_eq_div_pow]
    omega
  unfold pairCh
  apply Int32.toBitVec_inj.mp
  apply BitVec.eq_of_toNat_eq
  have f0 : ((0 : Int32) &&& 31) = 0 := by decide
  have f8 : ((8 : Int32) &&& 31) = 8 := by decide
  rw [f0, f8]
  have g : (((lo8 c &&& 255) <<< (0 : Int32)) ||| ((hi8 c &&& 255) <<< (8 : Int32))).toBitVec.toNat = c.toBitVec.toNat := by
    rw [Int32.toBitVec_or, Int32.toBitVec_shiftLeft, Int32.toBitVec_shiftLeft]
    have s0 : ((0 : Int32).toBitVec.smod 32) = 0#32 := by decide
    have s8 : ((8 : Int32).toBitVec.smod 32) = 8#32 := by decide
    rw [s0, s8, BitVec.toNat_or]
    simp only [BitVec.shiftLeft_eq', BitVec.toNat_shiftLeft, a1, a2]
    show (c.toBitVec.toNat % 256) <<< 0 % 2 ^ 32 ||| (c.toBitVec.toNat / 256) <<< 8 % 2 ^ 32 = _
    rw [Nat.shiftLeft_zero, Nat.mod_eq_of_lt (show c.toBitVec.toNat % 256 < 2 ^ 32 by omega), Nat.mod_eq_of_lt (show (c.toBitVec.toNat / 256) <<< 8 < 2 ^ 32 by rw [Nat.shiftLeft_eq]; omega), Nat.or_comm, ← Nat.shiftLeft_add_eq_or_of_lt (by omega), Nat.shiftLeft_eq]
    omega
  show BitVec.toNat (((((lo8 c &&& 255) <<< (0 : Int32)) ||| ((hi8 c &&& 255) <<< (8 : Int32))).toBitVec.setWidth 16).setWidth 32) = _
  rw [BitVec.toNat_setWidth, BitVec.toNat_setWidth, g]
  omega
end StrChars
namespace StrChars
open Jvm Sem ClassFile Op Lib Jvm.Stand Jvm.Free.XT Jvm.Free.ALB Jvm.Free.JM Jvm.Free
open Jvm.Lib.Cold (StaticIs)
theorem shr1 {n : Nat} (h : 2 * n < 2 ^ 31) : Int32.ofNat (2 * n) >>> ((1 : Int32) &&& 31) = Int32.ofNat n := by
  have e : ((1 : Int32) &&& 31) = 1 := by decide
  rw [e]
  apply Int32.toBitVec_inj.mp
  rw [Int32.toBitVec_shiftRight]
  have e1 : ((1 : Int32).toBitVec.smod 32) = 1#32 := by decide
  have hm : (BitVec.ofNat 32 (2 * n)).toNat = 2 * n := by rw [BitVec.toNat_ofNat, Nat.mod_eq_of_lt (by omega)]
  rw [e1, BitVec.sshiftRight_eq']
  apply BitVec.eq_of_toNat_eq
  show ((BitVec.ofNat 32 (2 * n)).sshiftRight 1).toNat = (BitVec.ofNat 32 n).toNat
  rw [BitVec.toNat_sshiftRight_of_msb_false (by rw [BitVec.msb_eq_false_iff_two_mul_lt, hm]; omega), hm, BitVec.toNat_ofNat, Nat.shiftRight_eq_div_pow]
  omega
/-- charAt's cast of a byte read back -/
def chr8 (u : Int32) : Int32 := (u &&& 255).toUInt32.toUInt16.toUInt32.toInt32
theorem chr8_lo8 {c : Int32} (h0 : ¬ c < 0) (h1 : ¬ 255 < c) : chr8 (lo8 c) = c := by
  have t : ∀ k : Fin 256, (Int32.ofNat k.val).toUInt32.toUInt16.toUInt32.toInt32 = Int32.ofNat k.val := by decide +kernel
  unfold chr8
  rw [lo8_mask h0 h1]
  rw [Int32.lt_iff_toInt_lt] at h0 h1
  have e0 : (0 : Int32).toInt = 0 := rfl
  have e1 : (255 : Int32).toInt = 255 := rfl
  obtain ⟨k, hk⟩ : ∃ k : Nat, c.toInt = k := ⟨c.toInt.toNat, by omega⟩
  have hx : c = Int32.ofNat k := Int32.toInt_inj.mp (by rw [hk, Int32.toInt_ofNat_small (by omega)])
  rw [hx]
  exact t ⟨k, by omega⟩
theorem narrow_ch {c : Int32} (h0 : ¬ c < 0) (h1 : ¬ 65535 < c) : narrow .char (.int c) = .int c := by
  have q : narrow .char (.int (pairCh (lo8 c) (hi8 c))) = .int (pairCh (lo8 c) (hi8 c)) := narrow_c _
  rwa [pair_says h0 h1] at q
/-- the array's cell V codes the n chars f 0 .. f (n - 1) by the coder cd, as the JDK does: coder 1 just where some char is above 255 -/
def Cod (cd : Int32) (n : Nat) (f : Nat → Int32) (V : Cell) : Prop := (cd = 0 ∧ V.slots.size = n ∧ ∀ j, j < n → V.slots[j]? = some (.int (lo8 (f j))) ∧ ¬ 255 < f j) ∨ (cd = 1 ∧ V.slots.size = 2 * n ∧ (∀ j, j < n → V.slots[2 * j]? = some (.int (lo8 (f j))) ∧ V.slots[2 * j + 1]? = some (.int (hi8 (f j)))) ∧ ∃ j, j < n ∧ 255 < f j)
theorem Cod.cd {cd : Int32} {n : Nat} {f : Nat → Int32} {V : Cell} (h : Cod cd n f V) : cd = 0 ∨ cd = 1 := h.imp (fun q => q.1) fun q => q.1
theorem Cod.len {cd : Int32} {n : Nat} {f : Nat → Int32} {V : Cell} (h : Cod cd n f V) (hs : V.slots.size < 2 ^ 31) : Int32.ofNat V.slots.size >>> (cd &&& 31) = Int32.ofNat n := by
  rcases h with ⟨rfl, h, -⟩ | ⟨rfl, h, -⟩
  · rw [shr0, h]
  · rw [h, shr1 (by omega)]
/-- **x is a String of the n chars f 0 .. f (n - 1)**, Latin-1 or UTF-16; its array at t has the cell V -/
def Txt (x t : Addr) (V : Cell) (cd : Int32) (n : Nat) (f : Nat → Int32) (U : State) : Prop := Exact "java/lang/String" x U ∧ Has x "java/lang/String" "value" "[B" (.ref t) U ∧ Has x "java/lang/String" "coder" "B" (.int cd) U ∧ XT.Arr .byte t V U ∧ Cod cd n f V ∧ ∀ j, j < n → ¬ f j < 0 ∧ ¬ 65535 < f j
theorem Txt.mv {x t : Addr} {V : Cell} {cd : Int32} {n : Nat} {f : Nat → Int32} {U U' : State} (h : Txt x t V cd n f U) (hal : U.vm.Alike U'.vm) (hh : U'.heap = U.heap) : Txt x t V cd n f U' := ⟨h.1.mv hal hh, h.2.1.mv hal hh, h.2.2.1.mv hal hh, h.2.2.2.1.mv hal hh, h.2.2.2.2⟩
namespace Cdr
def yN : MethodName := ⟨"java/lang/String", "coder", "()B"⟩
abbrev yB : ByteArray := jdk_42_method_152_code
theorem d0 : decode yB 0 = .ok (.getstatic 38, 3) := by decide +kernel
theorem d3 : decode yB 3 = .ok (.ifCond (.eq) 10, 3) := by decide +kernel
theorem d6 : decode yB 6 = .ok (.aload_n 0, 1) := by decide +kernel
theorem d7 : decode yB 7 = .ok (.getfield 15, 3) := by decide +kernel
theorem d10 : decode yB 10 = .ok (.goto 4, 3) := by decide +kernel
theorem d14 : decode yB 14 = .ok (.ireturn, 1) := by decide +kernel
def site : List Cond := [.fieldLink "java/lang/String" 38 "java/lang/String" "COMPACT_STRINGS" "Z", .fieldLink "java/lang/String" 15 "java/lang/String" "coder" "B"]
def tab : Cond := tabOf yN yB 1 (some .byte) site
def P (x : Addr) (cd z : Int32) (args : Array Value) (s : State) : Prop := args = #[.ref x] ∧ Has x "java/lang/String" "coder" "B" (.int cd) s ∧ (cd = 0 ∨ cd = 1) ∧ StaticIs s "java/lang/String" "COMPACT_STRINGS" "Z" (.int z) ∧ ¬ z = 0
def E (cd : Int32) (r : Option Value) (s u : State) : Prop := XT.PureE (some (.int cd)) r s u
theorem law (l : Launch) (x : Addr) (cd z : Int32) : Law l yN 1 0 0 0 yB 1 (some .byte) site (P x cd z) (E cd) [] 0 0 := by
  refine Law.of_walk (plainFor_of_name (by decide +kernel)) (by decide +kernel) (by decide +kernel) (by decide) (fun _ _ h => by rw [h.1]; rfl) (fun _ U U' hal hh h => ⟨h.1, h.2.1.mv hal hh, h.2.2.1, h.2.2.2.1.there hal hh, h.2.2.2.2⟩) (fun r U U' V V' h1 hal h2 h => XT.PureE.mv r U U' V V' h1 hal h2 h) ?_
  intro p e s m args below meth c s₁ X0 hexec hbytes hml hret hlk hnm hown hh0 W hP
  obtain ⟨rfl, hx, hc, s1, hz⟩ := hP
  have c1 : Steps p.tables e below (s₁.setTop (entryFrame m #[.ref x] 1)) (s₁.setTop (mkF m 0 #[.val (.ref x)] [])) := entry rfl
  obtain ⟨T2, X2, q2, st2⟩ := X0.sget hexec hown (wk W (.fieldLink "java/lang/String" 38 "java/lang/String" "COMPACT_STRINGS" "Z")) s1 (fun _ _ h => by rw [hh0]; exact h) (g := (mkF m 0 #[.val (.ref x)] [])) rfl (hb hbytes d0)
  have hh2 := q2.trans hh0
  have c3 : Steps p.tables e below (s₁.setTop (entryFrame m #[.ref x] 1)) (T2.setTop (mkF m 7 #[.val (.ref x)] [.ref x])) := (c1.trans (st2 _ (Steps.refl _))).trans (by
    refine XS.ifNo X2.here hexec rfl (hb hbytes d3) rfl (i0_eq_f hz) ?_
    refine XS.aloadN X2.here hexec rfl (hb hbytes d6) rfl rfl ?_
    exact Steps.refl _)
  obtain ⟨T4, X4, q4, st4⟩ := X2.hget hexec hown (wk W (.fieldLink "java/lang/String" 15 "java/lang/String" "coder" "B")) (hx.mv X2.warmed.alike hh2) (g := (mkF m 7 #[.val (.ref x)] [.ref x])) rfl (rest := []) rfl (hb hbytes d7)
  have c5 : Steps p.tables e below (s₁.setTop (entryFrame m #[.ref x] 1)) (T4.setTop (mkF m 14 #[.val (.ref x)] [.int cd])) := (c3.trans (st4 _ (Steps.refl _))).trans (by
    refine XS.goto X4.here hexec rfl (pc0 := 10) rfl (hb hbytes d10) (by decide) rfl ?_
    exact Steps.refl _)
  exact ⟨T4, some (.int cd), _, _, _, X4, rfl, rfl, rfl, (fun h => by cases h), ⟨rfl, q4.trans hh2⟩, fun fs hl => c5.trans (X4.ireturnOut hexec hret (by rcases hc with rfl | rfl <;> rfl) (Or.inr (Or.inr (Or.inl rfl))) (hb hbytes d14) hl)⟩
end Cdr
namespace Len
def yN : MethodName := ⟨"java/lang/String", "length", "()I"⟩
abbrev yB : ByteArray := jdk_42_method_54_code
theorem d0 : decode yB 0 = .ok (.aload_n 0, 1) := by decide +kernel
theorem d1 : decode yB 1 = .ok (.getfield 9, 3) := by decide +kernel
theorem d4 : decode yB 4 = .ok (.arraylength, 1) := by decide +kernel
theorem d5 : decode yB 5 = .ok (.aload_n 0, 1) := by decide +kernel
theorem d6 : decode yB 6 = .ok (.invokevirtual 335, 3) := by decide +kernel
theorem d9 : decode yB 9 = .ok (.ishr, 1) := by decide +kernel
theorem d10 : decode yB 10 = .ok (.ireturn, 1) := by decide +kernel
def site : List Cond := [.fieldLink "java/lang/String" 9 "java/lang/String" "value" "[B", Cdr.tab] ++ virtW "java/lang/String" 335 "java/lang/String" Cdr.yN Cdr.yN
def tab : Cond := tabOf yN yB 1 (some .int) site
def P (x t : Addr) (V : Cell) (cd : Int32) (n : Nat) (f : Nat → Int32) (z : Int32) (args : Array Value) (s : State) : Prop := args = #[.ref x] ∧ Txt x t V cd n f s ∧ StaticIs s "java/lang/String" "COMPACT_STRINGS" "Z" (.int z) ∧ ¬ z = 0
def E (n : Nat) (r : Option Value) (s u : State) : Prop := XT.PureE (some (.int (Int32.ofNat n))) r s u
/-- length() of a String of n chars, in either coding -/
theorem law (l : Launch) (x t : Addr) (V : Cell) (cd : Int32) (n : Nat) (f : Nat → Int32) (z : Int32) : Law l yN 1 0 1 13 yB 1 (some .int) site (P x t V cd n f z) (E n) [] 0 0 := by
  refine Law.of_walk (plainFor_of_name (by decide +kernel)) (by decide +kernel) (by decide +kernel) (by decide) (fun _ _ h => by rw [h.1]; rfl) (fun _ U U' hal hh h => ⟨h.1, h.2.1.mv hal hh, h.2.2.1.there hal hh, h.2.2.2⟩) (fun r U U' V V' h1 hal h2 h => XT.PureE.mv r U U' V V' h1 hal h2 h) ?_
  intro p e s m args below meth c s₁ X0 hexec hbytes hml hret hlk hnm hown hh0 W hP
  obtain ⟨rfl, hx, s1, hz⟩ := hP
  have v31 := hx.2.2.2.1.2.2.2
  have c1 : Steps p.tables e below (s₁.setTop (entryFrame m #[.ref x] 1)) (s₁.setTop (mkF m 1 #[.val (.ref x)] [.ref x])) := Steps.trans (entry rfl) (by
    show Steps p.tables e below (s₁.setTop (mkF m 0 #[.val (.ref x)] [])) _
    refine XS.aloadN X0.here hexec rfl (hb hbytes d0) rfl rfl ?_
    exact Steps.refl _)
  obtain ⟨T2, X2, q2, st2⟩ := X0.hget hexec hown (wk W (.fieldLink "java/lang/String" 9 "java/lang/String" "value" "[B")) (hx.mv X0.warmed.alike hh0).2.1 (g := (mkF m 1 #[.val (.ref x)] [.ref x])) rfl (rest := []) rfl (hb hbytes d1)
  have hh2 := q2.trans hh0
  have hx2 := hx.mv X2.warmed.alike hh2
  have c3 : Steps p.tables e below (s₁.setTop (entryFrame m #[.ref x] 1)) (T2.setTop (mkF m 6 #[.val (.ref x)] [.ref x, .int (Int32.ofNat V.slots.size)])) := (c1.trans (st2 _ (Steps.refl _))).trans (by
    refine X2.alen hexec hx2.2.2.2.1 rfl rfl (hb hbytes d4) ?_
    refine XS.aloadN X2.here hexec rfl (hb hbytes d5) rfl rfl ?_
    exact Steps.refl _)
  obtain ⟨v4, T4, X4, E4, g4⟩ := X2.callV hexec (Cdr.law l x cd z) hown (wks W (virtW "java/lang/String" 335 "java/lang/String" Cdr.yN Cdr.yN)) rfl (by decide) (wk W Cdr.tab) (W := 1) (Nat.le_of_ble_eq_true rfl) (Nat.le_of_ble_eq_true rfl) (Nat.le_refl _) (Nat.le_refl _) (hx2.1.fc X2.warmed.alike) hx2.1.is (g := (mkF m 6 #[.val (.ref x)] [.ref x, .int (Int32.ofNat V.slots.size)])) rfl (by rw [hml]; rfl) c3 (argsL := []) (rest := [.int (Int32.ofNat V.slots.size)]) rfl rfl (by show 2 * 0 + (1 + 0) ≤ _; decide) (hb hbytes d6) (⟨rfl, hx2.2.2.1, hx.2.2.2.2.1.cd, s1.there X2.warmed.alike hh2, hz⟩)
  obtain ⟨rfl, q4⟩ := E4
  have c5 : Steps p.tables e below (s₁.setTop (entryFrame m #[.ref x] 1)) (T4.setTop (mkF m 10 #[.val (.ref x)] [.int (Int32.ofNat V.slots.size >>> (cd &&& 31))])) := Steps.trans g4 (by
    refine ishr X4.here hexec rfl (hb hbytes d9) rfl ?_
    exact Steps.refl _)
  rw [hx.2.2.2.2.1.len v31] at c5
  exact ⟨T4, some (.int (Int32.ofNat n)), _, _, _, X4, rfl, rfl, rfl, (fun h => by cases h), ⟨rfl, q4.trans hh2⟩, fun fs hl => c5.trans (X4.ireturnOut hexec hret rfl (Or.inl rfl) (hb hbytes d10) hl)⟩
theorem pays {l : Launch} {R : Room} {p : Program} {e : Env} {below : List Frame} {s : State} {sargs : Array Value} {len W : Nat} (x t : Addr) (V : Cell) (cd : Int32) (n : Nat) (f : Nat → Int32) (z : Int32) (htab : tab.before sargs s = true) (hfr : 2 ≤ R.frames) (hlo : W + 25 ≤ R.locals) :
    Back l R p e below s sargs yN len W (fun A₁ a₁ => A₁.cells + 0 ≤ R.cells ∧ A₁.slots + 0 ≤ R.slots ∧ P x t V cd n f z a₁ A₁.U) (fun A₁ _ v₁ B₁ => E n v₁ A₁.U B₁.U ∧ B₁.locs = A₁.locs ++ [] ∧ B₁.cells = A₁.cells + 0 ∧ B₁.slots = A₁.slots + 0) :=
  (law l x t V cd n f z).pays htab hfr (by omega)
end Len
namespace IsL
def yN : MethodName := ⟨"java/lang/String", "isLatin1", "()Z"⟩
abbrev yB : ByteArray := jdk_42_method_154_code
theorem d0 : decode yB 0 = .ok (.getstatic 38, 3) := by decide +kernel
theorem d3 : decode yB 3 = .ok (.ifCond (.eq) 14, 3) := by decide +kernel
theorem d6 : decode yB 6 = .ok (.aload_n 0, 1) := by decide +kernel
theorem d7 : decode yB 7 = .ok (.getfield 15, 3) := by decide +kernel
theorem d10 : decode yB 10 = .ok (.ifCond (.ne) 7, 3) := by decide +kernel
theorem d13 : decode yB 13 = .ok (.iconst 1, 1) := by decide +kernel
theorem d14 : decode yB 14 = .ok (.goto 4, 3) := by decide +kernel
theorem d17 : decode yB 17 = .ok (.iconst 0, 1) := by decide +kernel
theorem d18 : decode yB 18 = .ok (.ireturn, 1) := by decide +kernel
def site : List Cond := [.fieldLink "java/lang/String" 38 "java/lang/String" "COMPACT_STRINGS" "Z", .fieldLink "java/lang/String" 15 "java/lang/String" "coder" "B"]
def tab : Cond := tabOf yN yB 1 (some .boolean) site
def P (x : Addr) (cd z : Int32) (args : Array Value) (s : State) : Prop := args = #[.ref x] ∧ Has x "java/lang/String" "coder" "B" (.int cd) s ∧ (cd = 0 ∨ cd = 1) ∧ StaticIs s "java/lang/String" "COMPACT_STRINGS" "Z" (.int z) ∧ ¬ z = 0
def E (cd : Int32) (r : Option Value) (s u : State) : Prop := XT.PureE (some (.int (1 - cd))) r s u
theorem law (l : Launch) (x : Addr) (cd z : Int32) : Law l yN 1 0 0 0 yB 1 (some .boolean) site (P x cd z) (E cd) [] 0 0 := by
  refine Law.of_walk (plainFor_of_name (by decide +kernel)) (by decide +kernel) (by decide +kernel) (by decide) (fun _ _ h => by rw [h.1]; rfl) (fun _ U U' hal hh h => ⟨h.1, h.2.1.mv hal hh, h.2.2.1, h.2.2.2.1.there hal hh, h.2.2.2.2⟩) (fun r U U' V V' h1 hal h2 h => XT.PureE.mv r U U' V V' h1 hal h2 h) ?_
  intro p e s m args below meth c s₁ X0 hexec hbytes hml hret hlk hnm hown hh0 W hP
  obtain ⟨rfl, hx, hc, s1, hz⟩ := hP
  have c1 : Steps p.tables e below (s₁.setTop (entryFrame m #[.ref x] 1)) (s₁.setTop (mkF m 0 #[.val (.ref x)] [])) := entry rfl
  obtain ⟨T2, X2, q2, st2⟩ := X0.sget hexec hown (wk W (.fieldLink "java/lang/String" 38 "java/lang/String" "COMPACT_STRINGS" "Z")) s1 (fun _ _ h => by rw [hh0]; exact h) (g := (mkF m 0 #[.val (.ref x)] [])) rfl (hb hbytes d0)
  have hh2 := q2.trans hh0
  have c3 : Steps p.tables e below (s₁.setTop (entryFrame m #[.ref x] 1)) (T2.setTop (mkF m 7 #[.val (.ref x)] [.ref x])) := (c1.trans (st2 _ (Steps.refl _))).trans (by
    refine XS.ifNo X2.here hexec rfl (hb hbytes d3) rfl (i0_eq_f hz) ?_
    refine XS.aloadN X2.here hexec rfl (hb hbytes d6) rfl rfl ?_
    exact Steps.refl _)
  obtain ⟨T4, X4, q4, st4⟩ := X2.hget hexec hown (wk W (.fieldLink "java/lang/String" 15 "java/lang/String" "coder" "B")) (hx.mv X2.warmed.alike hh2) (g := (mkF m 7 #[.val (.ref x)] [.ref x])) rfl (rest := []) rfl (hb hbytes d7)
  have c5 : Steps p.tables e below (s₁.setTop (entryFrame m #[.ref x] 1)) (T4.setTop (mkF m 10 #[.val (.ref x)] [.int cd])) := c3.trans (st4 _ (Steps.refl _))
  have c6 : Steps p.tables e below (s₁.setTop (entryFrame m #[.ref x] 1)) (T4.setTop (mkF m 18 #[.val (.ref x)] [.int (1 - cd)])) := by
    rcases hc with rfl | rfl
    · exact c5.trans (by
        refine XS.ifNo X4.here hexec rfl (hb hbytes d10) rfl (i0_ne_f rfl) ?_
        refine iconstV X4.here hexec rfl 1 (hb hbytes d13) (by decide) ?_
        refine XS.goto X4.here hexec rfl (pc0 := 14) rfl (hb hbytes d14) (by decide) rfl ?_
        exact Steps.refl _)
    · exact c5.trans (by
        refine XS.ifYes X4.here hexec rfl (pc0 := 10) rfl (hb hbytes d10) rfl (i0_ne_t (by decide)) (by decide) rfl ?_
        refine iconstV X4.here hexec rfl 0 (hb hbytes d17) (by decide) ?_
        exact Steps.refl _)
  exact ⟨T4, some (.int (1 - cd)), _, _, _, X4, rfl, rfl, rfl, (fun h => by cases h), ⟨rfl, q4.trans hh2⟩, fun fs hl => c6.trans (X4.ireturnOut hexec hret (by rcases hc with rfl | rfl <;> rfl) (Or.inr (Or.inl rfl)) (hb hbytes d18) hl)⟩
end IsL
namespace LChA
def yN : MethodName := ⟨"java/lang/StringLatin1", "charAt", "([BI)C"⟩
abbrev yB : ByteArray := jdk_43_method_2_code
theorem d0 : decode yB 0 = .ok (.iload_n 1, 1) := by decide +kernel
theorem d1 : decode yB 1 = .ok (.aload_n 0, 1) := by decide +kernel
theorem d2 : decode yB 2 = .ok (.arraylength, 1) := by decide +kernel
theorem d3 : decode yB 3 = .ok (.invokestatic 9, 3) := by decide +kernel
theorem d6 : decode yB 6 = .ok (.aload_n 0, 1) := by decide +kernel
theorem d7 : decode yB 7 = .ok (.iload_n 1, 1) := by decide +kernel
theorem d8 : decode yB 8 = .ok (.baload, 1) := by decide +kernel
theorem d9 : decode yB 9 = .ok (.sipush 255, 3) := by decide +kernel
theorem d12 : decode yB 12 = .ok (.iand, 1) := by decide +kernel
theorem d13 : decode yB 13 = .ok (.i2c, 1) := by decide +kernel
theorem d14 : decode yB 14 = .ok (.ireturn, 1) := by decide +kernel
def site : List Cond := [JO.Str_checkIndex.tab] ++ staticW "java/lang/StringLatin1" 9 JO.Str_checkIndex.yN
def tab : Cond := tabOf yN yB 2 (some .char) site
def P (t : Addr) (V : Cell) (i : Nat) (u : Int32) (fm : Value) (args : Array Value) (s : State) : Prop := args = #[.ref t, .int (Int32.ofNat i)] ∧ XT.Arr .byte t V s ∧ V.slots[i]? = some (.int u) ∧ (StaticIs s "jdk/internal/util/Preconditions" "SIOOBE_FORMATTER" "Ljava/util/function/BiFunction;" fm ∧ fm.isRef = true)
def E (u : Int32) (r : Option Value) (s w : State) : Prop := XT.PureE (some (.int (chr8 u))) r s w
theorem law (l : Launch) (t : Addr) (V : Cell) (i : Nat) (u : Int32) (fm : Value) : Law l yN 2 2 2 27 yB 2 (some .char) site (P t V i u fm) (E u) [] 0 0 := by
  refine Law.of_walk (plainFor_of_name (by decide +kernel)) (by decide +kernel) (by decide +kernel) (by decide) (fun _ _ h => by rw [h.1]; rfl) (fun _ U U' hal hh h => ⟨h.1, h.2.1.mv hal hh, h.2.2.1, h.2.2.2.1.there hal hh, h.2.2.2.2⟩) (fun r U U' V V' h1 hal h2 h => XT.PureE.mv r U U' V V' h1 hal h2 h) ?_
  intro p e s m args below meth c s₁ X0 hexec hbytes hml hret hlk hnm hown hh0 W hP
  obtain ⟨rfl, hV, hu, s1, rf⟩ := hP
  have v31 := hV.2.2.2
  have hi : i < V.slots.size := (Array.getElem?_eq_some_iff.mp hu).1
  have c1 : Steps p.tables e below (s₁.setTop (entryFrame m #[.ref t, .int (Int32.ofNat i)] 2)) (s₁.setTop (mkF m 0 #[.val (.ref t), .val (.int (Int32.ofNat i))] [])) := entry rfl
  have c2 : Steps p.tables e below (s₁.setTop (entryFrame m #[.ref t, .int (Int32.ofNat i)] 2)) (s₁.setTop (mkF m 3 #[.val (.ref t), .val (.int (Int32.ofNat i))] [.int (Int32.ofNat V.slots.size), .int (Int32.ofNat i)])) := c1.trans (by
    refine XS.iloadN X0.here hexec rfl (hb hbytes d0) rfl ?_
    refine XS.aloadN X0.here hexec rfl (hb hbytes d1) rfl rfl ?_
    refine X0.alen hexec (hV.mv X0.warmed.alike hh0) rfl rfl (hb hbytes d2) ?_
    exact Steps.refl _)
  obtain ⟨v3, T3, X3, E3, g3⟩ := X0.callS hexec (JO.Str_checkIndex.law l (Int32.ofNat i) (Int32.ofNat V.slots.size) fm) hown (wks W (staticW "java/lang/StringLatin1" 9 JO.Str_checkIndex.yN)) (wk W JO.Str_checkIndex.tab) (W := 0) (Nat.le_of_ble_eq_true rfl) (Nat.le_of_ble_eq_true rfl) (Nat.le_refl _) (Nat.le_refl _) (g := (mkF m 3 #[.val (.ref t), .val (.int (Int32.ofNat i))] [.int (Int32.ofNat V.slots.size), .int (Int32.ofNat i)])) rfl (by rw [hml]; rfl) c2 (argsL := [.int (Int32.ofNat i), .int (Int32.ofNat V.slots.size)]) (rest := []) rfl rfl (by show 2 * 0 + 0 ≤ _; decide) (hb hbytes d3) (⟨rfl, rf, s1.there X0.warmed.alike hh0, Int32.ofNat_not_neg (by omega), lt32 v31 hi⟩)
  obtain ⟨rfl, q3⟩ := E3
  have hh3 := q3.trans hh0
  have c4 : Steps p.tables e below (s₁.setTop (entryFrame m #[.ref t, .int (Int32.ofNat i)] 2)) (T3.setTop (mkF m 14 #[.val (.ref t), .val (.int (Int32.ofNat i))] [.int (chr8 u)])) := Steps.trans g3 (by
    refine XS.aloadN X3.here hexec rfl (hb hbytes d6) rfl rfl ?_
    refine XS.iloadN X3.here hexec rfl (hb hbytes d7) rfl ?_
    refine X3.aget hexec (hV.mv X3.warmed.alike hh3) rfl hu rfl rfl (hb hbytes d8) ?_
    refine sipushV X3.here hexec rfl 255 (hb hbytes d9) (by decide) ?_
    refine XS.iand X3.here hexec rfl (hb hbytes d12) rfl ?_
    refine i2c X3.here hexec rfl (hb hbytes d13) rfl ?_
    exact Steps.refl _)
  exact ⟨T3, some (.int (chr8 u)), _, _, _, X3, rfl, rfl, rfl, (fun h => by cases h), ⟨rfl, hh3⟩, fun fs hl => c4.trans (X3.ireturnOut hexec hret (narrow_c _) (Or.inr (Or.inr (Or.inr (Or.inl rfl)))) (hb hbytes d14) hl)⟩
end LChA
end StrChars
namespace StrChars.Road
open Jvm Sem ClassFile Op Lib Jvm.Stand Jvm.Free Jvm.Free.XT
open Jvm.Lib.Cold (StaticIs)
theorem consq {a : Array Value} {s : State} {c : Jvm.Cond} {L : List Jvm.Cond} (h0 : c.before a s = true) (h : ∀ w ∈ L, w.before a s = true) : ∀ w ∈ c :: L, w.before a s = true := fun w hw => (List.mem_cons.mp hw).elim (fun e => e ▸ h0) (h w)
/-- the words of String.length(), either coding -/
abbrev wordsLen : List Jvm.Cond := [.code Len.yN Len.yB 1 (some .int), .initialized ST, .fieldLink ST 9 ST "value" "[B", .fieldLink ST 38 ST "COMPACT_STRINGS" "Z", .fieldLink ST 15 ST "coder" "B", .code Cdr.yN Cdr.yB 1 (some .byte), .methodLink ST 335 Cdr.yN, .declares Cdr.yN, .selects ST Cdr.yN Cdr.yN, .instanceMethod Cdr.yN]
theorem tabLen_of {a : Array Value} {s : State} (h : ∀ w ∈ wordsLen, w.before a s = true) : Len.tab.before a s = true := by
  have hc : Cdr.tab.before a s = true := unparts (wk h (.code Cdr.yN Cdr.yB 1 (some .byte))) (wks h (.initialized Cdr.yN.cls :: Cdr.site))
  have q := consq hc h
  exact unparts (wk q (.code Len.yN Len.yB 1 (some .int))) (wks q (.initialized Len.yN.cls :: Len.site))
theorem movedLen {Z s : State} {a0 args : Array Value} (hZ : Z.Warmed39 s.vm) (hw : ∀ d ∈ wordsLen, d.before a0 Z = true) : ∀ d ∈ wordsLen, d.before args s = true := fun d hd => by
  have q := hw d hd
  have t : ∀ d ∈ wordsLen, d = .arrayClass .byte ∨ (d.onTables && d.keepsFace) = true := by decide +kernel
  rcases t d hd with rfl | t
  · exact RoadKit.mvA hZ q
  · exact RoadKit.mv hZ q t
/-- the bytes of the chars cs, low before high -/
def wideBytes : List Int32 → List Value
  | [] => []
  | c :: cs => .int (lo8 c) :: .int (hi8 c) :: wideBytes cs
theorem wide_lo (d : Value) : ∀ (cs : List Int32) (j : Nat), j < cs.length → (wideBytes cs).getD (2 * j) d = .int (lo8 (cs.getD j 0))
  | [], j, h => absurd h (Nat.not_lt_zero j)
  | c :: cs, 0, _ => rfl
  | c :: cs, j + 1, h => by
    have q := wide_lo d cs j (by simpa using h)
    rw [show 2 * (j + 1) = 2 * j + 1 + 1 from by omega]
    simpa [wideBytes] using q
theorem wide_hi (d : Value) : ∀ (cs : List Int32) (j : Nat), j < cs.length → (wideBytes cs).getD (2 * j + 1) d = .int (hi8 (cs.getD j 0))
  | [], j, h => absurd h (Nat.not_lt_zero j)
  | c :: cs, 0, _ => rfl
  | c :: cs, j + 1, h => by
    have q := wide_hi d cs j (by simpa using h)
    rw [show 2 * (j + 1) + 1 = 2 * j + 1 + 1 + 1 from by omega]
    simpa [wideBytes] using q
theorem low_at (d : Value) (cs : List Int32) (j : Nat) (h : j < cs.length) : (cs.map fun c => Value.int (lo8 c)).getD j d = .int (lo8 (cs.getD j 0)) := by
  simp [List.getD_eq_getElem?_getD, h]
/-- an array of N2 bytes vs codes the chars cs by the coder cd -/
def CodA (cs : List Int32) (cd N2 : Int32) (vs : List Value) : Prop := (cd = 0 ∧ N2 = Int32.ofNat cs.length ∧ vs = (cs.map fun c => Value.int (lo8 c)) ∧ ∀ c ∈ cs, ¬ 255 < c) ∨ (cd = 1 ∧ N2 = Int32.ofNat (2 * cs.length) ∧ vs = wideBytes cs ∧ ∃ c ∈ cs, 255 < c)
theorem CodA.cod {cs : List Int32} {cd N2 : Int32} {vs : List Value} {V : Cell} (h : CodA cs cd N2 vs) (hn : 2 * cs.length < 2 ^ 31) (hs : V.slots.size = N2.toNatClampNeg) (hv : RoadKit.Has V vs (.int 0)) : Cod cd cs.length (fun j => cs.getD j 0) V := by
  rcases h with ⟨rfl, rfl, rfl, h⟩ | ⟨rfl, rfl, rfl, c, hc, hw⟩
  · rw [n32 (by omega)] at hs
    exact Or.inl ⟨rfl, hs, fun j hj => ⟨by rw [hv j (by omega), low_at _ _ _ hj], by
      have e : cs.getD j 0 = cs[j] := by simp [List.getD_eq_getElem?_getD, hj]
      show ¬ 255 < cs.getD j 0
      rw [e]; exact h _ (List.getElem_mem _)⟩⟩
  · rw [n32 (by omega)] at hs
    obtain ⟨j, hj, rfl⟩ := List.getElem_of_mem hc
    exact Or.inr ⟨rfl, hs, fun j hj => ⟨by rw [hv _ (by omega), wide_lo _ _ _ hj], by rw [hv _ (by omega), wide_hi _ _ _ hj]⟩, j, hj, by
      have e : cs.getD j 0 = cs[j] := by simp [List.getD_eq_getElem?_getD, hj]
      show 255 < cs.getD j 0
      rw [e]; exact hw⟩
/-- an object of exactly java/lang/String, its two fields found: as the laws ask it -/
theorem strObj {Z U : State} {a0 : Array Value} {kI : Nat} (wi : (Jvm.Cond.instantiable ST kI).before a0 Z = true) (al : Z.vm.Alike U.vm) {x : Addr} {v0 c0 : Value} (E : RoadKit.Exa Z U.heap x ST) (V : RoadKit.Fld Z U.heap x ST "value" "[B" v0) (C : RoadKit.Fld Z U.heap x ST "coder" "B" c0) :
    ∃ (D : Cell) (fV fC : Field), Blank ST x D U ∧ Found ST "value" "[B" fV U ∧ Found ST "coder" "B" fC U ∧ D.slots[fV.slot]? = some v0 ∧ D.slots[fC.slot]? = some c0 ∧ RoadKit.slotOf Z ST "value" "[B" = fV.slot ∧ RoadKit.slotOf Z ST "coder" "B" = fC.slot := by
  obtain ⟨D, cfV, kV, iV, fV, hD, gV, stV, knV, obV, asV, slV⟩ := V
  obtain ⟨D', cfC, kC, iC, fC, hD', gC, stC, -, -, asC, slC⟩ := C
  cases hD.symm.trans hD'
  obtain ⟨D2, kD, e1, e2, e3, e4, e5⟩ := E
  cases hD.symm.trans e1
  obtain ⟨c2, k2, i1, i2, i3, -⟩ := Cond.instantiable_spec wi
  cases e2.symm.trans i1
  cases e3.symm.trans i2
  obtain ⟨kU, u1, u2⟩ := al.2.2 _ _ e3
  exact ⟨D, fV, fC, ⟨hD, ⟨knV, fun q hq => by rw [hq] at obV; cases obV⟩, by rw [al.findClass]; exact e2, kU, u1, by rw [u2]; exact i3, by rw [u2]; exact e5 i3⟩, ⟨SBG.found_only al ⟨cfV, kV, iV, gV⟩, stV⟩, ⟨SBG.found_only al ⟨cfC, kC, iC, gC⟩, stC⟩, slV, slC, by simp [RoadKit.slotOf, gV], by simp [RoadKit.slotOf, gC]⟩
theorem sta_is {Z U : State} (al : Z.vm.Alike U.vm) {C n d : String} {v : Value} (S : RoadKit.Sta Z U.heap C n d v) : StaticIs U C n d v := by
  obtain ⟨cfS, iS, kS, fS, st, cS, t1, t2, t3, t4, t5, t6, t7⟩ := S
  exact StaticIs.there (s := { Z with heap := U.heap }) ⟨cfS, iS, kS, fS, st, cS, t1, t2, t3, t4, t5, (fun q => by rw [q] at t6; cases t6), t7⟩ al rfl
/-- **length() OF SUCH A STRING** -/
theorem lenW {p : Program} {l : Launch} {e : Env} {R : Room} {s : State} {args : Array Value} {below : List Frame} {len W : Nat} {Z : State} {a0 : Array Value} {h : Heap} (hZ : Z.Warmed39 s.vm) (hw : ∀ d ∈ wordsLen, d.before a0 Z = true) {kI : Nat} (wi : (Jvm.Cond.instantiable ST kI).before a0 Z = true)
    {x t : Addr} {kb : ClassId} {cs : List Int32} {cd N2 z : Int32} {vs : List Value} (E : RoadKit.Exa Z h x ST) (V : RoadKit.Fld Z h x ST "value" "[B" (.ref t)) (C : RoadKit.Fld Z h x ST "coder" "B" (.int cd)) (K : RoadKit.Arv Z h t kb .byte N2 vs (.int 0)) (hc : CodA cs cd N2 vs) (hb : ∀ c ∈ cs, ¬ c < 0 ∧ ¬ (65535 : Int32) < c)
    (S : RoadKit.Sta Z h ST "COMPACT_STRINGS" "Z" (.int z)) (hz : ¬ z = 0) (l2 : cs.length ≤ 4000) (hfr : 2 ≤ R.frames) (hlo : W + 25 ≤ R.locals) :
    Back l R p e below s args (⟨"java/lang/String", "length", "()I"⟩ : MethodName) len W (fun P a => a = #[.ref x] ∧ P.U.heap = h ∧ P.cells + 0 ≤ R.cells ∧ P.slots + 0 ≤ R.slots)
      (fun P _ v B => ∃ L, (v = some (.int (Int32.ofNat cs.length)) ∧ L = [] ∧ B.U.heap = h) ∧ B.locs = P.locs ++ L ∧ B.cells = P.cells + 0 ∧ B.slots = P.slots + 0) := by
  obtain ⟨A, K1, K2, K3, K4, K5, K6⟩ := K
  have hcod := hc.cod (by omega) K3 K5
  intro m meth c P g ig mk a X hg hsize hdg hW hn hp'
  obtain ⟨rfl, rfl, r1, r2⟩ := hp'
  have al : Z.vm.Alike P.U.vm := hZ.alike.trans X.warmed.alike
  obtain ⟨D, fV, fC, hB, F1, F2, g1, g2, -, -⟩ := strObj wi al E V C
  have hx : Txt x t A cd cs.length (fun j => cs.getD j 0) P.U := ⟨⟨_, hB.2.2.1, D, hB.1, rfl, by cases q : D.vm <;> first | rfl | exact absurd q (hB.2.1.2 _)⟩, Has.of hB F1 g1, Has.of hB F2 g2, ⟨K1.1, State.isArrayOf_alike al K1.2.1, K1.2.2, by rcases hcod with ⟨-, q, -⟩ | ⟨-, q, -⟩ <;> omega⟩, hcod, fun j hj => by
    have e : cs.getD j 0 = cs[j] := by simp [List.getD_eq_getElem?_getD, hj]
    show ¬ cs.getD j 0 < 0 ∧ ¬ 65535 < cs.getD j 0
    rw [e]; exact hb _ (List.getElem_mem _)⟩
  obtain ⟨v, B, X', ⟨⟨hv, hh⟩, hl, hk, hs⟩, st⟩ := Len.pays x t A cd cs.length (fun j => cs.getD j 0) z (tabLen_of (movedLen hZ hw)) hfr hlo m meth c P g ig mk _ X hg hsize hdg hW hn ⟨r1, r2, rfl, hx, sta_is al S, hz⟩
  exact ⟨v, B, X', ⟨[], ⟨hv, rfl, hh⟩, hl, hk, hs⟩, st⟩
end StrChars.Road
namespace StrChars
open Jvm Sem ClassFile Op Lib Jvm.Stand Jvm.Free.XT Jvm.Free.ALB Jvm.Free.JM Jvm.Free
open Jvm.Lib.Cold (StaticIs)
/-- what place i of a byte[]'s cell holds -/
def yv (A : Cell) (i : Nat) : Int32 := match A.slots[i]? with | some (.int x) => x | _ => 0
theorem yv_get {a : Addr} {A : Cell} {U : State} (h : XT.Arr .byte a A U) (ht : Typed .byte A) {i : Nat} (hi : i < A.slots.size) : A.slots[i]? = some (.int (yv A i)) := by
  have e := Array.getElem?_eq_getElem hi
  have f := ht i _ e
  unfold yv; rw [e]
  generalize A.slots[i] = v at f
  cases v <;> simp [fits] at f ⊢
/-- the two arrays are equal, place for place -/
def EqC (A B : Cell) : Prop := A.slots.size = B.slots.size ∧ ∀ i, i < A.slots.size → yv A i = yv B i
/-- a boolean that says whether p -/
def Says01 (q : Prop) (r : Option Value) (s u : State) : Prop := ∃ v : Int32, r = some (.int v) ∧ u.heap = s.heap ∧ ((v = 1 ∧ q) ∨ (v = 0 ∧ ¬ q))
theorem Says01.mv {q : Prop} : ∀ r (U U' V V' : State), U'.heap = U.heap → V.vm.Alike V'.vm → V'.heap = V.heap → Says01 q r U V → Says01 q r U' V' :=
  fun r U U' V V' h1 _ h2 ⟨v, a, b, c⟩ => ⟨v, a, by rw [h1, h2]; exact b, c⟩
namespace LEq
def yN : MethodName := ⟨"java/lang/StringLatin1", "equals", "([B[B)Z"⟩
abbrev yB : ByteArray := jdk_43_method_13_code
theorem d0 : decode yB 0 = .ok (.aload_n 0, 1) := by decide +kernel
theorem d1 : decode yB 1 = .ok (.arraylength, 1) := by decide +kernel
theorem d2 : decode yB 2 = .ok (.aload_n 1, 1) := by decide +kernel
theorem d3 : decode yB 3 = .ok (.arraylength, 1) := by decide +kernel
theorem d4 : decode yB 4 = .ok (.if_icmp (.ne) 30, 3) := by decide +kernel
theorem d7 : decode yB 7 = .ok (.iconst 0, 1) := by decide +kernel
theorem d8 : decode yB 8 = .ok (.istore_n 2, 1) := by decide +kernel
theorem d9 : decode yB 9 = .ok (.iload_n 2, 1) := by decide +kernel
theorem d10 : decode yB 10 = .ok (.aload_n 0, 1) := by decide +kernel
theorem d11 : decode yB 11 = .ok (.arraylength, 1) := by decide +kernel
theorem d12 : decode yB 12 = .ok (.if_icmp (.ge) 20, 3) := by decide +kernel
theorem d15 : decode yB 15 = .ok (.aload_n 0, 1) := by decide +kernel
theorem d16 : decode yB 16 = .ok (.iload_n 2, 1) := by decide +kernel
theorem d17 : decode yB 17 = .ok (.baload, 1) := by decide +kernel
theorem d18 : decode yB 18 = .ok (.aload_n 1, 1) := by decide +kernel
theorem d19 : decode yB 19 = .ok (.iload_n 2, 1) := by decide +kernel
theorem d20 : decode yB 20 = .ok (.baload, 1) := by decide +kernel
theorem d21 : decode yB 21 = .ok (.if_icmp (.eq) 5, 3) := by decide +kernel
theorem d24 : decode yB 24 = .ok (.iconst 0, 1) := by decide +kernel
theorem d25 : decode yB 25 = .ok (.ireturn, 1) := by decide +kernel
theorem d26 : decode yB 26 = .ok (.iinc 2 1, 3) := by decide +kernel
theorem d29 : decode yB 29 = .ok (.goto (-20), 3) := by decide +kernel
theorem d32 : decode yB 32 = .ok (.iconst 1, 1) := by decide +kernel
theorem d33 : decode yB 33 = .ok (.ireturn, 1) := by decide +kernel
theorem d34 : decode yB 34 = .ok (.iconst 0, 1) := by decide +kernel
theorem d35 : decode yB 35 = .ok (.ireturn, 1) := by decide +kernel
def site : List Cond := []
def tab : Cond := tabOf yN yB 3 (some .boolean) site
def P (a : Addr) (A : Cell) (b : Addr) (B : Cell) (args : Array Value) (s : State) : Prop := args = #[.ref a, .ref b] ∧ XT.Arr .byte a A s ∧ Typed .byte A ∧ XT.Arr .byte b B s ∧ Typed .byte B
/-- whether two byte[] are equal, place for place -/
theorem law (l : Launch) (a : Addr) (A : Cell) (b : Addr) (B : Cell) : Law l yN 2 2 0 0 yB 3 (some .boolean) site (P a A b B) (Says01 (EqC A B)) [] 0 0 := by
  refine Law.of_walk (plainFor_of_name (by decide +kernel)) (by decide +kernel) (by decide +kernel) (by decide) (fun _ _ h => by rw [h.1]; rfl) (fun _ U U' hal hh h => ⟨h.1, h.2.1.mv hal hh, h.2.2.1, h.2.2.2.1.mv hal hh, h.2.2.2.2⟩) (fun r U U' V V' h1 hal h2 h => Says01.mv r U U' V V' h1 hal h2 h) ?_
  intro p e s m args below meth c s₁ X0 hexec hbytes hml hret hlk hnm hown hh0 W hP
  obtain ⟨rfl, hA, tA, hB, tB⟩ := hP
  have a31 := hA.2.2.2
  have b31 := hB.2.2.2
  have hA0 := hA.mv X0.warmed.alike hh0
  have hB0 := hB.mv X0.warmed.alike hh0
  have c1 : Steps p.tables e below (s₁.setTop (entryFrame m #[.ref a, .ref b] 3)) (s₁.setTop (mkF m 0 #[.val (.ref a), .val (.ref b), .unset] [])) := entry rfl
  have c2 : Steps p.tables e below (s₁.setTop (entryFrame m #[.ref a, .ref b] 3)) (s₁.setTop (mkF m 4 #[.val (.ref a), .val (.ref b), .unset] [.int (Int32.ofNat B.slots.size), .int (Int32.ofNat A.slots.size)])) := c1.trans (by
    refine XS.aloadN X0.here hexec rfl (hb hbytes d0) rfl rfl ?_
    refine X0.alen hexec hA0 rfl rfl (hb hbytes d1) ?_
    refine XS.aloadN X0.here hexec rfl (hb hbytes d2) rfl rfl ?_
    refine X0.alen hexec hB0 rfl rfl (hb hbytes d3) ?_
    exact Steps.refl _)
  by_cases hs : A.slots.size = B.slots.size
  · have c3 : Steps p.tables e below (s₁.setTop (entryFrame m #[.ref a, .ref b] 3)) (s₁.setTop (mkF m 9 #[.val (.ref a), .val (.ref b), .val (.int 0)] [])) := c2.trans (by
      refine XS.icmpNo X0.here hexec rfl (hb hbytes d4) rfl (ii_ne_f (by rw [hs])) ?_
      refine iconstV X0.here hexec rfl 0 (hb hbytes d7) (by decide) ?_
      refine XS.istoreN X0.here hexec rfl (hb hbytes d8) rfl rfl ?_
      exact Steps.refl _)
    have loop : ∀ (r i : Nat), i + r = A.slots.size → (∀ j, j < i → yv A j = yv B j) → Steps p.tables e below (s₁.setTop (entryFrame m #[.ref a, .ref b] 3)) (s₁.setTop (mkF m 9 #[.val (.ref a), .val (.ref b), .val (.int (Int32.ofNat i))] [])) → ∃ (pc : Nat) (Ls : Array Slot) (v : Int32), (pc = 25 ∨ pc = 33) ∧ ((v = 1 ∧ EqC A B) ∨ (v = 0 ∧ ¬ EqC A B)) ∧ Steps p.tables e below (s₁.setTop (entryFrame m #[.ref a, .ref b] 3)) (s₁.setTop (mkF m pc Ls [.int v])) := by
      intro r
      induction r with
      | zero =>
        intro i hi he cl
        exact ⟨33, _, 1, Or.inr rfl, Or.inl ⟨rfl, hs, fun j hj => he j (by omega)⟩, cl.trans (by
          refine XS.iloadN X0.here hexec rfl (hb hbytes d9) rfl ?_
          refine XS.aloadN X0.here hexec rfl (hb hbytes d10) rfl rfl ?_
          refine X0.alen hexec hA0 rfl rfl (hb hbytes d11) ?_
          refine XS.icmpYes X0.here hexec rfl (pc0 := 12) rfl (hb hbytes d12) rfl (ii_ge_t (nlt32 (by omega) (by omega))) (by decide) rfl ?_
          refine iconstV X0.here hexec rfl 1 (hb hbytes d32) (by decide) ?_
          exact Steps.refl _)⟩
      | succ r ih =>
        intro i hi he cl
        have c4 : Steps p.tables e below (s₁.setTop (entryFrame m #[.ref a, .ref b] 3)) (s₁.setTop (mkF m 21 #[.val (.ref a), .val (.ref b), .val (.int (Int32.ofNat i))] [.int (yv B i), .int (yv A i)])) := cl.trans (by
          refine XS.iloadN X0.here hexec rfl (hb hbytes d9) rfl ?_
          refine XS.aloadN X0.here hexec rfl (hb hbytes d10) rfl rfl ?_
          refine X0.alen hexec hA0 rfl rfl (hb hbytes d11) ?_
          refine XS.icmpNo X0.here hexec rfl (hb hbytes d12) rfl (ii_ge_f (lt32 (by omega) (by omega))) ?_
          refine XS.aloadN X0.here hexec rfl (hb hbytes d15) rfl rfl ?_
          refine XS.iloadN X0.here hexec rfl (hb hbytes d16) rfl ?_
          refine X0.aget hexec hA0 rfl (yv_get hA tA (i := i) (by omega)) rfl rfl (hb hbytes d17) ?_
          refine XS.aloadN X0.here hexec rfl (hb hbytes d18) rfl rfl ?_
          refine XS.iloadN X0.here hexec rfl (hb hbytes d19) rfl ?_
          refine X0.aget hexec hB0 rfl (yv_get hB tB (i := i) (by omega)) rfl rfl (hb hbytes d20) ?_
          exact Steps.refl _)
        by_cases hv : yv A i = yv B i
        · have c5 : Steps p.tables e below (s₁.setTop (entryFrame m #[.ref a, .ref b] 3)) (s₁.setTop (mkF m 9 #[.val (.ref a), .val (.ref b), .val (.int (Int32.ofNat i + 1))] [])) := c4.trans (by
            refine XS.icmpYes X0.here hexec rfl (pc0 := 21) rfl (hb hbytes d21) rfl (ii_eq_t hv) (by decide) rfl ?_
            refine iincV X0.here hexec rfl 1 (hb hbytes d26) (by decide) rfl rfl ?_
            refine XS.goto X0.here hexec rfl (pc0 := 29) rfl (hb hbytes d29) (by decide) rfl ?_
            exact Steps.refl _)
          rw [succ32] at c5
          exact ih (i + 1) (by omega) (fun j hj => by
            by_cases e : j = i
            · rw [e]; exact hv
            · exact he j (by omega)) c5
        · exact ⟨25, _, 0, Or.inl rfl, Or.inr ⟨rfl, fun q => hv (q.2 i (by omega))⟩, c4.trans (by
            refine XS.icmpNo X0.here hexec rfl (hb hbytes d21) rfl (ii_eq_f hv) ?_
            refine iconstV X0.here hexec rfl 0 (hb hbytes d24) (by decide) ?_
            exact Steps.refl _)⟩
    obtain ⟨pc, Ls, v, hpc, hv, cz⟩ := loop A.slots.size 0 (by omega) (fun j hj => absurd hj (Nat.not_lt_zero j)) c3
    have nv : narrow .boolean (.int v) = .int v := by rcases hv with ⟨rfl, -⟩ | ⟨rfl, -⟩ <;> rfl
    rcases hpc with rfl | rfl
    · exact ⟨s₁, some (.int v), _, _, _, X0, rfl, rfl, rfl, (fun h => by cases h), ⟨v, rfl, hh0, hv⟩, fun fs hl => cz.trans (X0.ireturnOut hexec hret nv (Or.inr (Or.inl rfl)) (hb hbytes d25) hl)⟩
    · exact ⟨s₁, some (.int v), _, _, _, X0, rfl, rfl, rfl, (fun h => by cases h), ⟨v, rfl, hh0, hv⟩, fun fs hl => cz.trans (X0.ireturnOut hexec hret nv (Or.inr (Or.inl rfl)) (hb hbytes d33) hl)⟩
  · have c3 : Steps p.tables e below (s₁.setTop (entryFrame m #[.ref a, .ref b] 3)) (s₁.setTop (mkF m 35 #[.val (.ref a), .val (.ref b), .unset] [.int 0])) := c2.trans (by
      refine XS.icmpYes X0.here hexec rfl (pc0 := 4) rfl (hb hbytes d4) rfl (ii_ne_t (ne32 a31 b31 hs)) (by decide) rfl ?_
      refine iconstV X0.here hexec rfl 0 (hb hbytes d34) (by decide) ?_
      exact Steps.refl _)
    exact ⟨s₁, some (.int 0), _, _, _, X0, rfl, rfl, rfl, (fun h => by cases h), ⟨0, rfl, hh0, Or.inr ⟨rfl, fun q => hs q.1⟩⟩, fun fs hl => c3.trans (X0.ireturnOut hexec hret rfl (Or.inr (Or.inl rfl)) (hb hbytes d35) hl)⟩
end LEq
theorem Cod.ty {cd : Int32} {n : Nat} {f : Nat → Int32} {V : Cell} (h : Cod cd n f V) : Typed .byte V := fun i v hv => by
  have hi : i < V.slots.size := (Array.getElem?_eq_some_iff.mp hv).1
  rcases h with ⟨-, k1, k2⟩ | ⟨-, k1, k2, -⟩
  · rw [(k2 i (by omega)).1] at hv; cases hv; exact fits_lo8 _
  · rcases Nat.mod_two_eq_zero_or_one i with e | e
    · obtain ⟨j, rfl⟩ : ∃ j, i = 2 * j := ⟨i / 2, by omega⟩
      rw [(k2 j (by omega)).1] at hv; cases hv; exact fits_lo8 _
    · obtain ⟨j, rfl⟩ : ∃ j, i = 2 * j + 1 := ⟨i / 2, by omega⟩
      rw [(k2 j (by omega)).2] at hv; cases hv; exact fits_lo8 _
/-- the same text -/
def SameT (n : Nat) (f : Nat → Int32) (k : Nat) (g : Nat → Int32) : Prop := n = k ∧ ∀ j, j < n → f j = g j
theorem lo8_inj {x y : Int32} (h0 : ¬ x < 0) (h1 : ¬ 255 < x) (k0 : ¬ y < 0) (k1 : ¬ 255 < y) (h : lo8 x = lo8 y) : x = y := by
  rw [← lo8_mask h0 h1, ← lo8_mask k0 k1, h]
/-- arrays coded by one coder are equal just where the texts are -/
theorem Cod.eqv {cd : Int32} {n k : Nat} {f g : Nat → Int32} {V V' : Cell} (h : Cod cd n f V) (h' : Cod cd k g V') (hf : ∀ j, j < n → ¬ f j < 0 ∧ ¬ 65535 < f j) (hg : ∀ j, j < k → ¬ g j < 0 ∧ ¬ 65535 < g j) : EqC V V' ↔ SameT n f k g := by
  have yvv : ∀ {W : Cell} {i : Nat} {x : Int32}, W.slots[i]? = some (.int x) → yv W i = x := fun q => by unfold yv; rw [q]
  rcases h with ⟨rfl, k1, k2⟩ | ⟨rfl, k1, k2, -⟩
  · rcases h' with ⟨-, m1, m2⟩ | ⟨e, -⟩
    · constructor
      · rintro ⟨e1, e2⟩
        refine ⟨by omega, fun j hj => ?_⟩
        have q := e2 j (by omega)
        rw [yvv (k2 j hj).1, yvv (m2 j (by omega)).1] at q
        exact lo8_inj (hf j hj).1 (k2 j hj).2 (hg j (by omega)).1 (m2 j (by omega)).2 q
      · rintro ⟨rfl, e2⟩
        refine ⟨by omega, fun j hj => ?_⟩
        rw [yvv (k2 j (by omega)).1, yvv (m2 j (by omega)).1, e2 j (by omega)]
    · exact absurd e (by decide)
  · rcases h' with ⟨e, -⟩ | ⟨-, m1, m2, -⟩
    · exact absurd e (by decide)
    · constructor
      · rintro ⟨e1, e2⟩
        refine ⟨by omega, fun j hj => ?_⟩
        have q1 := e2 (2 * j) (by omega)
        have q2 := e2 (2 * j + 1) (by omega)
        rw [yvv (k2 j hj).1, yvv (m2 j (by omega)).1] at q1
        rw [yvv (k2 j hj).2, yvv (m2 j (by omega)).2] at q2
        rw [← pair_says (hf j hj).1 (hf j hj).2, ← pair_says (hg j (by omega)).1 (hg j (by omega)).2, q1, q2]
      · rintro ⟨rfl, e2⟩
        refine ⟨by omega, fun i hi => ?_⟩
        rcases Nat.mod_two_eq_zero_or_one i with e | e
        · obtain ⟨j, rfl⟩ : ∃ j, i = 2 * j := ⟨i / 2, by omega⟩
          rw [yvv (k2 j (by omega)).1, yvv (m2 j (by omega)).1, e2 j (by omega)]
        · obtain ⟨j, rfl⟩ : ∃ j, i = 2 * j + 1 := ⟨i / 2, by omega⟩
          rw [yvv (k2 j (by omega)).2, yvv (m2 j (by omega)).2, e2 j (by omega)]
/-- two codings differ: so do the texts -/
theorem Cod.dif {cd cd' : Int32} {n k : Nat} {f g : Nat → Int32} {V V' : Cell} (h : Cod cd n f V) (h' : Cod cd' k g V') (hne : ¬ cd = cd') : ¬ SameT n f k g := by
  rintro ⟨rfl, e⟩
  rcases h with ⟨rfl, -, k2⟩ | ⟨rfl, -, -, j, hj, hw⟩
  · rcases h' with ⟨rfl, -⟩ | ⟨-, -, -, j, hj, hw⟩
    · exact hne rfl
    · exact (k2 j hj).2 (by rw [e j hj]; exact hw)
  · rcases h' with ⟨-, -, m2⟩ | ⟨rfl, -⟩
    · exact (m2 j hj).2 (by rw [← e j hj]; exact hw)
    · exact hne rfl
/-- an object of exactly C is an instance of C -/
theorem cinst {p : Program} {l : Launch} {e : Env} {R : Room} {s : State} {m : MethodId} {args : Array Value} {below : List Frame} {meth : Method} {c : Code} {T : State} {locs : List Loc} {cells slots : Nat} (X : Stand p l e R s m args below meth c T locs cells slots) (hexec : p.tables.exec = Jvm.exec) {own C : String} {index : Nat} (hown : s.vm.findClass own = some m.cls) (hlink : (Cond.classLink own index C).before args s = true) {a : Addr} (hE : Exact C a T)
    {g : JFrame} (hg : g.method = m) {rest : List Value} (hstack : g.stack = .ref a :: rest) (hdg : decode c.code g.pc = .ok (.instanceof index, 3)) :
    ∃ T', Stand p l e R s m args below meth c T' locs cells slots ∧ T'.heap = T.heap ∧ ∀ target, Steps p.tables e below (T'.setTop { g with pc := g.pc + 3, stack := .int 1 :: rest }) target → Steps p.tables e below (T.setTop g) target := by
  obtain ⟨cB, h1, D, h2, h3, h4⟩ := hE
  have h1' : s.vm.findClass C = some cB := by rw [← X.warmed.alike.findClass]; exact h1
  obtain ⟨vm', X', st⟩ := X.instanceofYes hexec hown hlink h2 h4 h1' (by rw [h3]; exact Jvm.Free.SB.assignable_self _ _) hg hstack hdg
  exact ⟨_, X', rfl, st⟩
theorem cself {p : Program} {l : Launch} {e : Env} {R : Room} {s : State} {m : MethodId} {args : Array Value} {below : List Frame} {meth : Method} {c : Code} {T : State} {locs : List Loc} {cells slots : Nat} (X : Stand p l e R s m args below meth c T locs cells slots) (hexec : p.tables.exec = Jvm.exec) {own C : String} {index : Nat} (hown : s.vm.findClass own = some m.cls) (hlink : (Cond.classLink own index C).before args s = true) {a : Addr} (hE : Exact C a T)
    {g : JFrame} (hg : g.method = m) {rest : List Value} (hstack : g.stack = .ref a :: rest) (hdg : decode c.code g.pc = .ok (.checkcast index, 3)) :
    ∃ T', Stand p l e R s m args below meth c T' locs cells slots ∧ T'.heap = T.heap ∧ ∀ target, Steps p.tables e below (T'.setTop { g with pc := g.pc + 3, stack := .ref a :: rest }) target → Steps p.tables e below (T.setTop g) target := by
  obtain ⟨cB, h1, D, h2, h3, h4⟩ := hE
  have h1' : s.vm.findClass C = some cB := by rw [← X.warmed.alike.findClass]; exact h1
  obtain ⟨vm', X', st⟩ := X.checkcastYes hexec hown hlink h2 h4 h1' (by rw [h3]; exact Jvm.Free.SB.assignable_self _ _) hg hstack hdg
  exact ⟨_, X', rfl, fun t h => st t (by rw [← hstack] at h; exact h)⟩
namespace SEq
def yN : MethodName := ⟨"java/lang/String", "equals", "(Ljava/lang/Object;)Z"⟩
abbrev yB : ByteArray := jdk_42_method_66_code
theorem d0 : decode yB 0 = .ok (.aload_n 0, 1) := by decide +kernel
theorem d1 : decode yB 1 = .ok (.aload_n 1, 1) := by decide +kernel
theorem d2 : decode yB 2 = .ok (.if_acmp (.ne) 5, 3) := by decide +kernel
theorem d5 : decode yB 5 = .ok (.iconst 1, 1) := by decide +kernel
theorem d6 : decode yB 6 = .ok (.ireturn, 1) := by decide +kernel
theorem d7 : decode yB 7 = .ok (.aload_n 1, 1) := by decide +kernel
theorem d8 : decode yB 8 = .ok (.instanceof 10, 3) := by decide +kernel
theorem d11 : decode yB 11 = .ok (.ifCond (.eq) 43, 3) := by decide +kernel
theorem d14 : decode yB 14 = .ok (.aload_n 1, 1) := by decide +kernel
theorem d15 : decode yB 15 = .ok (.checkcast 10, 3) := by decide +kernel
theorem d18 : decode yB 18 = .ok (.astore_n 2, 1) := by decide +kernel
theorem d19 : decode yB 19 = .ok (.getstatic 38, 3) := by decide +kernel
theorem d22 : decode yB 22 = .ok (.ifCond (.eq) 14, 3) := by decide +kernel
theorem d25 : decode yB 25 = .ok (.aload_n 0, 1) := by decide +kernel
theorem d26 : decode yB 26 = .ok (.getfield 15, 3) := by decide +kernel
theorem d29 : decode yB 29 = .ok (.aload_n 2, 1) := by decide +kernel
theorem d30 : decode yB 30 = .ok (.getfield 15, 3) := by decide +kernel
theorem d33 : decode yB 33 = .ok (.if_icmp (.ne) 21, 3) := by decide +kernel
theorem d36 : decode yB 36 = .ok (.aload_n 0, 1) := by decide +kernel
theorem d37 : decode yB 37 = .ok (.getfield 9, 3) := by decide +kernel
theorem d40 : decode yB 40 = .ok (.aload_n 2, 1) := by decide +kernel
theorem d41 : decode yB 41 = .ok (.getfield 9, 3) := by decide +kernel
theorem d44 : decode yB 44 = .ok (.invokestatic 541, 3) := by decide +kernel
theorem d47 : decode yB 47 = .ok (.ifCond (.eq) 7, 3) := by decide +kernel
theorem d50 : decode yB 50 = .ok (.iconst 1, 1) := by decide +kernel
theorem d51 : decode yB 51 = .ok (.goto 4, 3) := by decide +kernel
theorem d54 : decode yB 54 = .ok (.iconst 0, 1) := by decide +kernel
theorem d55 : decode yB 55 = .ok (.ireturn, 1) := by decide +kernel
def site : List Cond := [.classLink "java/lang/String" 10 "java/lang/String", .fieldLink "java/lang/String" 38 "java/lang/String" "COMPACT_STRINGS" "Z", .fieldLink "java/lang/String" 15 "java/lang/String" "coder" "B", .fieldLink "java/lang/String" 9 "java/lang/String" "value" "[B", LEq.tab] ++ staticW "java/lang/String" 541 LEq.yN
def tab : Cond := tabOf yN yB 3 (some .boolean) site
def P (x t : Addr) (V : Cell) (cd : Int32) (n : Nat) (f : Nat → Int32) (y t' : Addr) (V' : Cell) (cd' : Int32) (k : Nat) (g : Nat → Int32) (z : Int32) (args : Array Value) (s : State) : Prop := args = #[.ref x, .ref y] ∧ Txt x t V cd n f s ∧ Txt y t' V' cd' k g s ∧ StaticIs s "java/lang/String" "COMPACT_STRINGS" "Z" (.int z) ∧ ¬ z = 0
/-- equals(Object) of two Strings: whether the texts are the same -/
theorem law (l : Launch) (x t : Addr) (V : Cell) (cd : Int32) (n : Nat) (f : Nat → Int32) (y t' : Addr) (V' : Cell) (cd' : Int32) (k : Nat) (g : Nat → Int32) (z : Int32) : Law l yN 2 1 1 14 yB 3 (some .boolean) site (P x t V cd n f y t' V' cd' k g z) (Says01 (SameT n f k g)) [] 0 0 := by
  refine Law.of_walk (plainFor_of_name (by decide +kernel)) (by decide +kernel) (by decide +kernel) (by decide) (fun _ _ h => by rw [h.1]; rfl) (fun _ U U' hal hh h => ⟨h.1, h.2.1.mv hal hh, h.2.2.1.mv hal hh, h.2.2.2.1.there hal hh, h.2.2.2.2⟩) (fun r U U' V V' h1 hal h2 h => Says01.mv r U U' V V' h1 hal h2 h) ?_
  intro p e s m args below meth c s₁ X0 hexec hbytes hml hret hlk hnm hown hh0 W hP
  obtain ⟨rfl, hx, hy, s1, hz⟩ := hP
  have c1 : Steps p.tables e below (s₁.setTop (entryFrame m #[.ref x, .ref y] 3)) (s₁.setTop (mkF m 2 #[.val (.ref x), .val (.ref y), .unset] [.ref y, .ref x])) := Steps.trans (entry rfl) (by
    show Steps p.tables e below (s₁.setTop (mkF m 0 #[.val (.ref x), .val (.ref y), .unset] [])) _
    refine XS.aloadN X0.here hexec rfl (hb hbytes d0) rfl rfl ?_
    refine XS.aloadN X0.here hexec rfl (hb hbytes d1) rfl rfl ?_
    exact Steps.refl _)
  by_cases hxy : x = y
  · have c2 : Steps p.tables e below (s₁.setTop (entryFrame m #[.ref x, .ref y] 3)) (s₁.setTop (mkF m 6 #[.val (.ref x), .val (.ref y), .unset] [.int 1])) := c1.trans (by
      refine acmpNo X0.here hexec rfl (hb hbytes d2) rfl rfl rfl (by simp [acmp, hxy]) ?_
      refine iconstV X0.here hexec rfl 1 (hb hbytes d5) (by decide) ?_
      exact Steps.refl _)
    subst hxy
    have ec : cd = cd' := by
      obtain ⟨D, fd, a1, a2, a3⟩ := hx.2.2.1
      obtain ⟨D', fd', b1, b2, b3⟩ := hy.2.2.1
      cases a1.symm.trans b1
      obtain ⟨q1, q2, q3, q4⟩ := a2.1
      obtain ⟨r1, r2, r3, r4⟩ := b2.1
      cases q4.symm.trans r4
      cases a3.symm.trans b3; rfl
    have et : t = t' := by
      obtain ⟨D, fd, a1, a2, a3⟩ := hx.2.1
      obtain ⟨D', fd', b1, b2, b3⟩ := hy.2.1
      cases a1.symm.trans b1
      obtain ⟨q1, q2, q3, q4⟩ := a2.1
      obtain ⟨r1, r2, r3, r4⟩ := b2.1
      cases q4.symm.trans r4
      cases a3.symm.trans b3; rfl
    subst ec et
    have ev : V = V' := by cases hx.2.2.2.1.1.symm.trans hy.2.2.2.1.1; rfl
    subst ev
    have hs : SameT n f k g := (Cod.eqv hx.2.2.2.2.1 hy.2.2.2.2.1 hx.2.2.2.2.2 hy.2.2.2.2.2).mp ⟨rfl, fun _ _ => rfl⟩
    exact ⟨s₁, some (.int 1), _, _, _, X0, rfl, rfl, rfl, (fun h => by cases h), ⟨1, rfl, hh0, Or.inl ⟨rfl, hs⟩⟩, fun fs hl => c2.trans (X0.ireturnOut hexec hret rfl (Or.inr (Or.inl rfl)) (hb hbytes d6) hl)⟩
  · have c2 : Steps p.tables e below (s₁.setTop (entryFrame m #[.ref x, .ref y] 3)) (s₁.setTop (mkF m 8 #[.val (.ref x), .val (.ref y), .unset] [.ref y])) := c1.trans (by
      refine acmpYes X0.here hexec rfl (pc0 := 2) rfl (hb hbytes d2) rfl rfl rfl (by simp [acmp, hxy]) (by decide) rfl ?_
      refine XS.aloadN X0.here hexec rfl (hb hbytes d7) rfl rfl ?_
      exact Steps.refl _)
    obtain ⟨T3, X3, q3, st3⟩ := cinst X0 hexec hown (wk W (.classLink "java/lang/String" 10 "java/lang/String")) (hy.mv X0.warmed.alike hh0).1 (g := (mkF m 8 #[.val (.ref x), .val (.ref y), .unset] [.ref y])) rfl (rest := []) rfl (hb hbytes d8)
    have hh3 := q3.trans hh0
    have c4 : Steps p.tables e below (s₁.setTop (entryFrame m #[.ref x, .ref y] 3)) (T3.setTop (mkF m 15 #[.val (.ref x), .val (.ref y), .unset] [.ref y])) := (c2.trans (st3 _ (Steps.refl _))).trans (by
      refine XS.ifNo X3.here hexec rfl (hb hbytes d11) rfl (i0_eq_f (by decide)) ?_
      refine XS.aloadN X3.here hexec rfl (hb hbytes d14) rfl rfl ?_
      exact Steps.refl _)
    obtain ⟨T5, X5, q5, st5⟩ := cself X3 hexec hown (wk W (.classLink "java/lang/String" 10 "java/lang/String")) (hy.mv X3.warmed.alike hh3).1 (g := (mkF m 15 #[.val (.ref x), .val (.ref y), .unset] [.ref y])) rfl (rest := []) rfl (hb hbytes d15)
    have hh5 := q5.trans hh3
    have c6 : Steps p.tables e below (s₁.setTop (entryFrame m #[.ref x, .ref y] 3)) (T5.setTop (mkF m 19 #[.val (.ref x), .val (.ref y), .val (.ref y)] [])) := (c4.trans (st5 _ (Steps.refl _))).trans (by
      refine XS.astoreN X5.here hexec rfl (hb hbytes d18) rfl rfl rfl ?_
      exact Steps.refl _)
    obtain ⟨T7, X7, q7, st7⟩ := X5.sget hexec hown (wk W (.fieldLink "java/lang/String" 38 "java/lang/String" "COMPACT_STRINGS" "Z")) s1 (fun _ _ h => by rw [hh5]; exact h) (g := (mkF m 19 #[.val (.ref x), .val (.ref y), .val (.ref y)] [])) rfl (hb hbytes d19)
    have hh7 := q7.trans hh5
    have c8 : Steps p.tables e below (s₁.setTop (entryFrame m #[.ref x, .ref y] 3)) (T7.setTop (mkF m 26 #[.val (.ref x), .val (.ref y), .val (.ref y)] [.ref x])) := (c6.trans (st7 _ (Steps.refl _))).trans (by
      refine XS.ifNo X7.here hexec rfl (hb hbytes d22) rfl (i0_eq_f hz) ?_
      refine XS.aloadN X7.here hexec rfl (hb hbytes d25) rfl rfl ?_
      exact Steps.refl _)
    obtain ⟨T9, X9, q9, st9⟩ := X7.hget hexec hown (wk W (.fieldLink "java/lang/String" 15 "java/lang/String" "coder" "B")) (hx.mv X7.warmed.alike hh7).2.2.1 (g := (mkF m 26 #[.val (.ref x), .val (.ref y), .val (.ref y)] [.ref x])) rfl (rest := []) rfl (hb hbytes d26)
    have hh9 := q9.trans hh7
    have c10 : Steps p.tables e below (s₁.setTop (entryFrame m #[.ref x, .ref y] 3)) (T9.setTop (mkF m 30 #[.val (.ref x), .val (.ref y), .val (.ref y)] [.ref y, .int cd])) := (c8.trans (st9 _ (Steps.refl _))).trans (by
      refine XS.aloadN X9.here hexec rfl (hb hbytes d29) rfl rfl ?_
      exact Steps.refl _)
    obtain ⟨T11, X11, q11, st11⟩ := X9.hget hexec hown (wk W (.fieldLink "java/lang/String" 15 "java/lang/String" "coder" "B")) (hy.mv X9.warmed.alike hh9).2.2.1 (g := (mkF m 30 #[.val (.ref x), .val (.ref y), .val (.ref y)] [.ref y, .int cd])) rfl (rest := [.int cd]) rfl (hb hbytes d30)
    have hh11 := q11.trans hh9
    have c12 : Steps p.tables e below (s₁.setTop (entryFrame m #[.ref x, .ref y] 3)) (T11.setTop (mkF m 33 #[.val (.ref x), .val (.ref y), .val (.ref y)] [.int cd', .int cd])) := c10.trans (st11 _ (Steps.refl _))
    by_cases hcd : cd = cd'
    · subst hcd
      have c13 : Steps p.tables e below (s₁.setTop (entryFrame m #[.ref x, .ref y] 3)) (T11.setTop (mkF m 37 #[.val (.ref x), .val (.ref y), .val (.ref y)] [.ref x])) := c12.trans (by
        refine XS.icmpNo X11.here hexec rfl (hb hbytes d33) rfl (ii_ne_f rfl) ?_
        refine XS.aloadN X11.here hexec rfl (hb hbytes d36) rfl rfl ?_
        exact Steps.refl _)
      obtain ⟨T14, X14, q14, st14⟩ := X11.hget hexec hown (wk W (.fieldLink "java/lang/String" 9 "java/lang/String" "value" "[B")) (hx.mv X11.warmed.alike hh11).2.1 (g := (mkF m 37 #[.val (.ref x), .val (.ref y), .val (.ref y)] [.ref x])) rfl (rest := []) rfl (hb hbytes d37)
      have hh14 := q14.trans hh11
      have c15 : Steps p.tables e below (s₁.setTop (entryFrame m #[.ref x, .ref y] 3)) (T14.setTop (mkF m 41 #[.val (.ref x), .val (.ref y), .val (.ref y)] [.ref y, .ref t])) := (c13.trans (st14 _ (Steps.refl _))).trans (by
        refine XS.aloadN X14.here hexec rfl (hb hbytes d40) rfl rfl ?_
        exact Steps.refl _)
      obtain ⟨T16, X16, q16, st16⟩ := X14.hget hexec hown (wk W (.fieldLink "java/lang/String" 9 "java/lang/String" "value" "[B")) (hy.mv X14.warmed.alike hh14).2.1 (g := (mkF m 41 #[.val (.ref x), .val (.ref y), .val (.ref y)] [.ref y, .ref t])) rfl (rest := [.ref t]) rfl (hb hbytes d41)
      have hh16 := q16.trans hh14
      have c17 : Steps p.tables e below (s₁.setTop (entryFrame m #[.ref x, .ref y] 3)) (T16.setTop (mkF m 44 #[.val (.ref x), .val (.ref y), .val (.ref y)] [.ref t', .ref t])) := c15.trans (st16 _ (Steps.refl _))
      obtain ⟨v18, T18, X18, E18, g18⟩ := X16.callS hexec (LEq.law l t V t' V') hown (wks W (staticW "java/lang/String" 541 LEq.yN)) (wk W LEq.tab) (W := 0) (Nat.le_of_ble_eq_true rfl) (Nat.le_of_ble_eq_true rfl) (Nat.le_refl _) (Nat.le_refl _) (g := (mkF m 44 #[.val (.ref x), .val (.ref y), .val (.ref y)] [.ref t', .ref t])) rfl (by rw [hml]; rfl) c17 (argsL := [.ref t, .ref t']) (rest := []) rfl rfl (by show 2 * 0 + 0 ≤ _; decide) (hb hbytes d44) (⟨rfl, hx.2.2.2.1.mv X16.warmed.alike hh16, hx.2.2.2.2.1.ty, hy.2.2.2.1.mv X16.warmed.alike hh16, hy.2.2.2.2.1.ty⟩)
      obtain ⟨v, rfl, q18, hv⟩ := E18
      have iff := Cod.eqv hx.2.2.2.2.1 hy.2.2.2.2.1 hx.2.2.2.2.2 hy.2.2.2.2.2
      rcases hv with ⟨rfl, he⟩ | ⟨rfl, he⟩
      · have c19 : Steps p.tables e below (s₁.setTop (entryFrame m #[.ref x, .ref y] 3)) (T18.setTop (mkF m 55 #[.val (.ref x), .val (.ref y), .val (.ref y)] [.int 1])) := Steps.trans g18 (by
          refine XS.ifNo X18.here hexec rfl (hb hbytes d47) rfl (i0_eq_f (by decide)) ?_
          refine iconstV X18.here hexec rfl 1 (hb hbytes d50) (by decide) ?_
          refine XS.goto X18.here hexec rfl (pc0 := 51) rfl (hb hbytes d51) (by decide) rfl ?_
          exact Steps.refl _)
        exact ⟨T18, some (.int 1), _, _, _, X18, rfl, rfl, rfl, (fun h => by cases h), ⟨1, rfl, q18.trans hh16, Or.inl ⟨rfl, iff.mp he⟩⟩, fun fs hl => c19.trans (X18.ireturnOut hexec hret rfl (Or.inr (Or.inl rfl)) (hb hbytes d55) hl)⟩
      · have c19 : Steps p.tables e below (s₁.setTop (entryFrame m #[.ref x, .ref y] 3)) (T18.setTop (mkF m 55 #[.val (.ref x), .val (.ref y), .val (.ref y)] [.int 0])) := Steps.trans g18 (by
          refine XS.ifYes X18.here hexec rfl (pc0 := 47) rfl (hb hbytes d47) rfl (i0_eq_t rfl) (by decide) rfl ?_
          refine iconstV X18.here hexec rfl 0 (hb hbytes d54) (by decide) ?_
          exact Steps.refl _)
        exact ⟨T18, some (.int 0), _, _, _, X18, rfl, rfl, rfl, (fun h => by cases h), ⟨0, rfl, q18.trans hh16, Or.inr ⟨rfl, fun q => he (iff.mpr q)⟩⟩, fun fs hl => c19.trans (X18.ireturnOut hexec hret rfl (Or.inr (Or.inl rfl)) (hb hbytes d55) hl)⟩
    · have c13 : Steps p.tables e below (s₁.setTop (entryFrame m #[.ref x, .ref y] 3)) (T11.setTop (mkF m 55 #[.val (.ref x), .val (.ref y), .val (.ref y)] [.int 0])) := c12.trans (by
        refine XS.icmpYes X11.here hexec rfl (pc0 := 33) rfl (hb hbytes d33) rfl (ii_ne_t hcd) (by decide) rfl ?_
        refine iconstV X11.here hexec rfl 0 (hb hbytes d54) (by decide) ?_
        exact Steps.refl _)
      exact ⟨T11, some (.int 0), _, _, _, X11, rfl, rfl, rfl, (fun h => by cases h), ⟨0, rfl, hh11, Or.inr ⟨rfl, Cod.dif hx.2.2.2.2.1 hy.2.2.2.2.1 hcd⟩⟩, fun fs hl => c13.trans (X11.ireturnOut hexec hret rfl (Or.inr (Or.inl rfl)) (hb hbytes d55) hl)⟩
theorem pays {l : Launch} {R : Room} {p : Program} {e : Env} {below : List Frame} {s : State} {sargs : Array Value} {len W : Nat} (x t : Addr) (V : Cell) (cd : Int32) (n : Nat) (f : Nat → Int32) (y t' : Addr) (V' : Cell) (cd' : Int32) (k : Nat) (g : Nat → Int32) (z : Int32) (htab : tab.before sargs s = true) (hfr : 2 ≤ R.frames) (hlo : W + 28 ≤ R.locals) :
    Back l R p e below s sargs yN len W (fun A₁ a₁ => A₁.cells + 0 ≤ R.cells ∧ A₁.slots + 0 ≤ R.slots ∧ P x t V cd n f y t' V' cd' k g z a₁ A₁.U) (fun A₁ _ v₁ B₁ => Says01 (SameT n f k g) v₁ A₁.U B₁.U ∧ B₁.locs = A₁.locs ++ [] ∧ B₁.cells = A₁.cells + 0 ∧ B₁.slots = A₁.slots + 0) :=
  (law l x t V cd n f y t' V' cd' k g z).pays htab hfr (by omega)
end SEq
end StrChars
namespace StrChars.Road
open Jvm Sem ClassFile Op Lib Jvm.Stand Jvm.Free Jvm.Free.XT
open Jvm.Lib.Cold (StaticIs)
/-- the words of String.equals(Object) -/
abbrev wordsEq : List Jvm.Cond := [.code SEq.yN SEq.yB 3 (some .boolean), .initialized ST, .classLink ST 10 ST, .fieldLink ST 38 ST "COMPACT_STRINGS" "Z", .fieldLink ST 15 ST "coder" "B", .fieldLink ST 9 ST "value" "[B", .methodLink ST 541 LEq.yN, .static LEq.yN, .code LEq.yN LEq.yB 3 (some .boolean), .initialized "java/lang/StringLatin1"]
theorem tabEq_of {a : Array Value} {s : State} (h : ∀ w ∈ wordsEq, w.before a s = true) : SEq.tab.before a s = true := by
  have hl : LEq.tab.before a s = true := unparts (wk h (.code LEq.yN LEq.yB 3 (some .boolean))) (wks h (.initialized LEq.yN.cls :: LEq.site))
  have q := consq hl h
  exact unparts (wk q (.code SEq.yN SEq.yB 3 (some .boolean))) (wks q (.initialized SEq.yN.cls :: SEq.site))
theorem movedEq {Z s : State} {a0 args : Array Value} (hZ : Z.Warmed39 s.vm) (hw : ∀ d ∈ wordsEq, d.before a0 Z = true) : ∀ d ∈ wordsEq, d.before args s = true := fun d hd => by
  have t : ∀ d ∈ wordsEq, (d.onTables && d.keepsFace) = true := by decide +kernel
  exact RoadKit.mv hZ (hw d hd) (t d hd)
/-- the road's facts of a String, as the laws ask it -/
theorem txt_of {Z U : State} {a0 : Array Value} {kI : Nat} (wi : (Jvm.Cond.instantiable ST kI).before a0 Z = true) (al : Z.vm.Alike U.vm) {x t : Addr} {kb : ClassId} {cs : List Int32} {cd N2 : Int32} {vs : List Value} (E : RoadKit.Exa Z U.heap x ST) (V : RoadKit.Fld Z U.heap x ST "value" "[B" (.ref t)) (C : RoadKit.Fld Z U.heap x ST "coder" "B" (.int cd)) (K : RoadKit.Arv Z U.heap t kb .byte N2 vs (.int 0)) (hc : CodA cs cd N2 vs) (hb : ∀ c ∈ cs, ¬ c < 0 ∧ ¬ (65535 : Int32) < c) (l2 : cs.length ≤ 4000) :
    ∃ A, Txt x t A cd cs.length (fun j => cs.getD j 0) U := by
  obtain ⟨A, K1, K2, K3, K4, K5, K6⟩ := K
  have hcod := hc.cod (by omega) K3 K5
  obtain ⟨D, fV, fC, hB, F1, F2, g1, g2, -, -⟩ := strObj wi al E V C
  exact ⟨A, ⟨_, hB.2.2.1, D, hB.1, rfl, by cases q : D.vm <;> first | rfl | exact absurd q (hB.2.1.2 _)⟩, Has.of hB F1 g1, Has.of hB F2 g2, ⟨K1.1, State.isArrayOf_alike al K1.2.1, K1.2.2, by rcases hcod with ⟨-, q, -⟩ | ⟨-, q, -⟩ <;> omega⟩, hcod, fun j hj => by
    have e : cs.getD j 0 = cs[j] := by simp [List.getD_eq_getElem?_getD, hj]
    show ¬ cs.getD j 0 < 0 ∧ ¬ 65535 < cs.getD j 0
    rw [e]; exact hb _ (List.getElem_mem _)⟩
theorem same_list (cs ds : List Int32) : SameT cs.length (fun j => cs.getD j 0) ds.length (fun j => ds.getD j 0) ↔ cs = ds := by
  constructor
  · rintro ⟨e, q⟩
    refine List.ext_getElem e fun j h1 h2 => ?_
    have := q j h1
    simpa [List.getD_eq_getElem?_getD, h1, h2] using this
  · rintro rfl
    exact ⟨rfl, fun _ _ => rfl⟩
/-- **equals(Object) OF TWO SUCH STRINGS**: 1 just where the chars are the same -/
theorem eqW {p : Program} {l : Launch} {e : Env} {R : Room} {s : State} {args : Array Value} {below : List Frame} {len W : Nat} {Z : State} {a0 : Array Value} {h : Heap} (hZ : Z.Warmed39 s.vm) (hw : ∀ d ∈ wordsEq, d.before a0 Z = true) {kI : Nat} (wi : (Jvm.Cond.instantiable ST kI).before a0 Z = true)
    {x t : Addr} {kb : ClassId} {cs : List Int32} {cd N2 : Int32} {vs : List Value} (E : RoadKit.Exa Z h x ST) (V : RoadKit.Fld Z h x ST "value" "[B" (.ref t)) (C : RoadKit.Fld Z h x ST "coder" "B" (.int cd)) (K : RoadKit.Arv Z h t kb .byte N2 vs (.int 0)) (hc : CodA cs cd N2 vs) (hb : ∀ c ∈ cs, ¬ c < 0 ∧ ¬ (65535 : Int32) < c) (l2 : cs.length ≤ 4000)
    {y t' : Addr} {kb' : ClassId} {ds : List Int32} {cd' N2' : Int32} {vs' : List Value} (E' : RoadKit.Exa Z h y ST) (V' : RoadKit.Fld Z h y ST "value" "[B" (.ref t')) (C' : RoadKit.Fld Z h y ST "coder" "B" (.int cd')) (K' : RoadKit.Arv Z h t' kb' .byte N2' vs' (.int 0)) (hc' : CodA ds cd' N2' vs') (hb' : ∀ c ∈ ds, ¬ c < 0 ∧ ¬ (65535 : Int32) < c) (l2' : ds.length ≤ 4000)
    {z : Int32} (S : RoadKit.Sta Z h ST "COMPACT_STRINGS" "Z" (.int z)) (hz : ¬ z = 0) (hfr : 2 ≤ R.frames) (hlo : W + 28 ≤ R.locals) :
    Back l R p e below s args (⟨"java/lang/String", "equals", "(Ljava/lang/Object;)Z"⟩ : MethodName) len W (fun P a => a = #[.ref x, .ref y] ∧ P.U.heap = h ∧ P.cells + 0 ≤ R.cells ∧ P.slots + 0 ≤ R.slots)
      (fun P _ v B => ∃ L, (((v = some (.int 1) ∧ cs = ds) ∨ (v = some (.int 0) ∧ ¬ cs = ds)) ∧ L = [] ∧ B.U.heap = h) ∧ B.locs = P.locs ++ L ∧ B.cells = P.cells + 0 ∧ B.slots = P.slots + 0) := by
  intro m meth c P g ig mk a X hg hsize hdg hW hn hp'
  obtain ⟨rfl, rfl, r1, r2⟩ := hp'
  have al : Z.vm.Alike P.U.vm := hZ.alike.trans X.warmed.alike
  obtain ⟨A, hx⟩ := txt_of wi al E V C K hc hb l2
  obtain ⟨A', hy⟩ := txt_of wi al E' V' C' K' hc' hb' l2'
  obtain ⟨v, B, X', ⟨⟨w, hv, hh, hq⟩, hl, hk, hs⟩, st⟩ := SEq.pays x t A cd cs.length (fun j => cs.getD j 0) y t' A' cd' ds.length (fun j => ds.getD j 0) z (tabEq_of (movedEq hZ hw)) hfr hlo m meth c P g ig mk _ X hg hsize hdg hW hn ⟨r1, r2, rfl, hx, hy, sta_is al S, hz⟩
  refine ⟨v, B, X', ⟨[], ⟨?_, rfl, hh⟩, hl, hk, hs⟩, st⟩
  rcases hq with ⟨rfl, q⟩ | ⟨rfl, q⟩
  · exact Or.inl ⟨hv, (same_list cs ds).mp q⟩
  · exact Or.inr ⟨hv, fun e => q ((same_list cs ds).mpr e)⟩
end StrChars.Road
namespace StrChars
open Jvm Sem ClassFile Op Lib Jvm.Stand Jvm.Free.XT Jvm.Free.ALB Jvm.Free.JM Jvm.Free
open Jvm.Lib.Cold (StaticIs)
namespace ChN
def yN : MethodName := ⟨"java/lang/String", "charAt", "(I)C"⟩
abbrev yB : ByteArray := jdk_42_method_56_code
theorem d0 : decode yB 0 = .ok (.aload_n 0, 1) := by decide +kernel
theorem d1 : decode yB 1 = .ok (.invokevirtual 492, 3) := by decide +kernel
theorem d4 : decode yB 4 = .ok (.ifCond (.eq) 12, 3) := by decide +kernel
theorem d7 : decode yB 7 = .ok (.aload_n 0, 1) := by decide +kernel
theorem d8 : decode yB 8 = .ok (.getfield 9, 3) := by decide +kernel
theorem d11 : decode yB 11 = .ok (.iload_n 1, 1) := by decide +kernel
theorem d12 : decode yB 12 = .ok (.invokestatic 495, 3) := by decide +kernel
theorem d15 : decode yB 15 = .ok (.ireturn, 1) := by decide +kernel
def site : List Cond := [.fieldLink "java/lang/String" 9 "java/lang/String" "value" "[B", IsL.tab, LChA.tab] ++ virtW "java/lang/String" 492 "java/lang/String" IsL.yN IsL.yN ++ staticW "java/lang/String" 495 LChA.yN
def tab : Cond := tabOf yN yB 2 (some .char) site
def P (x t : Addr) (V : Cell) (n : Nat) (f : Nat → Int32) (z : Int32) (fm : Value) (i : Nat) (args : Array Value) (s : State) : Prop := args = #[.ref x, .int (Int32.ofNat i)] ∧ Txt x t V 0 n f s ∧ i < n ∧ StaticIs s "java/lang/String" "COMPACT_STRINGS" "Z" (.int z) ∧ ¬ z = 0 ∧ StaticIs s "jdk/internal/util/Preconditions" "SIOOBE_FORMATTER" "Ljava/util/function/BiFunction;" fm ∧ fm.isRef = true
def E (f : Nat → Int32) (i : Nat) (r : Option Value) (s u : State) : Prop := XT.PureE (some (.int (f i))) r s u
/-- charAt(i) of a Latin-1 String of n chars, i < n: f i -/
theorem law (l : Launch) (x t : Addr) (V : Cell) (n : Nat) (f : Nat → Int32) (z : Int32) (fm : Value) (i : Nat) : Law l yN 2 1 3 40 yB 2 (some .char) site (P x t V n f z fm i) (E f i) [] 0 0 := by
  refine Law.of_walk (plainFor_of_name (by decide +kernel)) (by decide +kernel) (by decide +kernel) (by decide) (fun _ _ h => by rw [h.1]; rfl) (fun _ U U' hal hh h => ⟨h.1, h.2.1.mv hal hh, h.2.2.1, h.2.2.2.1.there hal hh, h.2.2.2.2.1, h.2.2.2.2.2.1.there hal hh, h.2.2.2.2.2.2⟩) (fun r U U' V V' h1 hal h2 h => XT.PureE.mv r U U' V V' h1 hal h2 h) ?_
  intro p e s m args below meth c s₁ X0 hexec hbytes hml hret hlk hnm hown hh0 W hP
  obtain ⟨rfl, hx, hi, s1, hz, s3, rf⟩ := hP
  have v31 := hx.2.2.2.1.2.2.2
  have hr := hx.2.2.2.2.2 i hi
  have hx0 := hx.mv X0.warmed.alike hh0
  have c1 : Steps p.tables e below (s₁.setTop (entryFrame m #[.ref x, .int (Int32.ofNat i)] 2)) (s₁.setTop (mkF m 1 #[.val (.ref x), .val (.int (Int32.ofNat i))] [.ref x])) := Steps.trans (entry rfl) (by
    show Steps p.tables e below (s₁.setTop (mkF m 0 #[.val (.ref x), .val (.int (Int32.ofNat i))] [])) _
    refine XS.aloadN X0.here hexec rfl (hb hbytes d0) rfl rfl ?_
    exact Steps.refl _)
  obtain ⟨v2, T2, X2, E2, g2⟩ := X0.callV hexec (IsL.law l x 0 z) hown (wks W (virtW "java/lang/String" 492 "java/lang/String" IsL.yN IsL.yN)) rfl (by decide) (wk W IsL.tab) (W := 0) (Nat.le_of_ble_eq_true rfl) (Nat.le_of_ble_eq_true rfl) (Nat.le_refl _) (Nat.le_refl _) (hx0.1.fc X0.warmed.alike) hx0.1.is (g := (mkF m 1 #[.val (.ref x), .val (.int (Int32.ofNat i))] [.ref x])) rfl (by rw [hml]; rfl) c1 (argsL := []) (rest := []) rfl rfl (by show 2 * 0 + 0 ≤ _; decide) (hb hbytes d1) (⟨rfl, hx0.2.2.1, hx.2.2.2.2.1.cd, s1.there X0.warmed.alike hh0, hz⟩)
  obtain ⟨rfl, q2⟩ := E2
  have hh2 := q2.trans hh0
  have hx2 := hx.mv X2.warmed.alike hh2
  obtain ⟨-, k1, k2⟩ | ⟨k0, -⟩ := hx.2.2.2.2.1
  · have c3 : Steps p.tables e below (s₁.setTop (entryFrame m #[.ref x, .int (Int32.ofNat i)] 2)) (T2.setTop (mkF m 8 #[.val (.ref x), .val (.int (Int32.ofNat i))] [.ref x])) := Steps.trans g2 (by
      refine XS.ifNo X2.here hexec rfl (hb hbytes d4) rfl (i0_eq_f (by decide)) ?_
      refine XS.aloadN X2.here hexec rfl (hb hbytes d7) rfl rfl ?_
      exact Steps.refl _)
    obtain ⟨T4, X4, q4, st4⟩ := X2.hget hexec hown (wk W (.fieldLink "java/lang/String" 9 "java/lang/String" "value" "[B")) hx2.2.1 (g := (mkF m 8 #[.val (.ref x), .val (.int (Int32.ofNat i))] [.ref x])) rfl (rest := []) rfl (hb hbytes d8)
    have hh4 := q4.trans hh2
    have c5 : Steps p.tables e below (s₁.setTop (entryFrame m #[.ref x, .int (Int32.ofNat i)] 2)) (T4.setTop (mkF m 12 #[.val (.ref x), .val (.int (Int32.ofNat i))] [.int (Int32.ofNat i), .ref t])) := (c3.trans (st4 _ (Steps.refl _))).trans (by
      refine XS.iloadN X4.here hexec rfl (hb hbytes d11) rfl ?_
      exact Steps.refl _)
    obtain ⟨v6, T6, X6, E6, g6⟩ := X4.callS hexec (LChA.law l t V i (lo8 (f i)) fm) hown (wks W (staticW "java/lang/String" 495 LChA.yN)) (wk W LChA.tab) (W := 0) (Nat.le_of_ble_eq_true rfl) (Nat.le_of_ble_eq_true rfl) (Nat.le_refl _) (Nat.le_refl _) (g := (mkF m 12 #[.val (.ref x), .val (.int (Int32.ofNat i))] [.int (Int32.ofNat i), .ref t])) rfl (by rw [hml]; rfl) c5 (argsL := [.ref t, .int (Int32.ofNat i)]) (rest := []) rfl rfl (by show 2 * 0 + 0 ≤ _; decide) (hb hbytes d12) (⟨rfl, hx.2.2.2.1.mv X4.warmed.alike hh4, (k2 i hi).1, s3.there X4.warmed.alike hh4, rf⟩)
    obtain ⟨rfl, q6⟩ := E6
    rw [chr8_lo8 hr.1 (k2 i hi).2] at g6
    exact ⟨T6, some (.int (f i)), _, _, _, X6, rfl, rfl, rfl, (fun h => by cases h), ⟨rfl, q6.trans hh4⟩, fun fs hl => Steps.trans g6 (X6.ireturnOut hexec hret (narrow_ch hr.1 hr.2) (Or.inr (Or.inr (Or.inr (Or.inl rfl)))) (hb hbytes d15) hl)⟩
  · exact absurd k0 (by decide)
theorem pays {l : Launch} {R : Room} {p : Program} {e : Env} {below : List Frame} {s : State} {sargs : Array Value} {len W : Nat} (x t : Addr) (V : Cell) (n : Nat) (f : Nat → Int32) (z : Int32) (fm : Value) (i : Nat) (htab : tab.before sargs s = true) (hfr : 4 ≤ R.frames) (hlo : W + 53 ≤ R.locals) :
    Back l R p e below s sargs yN len W (fun A₁ a₁ => A₁.cells + 0 ≤ R.cells ∧ A₁.slots + 0 ≤ R.slots ∧ P x t V n f z fm i a₁ A₁.U) (fun A₁ _ v₁ B₁ => E f i v₁ A₁.U B₁.U ∧ B₁.locs = A₁.locs ++ [] ∧ B₁.cells = A₁.cells + 0 ∧ B₁.slots = A₁.slots + 0) :=
  (law l x t V n f z fm i).pays htab hfr (by omega)
end ChN
end StrChars
namespace StrChars.Road
open Jvm Sem ClassFile Op Lib Jvm.Stand Jvm.Free Jvm.Free.XT
open Jvm.Lib.Cold (StaticIs)
/-- the words of String.charAt(int), the Latin-1 road alone -/
abbrev wordsChN : List Jvm.Cond := [.code ChN.yN ChN.yB 2 (some .char), .initialized ST, .fieldLink ST 9 ST "value" "[B", .fieldLink ST 38 ST "COMPACT_STRINGS" "Z", .fieldLink ST 15 ST "coder" "B", .code IsL.yN IsL.yB 1 (some .boolean), .methodLink ST 492 IsL.yN, .declares IsL.yN, .selects ST IsL.yN IsL.yN, .instanceMethod IsL.yN,
  .methodLink ST 495 LChA.yN, .static LChA.yN, .code LChA.yN LChA.yB 2 (some .char), .initialized "java/lang/StringLatin1", .methodLink "java/lang/StringLatin1" 9 JO.Str_checkIndex.yN, .static JO.Str_checkIndex.yN, .code JO.Str_checkIndex.yN JO.Str_checkIndex.yB 2 none,
  .fieldLink ST 1053 "jdk/internal/util/Preconditions" "SIOOBE_FORMATTER" "Ljava/util/function/BiFunction;", .methodLink ST 1059 JC.PreCheck.yN, .static JC.PreCheck.yN, .code JC.PreCheck.yN JC.PreCheck.yB 3 (some .int), .initialized "jdk/internal/util/Preconditions"]
theorem tabChN_of {a : Array Value} {s : State} (h : ∀ w ∈ wordsChN, w.before a s = true) : ChN.tab.before a s = true := by
  have hp : JC.PreCheck.tab.before a s = true := unparts (wk h (.code JC.PreCheck.yN JC.PreCheck.yB 3 (some .int))) (wks h (.initialized JC.PreCheck.yN.cls :: JC.PreCheck.site))
  have qk := consq hp h
  have hk : JO.Str_checkIndex.tab.before a s = true := unparts (wk qk (.code JO.Str_checkIndex.yN JO.Str_checkIndex.yB 2 none)) (wks qk (.initialized JO.Str_checkIndex.yN.cls :: JO.Str_checkIndex.site))
  have ql := consq hk h
  have hl : LChA.tab.before a s = true := unparts (wk ql (.code LChA.yN LChA.yB 2 (some .char))) (wks ql (.initialized LChA.yN.cls :: LChA.site))
  have hi : IsL.tab.before a s = true := unparts (wk h (.code IsL.yN IsL.yB 1 (some .boolean))) (wks h (.initialized IsL.yN.cls :: IsL.site))
  have q := consq hi (consq hl h)
  exact unparts (wk q (.code ChN.yN ChN.yB 2 (some .char))) (wks q (.initialized ChN.yN.cls :: ChN.site))
theorem movedChN {Z s : State} {a0 args : Array Value} (hZ : Z.Warmed39 s.vm) (hw : ∀ d ∈ wordsChN, d.before a0 Z = true) : ∀ d ∈ wordsChN, d.before args s = true := fun d hd => by
  have t : ∀ d ∈ wordsChN, (d.onTables && d.keepsFace) = true := by decide +kernel
  exact RoadKit.mv hZ (hw d hd) (t d hd)
/-- **charAt(i) OF A LATIN-1 STRING**, i < n: the char -/
theorem chN {p : Program} {l : Launch} {e : Env} {R : Room} {s : State} {args : Array Value} {below : List Frame} {len W : Nat} {Z : State} {a0 : Array Value} {h : Heap} (hZ : Z.Warmed39 s.vm) (hw : ∀ d ∈ wordsChN, d.before a0 Z = true) {kI : Nat} (wi : (Jvm.Cond.instantiable ST kI).before a0 Z = true)
    {x t : Addr} {kb : ClassId} {cs : List Int32} {N2 z : Int32} {vs : List Value} {fm : Value} {i : Nat} {j : Int32} (E : RoadKit.Exa Z h x ST) (V : RoadKit.Fld Z h x ST "value" "[B" (.ref t)) (C : RoadKit.Fld Z h x ST "coder" "B" (.int 0)) (K : RoadKit.Arv Z h t kb .byte N2 vs (.int 0)) (hc : CodA cs 0 N2 vs) (hb : ∀ c ∈ cs, ¬ c < 0 ∧ ¬ (65535 : Int32) < c)
    (S : RoadKit.Sta Z h ST "COMPACT_STRINGS" "Z" (.int z)) (hz : ¬ z = 0) (F : RoadKit.Sta Z h "jdk/internal/util/Preconditions" "SIOOBE_FORMATTER" "Ljava/util/function/BiFunction;" fm) (rf : fm.isRef = true) (l2 : cs.length ≤ 4000) (hi : i < cs.length) (hj : j = Int32.ofNat i) (hfr : 4 ≤ R.frames) (hlo : W + 53 ≤ R.locals) :
    Back l R p e below s args (⟨"java/lang/String", "charAt", "(I)C"⟩ : MethodName) len W (fun P a => a = #[.ref x, .int j] ∧ P.U.heap = h ∧ P.cells + 0 ≤ R.cells ∧ P.slots + 0 ≤ R.slots)
      (fun P _ v B => ∃ L, (v = some (.int (cs.getD i 0)) ∧ L = [] ∧ B.U.heap = h) ∧ B.locs = P.locs ++ L ∧ B.cells = P.cells + 0 ∧ B.slots = P.slots + 0) := by
  subst hj
  intro m meth c P g ig mk a X hg hsize hdg hW hn hp'
  obtain ⟨rfl, rfl, r1, r2⟩ := hp'
  have al : Z.vm.Alike P.U.vm := hZ.alike.trans X.warmed.alike
  obtain ⟨A, hx⟩ := txt_of wi al E V C K hc hb l2
  obtain ⟨v, B, X', ⟨⟨hv, hh⟩, hl, hk, hs⟩, st⟩ := ChN.pays x t A cs.length (fun j => cs.getD j 0) z fm i (tabChN_of (movedChN hZ hw)) hfr hlo m meth c P g ig mk _ X hg hsize hdg hW hn ⟨r1, r2, rfl, hx, hi, sta_is al S, hz, sta_is al F, rf⟩
  exact ⟨v, B, X', ⟨[], ⟨hv, rfl, hh⟩, hl, hk, hs⟩, st⟩
/-- what backV says of its String, as the contracts of this text ask it: cs's low bytes, coder 0 -/
theorem codOf {cs : List Int32} {n : Nat} (hn : cs.length = n) (hb : ∀ c ∈ cs, ¬ 255 < c) : CodA cs 0 (Int32.ofNat n) ((cs.map lo8).map Value.int) := Or.inl ⟨rfl, by rw [hn], by simp [List.map_map, Function.comp_def], hb⟩
end StrChars.Road
end Jvm.Pilot.@@N@@
namespace Jvm.Pilot.@@N@@
open Jvm Jvm.ClassFile Sem Op Lib Jvm.Free Jvm.Stand Jvm.LawKit Jvm.RoadKit Bundle Jvm.Own Jvm.Pilot.@@N@@.Jvm.D
abbrev ST0 : String := "java/lang/String"
/-- at x lies a String of the chars cs, each 0 to 255; its bytes lie at t -/
def Str8 (Z : State) (h : Heap) (x t : Addr) (cs : List Int32) : Prop := Exa Z h x "java/lang/String" ∧ Fld Z h x "java/lang/String" "coder" "B" (.int 0) ∧ Fld Z h x "java/lang/String" "value" "[B" (.ref t) ∧
  (∃ kb, Arv Z h t kb .byte (Int32.ofNat cs.length) ((cs.map fun c => c.toInt8.toInt32).map Value.int) (.int 0)) ∧ (∀ c ∈ cs, ¬ c < 0 ∧ ¬ (255 : Int32) < c) ∧ cs.length ≤ 4000
theorem Str8.keep {Z : State} {h h' : Heap} {x t : Addr} {cs : List Int32} {ws : List Addr} (F : Str8 Z h x t cs) (K : Keep h h' ws) (q : x ∉ ws) (r : t ∉ ws) : Str8 Z h' x t cs := by
  obtain ⟨a, b, c, ⟨kb, d⟩, e⟩ := F
  exact ⟨a.keep K, b.keep K q, c.keep K q, ⟨kb, d.keep K r⟩, e⟩
theorem Str8.lt {Z : State} {h : Heap} {x t : Addr} {cs : List Int32} (F : Str8 Z h x t cs) : x < h.size := F.1.lt
theorem Str8.lt2 {Z : State} {h : Heap} {x t : Addr} {cs : List Int32} (F : Str8 Z h x t cs) : t < h.size := by obtain ⟨-, -, -, ⟨kb, d⟩, -⟩ := F; exact d.lt
theorem up16 (cs : List Int32) (h : ∀ c ∈ cs, ¬ c < 0 ∧ ¬ (255 : Int32) < c) : ∀ c ∈ cs, ¬ c < 0 ∧ ¬ (65535 : Int32) < c := fun c hc => ⟨(h c hc).1, fun q => (h c hc).2 (by rw [Int32.lt_iff_toInt_lt] at q ⊢; have e1 : (65535 : Int32).toInt = 65535 := rfl; have e2 : (255 : Int32).toInt = 255 := rfl; omega)⟩
theorem and255 (x : Int32) : ¬ (x &&& 255) < 0 ∧ ¬ (255 : Int32) < (x &&& 255) := by
  have h := c_and x 255 (by decide)
  have e2 : (255 : Int32).toInt = 255 := rfl
  have e0 : (0 : Int32).toInt = 0 := rfl
  rw [Int32.lt_iff_toInt_lt, Int32.lt_iff_toInt_lt, e0, e2]
  rw [e2] at h
  omega
theorem nar255 (x : Int32) : nar .char (x &&& 255) = x &&& 255 := i2c_mask x
theorem fa0 {P : Int32 → Prop} : ∀ c ∈ ([] : List Int32), P c := fun _ q => nomatch q
theorem faS {P : Int32 → Prop} {a : Int32} {L : List Int32} (q : P a) (r : ∀ c ∈ L, P c) : ∀ c ∈ a :: L, P c := fun x z => (List.mem_cons.mp z).elim (fun u => u ▸ q) (r x)
def RX (Z : State) (va D H U wD wH wU tD tH tU OE : Addr) (k : ClassId) : Prop := Sta Z Z.heap "com/example/vestledger/vestledger/number/Rounding" "$VALUES" "[Lcom/example/vestledger/vestledger/number/Rounding;" (.ref va) ∧ Arv Z Z.heap va k (.object "com/example/vestledger/vestledger/number/Rounding") (3 : Int32) [.ref D, .ref H, .ref U] .null ∧ Exa Z Z.heap va "[Lcom/example/vestledger/vestledger/number/Rounding;" ∧ (Sta Z Z.heap "com/example/vestledger/vestledger/number/Rounding" "DOWN" "Lcom/example/vestledger/vestledger/number/Rounding;" (.ref D) ∧ Exa Z Z.heap D "com/example/vestledger/vestledger/number/Rounding" ∧ Fld Z Z.heap D "com/example/vestledger/vestledger/number/Rounding" "word" "Ljava/lang/String;" (.ref wD) ∧ Str8 Z Z.heap wD tD [(100 : Int32), (111 : Int32), (119 : Int32), (110 : Int32)]) ∧ (Sta Z Z.heap "com/example/vestledger/vestledger/number/Rounding" "HALF_UP" "Lcom/example/vestledger/vestledger/number/Rounding;" (.ref H) ∧ Exa Z Z.heap H "com/example/vestledger/vestledger/number/Rounding" ∧ Fld Z Z.heap H "com/example/vestledger/vestledger/number/Rounding" "word" "Ljava/lang/String;" (.ref wH) ∧ Str8 Z Z.heap wH tH [(104 : Int32), (97 : Int32), (108 : Int32), (102 : Int32), (45 : Int32), (117 : Int32), (112 : Int32)]) ∧ (Sta Z Z.heap "com/example/vestledger/vestledger/number/Rounding" "UP" "Lcom/example/vestledger/vestledger/number/Rounding;" (.ref U) ∧ Exa Z Z.heap U "com/example/vestledger/vestledger/number/Rounding" ∧ Fld Z Z.heap U "com/example/vestledger/vestledger/number/Rounding" "word" "Ljava/lang/String;" (.ref wU) ∧ Str8 Z Z.heap wU tU [(117 : Int32), (112 : Int32)]) ∧ (Sta Z Z.heap "java/util/Optional" "EMPTY" "Ljava/util/Optional;" (.ref OE) ∧ Exa Z Z.heap OE "java/util/Optional" ∧ Fld Z Z.heap OE "java/util/Optional" "value" "Ljava/lang/Object;" .null)
/-- what the two statics of the JDK's set hold -/
def Cst (Z : State) : Prop := (∃ z : Int32, Sta Z Z.heap "java/lang/String" "COMPACT_STRINGS" "Z" (.int z) ∧ ¬ z = 0) ∧ ∃ f : Value, Sta Z Z.heap "jdk/internal/util/Preconditions" "SIOOBE_FORMATTER" "Ljava/util/function/BiFunction;" f ∧ f.isRef = true
def XS0 (Z : State) : Prop := ∃ va D H U wD wH wU tD tH tU OE k, RX Z va D H U wD wH wU tD tH tU OE k
def HW (Z : State) (a0 : Array Value) : Prop := (∀ d ∈ tables_1, d.before a0 Z = true) ∧ Cst Z ∧ XS0 Z
theorem ow_0 {Z : State} {a0 : Array Value} (hw : HW Z a0) : (Jvm.Cond.stringLink "com/example/vestledger/vestledger/number/RoundingNamedPinLaw" (9 : Nat) "half-up").before a0 Z = true := hw.1 _ (List.mem_of_getElem? (i := 0) rfl)
theorem ow_1 {Z : State} {a0 : Array Value} (hw : HW Z a0) : (Jvm.Cond.initialized "java/lang/String").before a0 Z = true := hw.1 _ (List.mem_of_getElem? (i := 1) rfl)
theorem ow_2 {Z : State} {a0 : Array Value} (hw : HW Z a0) : (Jvm.Cond.instantiable "java/lang/String" (4 : Nat)).before a0 Z = true := hw.1 _ (List.mem_of_getElem? (i := 2) rfl)
theorem ow_3 {Z : State} {a0 : Array Value} (hw : HW Z a0) : (Jvm.Cond.arrayClass Jvm.ClassFile.FieldType.byte).before a0 Z = true := hw.1 _ (List.mem_of_getElem? (i := 3) rfl)
theorem ow_4 {Z : State} {a0 : Array Value} (hw : HW Z a0) : (Jvm.Cond.laysFinal "java/lang/String" "java/lang/String" "value" "[B").before a0 Z = true := hw.1 _ (List.mem_of_getElem? (i := 4) rfl)
theorem ow_5 {Z : State} {a0 : Array Value} (hw : HW Z a0) : (Jvm.Cond.laysFinal "java/lang/String" "java/lang/String" "coder" "B").before a0 Z = true := hw.1 _ (List.mem_of_getElem? (i := 5) rfl)
theorem ow_8 {Z : State} {a0 : Array Value} (hw : HW Z a0) : (Jvm.Cond.arrayClass Jvm.ClassFile.FieldType.char).before a0 Z = true := hw.1 _ (List.mem_of_getElem? (i := 8) rfl)
theorem ow_9 {Z : State} {a0 : Array Value} (hw : HW Z a0) : (Jvm.Cond.methodLink "com/example/vestledger/vestledger/number/RoundingNamedPinLaw" (13 : Nat) ({ cls := "com/example/vestledger/vestledger/number/RoundingNamedPinLaw", name := "pick", desc := "(ILjava/lang/String;IIJ)C" } : Jvm.MethodName)).before a0 Z = true := hw.1 _ (List.mem_of_getElem? (i := 9) rfl)
theorem ow_10 {Z : State} {a0 : Array Value} (hw : HW Z a0) : (Jvm.Cond.static ({ cls := "com/example/vestledger/vestledger/number/RoundingNamedPinLaw", name := "pick", desc := "(ILjava/lang/String;IIJ)C" } : Jvm.MethodName)).before a0 Z = true := hw.1 _ (List.mem_of_getElem? (i := 10) rfl)
theorem ow_11 {Z : State} {a0 : Array Value} (hw : HW Z a0) : (Jvm.Cond.initialized "com/example/vestledger/vestledger/number/RoundingNamedPinLaw").before a0 Z = true := hw.1 _ (List.mem_of_getElem? (i := 11) rfl)
theorem ow_12 {Z : State} {a0 : Array Value} (hw : HW Z a0) : (Jvm.Cond.code ({ cls := "com/example/vestledger/vestledger/number/RoundingNamedPinLaw", name := "pick", desc := "(ILjava/lang/String;IIJ)C" } : Jvm.MethodName) method_3_code (7 : Nat) (Option.some Jvm.ClassFile.FieldType.char)).before a0 Z = true := hw.1 _ (List.mem_of_getElem? (i := 12) rfl)
theorem ow_13 {Z : State} {a0 : Array Value} (hw : HW Z a0) : (Jvm.Cond.constantLong "com/example/vestledger/vestledger/number/RoundingNamedPinLaw" (55 : Nat) (255 : Int64)).before a0 Z = true := hw.1 _ (List.mem_of_getElem? (i := 13) rfl)
theorem ow_14 {Z : State} {a0 : Array Value} (hw : HW Z a0) : (Jvm.Cond.methodLink "com/example/vestledger/vestledger/number/RoundingNamedPinLaw" (19 : Nat) ({ cls := "java/lang/String", name := "length", desc := "()I" } : Jvm.MethodName)).before a0 Z = true := hw.1 _ (List.mem_of_getElem? (i := 14) rfl)
theorem ow_15 {Z : State} {a0 : Array Value} (hw : HW Z a0) : (Jvm.Cond.declares ({ cls := "java/lang/String", name := "length", desc := "()I" } : Jvm.MethodName)).before a0 Z = true := hw.1 _ (List.mem_of_getElem? (i := 15) rfl)
theorem ow_16 {Z : State} {a0 : Array Value} (hw : HW Z a0) : (Jvm.Cond.instanceMethod ({ cls := "java/lang/String", name := "length", desc := "()I" } : Jvm.MethodName)).before a0 Z = true := hw.1 _ (List.mem_of_getElem? (i := 16) rfl)
theorem ow_17 {Z : State} {a0 : Array Value} (hw : HW Z a0) : (Jvm.Cond.selects "java/lang/String" ({ cls := "java/lang/String", name := "length", desc := "()I" } : Jvm.MethodName) ({ cls := "java/lang/String", name := "length", desc := "()I" } : Jvm.MethodName)).before a0 Z = true := hw.1 _ (List.mem_of_getElem? (i := 17) rfl)
theorem ow_19 {Z : State} {a0 : Array Value} (hw : HW Z a0) : (Jvm.Cond.fieldLink "java/lang/String" (9 : Nat) "java/lang/String" "value" "[B").before a0 Z = true := hw.1 _ (List.mem_of_getElem? (i := 19) rfl)
theorem ow_26 {Z : State} {a0 : Array Value} (hw : HW Z a0) : (Jvm.Cond.fieldLink "java/lang/String" (15 : Nat) "java/lang/String" "coder" "B").before a0 Z = true := hw.1 _ (List.mem_of_getElem? (i := 26) rfl)
theorem ow_27 {Z : State} {a0 : Array Value} (hw : HW Z a0) : (Jvm.Cond.methodLink "com/example/vestledger/vestledger/number/RoundingNamedPinLaw" (57 : Nat) ({ cls := "java/lang/String", name := "charAt", desc := "(I)C" } : Jvm.MethodName)).before a0 Z = true := hw.1 _ (List.mem_of_getElem? (i := 27) rfl)
theorem ow_28 {Z : State} {a0 : Array Value} (hw : HW Z a0) : (Jvm.Cond.declares ({ cls := "java/lang/String", name := "charAt", desc := "(I)C" } : Jvm.MethodName)).before a0 Z = true := hw.1 _ (List.mem_of_getElem? (i := 28) rfl)
theorem ow_29 {Z : State} {a0 : Array Value} (hw : HW Z a0) : (Jvm.Cond.instanceMethod ({ cls := "java/lang/String", name := "charAt", desc := "(I)C" } : Jvm.MethodName)).before a0 Z = true := hw.1 _ (List.mem_of_getElem? (i := 29) rfl)
theorem ow_30 {Z : State} {a0 : Array Value} (hw : HW Z a0) : (Jvm.Cond.selects "java/lang/String" ({ cls := "java/lang/String", name := "charAt", desc := "(I)C" } : Jvm.MethodName) ({ cls := "java/lang/String", name := "charAt", desc := "(I)C" } : Jvm.MethodName)).before a0 Z = true := hw.1 _ (List.mem_of_getElem? (i := 30) rfl)
theorem ow_49 {Z : State} {a0 : Array Value} (hw : HW Z a0) : (Jvm.Cond.methodLink "com/example/vestledger/vestledger/number/RoundingNamedPinLaw" (25 : Nat) ({ cls := "com/example/vestledger/vestledger/number/RoundingNamedPinLaw", name := "str", desc := "([CI)Ljava/lang/String;" } : Jvm.MethodName)).before a0 Z = true := hw.1 _ (List.mem_of_getElem? (i := 49) rfl)
theorem ow_50 {Z : State} {a0 : Array Value} (hw : HW Z a0) : (Jvm.Cond.static ({ cls := "com/example/vestledger/vestledger/number/RoundingNamedPinLaw", name := "str", desc := "([CI)Ljava/lang/String;" } : Jvm.MethodName)).before a0 Z = true := hw.1 _ (List.mem_of_getElem? (i := 50) rfl)
theorem ow_51 {Z : State} {a0 : Array Value} (hw : HW Z a0) : (Jvm.Cond.code ({ cls := "com/example/vestledger/vestledger/number/RoundingNamedPinLaw", name := "str", desc := "([CI)Ljava/lang/String;" } : Jvm.MethodName) method_4_code (2 : Nat) (Option.some (Jvm.ClassFile.FieldType.object "java/lang/String"))).before a0 Z = true := hw.1 _ (List.mem_of_getElem? (i := 51) rfl)
theorem ow_52 {Z : State} {a0 : Array Value} (hw : HW Z a0) : (Jvm.Cond.classLink "com/example/vestledger/vestledger/number/RoundingNamedPinLaw" (20 : Nat) "java/lang/String").before a0 Z = true := hw.1 _ (List.mem_of_getElem? (i := 52) rfl)
theorem ow_53 {Z : State} {a0 : Array Value} (hw : HW Z a0) : (Jvm.Cond.methodLink "com/example/vestledger/vestledger/number/RoundingNamedPinLaw" (61 : Nat) ({ cls := "java/lang/String", name := "<init>", desc := "([C)V" } : Jvm.MethodName)).before a0 Z = true := hw.1 _ (List.mem_of_getElem? (i := 53) rfl)
theorem ow_54 {Z : State} {a0 : Array Value} (hw : HW Z a0) : (Jvm.Cond.instanceMethod ({ cls := "java/lang/String", name := "<init>", desc := "([C)V" } : Jvm.MethodName)).before a0 Z = true := hw.1 _ (List.mem_of_getElem? (i := 54) rfl)
theorem ow_55 {Z : State} {a0 : Array Value} (hw : HW Z a0) : (Jvm.Cond.code ({ cls := "java/lang/String", name := "<init>", desc := "([C)V" } : Jvm.MethodName) jdk_42_method_3_code (2 : Nat) (Option.none : Option Jvm.ClassFile.FieldType)).before a0 Z = true := hw.1 _ (List.mem_of_getElem? (i := 55) rfl)
theorem ow_56 {Z : State} {a0 : Array Value} (hw : HW Z a0) : (Jvm.Cond.methodLink "java/lang/String" (27 : Nat) ({ cls := "java/lang/String", name := "<init>", desc := "([CIILjava/lang/Void;)V" } : Jvm.MethodName)).before a0 Z = true := hw.1 _ (List.mem_of_getElem? (i := 56) rfl)
theorem ow_57 {Z : State} {a0 : Array Value} (hw : HW Z a0) : (Jvm.Cond.instanceMethod ({ cls := "java/lang/String", name := "<init>", desc := "([CIILjava/lang/Void;)V" } : Jvm.MethodName)).before a0 Z = true := hw.1 _ (List.mem_of_getElem? (i := 57) rfl)
theorem ow_59 {Z : State} {a0 : Array Value} (hw : HW Z a0) : (Jvm.Cond.code ({ cls := "java/lang/String", name := "<init>", desc := "([CIILjava/lang/Void;)V" } : Jvm.MethodName) jdk_42_method_149_code (6 : Nat) (Option.none : Option Jvm.ClassFile.FieldType)).before a0 Z = true := hw.1 _ (List.mem_of_getElem? (i := 59) rfl)
theorem ow_60 {Z : State} {a0 : Array Value} (hw : HW Z a0) : (Jvm.Cond.methodLink "java/lang/String" (1 : Nat) ({ cls := "java/lang/Object", name := "<init>", desc := "()V" } : Jvm.MethodName)).before a0 Z = true := hw.1 _ (List.mem_of_getElem? (i := 60) rfl)
theorem ow_61 {Z : State} {a0 : Array Value} (hw : HW Z a0) : (Jvm.Cond.instanceMethod ({ cls := "java/lang/Object", name := "<init>", desc := "()V" } : Jvm.MethodName)).before a0 Z = true := hw.1 _ (List.mem_of_getElem? (i := 61) rfl)
theorem ow_62 {Z : State} {a0 : Array Value} (hw : HW Z a0) : (Jvm.Cond.code ({ cls := "java/lang/Object", name := "<init>", desc := "()V" } : Jvm.MethodName) object_method_1_code (1 : Nat) (Option.none : Option Jvm.ClassFile.FieldType)).before a0 Z = true := hw.1 _ (List.mem_of_getElem? (i := 62) rfl)
theorem ow_73 {Z : State} {a0 : Array Value} (hw : HW Z a0) : (Jvm.Cond.methodLink "com/example/vestledger/vestledger/number/RoundingNamedPinLaw" (29 : Nat) ({ cls := "com/example/vestledger/vestledger/number/Rounding", name := "named", desc := "(Ljava/lang/String;)Ljava/util/Optional;" } : Jvm.MethodName)).before a0 Z = true := hw.1 _ (List.mem_of_getElem? (i := 73) rfl)
theorem ow_74 {Z : State} {a0 : Array Value} (hw : HW Z a0) : (Jvm.Cond.static ({ cls := "com/example/vestledger/vestledger/number/Rounding", name := "named", desc := "(Ljava/lang/String;)Ljava/util/Optional;" } : Jvm.MethodName)).before a0 Z = true := hw.1 _ (List.mem_of_getElem? (i := 74) rfl)
theorem ow_75 {Z : State} {a0 : Array Value} (hw : HW Z a0) : (Jvm.Cond.initialized "com/example/vestledger/vestledger/number/Rounding").before a0 Z = true := hw.1 _ (List.mem_of_getElem? (i := 75) rfl)
theorem ow_76 {Z : State} {a0 : Array Value} (hw : HW Z a0) : (Jvm.Cond.code ({ cls := "com/example/vestledger/vestledger/number/Rounding", name := "named", desc := "(Ljava/lang/String;)Ljava/util/Optional;" } : Jvm.MethodName) prog_10_method_4_code (5 : Nat) (Option.some (Jvm.ClassFile.FieldType.object "java/util/Optional"))).before a0 Z = true := hw.1 _ (List.mem_of_getElem? (i := 76) rfl)
theorem ow_77 {Z : State} {a0 : Array Value} (hw : HW Z a0) : (Jvm.Cond.methodLink "com/example/vestledger/vestledger/number/Rounding" (36 : Nat) ({ cls := "com/example/vestledger/vestledger/number/Rounding", name := "values", desc := "()[Lcom/example/vestledger/vestledger/number/Rounding;" } : Jvm.MethodName)).before a0 Z = true := hw.1 _ (List.mem_of_getElem? (i := 77) rfl)
theorem ow_78 {Z : State} {a0 : Array Value} (hw : HW Z a0) : (Jvm.Cond.static ({ cls := "com/example/vestledger/vestledger/number/Rounding", name := "values", desc := "()[Lcom/example/vestledger/vestledger/number/Rounding;" } : Jvm.MethodName)).before a0 Z = true := hw.1 _ (List.mem_of_getElem? (i := 78) rfl)
theorem ow_79 {Z : State} {a0 : Array Value} (hw : HW Z a0) : (Jvm.Cond.code ({ cls := "com/example/vestledger/vestledger/number/Rounding", name := "values", desc := "()[Lcom/example/vestledger/vestledger/number/Rounding;" } : Jvm.MethodName) prog_10_method_1_code (0 : Nat) (Option.some (Jvm.ClassFile.FieldType.array (Jvm.ClassFile.FieldType.object "com/example/vestledger/vestledger/number/Rounding")))).before a0 Z = true := hw.1 _ (List.mem_of_getElem? (i := 79) rfl)
theorem ow_80 {Z : State} {a0 : Array Value} (hw : HW Z a0) : (Jvm.Cond.fieldLink "com/example/vestledger/vestledger/number/Rounding" (13 : Nat) "com/example/vestledger/vestledger/number/Rounding" "$VALUES" "[Lcom/example/vestledger/vestledger/number/Rounding;").before a0 Z = true := hw.1 _ (List.mem_of_getElem? (i := 80) rfl)
theorem ow_82 {Z : State} {a0 : Array Value} (hw : HW Z a0) : (Jvm.Cond.methodLink "com/example/vestledger/vestledger/number/Rounding" (17 : Nat) ({ cls := "[Lcom/example/vestledger/vestledger/number/Rounding;", name := "clone", desc := "()Ljava/lang/Object;" } : Jvm.MethodName)).before a0 Z = true := hw.1 _ (List.mem_of_getElem? (i := 82) rfl)
theorem ow_83 {Z : State} {a0 : Array Value} (hw : HW Z a0) : (Jvm.Cond.sameMethod "[Lcom/example/vestledger/vestledger/number/Rounding;" "java/lang/Object" "clone" "()Ljava/lang/Object;").before a0 Z = true := hw.1 _ (List.mem_of_getElem? (i := 83) rfl)
theorem ow_85 {Z : State} {a0 : Array Value} (hw : HW Z a0) : (Jvm.Cond.instanceMethod ({ cls := "java/lang/Object", name := "clone", desc := "()Ljava/lang/Object;" } : Jvm.MethodName)).before a0 Z = true := hw.1 _ (List.mem_of_getElem? (i := 85) rfl)
theorem ow_86 {Z : State} {a0 : Array Value} (hw : HW Z a0) : (Jvm.Cond.selects "[Lcom/example/vestledger/vestledger/number/Rounding;" ({ cls := "[Lcom/example/vestledger/vestledger/number/Rounding;", name := "clone", desc := "()Ljava/lang/Object;" } : Jvm.MethodName) ({ cls := "java/lang/Object", name := "clone", desc := "()Ljava/lang/Object;" } : Jvm.MethodName)).before a0 Z = true := hw.1 _ (List.mem_of_getElem? (i := 86) rfl)
theorem ow_87 {Z : State} {a0 : Array Value} (hw : HW Z a0) : (Jvm.Cond.native ({ cls := "java/lang/Object", name := "clone", desc := "()Ljava/lang/Object;" } : Jvm.MethodName)).before a0 Z = true := hw.1 _ (List.mem_of_getElem? (i := 87) rfl)
theorem ow_88 {Z : State} {a0 : Array Value} (hw : HW Z a0) : (Jvm.Cond.castable "[Lcom/example/vestledger/vestledger/number/Rounding;" "java/lang/Cloneable").before a0 Z = true := hw.1 _ (List.mem_of_getElem? (i := 88) rfl)
theorem ow_93 {Z : State} {a0 : Array Value} (hw : HW Z a0) : (Jvm.Cond.classLink "com/example/vestledger/vestledger/number/Rounding" (18 : Nat) "[Lcom/example/vestledger/vestledger/number/Rounding;").before a0 Z = true := hw.1 _ (List.mem_of_getElem? (i := 93) rfl)
theorem ow_95 {Z : State} {a0 : Array Value} (hw : HW Z a0) : (Jvm.Cond.fieldLink "com/example/vestledger/vestledger/number/Rounding" (32 : Nat) "com/example/vestledger/vestledger/number/Rounding" "word" "Ljava/lang/String;").before a0 Z = true := hw.1 _ (List.mem_of_getElem? (i := 95) rfl)
theorem ow_97 {Z : State} {a0 : Array Value} (hw : HW Z a0) : (Jvm.Cond.methodLink "com/example/vestledger/vestledger/number/Rounding" (40 : Nat) ({ cls := "java/lang/String", name := "equals", desc := "(Ljava/lang/Object;)Z" } : Jvm.MethodName)).before a0 Z = true := hw.1 _ (List.mem_of_getElem? (i := 97) rfl)
theorem ow_98 {Z : State} {a0 : Array Value} (hw : HW Z a0) : (Jvm.Cond.declares ({ cls := "java/lang/String", name := "equals", desc := "(Ljava/lang/Object;)Z" } : Jvm.MethodName)).before a0 Z = true := hw.1 _ (List.mem_of_getElem? (i := 98) rfl)
theorem ow_99 {Z : State} {a0 : Array Value} (hw : HW Z a0) : (Jvm.Cond.instanceMethod ({ cls := "java/lang/String", name := "equals", desc := "(Ljava/lang/Object;)Z" } : Jvm.MethodName)).before a0 Z = true := hw.1 _ (List.mem_of_getElem? (i := 99) rfl)
theorem ow_100 {Z : State} {a0 : Array Value} (hw : HW Z a0) : (Jvm.Cond.selects "java/lang/String" ({ cls := "java/lang/String", name := "equals", desc := "(Ljava/lang/Object;)Z" } : Jvm.MethodName) ({ cls := "java/lang/String", name := "equals", desc := "(Ljava/lang/Object;)Z" } : Jvm.MethodName)).before a0 Z = true := hw.1 _ (List.mem_of_getElem? (i := 100) rfl)
theorem ow_106 {Z : State} {a0 : Array Value} (hw : HW Z a0) : (Jvm.Cond.methodLink "com/example/vestledger/vestledger/number/Rounding" (52 : Nat) ({ cls := "java/util/Optional", name := "empty", desc := "()Ljava/util/Optional;" } : Jvm.MethodName)).before a0 Z = true := hw.1 _ (List.mem_of_getElem? (i := 106) rfl)
theorem ow_107 {Z : State} {a0 : Array Value} (hw : HW Z a0) : (Jvm.Cond.static ({ cls := "java/util/Optional", name := "empty", desc := "()Ljava/util/Optional;" } : Jvm.MethodName)).before a0 Z = true := hw.1 _ (List.mem_of_getElem? (i := 107) rfl)
theorem ow_108 {Z : State} {a0 : Array Value} (hw : HW Z a0) : (Jvm.Cond.initialized "java/util/Optional").before a0 Z = true := hw.1 _ (List.mem_of_getElem? (i := 108) rfl)
theorem ow_109 {Z : State} {a0 : Array Value} (hw : HW Z a0) : (Jvm.Cond.code ({ cls := "java/util/Optional", name := "empty", desc := "()Ljava/util/Optional;" } : Jvm.MethodName) jdk_32_method_1_code (1 : Nat) (Option.some (Jvm.ClassFile.FieldType.object "java/util/Optional"))).before a0 Z = true := hw.1 _ (List.mem_of_getElem? (i := 109) rfl)
theorem ow_110 {Z : State} {a0 : Array Value} (hw : HW Z a0) : (Jvm.Cond.fieldLink "java/util/Optional" (1 : Nat) "java/util/Optional" "EMPTY" "Ljava/util/Optional;").before a0 Z = true := hw.1 _ (List.mem_of_getElem? (i := 110) rfl)
theorem ow_111 {Z : State} {a0 : Array Value} (hw : HW Z a0) : (Jvm.Cond.methodLink "com/example/vestledger/vestledger/number/RoundingNamedPinLaw" (35 : Nat) ({ cls := "java/util/Optional", name := "isPresent", desc := "()Z" } : Jvm.MethodName)).before a0 Z = true := hw.1 _ (List.mem_of_getElem? (i := 111) rfl)
theorem ow_112 {Z : State} {a0 : Array Value} (hw : HW Z a0) : (Jvm.Cond.declares ({ cls := "java/util/Optional", name := "isPresent", desc := "()Z" } : Jvm.MethodName)).before a0 Z = true := hw.1 _ (List.mem_of_getElem? (i := 112) rfl)
theorem ow_113 {Z : State} {a0 : Array Value} (hw : HW Z a0) : (Jvm.Cond.instanceMethod ({ cls := "java/util/Optional", name := "isPresent", desc := "()Z" } : Jvm.MethodName)).before a0 Z = true := hw.1 _ (List.mem_of_getElem? (i := 113) rfl)
theorem ow_114 {Z : State} {a0 : Array Value} (hw : HW Z a0) : (Jvm.Cond.selects "java/util/Optional" ({ cls := "java/util/Optional", name := "isPresent", desc := "()Z" } : Jvm.MethodName) ({ cls := "java/util/Optional", name := "isPresent", desc := "()Z" } : Jvm.MethodName)).before a0 Z = true := hw.1 _ (List.mem_of_getElem? (i := 114) rfl)
theorem ow_115 {Z : State} {a0 : Array Value} (hw : HW Z a0) : (Jvm.Cond.code ({ cls := "java/util/Optional", name := "isPresent", desc := "()Z" } : Jvm.MethodName) jdk_32_method_6_code (1 : Nat) (Option.some Jvm.ClassFile.FieldType.boolean)).before a0 Z = true := hw.1 _ (List.mem_of_getElem? (i := 115) rfl)
theorem ow_116 {Z : State} {a0 : Array Value} (hw : HW Z a0) : (Jvm.Cond.fieldLink "java/util/Optional" (13 : Nat) "java/util/Optional" "value" "Ljava/lang/Object;").before a0 Z = true := hw.1 _ (List.mem_of_getElem? (i := 116) rfl)
theorem ow_117 {Z : State} {a0 : Array Value} (hw : HW Z a0) : (Jvm.Cond.laysFinal "java/util/Optional" "java/util/Optional" "value" "Ljava/lang/Object;").before a0 Z = true := hw.1 _ (List.mem_of_getElem? (i := 117) rfl)
theorem ow_118 {Z : State} {a0 : Array Value} (hw : HW Z a0) : (Jvm.Cond.stringLink "com/example/vestledger/vestledger/number/RoundingNamedPinLaw" (11 : Nat) "up").before a0 Z = true := hw.1 _ (List.mem_of_getElem? (i := 118) rfl)
theorem ow_119 {Z : State} {a0 : Array Value} (hw : HW Z a0) : (Jvm.Cond.methodLink "com/example/vestledger/vestledger/number/Rounding" (46 : Nat) ({ cls := "java/util/Optional", name := "of", desc := "(Ljava/lang/Object;)Ljava/util/Optional;" } : Jvm.MethodName)).before a0 Z = true := hw.1 _ (List.mem_of_getElem? (i := 119) rfl)
theorem ow_120 {Z : State} {a0 : Array Value} (hw : HW Z a0) : (Jvm.Cond.static ({ cls := "java/util/Optional", name := "of", desc := "(Ljava/lang/Object;)Ljava/util/Optional;" } : Jvm.MethodName)).before a0 Z = true := hw.1 _ (List.mem_of_getElem? (i := 120) rfl)
theorem ow_121 {Z : State} {a0 : Array Value} (hw : HW Z a0) : (Jvm.Cond.code ({ cls := "java/util/Optional", name := "of", desc := "(Ljava/lang/Object;)Ljava/util/Optional;" } : Jvm.MethodName) jdk_32_method_3_code (1 : Nat) (Option.some (Jvm.ClassFile.FieldType.object "java/util/Optional"))).before a0 Z = true := hw.1 _ (List.mem_of_getElem? (i := 121) rfl)
theorem ow_122 {Z : State} {a0 : Array Value} (hw : HW Z a0) : (Jvm.Cond.classLink "java/util/Optional" (2 : Nat) "java/util/Optional").before a0 Z = true := hw.1 _ (List.mem_of_getElem? (i := 122) rfl)
theorem ow_123 {Z : State} {a0 : Array Value} (hw : HW Z a0) : (Jvm.Cond.instantiable "java/util/Optional" (1 : Nat)).before a0 Z = true := hw.1 _ (List.mem_of_getElem? (i := 123) rfl)
theorem ow_124 {Z : State} {a0 : Array Value} (hw : HW Z a0) : (Jvm.Cond.methodLink "java/util/Optional" (17 : Nat) ({ cls := "java/util/Objects", name := "requireNonNull", desc := "(Ljava/lang/Object;)Ljava/lang/Object;" } : Jvm.MethodName)).before a0 Z = true := hw.1 _ (List.mem_of_getElem? (i := 124) rfl)
theorem ow_125 {Z : State} {a0 : Array Value} (hw : HW Z a0) : (Jvm.Cond.static ({ cls := "java/util/Objects", name := "requireNonNull", desc := "(Ljava/lang/Object;)Ljava/lang/Object;" } : Jvm.MethodName)).before a0 Z = true := hw.1 _ (List.mem_of_getElem? (i := 125) rfl)
theorem ow_126 {Z : State} {a0 : Array Value} (hw : HW Z a0) : (Jvm.Cond.initialized "java/util/Objects").before a0 Z = true := hw.1 _ (List.mem_of_getElem? (i := 126) rfl)
theorem ow_127 {Z : State} {a0 : Array Value} (hw : HW Z a0) : (Jvm.Cond.code ({ cls := "java/util/Objects", name := "requireNonNull", desc := "(Ljava/lang/Object;)Ljava/lang/Object;" } : Jvm.MethodName) jdk_31_method_10_code (1 : Nat) (Option.some (Jvm.ClassFile.FieldType.object "java/lang/Object"))).before a0 Z = true := hw.1 _ (List.mem_of_getElem? (i := 127) rfl)
theorem ow_128 {Z : State} {a0 : Array Value} (hw : HW Z a0) : (Jvm.Cond.methodLink "java/util/Optional" (23 : Nat) ({ cls := "java/util/Optional", name := "<init>", desc := "(Ljava/lang/Object;)V" } : Jvm.MethodName)).before a0 Z = true := hw.1 _ (List.mem_of_getElem? (i := 128) rfl)
theorem ow_129 {Z : State} {a0 : Array Value} (hw : HW Z a0) : (Jvm.Cond.instanceMethod ({ cls := "java/util/Optional", name := "<init>", desc := "(Ljava/lang/Object;)V" } : Jvm.MethodName)).before a0 Z = true := hw.1 _ (List.mem_of_getElem? (i := 129) rfl)
theorem ow_131 {Z : State} {a0 : Array Value} (hw : HW Z a0) : (Jvm.Cond.code ({ cls := "java/util/Optional", name := "<init>", desc := "(Ljava/lang/Object;)V" } : Jvm.MethodName) jdk_32_method_2_code (2 : Nat) (Option.none : Option Jvm.ClassFile.FieldType)).before a0 Z = true := hw.1 _ (List.mem_of_getElem? (i := 131) rfl)
theorem ow_132 {Z : State} {a0 : Array Value} (hw : HW Z a0) : (Jvm.Cond.methodLink "java/util/Optional" (7 : Nat) ({ cls := "java/lang/Object", name := "<init>", desc := "()V" } : Jvm.MethodName)).before a0 Z = true := hw.1 _ (List.mem_of_getElem? (i := 132) rfl)
theorem ow_133 {Z : State} {a0 : Array Value} (hw : HW Z a0) : (Jvm.Cond.methodLink "com/example/vestledger/vestledger/number/RoundingNamedPinLaw" (41 : Nat) ({ cls := "java/util/Optional", name := "get", desc := "()Ljava/lang/Object;" } : Jvm.MethodName)).before a0 Z = true := hw.1 _ (List.mem_of_getElem? (i := 133) rfl)
theorem ow_134 {Z : State} {a0 : Array Value} (hw : HW Z a0) : (Jvm.Cond.declares ({ cls := "java/util/Optional", name := "get", desc := "()Ljava/lang/Object;" } : Jvm.MethodName)).before a0 Z = true := hw.1 _ (List.mem_of_getElem? (i := 134) rfl)
theorem ow_135 {Z : State} {a0 : Array Value} (hw : HW Z a0) : (Jvm.Cond.instanceMethod ({ cls := "java/util/Optional", name := "get", desc := "()Ljava/lang/Object;" } : Jvm.MethodName)).before a0 Z = true := hw.1 _ (List.mem_of_getElem? (i := 135) rfl)
theorem ow_136 {Z : State} {a0 : Array Value} (hw : HW Z a0) : (Jvm.Cond.selects "java/util/Optional" ({ cls := "java/util/Optional", name := "get", desc := "()Ljava/lang/Object;" } : Jvm.MethodName) ({ cls := "java/util/Optional", name := "get", desc := "()Ljava/lang/Object;" } : Jvm.MethodName)).before a0 Z = true := hw.1 _ (List.mem_of_getElem? (i := 136) rfl)
theorem ow_137 {Z : State} {a0 : Array Value} (hw : HW Z a0) : (Jvm.Cond.code ({ cls := "java/util/Optional", name := "get", desc := "()Ljava/lang/Object;" } : Jvm.MethodName) jdk_32_method_5_code (1 : Nat) (Option.some (Jvm.ClassFile.FieldType.object "java/lang/Object"))).before a0 Z = true := hw.1 _ (List.mem_of_getElem? (i := 137) rfl)
theorem ow_138 {Z : State} {a0 : Array Value} (hw : HW Z a0) : (Jvm.Cond.fieldLink "com/example/vestledger/vestledger/number/RoundingNamedPinLaw" (52 : Nat) "com/example/vestledger/vestledger/number/Rounding" "UP" "Lcom/example/vestledger/vestledger/number/Rounding;").before a0 Z = true := hw.1 _ (List.mem_of_getElem? (i := 138) rfl)
theorem ow_139 {Z : State} {a0 : Array Value} (hw : HW Z a0) : (Jvm.Cond.stringLink "com/example/vestledger/vestledger/number/RoundingNamedPinLaw" (7 : Nat) "down").before a0 Z = true := hw.1 _ (List.mem_of_getElem? (i := 139) rfl)
theorem ow_140 {Z : State} {a0 : Array Value} (hw : HW Z a0) : (Jvm.Cond.stringLink "java/lang/String" (7 : Nat) "").before a0 Z = true := hw.1 _ (List.mem_of_getElem? (i := 140) rfl)
theorem ow_141 {Z : State} {a0 : Array Value} (hw : HW Z a0) : (Jvm.Cond.fieldLink "com/example/vestledger/vestledger/number/RoundingNamedPinLaw" (49 : Nat) "com/example/vestledger/vestledger/number/Rounding" "HALF_UP" "Lcom/example/vestledger/vestledger/number/Rounding;").before a0 Z = true := hw.1 _ (List.mem_of_getElem? (i := 141) rfl)
theorem ow_142 {Z : State} {a0 : Array Value} (hw : HW Z a0) : (Jvm.Cond.fieldLink "com/example/vestledger/vestledger/number/RoundingNamedPinLaw" (45 : Nat) "com/example/vestledger/vestledger/number/Rounding" "DOWN" "Lcom/example/vestledger/vestledger/number/Rounding;").before a0 Z = true := hw.1 _ (List.mem_of_getElem? (i := 142) rfl)
theorem own_wS {Z : State} {a0 : Array Value} (hw : HW Z a0) : (Jvm.Cond.instantiable "java/lang/String" (4 : Nat)).before a0 Z = true := (ow_2 hw)
abbrev EL0 : List (String × Nat) := consts_1
abbrev nw0 : Bool := false
theorem own_ew {Z : State} {a0 : Array Value} (hw : HW Z a0) : EW Z a0 EL0 := (EW.cons (ow_139 hw) (by decide) (EW.cons (ow_0 hw) (by decide) (EW.cons (ow_118 hw) (by decide) (EW.cons (ow_140 hw) (by decide) EW.nil))))
theorem own_sA {Z : State} {a0 : Array Value} (hw : HW Z a0) : ∀ a ∈ Bundle.stringAtoms, a.before a0 Z = true := fun d hd => hw.1 d ((by decide +kernel : ∀ d ∈ Bundle.stringAtoms, d ∈ tables_1) d hd)
theorem od_11_0 : decode jdk_42_method_149_code 0 = .ok (.aload_n 0, 1) := by decide +kernel
theorem od_11_1 : decode jdk_42_method_149_code 1 = .ok (.invokespecial 1, 3) := by decide +kernel
theorem od_11_4 : decode jdk_42_method_149_code 4 = .ok (.iload_n 3, 1) := by decide +kernel
theorem od_11_5 : decode jdk_42_method_149_code 5 = .ok (.ifCond .ne 22, 3) := by decide +kernel
theorem od_11_8 : decode jdk_42_method_149_code 8 = .ok (.aload_n 0, 1) := by decide +kernel
theorem od_11_9 : decode jdk_42_method_149_code 9 = .ok (.ldc 7, 2) := by decide +kernel
theorem od_11_11 : decode jdk_42_method_149_code 11 = .ok (.getfield 9, 3) := by decide +kernel
theorem od_11_14 : decode jdk_42_method_149_code 14 = .ok (.putfield 9, 3) := by decide +kernel
theorem od_11_17 : decode jdk_42_method_149_code 17 = .ok (.aload_n 0, 1) := by decide +kernel
theorem od_11_18 : decode jdk_42_method_149_code 18 = .ok (.ldc 7, 2) := by decide +kernel
theorem od_11_20 : decode jdk_42_method_149_code 20 = .ok (.getfield 15, 3) := by decide +kernel
theorem od_11_23 : decode jdk_42_method_149_code 23 = .ok (.putfield 15, 3) := by decide +kernel
theorem od_11_26 : decode jdk_42_method_149_code 26 = .ok (.return_, 1) := by decide +kernel
theorem od_10_0 : decode jdk_42_method_3_code 0 = .ok (.aload_n 0, 1) := by decide +kernel
theorem od_10_1 : decode jdk_42_method_3_code 1 = .ok (.aload_n 1, 1) := by decide +kernel
theorem od_10_2 : decode jdk_42_method_3_code 2 = .ok (.iconst 0, 1) := by decide +kernel
theorem od_10_3 : decode jdk_42_method_3_code 3 = .ok (.aload_n 1, 1) := by decide +kernel
theorem od_10_4 : decode jdk_42_method_3_code 4 = .ok (.arraylength, 1) := by decide +kernel
theorem od_10_5 : decode jdk_42_method_3_code 5 = .ok (.aconst_null, 1) := by decide +kernel
theorem od_10_6 : decode jdk_42_method_3_code 6 = .ok (.invokespecial 27, 3) := by decide +kernel
theorem od_10_9 : decode jdk_42_method_3_code 9 = .ok (.return_, 1) := by decide +kernel
theorem od_23_0 : decode jdk_31_method_10_code 0 = .ok (.aload_n 0, 1) := by decide +kernel
theorem od_23_1 : decode jdk_31_method_10_code 1 = .ok (.ifnonnull 11, 3) := by decide +kernel
theorem od_23_12 : decode jdk_31_method_10_code 12 = .ok (.aload_n 0, 1) := by decide +kernel
theorem od_23_13 : decode jdk_31_method_10_code 13 = .ok (.areturn, 1) := by decide +kernel
theorem od_24_0 : decode jdk_32_method_2_code 0 = .ok (.aload_n 0, 1) := by decide +kernel
theorem od_24_1 : decode jdk_32_method_2_code 1 = .ok (.invokespecial 7, 3) := by decide +kernel
theorem od_24_4 : decode jdk_32_method_2_code 4 = .ok (.aload_n 0, 1) := by decide +kernel
theorem od_24_5 : decode jdk_32_method_2_code 5 = .ok (.aload_n 1, 1) := by decide +kernel
theorem od_24_6 : decode jdk_32_method_2_code 6 = .ok (.putfield 13, 3) := by decide +kernel
theorem od_24_9 : decode jdk_32_method_2_code 9 = .ok (.return_, 1) := by decide +kernel
theorem od_22_0 : decode jdk_32_method_3_code 0 = .ok (.new 2, 3) := by decide +kernel
theorem od_22_3 : decode jdk_32_method_3_code 3 = .ok (.dup, 1) := by decide +kernel
theorem od_22_4 : decode jdk_32_method_3_code 4 = .ok (.aload_n 0, 1) := by decide +kernel
theorem od_22_5 : decode jdk_32_method_3_code 5 = .ok (.invokestatic 17, 3) := by decide +kernel
theorem od_22_8 : decode jdk_32_method_3_code 8 = .ok (.invokespecial 23, 3) := by decide +kernel
theorem od_22_11 : decode jdk_32_method_3_code 11 = .ok (.areturn, 1) := by decide +kernel
theorem od_20_0 : decode jdk_32_method_1_code 0 = .ok (.getstatic 1, 3) := by decide +kernel
theorem od_20_3 : decode jdk_32_method_1_code 3 = .ok (.astore_n 0, 1) := by decide +kernel
theorem od_20_4 : decode jdk_32_method_1_code 4 = .ok (.aload_n 0, 1) := by decide +kernel
theorem od_20_5 : decode jdk_32_method_1_code 5 = .ok (.areturn, 1) := by decide +kernel
theorem od_21_0 : decode jdk_32_method_6_code 0 = .ok (.aload_n 0, 1) := by decide +kernel
theorem od_21_1 : decode jdk_32_method_6_code 1 = .ok (.getfield 13, 3) := by decide +kernel
theorem od_21_4 : decode jdk_32_method_6_code 4 = .ok (.ifnull 7, 3) := by decide +kernel
theorem od_21_7 : decode jdk_32_method_6_code 7 = .ok (.iconst 1, 1) := by decide +kernel
theorem od_21_8 : decode jdk_32_method_6_code 8 = .ok (.goto 4, 3) := by decide +kernel
theorem od_21_12 : decode jdk_32_method_6_code 12 = .ok (.ireturn, 1) := by decide +kernel
theorem od_21_11 : decode jdk_32_method_6_code 11 = .ok (.iconst 0, 1) := by decide +kernel
theorem od_25_0 : decode jdk_32_method_5_code 0 = .ok (.aload_n 0, 1) := by decide +kernel
theorem od_25_1 : decode jdk_32_method_5_code 1 = .ok (.getfield 13, 3) := by decide +kernel
theorem od_25_4 : decode jdk_32_method_5_code 4 = .ok (.ifnonnull 13, 3) := by decide +kernel
theorem od_25_17 : decode jdk_32_method_5_code 17 = .ok (.aload_n 0, 1) := by decide +kernel
theorem od_25_18 : decode jdk_32_method_5_code 18 = .ok (.getfield 13, 3) := by decide +kernel
theorem od_25_21 : decode jdk_32_method_5_code 21 = .ok (.areturn, 1) := by decide +kernel
theorem od_17_0 : decode prog_10_method_1_code 0 = .ok (.getstatic 13, 3) := by decide +kernel
theorem od_17_3 : decode prog_10_method_1_code 3 = .ok (.invokevirtual 17, 3) := by decide +kernel
theorem od_17_6 : decode prog_10_method_1_code 6 = .ok (.checkcast 18, 3) := by decide +kernel
theorem od_17_9 : decode prog_10_method_1_code 9 = .ok (.areturn, 1) := by decide +kernel
theorem od_16_0 : decode prog_10_method_4_code 0 = .ok (.invokestatic 36, 3) := by decide +kernel
theorem od_16_3 : decode prog_10_method_4_code 3 = .ok (.astore_n 1, 1) := by decide +kernel
theorem od_16_4 : decode prog_10_method_4_code 4 = .ok (.aload_n 1, 1) := by decide +kernel
theorem od_16_5 : decode prog_10_method_4_code 5 = .ok (.arraylength, 1) := by decide +kernel
theorem od_16_6 : decode prog_10_method_4_code 6 = .ok (.istore_n 2, 1) := by decide +kernel
theorem od_16_7 : decode prog_10_method_4_code 7 = .ok (.iconst 0, 1) := by decide +kernel
theorem od_16_8 : decode prog_10_method_4_code 8 = .ok (.istore_n 3, 1) := by decide +kernel
theorem od_16_9 : decode prog_10_method_4_code 9 = .ok (.iload_n 3, 1) := by decide +kernel
theorem od_16_10 : decode prog_10_method_4_code 10 = .ok (.iload_n 2, 1) := by decide +kernel
theorem od_16_11 : decode prog_10_method_4_code 11 = .ok (.if_icmp .ge 32, 3) := by decide +kernel
theorem od_16_14 : decode prog_10_method_4_code 14 = .ok (.aload_n 1, 1) := by decide +kernel
theorem od_16_15 : decode prog_10_method_4_code 15 = .ok (.iload_n 3, 1) := by decide +kernel
theorem od_16_16 : decode prog_10_method_4_code 16 = .ok (.aaload, 1) := by decide +kernel
theorem od_16_17 : decode prog_10_method_4_code 17 = .ok (.astore 4, 2) := by decide +kernel
theorem od_16_19 : decode prog_10_method_4_code 19 = .ok (.aload 4, 2) := by decide +kernel
theorem od_16_21 : decode prog_10_method_4_code 21 = .ok (.getfield 32, 3) := by decide +kernel
theorem od_16_24 : decode prog_10_method_4_code 24 = .ok (.aload_n 0, 1) := by decide +kernel
theorem od_16_25 : decode prog_10_method_4_code 25 = .ok (.invokevirtual 40, 3) := by decide +kernel
theorem od_16_28 : decode prog_10_method_4_code 28 = .ok (.ifCond .eq 9, 3) := by decide +kernel
theorem od_16_31 : decode prog_10_method_4_code 31 = .ok (.aload 4, 2) := by decide +kernel
theorem od_16_33 : decode prog_10_method_4_code 33 = .ok (.invokestatic 46, 3) := by decide +kernel
theorem od_16_36 : decode prog_10_method_4_code 36 = .ok (.areturn, 1) := by decide +kernel
theorem od_16_37 : decode prog_10_method_4_code 37 = .ok (.iinc 3 1, 3) := by decide +kernel
theorem od_16_40 : decode prog_10_method_4_code 40 = .ok (.goto (-31), 3) := by decide +kernel
theorem od_16_43 : decode prog_10_method_4_code 43 = .ok (.invokestatic 52, 3) := by decide +kernel
theorem od_16_46 : decode prog_10_method_4_code 46 = .ok (.areturn, 1) := by decide +kernel
theorem od_1_0 : decode method_3_code 0 = .ok (.lload 4, 2) := by decide +kernel
theorem od_1_2 : decode method_3_code 2 = .ok (.bipush 8, 2) := by decide +kernel
theorem od_1_4 : decode method_3_code 4 = .ok (.iload_n 3, 1) := by decide +kernel
theorem od_1_5 : decode method_3_code 5 = .ok (.imul, 1) := by decide +kernel
theorem od_1_6 : decode method_3_code 6 = .ok (.lushr, 1) := by decide +kernel
theorem od_1_7 : decode method_3_code 7 = .ok (.ldc2_w 55, 3) := by decide +kernel
theorem od_1_10 : decode method_3_code 10 = .ok (.land, 1) := by decide +kernel
theorem od_1_11 : decode method_3_code 11 = .ok (.l2i, 1) := by decide +kernel
theorem od_1_12 : decode method_3_code 12 = .ok (.i2c, 1) := by decide +kernel
theorem od_1_13 : decode method_3_code 13 = .ok (.istore 6, 2) := by decide +kernel
theorem od_1_15 : decode method_3_code 15 = .ok (.iload_n 0, 1) := by decide +kernel
theorem od_1_16 : decode method_3_code 16 = .ok (.iconst 3, 1) := by decide +kernel
theorem od_1_17 : decode method_3_code 17 = .ok (.if_icmp .eq 16, 3) := by decide +kernel
theorem od_1_33 : decode method_3_code 33 = .ok (.iload 6, 2) := by decide +kernel
theorem od_1_35 : decode method_3_code 35 = .ok (.ireturn, 1) := by decide +kernel
theorem od_1_20 : decode method_3_code 20 = .ok (.iload_n 3, 1) := by decide +kernel
theorem od_1_21 : decode method_3_code 21 = .ok (.aload_n 1, 1) := by decide +kernel
theorem od_1_22 : decode method_3_code 22 = .ok (.invokevirtual 19, 3) := by decide +kernel
theorem od_1_25 : decode method_3_code 25 = .ok (.if_icmp .ge 8, 3) := by decide +kernel
theorem od_1_28 : decode method_3_code 28 = .ok (.iload_n 3, 1) := by decide +kernel
theorem od_1_29 : decode method_3_code 29 = .ok (.iload_n 2, 1) := by decide +kernel
theorem od_1_30 : decode method_3_code 30 = .ok (.if_icmp .ne 6, 3) := by decide +kernel
theorem od_1_36 : decode method_3_code 36 = .ok (.aload_n 1, 1) := by decide +kernel
theorem od_1_37 : decode method_3_code 37 = .ok (.iload_n 3, 1) := by decide +kernel
theorem od_1_38 : decode method_3_code 38 = .ok (.invokevirtual 57, 3) := by decide +kernel
theorem od_1_41 : decode method_3_code 41 = .ok (.ireturn, 1) := by decide +kernel
theorem od_9_0 : decode method_4_code 0 = .ok (.iload_n 1, 1) := by decide +kernel
theorem od_9_1 : decode method_4_code 1 = .ok (.ifCond .ne 14, 3) := by decide +kernel
theorem od_9_4 : decode method_4_code 4 = .ok (.new 20, 3) := by decide +kernel
theorem od_9_7 : decode method_4_code 7 = .ok (.dup, 1) := by decide +kernel
theorem od_9_8 : decode method_4_code 8 = .ok (.iconst 0, 1) := by decide +kernel
theorem od_9_9 : decode method_4_code 9 = .ok (.newarray .char, 2) := by decide +kernel
theorem od_9_11 : decode method_4_code 11 = .ok (.invokespecial 61, 3) := by decide +kernel
theorem od_9_14 : decode method_4_code 14 = .ok (.areturn, 1) := by decide +kernel
theorem od_9_15 : decode method_4_code 15 = .ok (.iload_n 1, 1) := by decide +kernel
theorem od_9_16 : decode method_4_code 16 = .ok (.iconst 1, 1) := by decide +kernel
theorem od_9_17 : decode method_4_code 17 = .ok (.if_icmp .ne 20, 3) := by decide +kernel
theorem od_9_20 : decode method_4_code 20 = .ok (.new 20, 3) := by decide +kernel
theorem od_9_23 : decode method_4_code 23 = .ok (.dup, 1) := by decide +kernel
theorem od_9_24 : decode method_4_code 24 = .ok (.iconst 1, 1) := by decide +kernel
theorem od_9_25 : decode method_4_code 25 = .ok (.newarray .char, 2) := by decide +kernel
theorem od_9_27 : decode method_4_code 27 = .ok (.dup, 1) := by decide +kernel
theorem od_9_28 : decode method_4_code 28 = .ok (.iconst 0, 1) := by decide +kernel
theorem od_9_29 : decode method_4_code 29 = .ok (.aload_n 0, 1) := by decide +kernel
theorem od_9_30 : decode method_4_code 30 = .ok (.iconst 0, 1) := by decide +kernel
theorem od_9_31 : decode method_4_code 31 = .ok (.caload, 1) := by decide +kernel
theorem od_9_32 : decode method_4_code 32 = .ok (.castore, 1) := by decide +kernel
theorem od_9_33 : decode method_4_code 33 = .ok (.invokespecial 61, 3) := by decide +kernel
theorem od_9_36 : decode method_4_code 36 = .ok (.areturn, 1) := by decide +kernel
theorem od_9_37 : decode method_4_code 37 = .ok (.iload_n 1, 1) := by decide +kernel
theorem od_9_38 : decode method_4_code 38 = .ok (.iconst 2, 1) := by decide +kernel
theorem od_9_39 : decode method_4_code 39 = .ok (.if_icmp .ne 26, 3) := by decide +kernel
theorem od_9_42 : decode method_4_code 42 = .ok (.new 20, 3) := by decide +kernel
theorem od_9_45 : decode method_4_code 45 = .ok (.dup, 1) := by decide +kernel
theorem od_9_46 : decode method_4_code 46 = .ok (.iconst 2, 1) := by decide +kernel
theorem od_9_47 : decode method_4_code 47 = .ok (.newarray .char, 2) := by decide +kernel
theorem od_9_49 : decode method_4_code 49 = .ok (.dup, 1) := by decide +kernel
theorem od_9_50 : decode method_4_code 50 = .ok (.iconst 0, 1) := by decide +kernel
theorem od_9_51 : decode method_4_code 51 = .ok (.aload_n 0, 1) := by decide +kernel
theorem od_9_52 : decode method_4_code 52 = .ok (.iconst 0, 1) := by decide +kernel
theorem od_9_53 : decode method_4_code 53 = .ok (.caload, 1) := by decide +kernel
theorem od_9_54 : decode method_4_code 54 = .ok (.castore, 1) := by decide +kernel
theorem od_9_55 : decode method_4_code 55 = .ok (.dup, 1) := by decide +kernel
theorem od_9_56 : decode method_4_code 56 = .ok (.iconst 1, 1) := by decide +kernel
theorem od_9_57 : decode method_4_code 57 = .ok (.aload_n 0, 1) := by decide +kernel
theorem od_9_58 : decode method_4_code 58 = .ok (.iconst 1, 1) := by decide +kernel
theorem od_9_59 : decode method_4_code 59 = .ok (.caload, 1) := by decide +kernel
theorem od_9_60 : decode method_4_code 60 = .ok (.castore, 1) := by decide +kernel
theorem od_9_61 : decode method_4_code 61 = .ok (.invokespecial 61, 3) := by decide +kernel
theorem od_9_64 : decode method_4_code 64 = .ok (.areturn, 1) := by decide +kernel
theorem od_9_65 : decode method_4_code 65 = .ok (.iload_n 1, 1) := by decide +kernel
theorem od_9_66 : decode method_4_code 66 = .ok (.iconst 3, 1) := by decide +kernel
theorem od_9_67 : decode method_4_code 67 = .ok (.if_icmp .ne 32, 3) := by decide +kernel
theorem od_9_70 : decode method_4_code 70 = .ok (.new 20, 3) := by decide +kernel
theorem od_9_73 : decode method_4_code 73 = .ok (.dup, 1) := by decide +kernel
theorem od_9_74 : decode method_4_code 74 = .ok (.iconst 3, 1) := by decide +kernel
theorem od_9_75 : decode method_4_code 75 = .ok (.newarray .char, 2) := by decide +kernel
theorem od_9_77 : decode method_4_code 77 = .ok (.dup, 1) := by decide +kernel
theorem od_9_78 : decode method_4_code 78 = .ok (.iconst 0, 1) := by decide +kernel
theorem od_9_79 : decode method_4_code 79 = .ok (.aload_n 0, 1) := by decide +kernel
theorem od_9_80 : decode method_4_code 80 = .ok (.iconst 0, 1) := by decide +kernel
theorem od_9_81 : decode method_4_code 81 = .ok (.caload, 1) := by decide +kernel
theorem od_9_82 : decode method_4_code 82 = .ok (.castore, 1) := by decide +kernel
theorem od_9_83 : decode method_4_code 83 = .ok (.dup, 1) := by decide +kernel
theorem od_9_84 : decode method_4_code 84 = .ok (.iconst 1, 1) := by decide +kernel
theorem od_9_85 : decode method_4_code 85 = .ok (.aload_n 0, 1) := by decide +kernel
theorem od_9_86 : decode method_4_code 86 = .ok (.iconst 1, 1) := by decide +kernel
theorem od_9_87 : decode method_4_code 87 = .ok (.caload, 1) := by decide +kernel
theorem od_9_88 : decode method_4_code 88 = .ok (.castore, 1) := by decide +kernel
theorem od_9_89 : decode method_4_code 89 = .ok (.dup, 1) := by decide +kernel
theorem od_9_90 : decode method_4_code 90 = .ok (.iconst 2, 1) := by decide +kernel
theorem od_9_91 : decode method_4_code 91 = .ok (.aload_n 0, 1) := by decide +kernel
theorem od_9_92 : decode method_4_code 92 = .ok (.iconst 2, 1) := by decide +kernel
theorem od_9_93 : decode method_4_code 93 = .ok (.caload, 1) := by decide +kernel
theorem od_9_94 : decode method_4_code 94 = .ok (.castore, 1) := by decide +kernel
theorem od_9_95 : decode method_4_code 95 = .ok (.invokespecial 61, 3) := by decide +kernel
theorem od_9_98 : decode method_4_code 98 = .ok (.areturn, 1) := by decide +kernel
theorem od_9_99 : decode method_4_code 99 = .ok (.iload_n 1, 1) := by decide +kernel
theorem od_9_100 : decode method_4_code 100 = .ok (.iconst 4, 1) := by decide +kernel
theorem od_9_101 : decode method_4_code 101 = .ok (.if_icmp .ne 38, 3) := by decide +kernel
theorem od_9_104 : decode method_4_code 104 = .ok (.new 20, 3) := by decide +kernel
theorem od_9_107 : decode method_4_code 107 = .ok (.dup, 1) := by decide +kernel
theorem od_9_108 : decode method_4_code 108 = .ok (.iconst 4, 1) := by decide +kernel
theorem od_9_109 : decode method_4_code 109 = .ok (.newarray .char, 2) := by decide +kernel
theorem od_9_111 : decode method_4_code 111 = .ok (.dup, 1) := by decide +kernel
theorem od_9_112 : decode method_4_code 112 = .ok (.iconst 0, 1) := by decide +kernel
theorem od_9_113 : decode method_4_code 113 = .ok (.aload_n 0, 1) := by decide +kernel
theorem od_9_114 : decode method_4_code 114 = .ok (.iconst 0, 1) := by decide +kernel
theorem od_9_115 : decode method_4_code 115 = .ok (.caload, 1) := by decide +kernel
theorem od_9_116 : decode method_4_code 116 = .ok (.castore, 1) := by decide +kernel
theorem od_9_117 : decode method_4_code 117 = .ok (.dup, 1) := by decide +kernel
theorem od_9_118 : decode method_4_code 118 = .ok (.iconst 1, 1) := by decide +kernel
theorem od_9_119 : decode method_4_code 119 = .ok (.aload_n 0, 1) := by decide +kernel
theorem od_9_120 : decode method_4_code 120 = .ok (.iconst 1, 1) := by decide +kernel
theorem od_9_121 : decode method_4_code 121 = .ok (.caload, 1) := by decide +kernel
theorem od_9_122 : decode method_4_code 122 = .ok (.castore, 1) := by decide +kernel
theorem od_9_123 : decode method_4_code 123 = .ok (.dup, 1) := by decide +kernel
theorem od_9_124 : decode method_4_code 124 = .ok (.iconst 2, 1) := by decide +kernel
theorem od_9_125 : decode method_4_code 125 = .ok (.aload_n 0, 1) := by decide +kernel
theorem od_9_126 : decode method_4_code 126 = .ok (.iconst 2, 1) := by decide +kernel
theorem od_9_127 : decode method_4_code 127 = .ok (.caload, 1) := by decide +kernel
theorem od_9_128 : decode method_4_code 128 = .ok (.castore, 1) := by decide +kernel
theorem od_9_129 : decode method_4_code 129 = .ok (.dup, 1) := by decide +kernel
theorem od_9_130 : decode method_4_code 130 = .ok (.iconst 3, 1) := by decide +kernel
theorem od_9_131 : decode method_4_code 131 = .ok (.aload_n 0, 1) := by decide +kernel
theorem od_9_132 : decode method_4_code 132 = .ok (.iconst 3, 1) := by decide +kernel
theorem od_9_133 : decode method_4_code 133 = .ok (.caload, 1) := by decide +kernel
theorem od_9_134 : decode method_4_code 134 = .ok (.castore, 1) := by decide +kernel
theorem od_9_135 : decode method_4_code 135 = .ok (.invokespecial 61, 3) := by decide +kernel
theorem od_9_138 : decode method_4_code 138 = .ok (.areturn, 1) := by decide +kernel
theorem od_9_139 : decode method_4_code 139 = .ok (.iload_n 1, 1) := by decide +kernel
theorem od_9_140 : decode method_4_code 140 = .ok (.iconst 5, 1) := by decide +kernel
theorem od_9_141 : decode method_4_code 141 = .ok (.if_icmp .ne 44, 3) := by decide +kernel
theorem od_9_144 : decode method_4_code 144 = .ok (.new 20, 3) := by decide +kernel
theorem od_9_147 : decode method_4_code 147 = .ok (.dup, 1) := by decide +kernel
theorem od_9_148 : decode method_4_code 148 = .ok (.iconst 5, 1) := by decide +kernel
theorem od_9_149 : decode method_4_code 149 = .ok (.newarray .char, 2) := by decide +kernel
theorem od_9_151 : decode method_4_code 151 = .ok (.dup, 1) := by decide +kernel
theorem od_9_152 : decode method_4_code 152 = .ok (.iconst 0, 1) := by decide +kernel
theorem od_9_153 : decode method_4_code 153 = .ok (.aload_n 0, 1) := by decide +kernel
theorem od_9_154 : decode method_4_code 154 = .ok (.iconst 0, 1) := by decide +kernel
theorem od_9_155 : decode method_4_code 155 = .ok (.caload, 1) := by decide +kernel
theorem od_9_156 : decode method_4_code 156 = .ok (.castore, 1) := by decide +kernel
theorem od_9_157 : decode method_4_code 157 = .ok (.dup, 1) := by decide +kernel
theorem od_9_158 : decode method_4_code 158 = .ok (.iconst 1, 1) := by decide +kernel
theorem od_9_159 : decode method_4_code 159 = .ok (.aload_n 0, 1) := by decide +kernel
theorem od_9_160 : decode method_4_code 160 = .ok (.iconst 1, 1) := by decide +kernel
theorem od_9_161 : decode method_4_code 161 = .ok (.caload, 1) := by decide +kernel
theorem od_9_162 : decode method_4_code 162 = .ok (.castore, 1) := by decide +kernel
theorem od_9_163 : decode method_4_code 163 = .ok (.dup, 1) := by decide +kernel
theorem od_9_164 : decode method_4_code 164 = .ok (.iconst 2, 1) := by decide +kernel
theorem od_9_165 : decode method_4_code 165 = .ok (.aload_n 0, 1) := by decide +kernel
theorem od_9_166 : decode method_4_code 166 = .ok (.iconst 2, 1) := by decide +kernel
theorem od_9_167 : decode method_4_code 167 = .ok (.caload, 1) := by decide +kernel
theorem od_9_168 : decode method_4_code 168 = .ok (.castore, 1) := by decide +kernel
theorem od_9_169 : decode method_4_code 169 = .ok (.dup, 1) := by decide +kernel
theorem od_9_170 : decode method_4_code 170 = .ok (.iconst 3, 1) := by decide +kernel
theorem od_9_171 : decode method_4_code 171 = .ok (.aload_n 0, 1) := by decide +kernel
theorem od_9_172 : decode method_4_code 172 = .ok (.iconst 3, 1) := by decide +kernel
theorem od_9_173 : decode method_4_code 173 = .ok (.caload, 1) := by decide +kernel
theorem od_9_174 : decode method_4_code 174 = .ok (.castore, 1) := by decide +kernel
theorem od_9_175 : decode method_4_code 175 = .ok (.dup, 1) := by decide +kernel
theorem od_9_176 : decode method_4_code 176 = .ok (.iconst 4, 1) := by decide +kernel
theorem od_9_177 : decode method_4_code 177 = .ok (.aload_n 0, 1) := by decide +kernel
theorem od_9_178 : decode method_4_code 178 = .ok (.iconst 4, 1) := by decide +kernel
theorem od_9_179 : decode method_4_code 179 = .ok (.caload, 1) := by decide +kernel
theorem od_9_180 : decode method_4_code 180 = .ok (.castore, 1) := by decide +kernel
theorem od_9_181 : decode method_4_code 181 = .ok (.invokespecial 61, 3) := by decide +kernel
theorem od_9_184 : decode method_4_code 184 = .ok (.areturn, 1) := by decide +kernel
theorem od_9_185 : decode method_4_code 185 = .ok (.iload_n 1, 1) := by decide +kernel
theorem od_9_186 : decode method_4_code 186 = .ok (.bipush 6, 2) := by decide +kernel
theorem od_9_188 : decode method_4_code 188 = .ok (.if_icmp .ne 51, 3) := by decide +kernel
theorem od_9_191 : decode method_4_code 191 = .ok (.new 20, 3) := by decide +kernel
theorem od_9_194 : decode method_4_code 194 = .ok (.dup, 1) := by decide +kernel
theorem od_9_195 : decode method_4_code 195 = .ok (.bipush 6, 2) := by decide +kernel
theorem od_9_197 : decode method_4_code 197 = .ok (.newarray .char, 2) := by decide +kernel
theorem od_9_199 : decode method_4_code 199 = .ok (.dup, 1) := by decide +kernel
theorem od_9_200 : decode method_4_code 200 = .ok (.iconst 0, 1) := by decide +kernel
theorem od_9_201 : decode method_4_code 201 = .ok (.aload_n 0, 1) := by decide +kernel
theorem od_9_202 : decode method_4_code 202 = .ok (.iconst 0, 1) := by decide +kernel
theorem od_9_203 : decode method_4_code 203 = .ok (.caload, 1) := by decide +kernel
theorem od_9_204 : decode method_4_code 204 = .ok (.castore, 1) := by decide +kernel
theorem od_9_205 : decode method_4_code 205 = .ok (.dup, 1) := by decide +kernel
theorem od_9_206 : decode method_4_code 206 = .ok (.iconst 1, 1) := by decide +kernel
theorem od_9_207 : decode method_4_code 207 = .ok (.aload_n 0, 1) := by decide +kernel
theorem od_9_208 : decode method_4_code 208 = .ok (.iconst 1, 1) := by decide +kernel
theorem od_9_209 : decode method_4_code 209 = .ok (.caload, 1) := by decide +kernel
theorem od_9_210 : decode method_4_code 210 = .ok (.castore, 1) := by decide +kernel
theorem od_9_211 : decode method_4_code 211 = .ok (.dup, 1) := by decide +kernel
theorem od_9_212 : decode method_4_code 212 = .ok (.iconst 2, 1) := by decide +kernel
theorem od_9_213 : decode method_4_code 213 = .ok (.aload_n 0, 1) := by decide +kernel
theorem od_9_214 : decode method_4_code 214 = .ok (.iconst 2, 1) := by decide +kernel
theorem od_9_215 : decode method_4_code 215 = .ok (.caload, 1) := by decide +kernel
theorem od_9_216 : decode method_4_code 216 = .ok (.castore, 1) := by decide +kernel
theorem od_9_217 : decode method_4_code 217 = .ok (.dup, 1) := by decide +kernel
theorem od_9_218 : decode method_4_code 218 = .ok (.iconst 3, 1) := by decide +kernel
theorem od_9_219 : decode method_4_code 219 = .ok (.aload_n 0, 1) := by decide +kernel
theorem od_9_220 : decode method_4_code 220 = .ok (.iconst 3, 1) := by decide +kernel
theorem od_9_221 : decode method_4_code 221 = .ok (.caload, 1) := by decide +kernel
theorem od_9_222 : decode method_4_code 222 = .ok (.castore, 1) := by decide +kernel
theorem od_9_223 : decode method_4_code 223 = .ok (.dup, 1) := by decide +kernel
theorem od_9_224 : decode method_4_code 224 = .ok (.iconst 4, 1) := by decide +kernel
theorem od_9_225 : decode method_4_code 225 = .ok (.aload_n 0, 1) := by decide +kernel
theorem od_9_226 : decode method_4_code 226 = .ok (.iconst 4, 1) := by decide +kernel
theorem od_9_227 : decode method_4_code 227 = .ok (.caload, 1) := by decide +kernel
theorem od_9_228 : decode method_4_code 228 = .ok (.castore, 1) := by decide +kernel
theorem od_9_229 : decode method_4_code 229 = .ok (.dup, 1) := by decide +kernel
theorem od_9_230 : decode method_4_code 230 = .ok (.iconst 5, 1) := by decide +kernel
theorem od_9_231 : decode method_4_code 231 = .ok (.aload_n 0, 1) := by decide +kernel
theorem od_9_232 : decode method_4_code 232 = .ok (.iconst 5, 1) := by decide +kernel
theorem od_9_233 : decode method_4_code 233 = .ok (.caload, 1) := by decide +kernel
theorem od_9_234 : decode method_4_code 234 = .ok (.castore, 1) := by decide +kernel
theorem od_9_235 : decode method_4_code 235 = .ok (.invokespecial 61, 3) := by decide +kernel
theorem od_9_238 : decode method_4_code 238 = .ok (.areturn, 1) := by decide +kernel
theorem od_9_239 : decode method_4_code 239 = .ok (.new 20, 3) := by decide +kernel
theorem od_9_242 : decode method_4_code 242 = .ok (.dup, 1) := by decide +kernel
theorem od_9_243 : decode method_4_code 243 = .ok (.bipush 7, 2) := by decide +kernel
theorem od_9_245 : decode method_4_code 245 = .ok (.newarray .char, 2) := by decide +kernel
theorem od_9_247 : decode method_4_code 247 = .ok (.dup, 1) := by decide +kernel
theorem od_9_248 : decode method_4_code 248 = .ok (.iconst 0, 1) := by decide +kernel
theorem od_9_249 : decode method_4_code 249 = .ok (.aload_n 0, 1) := by decide +kernel
theorem od_9_250 : decode method_4_code 250 = .ok (.iconst 0, 1) := by decide +kernel
theorem od_9_251 : decode method_4_code 251 = .ok (.caload, 1) := by decide +kernel
theorem od_9_252 : decode method_4_code 252 = .ok (.castore, 1) := by decide +kernel
theorem od_9_253 : decode method_4_code 253 = .ok (.dup, 1) := by decide +kernel
theorem od_9_254 : decode method_4_code 254 = .ok (.iconst 1, 1) := by decide +kernel
theorem od_9_255 : decode method_4_code 255 = .ok (.aload_n 0, 1) := by decide +kernel
theorem od_9_256 : decode method_4_code 256 = .ok (.iconst 1, 1) := by decide +kernel
theorem od_9_257 : decode method_4_code 257 = .ok (.caload, 1) := by decide +kernel
theorem od_9_258 : decode method_4_code 258 = .ok (.castore, 1) := by decide +kernel
theorem od_9_259 : decode method_4_code 259 = .ok (.dup, 1) := by decide +kernel
theorem od_9_260 : decode method_4_code 260 = .ok (.iconst 2, 1) := by decide +kernel
theorem od_9_261 : decode method_4_code 261 = .ok (.aload_n 0, 1) := by decide +kernel
theorem od_9_262 : decode method_4_code 262 = .ok (.iconst 2, 1) := by decide +kernel
theorem od_9_263 : decode method_4_code 263 = .ok (.caload, 1) := by decide +kernel
theorem od_9_264 : decode method_4_code 264 = .ok (.castore, 1) := by decide +kernel
theorem od_9_265 : decode method_4_code 265 = .ok (.dup, 1) := by decide +kernel
theorem od_9_266 : decode method_4_code 266 = .ok (.iconst 3, 1) := by decide +kernel
theorem od_9_267 : decode method_4_code 267 = .ok (.aload_n 0, 1) := by decide +kernel
theorem od_9_268 : decode method_4_code 268 = .ok (.iconst 3, 1) := by decide +kernel
theorem od_9_269 : decode method_4_code 269 = .ok (.caload, 1) := by decide +kernel
theorem od_9_270 : decode method_4_code 270 = .ok (.castore, 1) := by decide +kernel
theorem od_9_271 : decode method_4_code 271 = .ok (.dup, 1) := by decide +kernel
theorem od_9_272 : decode method_4_code 272 = .ok (.iconst 4, 1) := by decide +kernel
theorem od_9_273 : decode method_4_code 273 = .ok (.aload_n 0, 1) := by decide +kernel
theorem od_9_274 : decode method_4_code 274 = .ok (.iconst 4, 1) := by decide +kernel
theorem od_9_275 : decode method_4_code 275 = .ok (.caload, 1) := by decide +kernel
theorem od_9_276 : decode method_4_code 276 = .ok (.castore, 1) := by decide +kernel
theorem od_9_277 : decode method_4_code 277 = .ok (.dup, 1) := by decide +kernel
theorem od_9_278 : decode method_4_code 278 = .ok (.iconst 5, 1) := by decide +kernel
theorem od_9_279 : decode method_4_code 279 = .ok (.aload_n 0, 1) := by decide +kernel
theorem od_9_280 : decode method_4_code 280 = .ok (.iconst 5, 1) := by decide +kernel
theorem od_9_281 : decode method_4_code 281 = .ok (.caload, 1) := by decide +kernel
theorem od_9_282 : decode method_4_code 282 = .ok (.castore, 1) := by decide +kernel
theorem od_9_283 : decode method_4_code 283 = .ok (.dup, 1) := by decide +kernel
theorem od_9_284 : decode method_4_code 284 = .ok (.bipush 6, 2) := by decide +kernel
theorem od_9_286 : decode method_4_code 286 = .ok (.aload_n 0, 1) := by decide +kernel
theorem od_9_287 : decode method_4_code 287 = .ok (.bipush 6, 2) := by decide +kernel
theorem od_9_289 : decode method_4_code 289 = .ok (.caload, 1) := by decide +kernel
theorem od_9_290 : decode method_4_code 290 = .ok (.castore, 1) := by decide +kernel
theorem od_9_291 : decode method_4_code 291 = .ok (.invokespecial 61, 3) := by decide +kernel
theorem od_9_294 : decode method_4_code 294 = .ok (.areturn, 1) := by decide +kernel
theorem od_0_0 : decode code 0 = .ok (.iload_n 3, 1) := by decide +kernel
theorem od_0_1 : decode code 1 = .ok (.iconst 3, 1) := by decide +kernel
theorem od_0_2 : decode code 2 = .ok (.iand, 1) := by decide +kernel
theorem od_0_3 : decode code 3 = .ok (.istore 4, 2) := by decide +kernel
theorem od_0_28 : decode code 28 = .ok (.astore 5, 2) := by decide +kernel
theorem od_0_30 : decode code 30 = .ok (.iload_n 3, 1) := by decide +kernel
theorem od_0_31 : decode code 31 = .ok (.iconst 2, 1) := by decide +kernel
theorem od_0_32 : decode code 32 = .ok (.iushr, 1) := by decide +kernel
theorem od_0_33 : decode code 33 = .ok (.bipush 7, 2) := by decide +kernel
theorem od_0_35 : decode code 35 = .ok (.iand, 1) := by decide +kernel
theorem od_0_36 : decode code 36 = .ok (.istore 6, 2) := by decide +kernel
theorem od_0_38 : decode code 38 = .ok (.bipush 7, 2) := by decide +kernel
theorem od_0_40 : decode code 40 = .ok (.newarray .char, 2) := by decide +kernel
theorem od_0_42 : decode code 42 = .ok (.astore 7, 2) := by decide +kernel
theorem od_0_44 : decode code 44 = .ok (.aload 7, 2) := by decide +kernel
theorem od_0_46 : decode code 46 = .ok (.iconst 0, 1) := by decide +kernel
theorem od_0_47 : decode code 47 = .ok (.iload 4, 2) := by decide +kernel
theorem od_0_49 : decode code 49 = .ok (.aload 5, 2) := by decide +kernel
theorem od_0_51 : decode code 51 = .ok (.iload 6, 2) := by decide +kernel
theorem od_0_53 : decode code 53 = .ok (.iconst 0, 1) := by decide +kernel
theorem od_0_54 : decode code 54 = .ok (.lload_n 1, 1) := by decide +kernel
theorem od_0_55 : decode code 55 = .ok (.invokestatic 13, 3) := by decide +kernel
theorem od_0_58 : decode code 58 = .ok (.castore, 1) := by decide +kernel
theorem od_0_59 : decode code 59 = .ok (.aload 7, 2) := by decide +kernel
theorem od_0_61 : decode code 61 = .ok (.iconst 1, 1) := by decide +kernel
theorem od_0_62 : decode code 62 = .ok (.iload 4, 2) := by decide +kernel
theorem od_0_64 : decode code 64 = .ok (.aload 5, 2) := by decide +kernel
theorem od_0_66 : decode code 66 = .ok (.iload 6, 2) := by decide +kernel
theorem od_0_68 : decode code 68 = .ok (.iconst 1, 1) := by decide +kernel
theorem od_0_69 : decode code 69 = .ok (.lload_n 1, 1) := by decide +kernel
theorem od_0_70 : decode code 70 = .ok (.invokestatic 13, 3) := by decide +kernel
theorem od_0_73 : decode code 73 = .ok (.castore, 1) := by decide +kernel
theorem od_0_74 : decode code 74 = .ok (.aload 7, 2) := by decide +kernel
theorem od_0_76 : decode code 76 = .ok (.iconst 2, 1) := by decide +kernel
theorem od_0_77 : decode code 77 = .ok (.iload 4, 2) := by decide +kernel
theorem od_0_79 : decode code 79 = .ok (.aload 5, 2) := by decide +kernel
theorem od_0_81 : decode code 81 = .ok (.iload 6, 2) := by decide +kernel
theorem od_0_83 : decode code 83 = .ok (.iconst 2, 1) := by decide +kernel
theorem od_0_84 : decode code 84 = .ok (.lload_n 1, 1) := by decide +kernel
theorem od_0_85 : decode code 85 = .ok (.invokestatic 13, 3) := by decide +kernel
theorem od_0_88 : decode code 88 = .ok (.castore, 1) := by decide +kernel
theorem od_0_89 : decode code 89 = .ok (.aload 7, 2) := by decide +kernel
theorem od_0_91 : decode code 91 = .ok (.iconst 3, 1) := by decide +kernel
theorem od_0_92 : decode code 92 = .ok (.iload 4, 2) := by decide +kernel
theorem od_0_94 : decode code 94 = .ok (.aload 5, 2) := by decide +kernel
theorem od_0_96 : decode code 96 = .ok (.iload 6, 2) := by decide +kernel
theorem od_0_98 : decode code 98 = .ok (.iconst 3, 1) := by decide +kernel
theorem od_0_99 : decode code 99 = .ok (.lload_n 1, 1) := by decide +kernel
theorem od_0_100 : decode code 100 = .ok (.invokestatic 13, 3) := by decide +kernel
theorem od_0_103 : decode code 103 = .ok (.castore, 1) := by decide +kernel
theorem od_0_104 : decode code 104 = .ok (.aload 7, 2) := by decide +kernel
theorem od_0_106 : decode code 106 = .ok (.iconst 4, 1) := by decide +kernel
theorem od_0_107 : decode code 107 = .ok (.iload 4, 2) := by decide +kernel
theorem od_0_109 : decode code 109 = .ok (.aload 5, 2) := by decide +kernel
theorem od_0_111 : decode code 111 = .ok (.iload 6, 2) := by decide +kernel
theorem od_0_113 : decode code 113 = .ok (.iconst 4, 1) := by decide +kernel
theorem od_0_114 : decode code 114 = .ok (.lload_n 1, 1) := by decide +kernel
theorem od_0_115 : decode code 115 = .ok (.invokestatic 13, 3) := by decide +kernel
theorem od_0_118 : decode code 118 = .ok (.castore, 1) := by decide +kernel
theorem od_0_119 : decode code 119 = .ok (.aload 7, 2) := by decide +kernel
theorem od_0_121 : decode code 121 = .ok (.iconst 5, 1) := by decide +kernel
theorem od_0_122 : decode code 122 = .ok (.iload 4, 2) := by decide +kernel
theorem od_0_124 : decode code 124 = .ok (.aload 5, 2) := by decide +kernel
theorem od_0_126 : decode code 126 = .ok (.iload 6, 2) := by decide +kernel
theorem od_0_128 : decode code 128 = .ok (.iconst 5, 1) := by decide +kernel
theorem od_0_129 : decode code 129 = .ok (.lload_n 1, 1) := by decide +kernel
theorem od_0_130 : decode code 130 = .ok (.invokestatic 13, 3) := by decide +kernel
theorem od_0_133 : decode code 133 = .ok (.castore, 1) := by decide +kernel
theorem od_0_134 : decode code 134 = .ok (.aload 7, 2) := by decide +kernel
theorem od_0_136 : decode code 136 = .ok (.bipush 6, 2) := by decide +kernel
theorem od_0_138 : decode code 138 = .ok (.iload 4, 2) := by decide +kernel
theorem od_0_140 : decode code 140 = .ok (.aload 5, 2) := by decide +kernel
theorem od_0_142 : decode code 142 = .ok (.iload 6, 2) := by decide +kernel
theorem od_0_144 : decode code 144 = .ok (.bipush 6, 2) := by decide +kernel
theorem od_0_146 : decode code 146 = .ok (.lload_n 1, 1) := by decide +kernel
theorem od_0_147 : decode code 147 = .ok (.invokestatic 13, 3) := by decide +kernel
theorem od_0_150 : decode code 150 = .ok (.castore, 1) := by decide +kernel
theorem od_0_176 : decode code 176 = .ok (.istore 8, 2) := by decide +kernel
theorem od_0_178 : decode code 178 = .ok (.aload 7, 2) := by decide +kernel
theorem od_0_180 : decode code 180 = .ok (.iload 8, 2) := by decide +kernel
theorem od_0_182 : decode code 182 = .ok (.invokestatic 25, 3) := by decide +kernel
theorem od_0_185 : decode code 185 = .ok (.astore 9, 2) := by decide +kernel
theorem od_0_187 : decode code 187 = .ok (.iload 8, 2) := by decide +kernel
theorem od_0_189 : decode code 189 = .ok (.iconst 4, 1) := by decide +kernel
theorem od_0_190 : decode code 190 = .ok (.if_icmp .ne 43, 3) := by decide +kernel
theorem od_0_233 : decode code 233 = .ok (.iconst 0, 1) := by decide +kernel
theorem od_0_234 : decode code 234 = .ok (.istore 10, 2) := by decide +kernel
theorem od_0_236 : decode code 236 = .ok (.iload 8, 2) := by decide +kernel
theorem od_0_238 : decode code 238 = .ok (.bipush 7, 2) := by decide +kernel
theorem od_0_240 : decode code 240 = .ok (.if_icmp .ne 71, 3) := by decide +kernel
theorem od_0_311 : decode code 311 = .ok (.iconst 0, 1) := by decide +kernel
theorem od_0_312 : decode code 312 = .ok (.istore 11, 2) := by decide +kernel
theorem od_0_314 : decode code 314 = .ok (.iload 8, 2) := by decide +kernel
theorem od_0_316 : decode code 316 = .ok (.iconst 2, 1) := by decide +kernel
theorem od_0_317 : decode code 317 = .ok (.if_icmp .ne 25, 3) := by decide +kernel
theorem od_0_342 : decode code 342 = .ok (.iconst 0, 1) := by decide +kernel
theorem od_0_343 : decode code 343 = .ok (.istore 12, 2) := by decide +kernel
theorem od_0_345 : decode code 345 = .ok (.aload 9, 2) := by decide +kernel
theorem od_0_347 : decode code 347 = .ok (.invokestatic 29, 3) := by decide +kernel
theorem od_0_350 : decode code 350 = .ok (.astore 13, 2) := by decide +kernel
theorem od_0_352 : decode code 352 = .ok (.iload 10, 2) := by decide +kernel
theorem od_0_354 : decode code 354 = .ok (.ifCond .eq 28, 3) := by decide +kernel
theorem od_0_382 : decode code 382 = .ok (.iload 11, 2) := by decide +kernel
theorem od_0_384 : decode code 384 = .ok (.ifCond .eq 28, 3) := by decide +kernel
theorem od_0_412 : decode code 412 = .ok (.iload 12, 2) := by decide +kernel
theorem od_0_414 : decode code 414 = .ok (.ifCond .eq 28, 3) := by decide +kernel
theorem od_0_442 : decode code 442 = .ok (.aload 13, 2) := by decide +kernel
theorem od_0_444 : decode code 444 = .ok (.invokevirtual 35, 3) := by decide +kernel
theorem od_0_447 : decode code 447 = .ok (.ifCond .ne 7, 3) := by decide +kernel
theorem od_0_450 : decode code 450 = .ok (.iconst 1, 1) := by decide +kernel
theorem od_0_451 : decode code 451 = .ok (.goto 4, 3) := by decide +kernel
theorem od_0_455 : decode code 455 = .ok (.ireturn, 1) := by decide +kernel
theorem od_0_320 : decode code 320 = .ok (.aload 7, 2) := by decide +kernel
theorem od_0_322 : decode code 322 = .ok (.iconst 0, 1) := by decide +kernel
theorem od_0_323 : decode code 323 = .ok (.caload, 1) := by decide +kernel
theorem od_0_324 : decode code 324 = .ok (.bipush 117, 2) := by decide +kernel
theorem od_0_326 : decode code 326 = .ok (.if_icmp .ne 16, 3) := by decide +kernel
theorem od_0_329 : decode code 329 = .ok (.aload 7, 2) := by decide +kernel
theorem od_0_331 : decode code 331 = .ok (.iconst 1, 1) := by decide +kernel
theorem od_0_332 : decode code 332 = .ok (.caload, 1) := by decide +kernel
theorem od_0_333 : decode code 333 = .ok (.bipush 112, 2) := by decide +kernel
theorem od_0_335 : decode code 335 = .ok (.if_icmp .ne 7, 3) := by decide +kernel
theorem od_0_338 : decode code 338 = .ok (.iconst 1, 1) := by decide +kernel
theorem od_0_339 : decode code 339 = .ok (.goto 4, 3) := by decide +kernel
theorem od_0_417 : decode code 417 = .ok (.aload 13, 2) := by decide +kernel
theorem od_0_419 : decode code 419 = .ok (.invokevirtual 35, 3) := by decide +kernel
theorem od_0_422 : decode code 422 = .ok (.ifCond .eq 18, 3) := by decide +kernel
theorem od_0_425 : decode code 425 = .ok (.aload 13, 2) := by decide +kernel
theorem od_0_427 : decode code 427 = .ok (.invokevirtual 41, 3) := by decide +kernel
theorem od_0_430 : decode code 430 = .ok (.getstatic 52, 3) := by decide +kernel
theorem od_0_433 : decode code 433 = .ok (.if_acmp .ne 7, 3) := by decide +kernel
theorem od_0_436 : decode code 436 = .ok (.iconst 1, 1) := by decide +kernel
theorem od_0_437 : decode code 437 = .ok (.goto 4, 3) := by decide +kernel
theorem od_0_441 : decode code 441 = .ok (.ireturn, 1) := by decide +kernel
theorem od_0_193 : decode code 193 = .ok (.aload 7, 2) := by decide +kernel
theorem od_0_195 : decode code 195 = .ok (.iconst 0, 1) := by decide +kernel
theorem od_0_196 : decode code 196 = .ok (.caload, 1) := by decide +kernel
theorem od_0_197 : decode code 197 = .ok (.bipush 100, 2) := by decide +kernel
theorem od_0_199 : decode code 199 = .ok (.if_icmp .ne 34, 3) := by decide +kernel
theorem od_0_202 : decode code 202 = .ok (.aload 7, 2) := by decide +kernel
theorem od_0_204 : decode code 204 = .ok (.iconst 1, 1) := by decide +kernel
theorem od_0_205 : decode code 205 = .ok (.caload, 1) := by decide +kernel
theorem od_0_206 : decode code 206 = .ok (.bipush 111, 2) := by decide +kernel
theorem od_0_208 : decode code 208 = .ok (.if_icmp .ne 25, 3) := by decide +kernel
theorem od_0_211 : decode code 211 = .ok (.aload 7, 2) := by decide +kernel
theorem od_0_213 : decode code 213 = .ok (.iconst 2, 1) := by decide +kernel
theorem od_0_214 : decode code 214 = .ok (.caload, 1) := by decide +kernel
theorem od_0_215 : decode code 215 = .ok (.bipush 119, 2) := by decide +kernel
theorem od_0_217 : decode code 217 = .ok (.if_icmp .ne 16, 3) := by decide +kernel
theorem od_0_220 : decode code 220 = .ok (.aload 7, 2) := by decide +kernel
theorem od_0_222 : decode code 222 = .ok (.iconst 3, 1) := by decide +kernel
theorem od_0_223 : decode code 223 = .ok (.caload, 1) := by decide +kernel
theorem od_0_224 : decode code 224 = .ok (.bipush 110, 2) := by decide +kernel
theorem od_0_226 : decode code 226 = .ok (.if_icmp .ne 7, 3) := by decide +kernel
theorem od_0_229 : decode code 229 = .ok (.iconst 1, 1) := by decide +kernel
theorem od_0_230 : decode code 230 = .ok (.goto 4, 3) := by decide +kernel
theorem od_0_357 : decode code 357 = .ok (.aload 13, 2) := by decide +kernel
theorem od_0_359 : decode code 359 = .ok (.invokevirtual 35, 3) := by decide +kernel
theorem od_0_362 : decode code 362 = .ok (.ifCond .eq 18, 3) := by decide +kernel
theorem od_0_365 : decode code 365 = .ok (.aload 13, 2) := by decide +kernel
theorem od_0_367 : decode code 367 = .ok (.invokevirtual 41, 3) := by decide +kernel
theorem od_0_370 : decode code 370 = .ok (.getstatic 45, 3) := by decide +kernel
theorem od_0_373 : decode code 373 = .ok (.if_acmp .ne 7, 3) := by decide +kernel
theorem od_0_376 : decode code 376 = .ok (.iconst 1, 1) := by decide +kernel
theorem od_0_377 : decode code 377 = .ok (.goto 4, 3) := by decide +kernel
theorem od_0_381 : decode code 381 = .ok (.ireturn, 1) := by decide +kernel
theorem od_0_243 : decode code 243 = .ok (.aload 7, 2) := by decide +kernel
theorem od_0_245 : decode code 245 = .ok (.iconst 0, 1) := by decide +kernel
theorem od_0_246 : decode code 246 = .ok (.caload, 1) := by decide +kernel
theorem od_0_247 : decode code 247 = .ok (.bipush 104, 2) := by decide +kernel
theorem od_0_249 : decode code 249 = .ok (.if_icmp .ne 62, 3) := by decide +kernel
theorem od_0_252 : decode code 252 = .ok (.aload 7, 2) := by decide +kernel
theorem od_0_254 : decode code 254 = .ok (.iconst 1, 1) := by decide +kernel
theorem od_0_255 : decode code 255 = .ok (.caload, 1) := by decide +kernel
theorem od_0_256 : decode code 256 = .ok (.bipush 97, 2) := by decide +kernel
theorem od_0_258 : decode code 258 = .ok (.if_icmp .ne 53, 3) := by decide +kernel
theorem od_0_261 : decode code 261 = .ok (.aload 7, 2) := by decide +kernel
theorem od_0_263 : decode code 263 = .ok (.iconst 2, 1) := by decide +kernel
theorem od_0_264 : decode code 264 = .ok (.caload, 1) := by decide +kernel
theorem od_0_265 : decode code 265 = .ok (.bipush 108, 2) := by decide +kernel
theorem od_0_267 : decode code 267 = .ok (.if_icmp .ne 44, 3) := by decide +kernel
theorem od_0_270 : decode code 270 = .ok (.aload 7, 2) := by decide +kernel
theorem od_0_272 : decode code 272 = .ok (.iconst 3, 1) := by decide +kernel
theorem od_0_273 : decode code 273 = .ok (.caload, 1) := by decide +kernel
theorem od_0_274 : decode code 274 = .ok (.bipush 102, 2) := by decide +kernel
theorem od_0_276 : decode code 276 = .ok (.if_icmp .ne 35, 3) := by decide +kernel
theorem od_0_279 : decode code 279 = .ok (.aload 7, 2) := by decide +kernel
theorem od_0_281 : decode code 281 = .ok (.iconst 4, 1) := by decide +kernel
theorem od_0_282 : decode code 282 = .ok (.caload, 1) := by decide +kernel
theorem od_0_283 : decode code 283 = .ok (.bipush 45, 2) := by decide +kernel
theorem od_0_285 : decode code 285 = .ok (.if_icmp .ne 26, 3) := by decide +kernel
theorem od_0_288 : decode code 288 = .ok (.aload 7, 2) := by decide +kernel
theorem od_0_290 : decode code 290 = .ok (.iconst 5, 1) := by decide +kernel
theorem od_0_291 : decode code 291 = .ok (.caload, 1) := by decide +kernel
theorem od_0_292 : decode code 292 = .ok (.bipush 117, 2) := by decide +kernel
theorem od_0_294 : decode code 294 = .ok (.if_icmp .ne 17, 3) := by decide +kernel
theorem od_0_297 : decode code 297 = .ok (.aload 7, 2) := by decide +kernel
theorem od_0_299 : decode code 299 = .ok (.bipush 6, 2) := by decide +kernel
theorem od_0_301 : decode code 301 = .ok (.caload, 1) := by decide +kernel
theorem od_0_302 : decode code 302 = .ok (.bipush 112, 2) := by decide +kernel
theorem od_0_304 : decode code 304 = .ok (.if_icmp .ne 7, 3) := by decide +kernel
theorem od_0_307 : decode code 307 = .ok (.iconst 1, 1) := by decide +kernel
theorem od_0_308 : decode code 308 = .ok (.goto 4, 3) := by decide +kernel
theorem od_0_387 : decode code 387 = .ok (.aload 13, 2) := by decide +kernel
theorem od_0_389 : decode code 389 = .ok (.invokevirtual 35, 3) := by decide +kernel
theorem od_0_392 : decode code 392 = .ok (.ifCond .eq 18, 3) := by decide +kernel
theorem od_0_395 : decode code 395 = .ok (.aload 13, 2) := by decide +kernel
theorem od_0_397 : decode code 397 = .ok (.invokevirtual 41, 3) := by decide +kernel
theorem od_0_400 : decode code 400 = .ok (.getstatic 49, 3) := by decide +kernel
theorem od_0_403 : decode code 403 = .ok (.if_acmp .ne 7, 3) := by decide +kernel
theorem od_0_406 : decode code 406 = .ok (.iconst 1, 1) := by decide +kernel
theorem od_0_407 : decode code 407 = .ok (.goto 4, 3) := by decide +kernel
theorem od_0_411 : decode code 411 = .ok (.ireturn, 1) := by decide +kernel
theorem od_0_151 : decode code 151 = .ok (.iload 4, 2) := by decide +kernel
theorem od_0_153 : decode code 153 = .ok (.iconst 3, 1) := by decide +kernel
theorem od_0_154 : decode code 154 = .ok (.if_icmp .eq 18, 3) := by decide +kernel
theorem od_0_172 : decode code 172 = .ok (.iload_n 0, 1) := by decide +kernel
theorem od_0_173 : decode code 173 = .ok (.bipush 7, 2) := by decide +kernel
theorem od_0_175 : decode code 175 = .ok (.iand, 1) := by decide +kernel
theorem od_0_157 : decode code 157 = .ok (.iload_n 3, 1) := by decide +kernel
theorem od_0_158 : decode code 158 = .ok (.bipush 32, 2) := by decide +kernel
theorem od_0_160 : decode code 160 = .ok (.iand, 1) := by decide +kernel
theorem od_0_161 : decode code 161 = .ok (.ifCond .ne 11, 3) := by decide +kernel
theorem od_0_164 : decode code 164 = .ok (.aload 5, 2) := by decide +kernel
theorem od_0_166 : decode code 166 = .ok (.invokevirtual 19, 3) := by decide +kernel
theorem od_0_169 : decode code 169 = .ok (.goto 7, 3) := by decide +kernel
theorem od_0_5 : decode code 5 = .ok (.iload 4, 2) := by decide +kernel
theorem od_0_7 : decode code 7 = .ok (.ifCond .ne 8, 3) := by decide +kernel
theorem od_0_10 : decode code 10 = .ok (.ldc 7, 2) := by decide +kernel
theorem od_0_12 : decode code 12 = .ok (.goto 16, 3) := by decide +kernel
theorem od_0_15 : decode code 15 = .ok (.iload 4, 2) := by decide +kernel
theorem od_0_17 : decode code 17 = .ok (.iconst 1, 1) := by decide +kernel
theorem od_0_18 : decode code 18 = .ok (.if_icmp .ne 8, 3) := by decide +kernel
theorem od_0_21 : decode code 21 = .ok (.ldc 9, 2) := by decide +kernel
theorem od_0_23 : decode code 23 = .ok (.goto 5, 3) := by decide +kernel
theorem od_0_26 : decode code 26 = .ok (.ldc 11, 2) := by decide +kernel
theorem opd_0 : parseMethodDescriptor "([CIILjava/lang/Void;)V" = some ⟨[(.array .char), .int, .int, (.object "java/lang/Void")], none⟩ := by decide +kernel
theorem opd_1 : parseMethodDescriptor "(Ljava/lang/Object;)Ljava/lang/Object;" = some ⟨[(.object "java/lang/Object")], some (.object "java/lang/Object")⟩ := by decide +kernel
theorem opd_2 : parseMethodDescriptor "(Ljava/lang/Object;)V" = some ⟨[(.object "java/lang/Object")], none⟩ := by decide +kernel
theorem opd_3 : parseMethodDescriptor "()[Lcom/example/vestledger/vestledger/number/Rounding;" = some ⟨[], some (.array (.object "com/example/vestledger/vestledger/number/Rounding"))⟩ := by decide +kernel
theorem opd_4 : parseMethodDescriptor "(Ljava/lang/Object;)Z" = some ⟨[(.object "java/lang/Object")], some .boolean⟩ := by decide +kernel
theorem opd_5 : parseMethodDescriptor "(Ljava/lang/Object;)Ljava/util/Optional;" = some ⟨[(.object "java/lang/Object")], some (.object "java/util/Optional")⟩ := by decide +kernel
theorem opd_6 : parseMethodDescriptor "()Ljava/util/Optional;" = some ⟨[], some (.object "java/util/Optional")⟩ := by decide +kernel
theorem opd_7 : parseMethodDescriptor "()I" = some ⟨[], some .int⟩ := by decide +kernel
theorem opd_8 : parseMethodDescriptor "(I)C" = some ⟨[.int], some .char⟩ := by decide +kernel
theorem opd_9 : parseMethodDescriptor "([C)V" = some ⟨[(.array .char)], none⟩ := by decide +kernel
theorem opd_10 : parseMethodDescriptor "(ILjava/lang/String;IIJ)C" = some ⟨[.int, (.object "java/lang/String"), .int, .int, .long], some .char⟩ := by decide +kernel
theorem opd_11 : parseMethodDescriptor "([CI)Ljava/lang/String;" = some ⟨[(.array .char), .int], some (.object "java/lang/String")⟩ := by decide +kernel
theorem opd_12 : parseMethodDescriptor "(Ljava/lang/String;)Ljava/util/Optional;" = some ⟨[(.object "java/lang/String")], some (.object "java/util/Optional")⟩ := by decide +kernel
theorem opd_13 : parseMethodDescriptor "()Z" = some ⟨[], some .boolean⟩ := by decide +kernel
theorem opd_14 : parseMethodDescriptor "()Ljava/lang/Object;" = some ⟨[], some (.object "java/lang/Object")⟩ := by decide +kernel
theorem opn_0 : plainFor ({ cls := "java/lang/String", name := "<init>", desc := "([CIILjava/lang/Void;)V" } : Jvm.MethodName) = true := by decide +kernel
theorem opn_1 : plainFor ({ cls := "java/lang/String", name := "<init>", desc := "([C)V" } : Jvm.MethodName) = true := by decide +kernel
theorem opn_2 : plainFor ({ cls := "java/util/Objects", name := "requireNonNull", desc := "(Ljava/lang/Object;)Ljava/lang/Object;" } : Jvm.MethodName) = true := by decide +kernel
theorem opn_3 : plainFor ({ cls := "java/util/Optional", name := "<init>", desc := "(Ljava/lang/Object;)V" } : Jvm.MethodName) = true := by decide +kernel
theorem opn_4 : plainFor ({ cls := "java/util/Optional", name := "of", desc := "(Ljava/lang/Object;)Ljava/util/Optional;" } : Jvm.MethodName) = true := by decide +kernel
theorem opn_5 : plainFor ({ cls := "java/util/Optional", name := "empty", desc := "()Ljava/util/Optional;" } : Jvm.MethodName) = true := by decide +kernel
theorem opn_6 : plainFor ({ cls := "java/util/Optional", name := "isPresent", desc := "()Z" } : Jvm.MethodName) = true := by decide +kernel
theorem opn_7 : plainFor ({ cls := "java/util/Optional", name := "get", desc := "()Ljava/lang/Object;" } : Jvm.MethodName) = true := by decide +kernel
theorem opn_8 : plainFor ({ cls := "com/example/vestledger/vestledger/number/Rounding", name := "values", desc := "()[Lcom/example/vestledger/vestledger/number/Rounding;" } : Jvm.MethodName) = true := by decide +kernel
theorem opn_9 : plainFor ({ cls := "com/example/vestledger/vestledger/number/Rounding", name := "named", desc := "(Ljava/lang/String;)Ljava/util/Optional;" } : Jvm.MethodName) = true := by decide +kernel
theorem opn_10 : plainFor ({ cls := "com/example/vestledger/vestledger/number/RoundingNamedPinLaw", name := "pick", desc := "(ILjava/lang/String;IIJ)C" } : Jvm.MethodName) = true := by decide +kernel
theorem opn_11 : plainFor ({ cls := "com/example/vestledger/vestledger/number/RoundingNamedPinLaw", name := "str", desc := "([CI)Ljava/lang/String;" } : Jvm.MethodName) = true := by decide +kernel
theorem opn_12 : plainFor ({ cls := "com/example/vestledger/vestledger/number/RoundingNamedPinLaw", name := "law", desc := "(IJI)Z" } : Jvm.MethodName) = true := by decide +kernel
theorem own_init {l : Launch} {Z : State} {a0 : Array Value} (hw : HW Z a0) {h : Heap} (hO : Old Z Z.heap.size h) {x b : Addr} {kC : ClassId} {cs : List Int32} {d v0 c0 : Value} {N : Int32} {n : Nat} (hx0 : Z.heap.size ≤ x) (E : Exa Z h x "java/lang/String") (Vf : Fld Z h x "java/lang/String" "value" "[B" v0) (C : Fld Z h x "java/lang/String" "coder" "B" c0)
    (K : Arv Z h b kC .char N (cs.map Value.int) d) (hn : cs.length = n) (hN : N = Int32.ofNat n) (l0 : 0 < n) (l2 : n ≤ 4000) (hp : ∀ c ∈ cs, ¬ c < 0 ∧ ¬ (255 : Int32) < c) :
    Pay l Z EL0 nw0 ⟨"java/lang/String", "<init>", "([C)V"⟩ 3 4 65 1 n [.ref x, .ref b] h [x] (fun v h' M' => v = none ∧ M' = [] ∧ Keep h h' [x] ∧ ∃ t, h.size ≤ t ∧ Str8 Z h' x t cs) := by
  obtain ⟨z, S, hz⟩ := hw.2.1.1
  refine Pay.of_back (a0 := a0) (own_ew hw) hO (fun R p e below s args Wd hZ hfr hlo => StrChars.Road.backV hZ (fun q hq => hw.1 q ((by decide +kernel : ∀ d ∈ StrChars.Road.words, d ∈ tables_1) q hq)) (kI := 4) (own_wS hw) (n0 := Z.heap.size) hx0 hO.2.1 E Vf C K (S.ext hO.2) hz hn hN l0 l2 hp rfl hfr hlo) (ws := [x]) (mC mem0 mN) (fun v h' L q => ?_)
  obtain ⟨rfl, N1, K1, E1, C1, t, kb, -, b2, -, V1, A1⟩ := q
  subst hN hn
  exact ⟨⟨rfl, rfl, K1, t, b2, E1, C1, V1, ⟨kb, A1⟩, hp, l2⟩, N1, K1⟩
theorem own_len {l : Launch} {Z : State} {a0 : Array Value} (hw : HW Z a0) {h : Heap} (hO : Old Z Z.heap.size h) {x t : Addr} {cs : List Int32} (F : Str8 Z h x t cs) :
    Pay l Z EL0 nw0 ⟨"java/lang/String", "length", "()I"⟩ 3 2 25 0 0 [.ref x] h [] (fun v h' M' => v = some (.int (Int32.ofNat cs.length)) ∧ M' = [] ∧ h' = h) := by
  obtain ⟨z, S, hz⟩ := hw.2.1.1
  obtain ⟨E, C, Vf, ⟨kb, A⟩, hp, l2⟩ := F
  refine Pay.of_back (a0 := a0) (Q' := fun v h' L => v = some (.int (Int32.ofNat cs.length)) ∧ L = [] ∧ h' = h) (own_ew hw) hO (fun R p e below s args Wd hZ hfr hlo => StrChars.Road.lenW hZ (fun q hq => hw.1 q ((by decide +kernel : ∀ d ∈ StrChars.Road.wordsLen, d ∈ tables_1) q hq)) (kI := 4) (own_wS hw) E Vf C A (StrChars.Road.codOf rfl (fun c hc => (hp c hc).2)) (up16 cs hp) (S.ext hO.2) hz l2 hfr hlo) (ws := []) mN (fun v h' L q => ?_)
  obtain ⟨rfl, rfl, rfl⟩ := q
  exact ⟨⟨rfl, rfl, rfl⟩, Fr.nil _, Keep.refl _ _⟩
theorem own_chr {l : Launch} {Z : State} {a0 : Array Value} (hw : HW Z a0) {h : Heap} (hO : Old Z Z.heap.size h) {x t : Addr} {cs : List Int32} (F : Str8 Z h x t cs) {i : Nat} {j : Int32} (hi : i < cs.length) (hj : j = Int32.ofNat i) :
    Pay l Z EL0 nw0 ⟨"java/lang/String", "charAt", "(I)C"⟩ 3 4 53 0 0 [.ref x, .int j] h [] (fun v h' M' => v = some (.int (cs.getD i 0)) ∧ M' = [] ∧ h' = h) := by
  obtain ⟨⟨z, S, hz⟩, f, Sf, rf⟩ := hw.2.1
  obtain ⟨E, C, Vf, ⟨kb, A⟩, hp, l2⟩ := F
  refine Pay.of_back (a0 := a0) (Q' := fun v h' L => v = some (.int (cs.getD i 0)) ∧ L = [] ∧ h' = h) (own_ew hw) hO (fun R p e below s args Wd hZ hfr hlo => StrChars.Road.chN hZ (fun q hq => hw.1 q ((by decide +kernel : ∀ d ∈ StrChars.Road.wordsChN, d ∈ tables_1) q hq)) (kI := 4) (own_wS hw) E Vf C A (StrChars.Road.codOf rfl (fun c hc => (hp c hc).2)) (up16 cs hp) (S.ext hO.2) hz (Sf.ext hO.2) rf l2 hi hj hfr hlo) (ws := []) mN (fun v h' L q => ?_)
  obtain ⟨rfl, rfl, rfl⟩ := q
  exact ⟨⟨rfl, rfl, rfl⟩, Fr.nil _, Keep.refl _ _⟩
theorem own_eq {l : Launch} {Z : State} {a0 : Array Value} (hw : HW Z a0) {h : Heap} (hO : Old Z Z.heap.size h) {x t y u : Addr} {cs ds : List Int32} (F : Str8 Z h x t cs) (G : Str8 Z h y u ds) :
    Pay l Z EL0 nw0 ⟨"java/lang/String", "equals", "(Ljava/lang/Object;)Z"⟩ 3 2 28 0 0 [.ref x, .ref y] h [] (fun v h' M' => v = some (.int (if cs = ds then 1 else 0)) ∧ M' = [] ∧ h' = h) := by
  obtain ⟨z, S, hz⟩ := hw.2.1.1
  obtain ⟨E, C, Vf, ⟨kb, A⟩, hp, l2⟩ := F
  obtain ⟨E', C', Vf', ⟨kb', A'⟩, hp', l2'⟩ := G
  refine Pay.of_back (a0 := a0) (Q' := fun v h' L => ((v = some (.int 1) ∧ cs = ds) ∨ (v = some (.int 0) ∧ ¬ cs = ds)) ∧ L = [] ∧ h' = h) (own_ew hw) hO (fun R p e below s args Wd hZ hfr hlo => StrChars.Road.eqW hZ (fun q hq => hw.1 q ((by decide +kernel : ∀ d ∈ StrChars.Road.wordsEq, d ∈ tables_1) q hq)) (kI := 4) (own_wS hw) E Vf C A (StrChars.Road.codOf rfl (fun c hc => (hp c hc).2)) (up16 cs hp) l2 E' Vf' C' A' (StrChars.Road.codOf rfl (fun c hc => (hp' c hc).2)) (up16 ds hp') l2' (S.ext hO.2) hz hfr hlo) (ws := []) mN (fun v h' L q => ?_)
  obtain ⟨q, rfl, rfl⟩ := q
  refine ⟨⟨?_, rfl, rfl⟩, Fr.nil _, Keep.refl _ _⟩
  rcases q with ⟨rfl, q⟩ | ⟨rfl, q⟩
  · rw [if_pos q]
  · rw [if_neg q]
section Nums
theorem n_val {a : Nat} (h : a < 2147483648) : (Int32.ofNat a).toInt = a := Int32.toInt_ofNat_of_lt h
theorem n_add (a b : Nat) : Int32.ofNat a + Int32.ofNat b = Int32.ofNat (a + b) := by
  apply Int32.toBitVec_inj.mp
  show BitVec.ofNat 32 a + BitVec.ofNat 32 b = BitVec.ofNat 32 (a + b)
  rw [BitVec.ofNat_add]
theorem n_sub {a b : Nat} (h : b ≤ a) : Int32.ofNat a - Int32.ofNat b = Int32.ofNat (a - b) := by
  have e := n_add (a - b) b
  rw [Nat.sub_add_cancel h] at e
  rw [← e, Int32.add_sub_cancel]
theorem n_lt {a b : Nat} (ha : a < 2147483648) (hb : b < 2147483648) : (Int32.ofNat a < Int32.ofNat b) ↔ a < b := by
  rw [Int32.lt_iff_toInt_lt, n_val ha, n_val hb]; omega
theorem n_eq {a b : Nat} (ha : a < 2147483648) (hb : b < 2147483648) : (Int32.ofNat a = Int32.ofNat b) ↔ a = b := by
  rw [← Int32.toInt_inj, n_val ha, n_val hb]; omega
theorem n_nat {a : Nat} (ha : a < 2147483648) : (Int32.ofNat a).toNatClampNeg = a := by
  simp only [Int32.toNatClampNeg, n_val ha]; omega
theorem n_nn {a : Nat} (ha : a < 2147483648) : ¬ Int32.ofNat a < 0 := by
  have e : (0 : Int32).toInt = 0 := rfl
  rw [Int32.lt_iff_toInt_lt, n_val ha, e]; omega
theorem n_in {a b : Nat} (h : a < b) (hb : b < 2147483648) : ¬ Int32.ofNat a < 0 ∧ Int32.ofNat a < Int32.ofNat b := ⟨n_nn (by omega), (n_lt (by omega) hb).mpr h⟩
theorem shl00 (x : Int32) : x <<< ((0 : Int32) &&& 31) = x := by
  have e : (0 : Int32) &&& 31 = 0 := by decide
  rw [e]; apply Int32.toBitVec_inj.mp; simp
theorem shr00 (x : Int32) : x >>> ((0 : Int32) &&& 31) = x := by
  have e : (0 : Int32) &&& 31 = 0 := by decide
  rw [e]; apply Int32.toBitVec_inj.mp; simp
end Nums
theorem lat_fin {c : Int32} (h : ¬ c < 0 ∧ ¬ (255 : Int32) < c) : ∃ k : Fin 256, c = Int32.ofNat k.val := by
  have e0 : (0 : Int32).toInt = 0 := rfl
  have e1 : (255 : Int32).toInt = 255 := rfl
  rw [Int32.lt_iff_toInt_lt, Int32.lt_iff_toInt_lt, e0, e1] at h
  refine ⟨⟨c.toInt.toNat, by omega⟩, ?_⟩
  apply Int32.toInt_inj.mp
  rw [Int32.toInt_ofNat_of_lt (by show c.toInt.toNat < 2 ^ 31; omega)]
  show c.toInt = (c.toInt.toNat : Int)
  omega
theorem l255 (x : Int64) : ¬ (x &&& 255).toInt32 < 0 ∧ ¬ (255 : Int32) < (x &&& 255).toInt32 := by
  have q := c_maskL x 255 8 (by decide) (by decide)
  have q2 := c_l2i (x &&& 255)
  have r := rng32 (x &&& 255).toInt32
  have e0 : (0 : Int32).toInt = 0 := rfl
  have e1 : (255 : Int32).toInt = 255 := rfl
  rw [Int32.lt_iff_toInt_lt, Int32.lt_iff_toInt_lt, e0, e1]
  have : ((2 ^ 8 : Nat) : Int) = 256 := rfl
  rw [this] at q
  omega
theorem i2c_lat {c : Int32} (h : ¬ c < 0 ∧ ¬ (255 : Int32) < c) : c.toUInt32.toUInt16.toUInt32.toInt32 = c := by
  obtain ⟨k, rfl⟩ := lat_fin h
  revert k
  decide +kernel
theorem nar_lat {c : Int32} (h : ¬ c < 0 ∧ ¬ (255 : Int32) < c) : nar .char c = c := i2c_lat h
theorem getD_lat {ws : List Int32} (h : ∀ c ∈ ws, ¬ c < 0 ∧ ¬ (255 : Int32) < c) {i : Nat} (hi : i < ws.length) : ¬ ws.getD i 0 < 0 ∧ ¬ (255 : Int32) < ws.getD i 0 := by
  have e : ws.getD i 0 = ws[i] := by simp [List.getD_eq_getElem?_getD, hi]
  rw [e]; exact h _ (List.getElem_mem _)
theorem and7 (x : Int32) : (x &&& 7) = 0 ∨ (x &&& 7) = 1 ∨ (x &&& 7) = 2 ∨ (x &&& 7) = 3 ∨ (x &&& 7) = 4 ∨ (x &&& 7) = 5 ∨ (x &&& 7) = 6 ∨ (x &&& 7) = 7 := by
  have h := c_and x 7 (by decide)
  have e7 : (7 : Int32).toInt = 7 := rfl
  rw [e7] at h
  have t : ∀ k : Fin 8, (Int32.ofNat k.val) = 0 ∨ (Int32.ofNat k.val) = 1 ∨ (Int32.ofNat k.val) = 2 ∨ (Int32.ofNat k.val) = 3 ∨ (Int32.ofNat k.val) = 4 ∨ (Int32.ofNat k.val) = 5 ∨ (Int32.ofNat k.val) = 6 ∨ (Int32.ofNat k.val) = 7 := by decide +kernel
  have e : (x &&& 7) = Int32.ofNat (x &&& 7).toInt.toNat := by
    apply Int32.toInt_inj.mp
    rw [Int32.toInt_ofNat_of_lt (by omega)]
    omega
  rw [e]; exact t ⟨(x &&& 7).toInt.toNat, by omega⟩
section Start
variable {args : Array Value} {first s : State} {o : Option Outcome} {idx : List Nat} {a b t : Term}
theorem eqI_v {k : Int32} (h : (Jvm.Cond.eq a (Term.int k)).value args first o s idx = some true) : a.eval args first o idx s = some (.int k) := by
  simp only [Cond.value, Term.eval] at h
  cases ha : a.eval args first o idx s with
  | none => simp [ha] at h
  | some x => cases x <;> simp [ha] at h ⊢; exact h
theorem eqR_v {x : Addr} (h : (Jvm.Cond.eq a b).value args first o s idx = some true) (hb : b.eval args first o idx s = some (.ref x)) : a.eval args first o idx s = some (.ref x) := by
  simp only [Cond.value, hb] at h
  cases ha : a.eval args first o idx s with
  | none => simp [ha] at h
  | some y => cases y <;> simp [ha] at h ⊢; exact h
theorem lenI_v {k : Int32} {x : Addr} {cl : Cell} {ty : FieldType} (h : (Term.length t).eval args s o idx s = some (.int k)) (ht : t.eval args s o idx s = some (.ref x)) (A : Arr s s.heap x cl ty) : cl.slots.size < 2 ^ 31 ∧ cl.slots.size.toInt32 = k := by
  have ha := A.fin (U := s) (Vm.Alike.refl _)
  simp only [Term.eval, ht, Option.bind_eq_bind, Option.bind_some, ha] at h
  split at h
  · rename_i q
    exact ⟨q, by simpa using h⟩
  · cases h
theorem elI_v {j : Int32} {v : Value} {x : Addr} {cl : Cell} {ty : FieldType} (h : (Term.elem t (Term.int j)).eval args s o idx s = some v) (ht : t.eval args s o idx s = some (.ref x)) (A : Arr s s.heap x cl ty) {i : Nat} (hi : j.toNatClampNeg = i) : cl.slots[i]? = some v := by
  subst hi
  exact (elem_in h ht rfl A.1).2
end Start
set_option maxRecDepth 65536 in
set_option maxHeartbeats 40000000 in
theorem c_init4 {l : Launch} {Z : State} {a0 : Array Value} (hw : HW Z a0) {h0 : Heap} {x0 b1 : Addr} {v0 c0 : Value} (E_x0 : Exa Z h0 x0 "java/lang/String") (F_v : Fld Z h0 x0 "java/lang/String" "value" "[B" v0) (F_c : Fld Z h0 x0 "java/lang/String" "coder" "B" c0) (hO : Old Z Z.heap.size h0) : Ctr l Z EL0 nw0 ({ cls := "java/lang/String", name := "<init>", desc := "([CIILjava/lang/Void;)V" } : Jvm.MethodName) jdk_42_method_149_code 6 none ({ frames := 1, cells := 4, slots := 8, locals := 12 } : Room) [.ref x0, .ref b1, .int 0, .int 0, .null] h0 [x0] (fun v h M' => v = none ∧ M' = [] ∧ Keep h0 h [x0] ∧ ∃ t, Str8 Z h x0 t [] ∧ ∀ x ∈ [x0], x ≠ t) := by
  refine of_body (a0 := a0) opn_0 (own_ew hw) hO (Ls := #[.val (.ref x0), .val (.ref b1), .val (.int (0 : Int32)), .val (.int (0 : Int32)), .val .null, .unset]) (fun m => by first | rfl | (simp [entryFrame, mkF, argsToLocals, Value.category]; done)) (fun κ T0 w0 hnm => ?_)
  refine W.aloadN w0 od_11_0 (pc' := 1) rfl rfl rfl ?_
  refine W.initO w0 (ow_60 hw) (ow_61 hw) (ow_62 hw) od_11_1 (pc' := 4) rfl rfl (by decide) (Wd := 0) rfl (by decide) fun T1 w2 => ?_
  refine W.iloadN w2 od_11_4 (pc' := 5) rfl rfl ?_
  refine W.ifNo w2 od_11_5 (pc' := 8) rfl ((if0 _ _).trans (teq (by decide : (0 : Int32) = (0 : Int32))).2) ?_
  refine W.aloadN w2 od_11_8 (pc' := 9) rfl rfl rfl ?_
  refine W.ldcS w2 rfl (ow_140 hw) (own_sA hw) (List.mem_of_getElem? (i := 3) rfl) (vs := []) (z := (0 : Int32)) ⟨by decide, by decide⟩ (by decide) (by decide) od_11_9 (pc' := 11) rfl (n := 0) (by decide) (by decide) (by decide) (by decide) fun T3 h4 a5 a6 k7 w8 K9 E10 F11 F12 V13 Q14 => ?_
  have ne15 : x0 ≠ a5 := (Q14 x0 mem0).1
  have ne16 : x0 ≠ a6 := (Q14 x0 mem0).2
  have F17 : Str8 Z h4 a5 a6 [] := ⟨E10, F11, F12, ⟨_, V13⟩, by decide, by decide⟩
  refine W.getF w8 (host := "") (Or.inl (ow_19 hw)) Via.refl F12 od_11_11 (pc' := 14) rfl fun T18 w19 => ?_
  have f20 := (F_v.keep K9 nin0)
  have f21 := (E_x0.keep K9)
  refine W.putF w19 (host := "") (Or.inl (ow_19 hw)) Via.refl f20 f21 (Or.inr ⟨(ow_4 hw), rfl, hnm⟩) (ow_2 hw) (ty := (.array .byte)) (by decide) rfl rfl mem0 od_11_14 (pc' := 17) rfl fun T22 h23 w24 W25 => ?_
  have f26 := (F_c.keep K9 nin0)
  have F27 := f26.other W25 (Or.inr (slot_ne (Or.inr (ow_5 hw)) (Or.inr (ow_4 hw)) (by decide) (t := .byte) (t' := (.array .byte)) (by decide) (by decide)))
  have F28 := f20.same W25
  have K29 := Keep.of_wr W25
  refine W.aloadN w24 od_11_17 (pc' := 18) rfl rfl rfl ?_
  refine W.ldcS w24 rfl (ow_140 hw) (own_sA hw) (List.mem_of_getElem? (i := 3) rfl) (vs := []) (z := (0 : Int32)) ⟨by decide, by decide⟩ (by decide) (by decide) od_11_18 (pc' := 20) rfl (n := 0) (by decide) (by decide) (by decide) (by decide) fun T30 h31 a32 a33 k34 w35 K36 E37 F38 F39 V40 Q41 => ?_
  have ne42 : x0 ≠ a32 := (Q41 x0 mem0).1
  have ne43 : x0 ≠ a33 := (Q41 x0 mem0).2
  have F44 : Str8 Z h31 a32 a33 [] := ⟨E37, F38, F39, ⟨_, V40⟩, by decide, by decide⟩
  refine W.getF w35 (host := "") (Or.inl (ow_26 hw)) Via.refl F38 od_11_20 (pc' := 23) rfl fun T45 w46 => ?_
  have f47 := (F27.keep K36 nin0)
  have f48 := ((f21.keep K29).keep K36)
  refine W.putFN w46 (ow_26 hw) Via.refl f47 f48 (Or.inr ⟨(ow_5 hw), rfl, hnm⟩) (ow_2 hw) (ty := .byte) (v' := (.int (0 : Int32))) (by decide) rfl rfl mem0 od_11_23 (pc' := 26) rfl fun T49 h50 w51 W52 => ?_
  have f53 := (F28.keep K36 nin0)
  have F54 := f53.other W52 (Or.inr (slot_ne (Or.inr (ow_4 hw)) (Or.inr (ow_5 hw)) (by decide) (t := (.array .byte)) (t' := .byte) (by decide) (by decide)))
  have F55 := f47.same W52
  have K56 := Keep.of_wr W52
  have C57 := Keep.refl h0 [x0]
  have C58 := C57.trans K9 RoadKit.all0
  have C59 := C58.trans K29 (allS (Or.inl mem0) RoadKit.all0)
  have C60 := C59.trans K36 RoadKit.all0
  have C61 := C60.trans K56 (allS (Or.inl mem0) RoadKit.all0)
  have f62 := (((V13.keep K29 (ninS (Ne.symm ne16) nin0)).keep K36 nin0).keep K56 (ninS (Ne.symm ne16) nin0))
  have f63 := (f48.keep K56)
  exact W.ret0 w51 rfl od_11_26 (M' := []) mN (by decide) (by decide) ⟨rfl, rfl, C61, a6, ⟨f63, F55, F54, ⟨_, f62⟩, by decide, by decide⟩, allS ne16 RoadKit.all0⟩
set_option maxRecDepth 65536 in
set_option maxHeartbeats 40000000 in
theorem c_init0 {l : Launch} {Z : State} {a0 : Array Value} (hw : HW Z a0) {h0 : Heap} {x0 b1 : Addr} {v0 c0 : Value} (E_x0 : Exa Z h0 x0 "java/lang/String") (F_v : Fld Z h0 x0 "java/lang/String" "value" "[B" v0) (F_c : Fld Z h0 x0 "java/lang/String" "coder" "B" c0) {k1 : ClassId} (V_b : Arv Z h0 b1 k1 .char (0 : Int32) [] (.int (0 : Int32))) (hO : Old Z Z.heap.size h0) : Ctr l Z EL0 nw0 ({ cls := "java/lang/String", name := "<init>", desc := "([C)V" } : Jvm.MethodName) jdk_42_method_3_code 2 none ({ frames := 2, cells := 4, slots := 8, locals := 29 } : Room) [.ref x0, .ref b1] h0 [x0] (fun v h M' => v = none ∧ M' = [] ∧ Keep h0 h [x0] ∧ ∃ t, Str8 Z h x0 t [] ∧ ∀ x ∈ [x0], x ≠ t) := by
  refine of_body (a0 := a0) opn_1 (own_ew hw) hO (Ls := #[.val (.ref x0), .val (.ref b1)]) (fun m => by first | rfl | (simp [entryFrame, mkF, argsToLocals, Value.category]; done)) (fun κ T0 w0 hnm => ?_)
  refine W.aloadN w0 od_10_0 (pc' := 1) rfl rfl rfl ?_
  refine W.aloadN w0 od_10_1 (pc' := 2) rfl rfl rfl ?_
  refine W.iconst w0 od_10_2 (pc' := 3) rfl (z := (0 : Int32)) rfl ?_
  refine W.aloadN w0 od_10_3 (pc' := 4) rfl rfl rfl ?_
  refine W.alen w0 V_b od_10_4 (pc' := 5) rfl ?_
  refine W.aconstNull w0 od_10_5 (pc' := 6) rfl ?_
  refine W.callI w0 (ow_56 hw) (ow_57 hw) (ow_59 hw) rfl (by decide) opd_0 (Ctr.pay (c_init4 hw E_x0 F_v F_c w0.old) (own_ew hw) (ow_59 hw) (ow_1 hw) (kf := 2) (kl := 29) (by decide) (by decide)) (mC mem0 mN) od_10_6 (pc' := 9) rfl rfl rfl (rest := []) rfl (Wd := 0) rfl (by decide) (by decide) (by decide) (by decide) fun v3 T1 h2 M4 w5 q6 => ?_
  obtain ⟨rfl, rfl, K7, t8, F9, N10⟩ := q6
  show Go Z _ _ _ κ _ (T1.setTop (mkF (km κ) 9 #[.val (.ref x0), .val (.ref b1)] []))
  have C11 := Keep.refl h0 [x0]
  have C12 := C11.trans K7 (allS (Or.inl mem0) RoadKit.all0)
  exact W.ret0 w5 rfl od_10_9 (M' := []) mN (by decide) (by decide) ⟨rfl, rfl, C12, t8, F9, N10⟩
set_option maxRecDepth 65536 in
set_option maxHeartbeats 40000000 in
theorem c_rnn1 {l : Launch} {Z : State} {a0 : Array Value} (hw : HW Z a0) {h0 : Heap} {x1 : Addr} (hO : Old Z Z.heap.size h0) : Ctr l Z EL0 nw0 ({ cls := "java/util/Objects", name := "requireNonNull", desc := "(Ljava/lang/Object;)Ljava/lang/Object;" } : Jvm.MethodName) jdk_31_method_10_code 1 (some (.object "java/lang/Object")) ({ frames := 0, cells := 0, slots := 0, locals := 0 } : Room) [.ref x1] h0 [] (fun v h M' => v = some (.ref x1) ∧ M' = [] ∧ h = h0) := by
  refine of_body (a0 := a0) opn_2 (own_ew hw) hO (Ls := #[.val (.ref x1)]) (fun m => by first | rfl | (simp [entryFrame, mkF, argsToLocals, Value.category]; done)) (fun κ T0 w0 hnm => ?_)
  refine W.aloadN w0 od_23_0 (pc' := 1) rfl rfl rfl ?_
  refine W.ifnonnullYes w0 od_23_1 (pc' := 12) (by decide) (by decide) ?_
  refine W.aloadN w0 od_23_12 (pc' := 13) rfl rfl rfl ?_
  exact W.retR w0 rfl rfl rfl od_23_13 (M' := []) mN (by decide) (by decide) ⟨rfl, rfl, rfl⟩
set_option maxRecDepth 65536 in
set_option maxHeartbeats 40000000 in
theorem c_opinit {l : Launch} {Z : State} {a0 : Array Value} (hw : HW Z a0) {h0 : Heap} {o x1 : Addr} {v0 : Value} (E_o : Exa Z h0 o "java/util/Optional") (F_o : Fld Z h0 o "java/util/Optional" "value" "Ljava/lang/Object;" v0) (hO : Old Z Z.heap.size h0) : Ctr l Z EL0 nw0 ({ cls := "java/util/Optional", name := "<init>", desc := "(Ljava/lang/Object;)V" } : Jvm.MethodName) jdk_32_method_2_code 2 none ({ frames := 1, cells := 0, slots := 0, locals := 12 } : Room) [.ref o, .ref x1] h0 [o] (fun v h M' => v = none ∧ M' = [] ∧ Keep h0 h [o] ∧ Exa Z h o "java/util/Optional" ∧ Fld Z h o "java/util/Optional" "value" "Ljava/lang/Object;" (.ref x1)) := by
  refine of_body (a0 := a0) opn_3 (own_ew hw) hO (Ls := #[.val (.ref o), .val (.ref x1)]) (fun m => by first | rfl | (simp [entryFrame, mkF, argsToLocals, Value.category]; done)) (fun κ T0 w0 hnm => ?_)
  refine W.aloadN w0 od_24_0 (pc' := 1) rfl rfl rfl ?_
  refine W.initO w0 (ow_132 hw) (ow_61 hw) (ow_62 hw) od_24_1 (pc' := 4) rfl rfl (by decide) (Wd := 0) rfl (by decide) fun T1 w2 => ?_
  refine W.aloadN w2 od_24_4 (pc' := 5) rfl rfl rfl ?_
  refine W.aloadN w2 od_24_5 (pc' := 6) rfl rfl rfl ?_
  refine W.putF w2 (host := "") (Or.inl (ow_116 hw)) Via.refl F_o E_o (Or.inr ⟨(ow_117 hw), rfl, hnm⟩) (ow_123 hw) (ty := (.object "java/lang/Object")) (by decide) rfl rfl mem0 od_24_6 (pc' := 9) rfl fun T3 h4 w5 W6 => ?_
  have F7 := F_o.same W6
  have K8 := Keep.of_wr W6
  have C9 := Keep.refl h0 [o]
  have C10 := C9.trans K8 (allS (Or.inl mem0) RoadKit.all0)
  have f11 := (E_o.keep K8)
  exact W.ret0 w5 rfl od_24_9 (M' := []) mN (by decide) (by decide) ⟨rfl, rfl, C10, f11, F7⟩
set_option maxRecDepth 65536 in
set_option maxHeartbeats 40000000 in
theorem c_opof {l : Launch} {Z : State} {a0 : Array Value} (hw : HW Z a0) {h0 : Heap} {x1 : Addr} (hO : Old Z Z.heap.size h0) : Ctr l Z EL0 nw0 ({ cls := "java/util/Optional", name := "of", desc := "(Ljava/lang/Object;)Ljava/util/Optional;" } : Jvm.MethodName) jdk_32_method_3_code 1 (some (.object "java/util/Optional")) ({ frames := 2, cells := 1, slots := 1, locals := 26 } : Room) [.ref x1] h0 [] (fun v h M' => ∃ o, v = some (.ref o) ∧ M' = [] ∧ Keep h0 h [] ∧ h0.size ≤ o ∧ Exa Z h o "java/util/Optional" ∧ Fld Z h o "java/util/Optional" "value" "Ljava/lang/Object;" (.ref x1)) := by
  refine of_body (a0 := a0) opn_4 (own_ew hw) hO (Ls := #[.val (.ref x1)]) (fun m => by first | rfl | (simp [entryFrame, mkF, argsToLocals, Value.category]; done)) (fun κ T0 w0 hnm => ?_)
  refine W.newO w0 (ow_122 hw) (ow_123 hw) (ow_108 hw) od_22_0 (pc' := 3) rfl (by decide) (by decide) fun T1 h2 a3 w4 K5 B6 E7 D8 => ?_
  have F9 : Fld Z h2 a3 "java/util/Optional" "value" "Ljava/lang/Object;" .null := D8 (Or.inr (ow_117 hw)) (ty := (.object "java/lang/Object")) (by decide)
  refine W.dup w4 od_22_3 (pc' := 4) rfl rfl ?_
  refine W.aloadN w4 od_22_4 (pc' := 5) rfl rfl rfl ?_
  refine W.callS w4 (ow_124 hw) (ow_125 hw) (ow_126 hw) (ow_127 hw) (by decide) opd_1 (Ctr.pay (c_rnn1 hw w4.old) (own_ew hw) (ow_127 hw) (ow_126 hw) (kf := 1) (kl := 12) (by decide) (by decide)) mN od_22_5 (pc' := 8) rfl rfl rfl (rest := [(.ref a3), (.ref a3)]) rfl (Wd := 2) rfl (by decide) (by decide) (by decide) (by decide) fun v12 T10 h11 M13 w14 q15 => ?_
  obtain ⟨rfl, rfl, rfl⟩ := q15
  show Go Z _ _ _ κ _ (T10.setTop (mkF (km κ) 8 #[.val (.ref x1)] [(.ref x1), (.ref a3), (.ref a3)]))
  refine W.callI w14 (ow_128 hw) (ow_129 hw) (ow_131 hw) rfl (by decide) opd_2 (Ctr.pay (c_opinit hw E7 F9 w14.old) (own_ew hw) (ow_131 hw) (ow_108 hw) (kf := 2) (kl := 25) (by decide) (by decide)) (mC (memA mem0) mN) od_22_8 (pc' := 11) rfl rfl rfl (rest := [(.ref a3)]) rfl (Wd := 1) rfl (by decide) (by decide) (by decide) (by decide) fun v18 T16 h17 M19 w20 q21 => ?_
  obtain ⟨rfl, rfl, K22, E23, F24⟩ := q21
  show Go Z _ _ _ κ _ (T16.setTop (mkF (km κ) 11 #[.val (.ref x1)] [(.ref a3)]))
  have C25 := Keep.refl h0 []
  have C26 := C25.trans K5 RoadKit.all0
  have C27 := C26.trans K22 (allS (Or.inr B6) RoadKit.all0)
  exact W.retR w20 rfl rfl rfl od_22_11 (M' := []) mN (by decide) (by decide) ⟨a3, rfl, rfl, C27, B6, E23, F24⟩
set_option maxRecDepth 65536 in
set_option maxHeartbeats 40000000 in
theorem c_opempty {l : Launch} {Z : State} {a0 : Array Value} (hw : HW Z a0) {h0 : Heap} {oe : Addr} (S_e : Sta Z Z.heap "java/util/Optional" "EMPTY" "Ljava/util/Optional;" (.ref oe)) (hO : Old Z Z.heap.size h0) : Ctr l Z EL0 nw0 ({ cls := "java/util/Optional", name := "empty", desc := "()Ljava/util/Optional;" } : Jvm.MethodName) jdk_32_method_1_code 1 (some (.object "java/util/Optional")) ({ frames := 0, cells := 0, slots := 0, locals := 0 } : Room) [] h0 [] (fun v h M' => v = some (.ref oe) ∧ M' = [] ∧ h = h0) := by
  refine of_body (a0 := a0) opn_5 (own_ew hw) hO (Ls := #[.unset]) (fun m => by first | rfl | (simp [entryFrame, mkF, argsToLocals, Value.category]; done)) (fun κ T0 w0 hnm => ?_)
  refine W.getS w0 (ow_110 hw) Via.refl (S_e.ext w0.old.2) od_20_0 (pc' := 3) rfl fun T1 w2 => ?_
  refine W.astoreN w2 od_20_3 (pc' := 4) rfl (Ls' := #[.val (.ref oe)]) rfl rfl ?_
  refine W.aloadN w2 od_20_4 (pc' := 5) rfl rfl rfl ?_
  exact W.retR w2 rfl rfl rfl od_20_5 (M' := []) mN (by decide) (by decide) ⟨rfl, rfl, rfl⟩
set_option maxRecDepth 65536 in
set_option maxHeartbeats 40000000 in
theorem c_opisPresent {l : Launch} {Z : State} {a0 : Array Value} (hw : HW Z a0) {h0 : Heap} {o x1 : Addr} (F_o : Fld Z h0 o "java/util/Optional" "value" "Ljava/lang/Object;" (.ref x1)) (hO : Old Z Z.heap.size h0) : Ctr l Z EL0 nw0 ({ cls := "java/util/Optional", name := "isPresent", desc := "()Z" } : Jvm.MethodName) jdk_32_method_6_code 1 (some .boolean) ({ frames := 0, cells := 0, slots := 0, locals := 0 } : Room) [.ref o] h0 [] (fun v h M' => v = some (.int (1 : Int32)) ∧ M' = [] ∧ h = h0) := by
  refine of_body (a0 := a0) opn_6 (own_ew hw) hO (Ls := #[.val (.ref o)]) (fun m => by first | rfl | (simp [entryFrame, mkF, argsToLocals, Value.category]; done)) (fun κ T0 w0 hnm => ?_)
  refine W.aloadN w0 od_21_0 (pc' := 1) rfl rfl rfl ?_
  refine W.getF w0 (host := "") (Or.inl (ow_116 hw)) Via.refl F_o od_21_1 (pc' := 4) rfl fun T1 w2 => ?_
  refine W.ifnullNo w2 od_21_4 (pc' := 7) rfl ?_
  refine W.iconst w2 od_21_7 (pc' := 8) rfl (z := (1 : Int32)) rfl ?_
  refine W.goto w2 od_21_8 (pc' := 12) (by decide) (by decide) ?_
  exact W.retN w2 (t := .boolean) (z' := (1 : Int32)) rfl rfl (by simp) od_21_12 (M' := []) mN (by decide) (by decide) ⟨rfl, rfl, rfl⟩
set_option maxRecDepth 65536 in
set_option maxHeartbeats 40000000 in
theorem c_opisPresent0 {l : Launch} {Z : State} {a0 : Array Value} (hw : HW Z a0) {h0 : Heap} {o x1 : Addr} (F_o : Fld Z h0 o "java/util/Optional" "value" "Ljava/lang/Object;" .null) (hO : Old Z Z.heap.size h0) : Ctr l Z EL0 nw0 ({ cls := "java/util/Optional", name := "isPresent", desc := "()Z" } : Jvm.MethodName) jdk_32_method_6_code 1 (some .boolean) ({ frames := 0, cells := 0, slots := 0, locals := 0 } : Room) [.ref o] h0 [] (fun v h M' => v = some (.int (0 : Int32)) ∧ M' = [] ∧ h = h0) := by
  refine of_body (a0 := a0) opn_6 (own_ew hw) hO (Ls := #[.val (.ref o)]) (fun m => by first | rfl | (simp [entryFrame, mkF, argsToLocals, Value.category]; done)) (fun κ T0 w0 hnm => ?_)
  refine W.aloadN w0 od_21_0 (pc' := 1) rfl rfl rfl ?_
  refine W.getF w0 (host := "") (Or.inl (ow_116 hw)) Via.refl F_o od_21_1 (pc' := 4) rfl fun T1 w2 => ?_
  refine W.ifnullYes w2 od_21_4 (pc' := 11) (by decide) (by decide) ?_
  refine W.iconst w2 od_21_11 (pc' := 12) rfl (z := (0 : Int32)) rfl ?_
  exact W.retN w2 (t := .boolean) (z' := (0 : Int32)) rfl rfl (by simp) od_21_12 (M' := []) mN (by decide) (by decide) ⟨rfl, rfl, rfl⟩
set_option maxRecDepth 65536 in
set_option maxHeartbeats 40000000 in
theorem c_opget {l : Launch} {Z : State} {a0 : Array Value} (hw : HW Z a0) {h0 : Heap} {o x1 : Addr} (F_o : Fld Z h0 o "java/util/Optional" "value" "Ljava/lang/Object;" (.ref x1)) (hO : Old Z Z.heap.size h0) : Ctr l Z EL0 nw0 ({ cls := "java/util/Optional", name := "get", desc := "()Ljava/lang/Object;" } : Jvm.MethodName) jdk_32_method_5_code 1 (some (.object "java/lang/Object")) ({ frames := 0, cells := 0, slots := 0, locals := 0 } : Room) [.ref o] h0 [] (fun v h M' => v = some (.ref x1) ∧ M' = [] ∧ h = h0) := by
  refine of_body (a0 := a0) opn_7 (own_ew hw) hO (Ls := #[.val (.ref o)]) (fun m => by first | rfl | (simp [entryFrame, mkF, argsToLocals, Value.category]; done)) (fun κ T0 w0 hnm => ?_)
  refine W.aloadN w0 od_25_0 (pc' := 1) rfl rfl rfl ?_
  refine W.getF w0 (host := "") (Or.inl (ow_116 hw)) Via.refl F_o od_25_1 (pc' := 4) rfl fun T1 w2 => ?_
  refine W.ifnonnullYes w2 od_25_4 (pc' := 17) (by decide) (by decide) ?_
  refine W.aloadN w2 od_25_17 (pc' := 18) rfl rfl rfl ?_
  refine W.getF w2 (host := "") (Or.inl (ow_116 hw)) Via.refl F_o od_25_18 (pc' := 21) rfl fun T3 w4 => ?_
  exact W.retR w4 rfl rfl rfl od_25_21 (M' := []) mN (by decide) (by decide) ⟨rfl, rfl, rfl⟩
set_option maxRecDepth 65536 in
set_option maxHeartbeats 40000000 in
theorem c_values {l : Launch} {Z : State} {a0 : Array Value} (hw : HW Z a0) {h0 : Heap} {va D H U wD wH wU tD tH tU OE : Addr} {k : ClassId} (X0 : RX Z va D H U wD wH wU tD tH tU OE k) (hO : Old Z Z.heap.size h0) : Ctr l Z EL0 nw0 ({ cls := "com/example/vestledger/vestledger/number/Rounding", name := "values", desc := "()[Lcom/example/vestledger/vestledger/number/Rounding;" } : Jvm.MethodName) prog_10_method_1_code 0 (some (.array (.object "com/example/vestledger/vestledger/number/Rounding"))) ({ frames := 1, cells := 1, slots := 3, locals := 14 } : Room) [] h0 [] (fun v h M' => ∃ b, v = some (.ref b) ∧ M' = [] ∧ Keep h0 h [] ∧ h0.size ≤ b ∧ ∃ k, Arv Z h b k (.object "com/example/vestledger/vestledger/number/Rounding") (3 : Int32) [.ref D, .ref H, .ref U] .null) := by
  refine of_body (a0 := a0) opn_8 (own_ew hw) hO (Ls := #[]) (fun m => by first | rfl | (simp [entryFrame, mkF, argsToLocals, Value.category]; done)) (fun κ T0 w0 hnm => ?_)
  obtain ⟨S_v, A_v, E_v, ⟨S_D, E_D, F_D, T_D⟩, ⟨S_H, E_H, F_H, T_H⟩, ⟨S_U, E_U, F_U, T_U⟩, S_O, E_O, F_O⟩ := X0
  have A0 := A_v.ext w0.old.2
  have E0 := Exa.ext w0.old.2 E_v
  refine W.getS w0 (ow_80 hw) Via.refl (S_v.ext w0.old.2) od_17_0 (pc' := 3) rfl fun T1 w2 => ?_
  refine W.clone w2 (ow_82 hw) (ow_83 hw) (ow_87 hw) (ow_85 hw) (ow_86 hw) (ow_88 hw) A0 E0 od_17_3 (pc' := 6) rfl rfl (by decide) (Wd := 0) (cap := 3) rfl (by decide) (by decide) (by decide) (by decide) fun T3 h4 a5 w6 K7 B8 V9 E10 => ?_
  have ne11 : va ≠ a5 := neL E0.lt B8
  refine W.cast w6 (ow_93 hw) (Ins.self E10) od_17_6 (pc' := 9) rfl fun T12 w13 => ?_
  have C14 := Keep.refl h0 []
  have C15 := C14.trans K7 RoadKit.all0
  exact W.retR w13 rfl rfl rfl od_17_9 (M' := []) mN (by decide) (by decide) ⟨a5, rfl, rfl, C15, B8, ⟨_, V9⟩⟩
set_option maxRecDepth 65536 in
set_option maxHeartbeats 40000000 in
theorem c_named {l : Launch} {Z : State} {a0 : Array Value} (hw : HW Z a0) {h0 : Heap} {x t : Addr} {cs : List Int32} (F_x : Str8 Z h0 x t cs) {va D H U wD wH wU tD tH tU OE : Addr} {k : ClassId} (X0 : RX Z va D H U wD wH wU tD tH tU OE k) (hO : Old Z Z.heap.size h0) : Ctr l Z EL0 nw0 ({ cls := "com/example/vestledger/vestledger/number/Rounding", name := "named", desc := "(Ljava/lang/String;)Ljava/util/Optional;" } : Jvm.MethodName) prog_10_method_4_code 5 (some (.object "java/util/Optional")) ({ frames := 3, cells := 2, slots := 4, locals := 38 } : Room) [.ref x] h0 [] (fun v h M' => ∃ o u, v = some (.ref o) ∧ M' = [] ∧ Keep h0 h [] ∧ Exa Z h o "java/util/Optional" ∧ Fld Z h o "java/util/Optional" "value" "Ljava/lang/Object;" u ∧ (([(100 : Int32), (111 : Int32), (119 : Int32), (110 : Int32)] = cs ∧ u = .ref D) ∨ ([(104 : Int32), (97 : Int32), (108 : Int32), (102 : Int32), (45 : Int32), (117 : Int32), (112 : Int32)] = cs ∧ u = .ref H) ∨ ([(117 : Int32), (112 : Int32)] = cs ∧ u = .ref U) ∨ (¬ [(100 : Int32), (111 : Int32), (119 : Int32), (110 : Int32)] = cs ∧ ¬ [(104 : Int32), (97 : Int32), (108 : Int32), (102 : Int32), (45 : Int32), (117 : Int32), (112 : Int32)] = cs ∧ ¬ [(117 : Int32), (112 : Int32)] = cs ∧ u = .null))) := by
  refine of_body (a0 := a0) opn_9 (own_ew hw) hO (Ls := #[.val (.ref x), .unset, .unset, .unset, .unset]) (fun m => by first | rfl | (simp [entryFrame, mkF, argsToLocals, Value.category]; done)) (fun κ T0 w0 hnm => ?_)
  have X1 := X0
  obtain ⟨S_v, A_v, E_v, ⟨S_D, E_D, F_D, T_D⟩, ⟨S_H, E_H, F_H, T_H⟩, ⟨S_U, E_U, F_U, T_U⟩, S_O, E_O, F_O⟩ := X0
  have fD := Fld.ext w0.old.2 F_D
  have sD := T_D.keep (keepE w0.old.2) nin0 nin0
  have eD := sD.1
  have fH := Fld.ext w0.old.2 F_H
  have sH := T_H.keep (keepE w0.old.2) nin0 nin0
  have eH := sH.1
  have fU := Fld.ext w0.old.2 F_U
  have sU := T_U.keep (keepE w0.old.2) nin0 nin0
  have eU := sU.1
  have eO := Exa.ext w0.old.2 E_O
  have fO := Fld.ext w0.old.2 F_O
  refine W.callS w0 (ow_77 hw) (ow_78 hw) (ow_75 hw) (ow_79 hw) (by decide) opd_3 (Ctr.pay (c_values hw X1 w0.old) (own_ew hw) (ow_79 hw) (ow_75 hw) (kf := 2) (kl := 25) (by decide) (by decide)) mN od_16_0 (pc' := 3) rfl rfl rfl (rest := []) rfl (Wd := 0) rfl (by decide) (by decide) (by decide) (by decide) fun v3 T1 h2 M4 w5 q6 => ?_
  obtain ⟨a7, rfl, rfl, K8, B9, k10, V11⟩ := q6
  show Go Z _ _ _ κ _ (T1.setTop (mkF (km κ) 3 #[.val (.ref x), .unset, .unset, .unset, .unset] [(.ref a7)]))
  refine W.astoreN w5 od_16_3 (pc' := 4) rfl (Ls' := #[.val (.ref x), .val (.ref a7), .unset, .unset, .unset]) rfl rfl ?_
  refine W.aloadN w5 od_16_4 (pc' := 5) rfl rfl rfl ?_
  refine W.alen w5 V11 od_16_5 (pc' := 6) rfl ?_
  refine W.istoreN w5 od_16_6 (pc' := 7) rfl (Ls' := #[.val (.ref x), .val (.ref a7), .val (.int (3 : Int32)), .unset, .unset]) rfl ?_
  refine W.iconst w5 od_16_7 (pc' := 8) rfl (z := (0 : Int32)) rfl ?_
  refine W.istoreN w5 od_16_8 (pc' := 9) rfl (Ls' := #[.val (.ref x), .val (.ref a7), .val (.int (3 : Int32)), .val (.int (0 : Int32)), .unset]) rfl ?_
  refine W.iloadN w5 od_16_9 (pc' := 10) rfl rfl ?_
  refine W.iloadN w5 od_16_10 (pc' := 11) rfl rfl ?_
  refine W.icmpNo w5 od_16_11 (pc' := 14) rfl (tlt (by decide : (0 : Int32) < (3 : Int32))).2.1 ?_
  refine W.aloadN w5 od_16_14 (pc' := 15) rfl rfl rfl ?_
  refine W.iloadN w5 od_16_15 (pc' := 16) rfl rfl ?_
  refine W.ldA w5 V11 rfl ⟨by decide, by decide⟩ (v := (.ref D)) rfl od_16_16 (pc' := 17) rfl ?_
  refine W.astore w5 od_16_17 (pc' := 19) rfl (Ls' := #[.val (.ref x), .val (.ref a7), .val (.int (3 : Int32)), .val (.int (0 : Int32)), .val (.ref D)]) rfl rfl ?_
  refine W.aload w5 od_16_19 (pc' := 21) rfl rfl rfl ?_
  have f12 := (fD.keep K8 nin0)
  refine W.getF w5 (host := "") (Or.inl (ow_95 hw)) Via.refl f12 od_16_21 (pc' := 24) rfl fun T13 w14 => ?_
  refine W.aloadN w14 od_16_24 (pc' := 25) rfl rfl rfl ?_
  have f15 := (sD.keep K8 nin0 nin0)
  have f16 := (F_x.keep K8 nin0 nin0)
  have f23 := (eD.keep K8)
  refine W.callV w14 (ow_97 hw) (ow_98 hw) (nfSel (ow_100 hw)) (ow_100 hw) (ow_99 hw) (by decide) opd_4 f23 (own_eq hw w14.old f15 f16) mN od_16_25 (pc' := 28) rfl rfl rfl (rest := []) rfl (Wd := 0) rfl (by decide) (by decide) (by decide) (by decide) fun v19 T17 h18 M20 w21 q22 => ?_
  obtain ⟨rfl, rfl, rfl⟩ := q22
  show Go Z _ _ _ κ _ (T17.setTop (mkF (km κ) 28 #[.val (.ref x), .val (.ref a7), .val (.int (3 : Int32)), .val (.int (0 : Int32)), .val (.ref D)] [(.int (if [(100 : Int32), (111 : Int32), (119 : Int32), (110 : Int32)] = cs then 1 else 0 : Int32))]))
  rcases Decidable.em ([(100 : Int32), (111 : Int32), (119 : Int32), (110 : Int32)] = cs) with qD | qD
  · refine W.ifNo w21 od_16_28 (pc' := 31) rfl ((if0 _ _).trans (feq (show ¬ ((if [(100 : Int32), (111 : Int32), (119 : Int32), (110 : Int32)] = cs then 1 else 0 : Int32) = (0 : Int32)) by rw [if_pos qD]; decide)).1) ?_
    refine W.aload w21 od_16_31 (pc' := 33) rfl rfl rfl ?_
    have f24 := (F_x.1.keep K8)
    refine W.callS w21 (ow_119 hw) (ow_120 hw) (ow_108 hw) (ow_121 hw) (by decide) opd_5 (Ctr.pay (c_opof hw w21.old) (own_ew hw) (ow_121 hw) (ow_108 hw) (kf := 3) (kl := 38) (by decide) (by decide)) mN od_16_33 (pc' := 36) rfl rfl rfl (rest := []) rfl (Wd := 0) rfl (by decide) (by decide) (by decide) (by decide) fun v27 T25 h26 M28 w29 q30 => ?_
    obtain ⟨a31, rfl, rfl, K32, B33, E34, F35⟩ := q30
    have ne36 : x ≠ a31 := neL f24.lt B33
    have ne37 : t ≠ a31 := neL f16.lt2 B33
    have ne38 : a7 ≠ a31 := neL V11.lt B33
    show Go Z _ _ _ κ _ (T25.setTop (mkF (km κ) 36 #[.val (.ref x), .val (.ref a7), .val (.int (3 : Int32)), .val (.int (0 : Int32)), .val (.ref D)] [(.ref a31)]))
    have C39 := Keep.refl h0 []
    have C40 := C39.trans K8 RoadKit.all0
    have C41 := C40.trans K32 RoadKit.all0
    exact W.retR w29 rfl rfl rfl od_16_36 (M' := []) mN (by decide) (by decide) ⟨a31, _, rfl, rfl, C41, E34, F35, Or.inl ⟨qD, rfl⟩⟩
  · refine W.ifYes w21 od_16_28 (pc' := 37) (by decide) (by decide) ((if0 _ _).trans (teq (show (if [(100 : Int32), (111 : Int32), (119 : Int32), (110 : Int32)] = cs then 1 else 0 : Int32) = (0 : Int32) by rw [if_neg qD])).1) ?_
    refine W.iinc w21 od_16_37 (pc' := 40) rfl (z := (1 : Int32)) rfl (Ls' := #[.val (.ref x), .val (.ref a7), .val (.int (3 : Int32)), .val (.int (1 : Int32)), .val (.ref D)]) rfl rfl ?_
    refine W.goto w21 od_16_40 (pc' := 9) (by decide) (by decide) ?_
    refine W.iloadN w21 od_16_9 (pc' := 10) rfl rfl ?_
    refine W.iloadN w21 od_16_10 (pc' := 11) rfl rfl ?_
    refine W.icmpNo w21 od_16_11 (pc' := 14) rfl (tlt (by decide : (1 : Int32) < (3 : Int32))).2.1 ?_
    refine W.aloadN w21 od_16_14 (pc' := 15) rfl rfl rfl ?_
    refine W.iloadN w21 od_16_15 (pc' := 16) rfl rfl ?_
    refine W.ldA w21 V11 rfl ⟨by decide, by decide⟩ (v := (.ref H)) rfl od_16_16 (pc' := 17) rfl ?_
    refine W.astore w21 od_16_17 (pc' := 19) rfl (Ls' := #[.val (.ref x), .val (.ref a7), .val (.int (3 : Int32)), .val (.int (1 : Int32)), .val (.ref H)]) rfl rfl ?_
    refine W.aload w21 od_16_19 (pc' := 21) rfl rfl rfl ?_
    have f42 := (fH.keep K8 nin0)
    refine W.getF w21 (host := "") (Or.inl (ow_95 hw)) Via.refl f42 od_16_21 (pc' := 24) rfl fun T43 w44 => ?_
    refine W.aloadN w44 od_16_24 (pc' := 25) rfl rfl rfl ?_
    have f45 := (sH.keep K8 nin0 nin0)
    have f52 := (eH.keep K8)
    refine W.callV w44 (ow_97 hw) (ow_98 hw) (nfSel (ow_100 hw)) (ow_100 hw) (ow_99 hw) (by decide) opd_4 f52 (own_eq hw w44.old f45 f16) mN od_16_25 (pc' := 28) rfl rfl rfl (rest := []) rfl (Wd := 0) rfl (by decide) (by decide) (by decide) (by decide) fun v48 T46 h47 M49 w50 q51 => ?_
    obtain ⟨rfl, rfl, rfl⟩ := q51
    show Go Z _ _ _ κ _ (T46.setTop (mkF (km κ) 28 #[.val (.ref x), .val (.ref a7), .val (.int (3 : Int32)), .val (.int (1 : Int32)), .val (.ref H)] [(.int (if [(104 : Int32), (97 : Int32), (108 : Int32), (102 : Int32), (45 : Int32), (117 : Int32), (112 : Int32)] = cs then 1 else 0 : Int32))]))
    rcases Decidable.em ([(104 : Int32), (97 : Int32), (108 : Int32), (102 : Int32), (45 : Int32), (117 : Int32), (112 : Int32)] = cs) with qH | qH
    · refine W.ifNo w50 od_16_28 (pc' := 31) rfl ((if0 _ _).trans (feq (show ¬ ((if [(104 : Int32), (97 : Int32), (108 : Int32), (102 : Int32), (45 : Int32), (117 : Int32), (112 : Int32)] = cs then 1 else 0 : Int32) = (0 : Int32)) by rw [if_pos qH]; decide)).1) ?_
      refine W.aload w50 od_16_31 (pc' := 33) rfl rfl rfl ?_
      have f53 := (F_x.1.keep K8)
      refine W.callS w50 (ow_119 hw) (ow_120 hw) (ow_108 hw) (ow_121 hw) (by decide) opd_5 (Ctr.pay (c_opof hw w50.old) (own_ew hw) (ow_121 hw) (ow_108 hw) (kf := 3) (kl := 38) (by decide) (by decide)) mN od_16_33 (pc' := 36) rfl rfl rfl (rest := []) rfl (Wd := 0) rfl (by decide) (by decide) (by decide) (by decide) fun v56 T54 h55 M57 w58 q59 => ?_
      obtain ⟨a60, rfl, rfl, K61, B62, E63, F64⟩ := q59
      have ne65 : x ≠ a60 := neL f53.lt B62
      have ne66 : t ≠ a60 := neL f16.lt2 B62
      have ne67 : a7 ≠ a60 := neL V11.lt B62
      show Go Z _ _ _ κ _ (T54.setTop (mkF (km κ) 36 #[.val (.ref x), .val (.ref a7), .val (.int (3 : Int32)), .val (.int (1 : Int32)), .val (.ref H)] [(.ref a60)]))
      have C68 := Keep.refl h0 []
      have C69 := C68.trans K8 RoadKit.all0
      have C70 := C69.trans K61 RoadKit.all0
      exact W.retR w58 rfl rfl rfl od_16_36 (M' := []) mN (by decide) (by decide) ⟨a60, _, rfl, rfl, C70, E63, F64, Or.inr (Or.inl ⟨qH, rfl⟩)⟩
    · refine W.ifYes w50 od_16_28 (pc' := 37) (by decide) (by decide) ((if0 _ _).trans (teq (show (if [(104 : Int32), (97 : Int32), (108 : Int32), (102 : Int32), (45 : Int32), (117 : Int32), (112 : Int32)] = cs then 1 else 0 : Int32) = (0 : Int32) by rw [if_neg qH])).1) ?_
      refine W.iinc w50 od_16_37 (pc' := 40) rfl (z := (2 : Int32)) rfl (Ls' := #[.val (.ref x), .val (.ref a7), .val (.int (3 : Int32)), .val (.int (2 : Int32)), .val (.ref H)]) rfl rfl ?_
      refine W.goto w50 od_16_40 (pc' := 9) (by decide) (by decide) ?_
      refine W.iloadN w50 od_16_9 (pc' := 10) rfl rfl ?_
      refine W.iloadN w50 od_16_10 (pc' := 11) rfl rfl ?_
      refine W.icmpNo w50 od_16_11 (pc' := 14) rfl (tlt (by decide : (2 : Int32) < (3 : Int32))).2.1 ?_
      refine W.aloadN w50 od_16_14 (pc' := 15) rfl rfl rfl ?_
      refine W.iloadN w50 od_16_15 (pc' := 16) rfl rfl ?_
      refine W.ldA w50 V11 rfl ⟨by decide, by decide⟩ (v := (.ref U)) rfl od_16_16 (pc' := 17) rfl ?_
      refine W.astore w50 od_16_17 (pc' := 19) rfl (Ls' := #[.val (.ref x), .val (.ref a7), .val (.int (3 : Int32)), .val (.int (2 : Int32)), .val (.ref U)]) rfl rfl ?_
      refine W.aload w50 od_16_19 (pc' := 21) rfl rfl rfl ?_
      have f71 := (fU.keep K8 nin0)
      refine W.getF w50 (host := "") (Or.inl (ow_95 hw)) Via.refl f71 od_16_21 (pc' := 24) rfl fun T72 w73 => ?_
      refine W.aloadN w73 od_16_24 (pc' := 25) rfl rfl rfl ?_
      have f74 := (sU.keep K8 nin0 nin0)
      have f81 := (eU.keep K8)
      refine W.callV w73 (ow_97 hw) (ow_98 hw) (nfSel (ow_100 hw)) (ow_100 hw) (ow_99 hw) (by decide) opd_4 f81 (own_eq hw w73.old f74 f16) mN od_16_25 (pc' := 28) rfl rfl rfl (rest := []) rfl (Wd := 0) rfl (by decide) (by decide) (by decide) (by decide) fun v77 T75 h76 M78 w79 q80 => ?_
      obtain ⟨rfl, rfl, rfl⟩ := q80
      show Go Z _ _ _ κ _ (T75.setTop (mkF (km κ) 28 #[.val (.ref x), .val (.ref a7), .val (.int (3 : Int32)), .val (.int (2 : Int32)), .val (.ref U)] [(.int (if [(117 : Int32), (112 : Int32)] = cs then 1 else 0 : Int32))]))
      rcases Decidable.em ([(117 : Int32), (112 : Int32)] = cs) with qU | qU
      · refine W.ifNo w79 od_16_28 (pc' := 31) rfl ((if0 _ _).trans (feq (show ¬ ((if [(117 : Int32), (112 : Int32)] = cs then 1 else 0 : Int32) = (0 : Int32)) by rw [if_pos qU]; decide)).1) ?_
        refine W.aload w79 od_16_31 (pc' := 33) rfl rfl rfl ?_
        have f82 := (F_x.1.keep K8)
        refine W.callS w79 (ow_119 hw) (ow_120 hw) (ow_108 hw) (ow_121 hw) (by decide) opd_5 (Ctr.pay (c_opof hw w79.old) (own_ew hw) (ow_121 hw) (ow_108 hw) (kf := 3) (kl := 38) (by decide) (by decide)) mN od_16_33 (pc' := 36) rfl rfl rfl (rest := []) rfl (Wd := 0) rfl (by decide) (by decide) (by decide) (by decide) fun v85 T83 h84 M86 w87 q88 => ?_
        obtain ⟨a89, rfl, rfl, K90, B91, E92, F93⟩ := q88
        have ne94 : x ≠ a89 := neL f82.lt B91
        have ne95 : t ≠ a89 := neL f16.lt2 B91
        have ne96 : a7 ≠ a89 := neL V11.lt B91
        show Go Z _ _ _ κ _ (T83.setTop (mkF (km κ) 36 #[.val (.ref x), .val (.ref a7), .val (.int (3 : Int32)), .val (.int (2 : Int32)), .val (.ref U)] [(.ref a89)]))
        have C97 := Keep.refl h0 []
        have C98 := C97.trans K8 RoadKit.all0
        have C99 := C98.trans K90 RoadKit.all0
        exact W.retR w87 rfl rfl rfl od_16_36 (M' := []) mN (by decide) (by decide) ⟨a89, _, rfl, rfl, C99, E92, F93, Or.inr (Or.inr (Or.inl ⟨qU, rfl⟩))⟩
      · refine W.ifYes w79 od_16_28 (pc' := 37) (by decide) (by decide) ((if0 _ _).trans (teq (show (if [(117 : Int32), (112 : Int32)] = cs then 1 else 0 : Int32) = (0 : Int32) by rw [if_neg qU])).1) ?_
        refine W.iinc w79 od_16_37 (pc' := 40) rfl (z := (3 : Int32)) rfl (Ls' := #[.val (.ref x), .val (.ref a7), .val (.int (3 : Int32)), .val (.int (3 : Int32)), .val (.ref U)]) rfl rfl ?_
        refine W.goto w79 od_16_40 (pc' := 9) (by decide) (by decide) ?_
        refine W.iloadN w79 od_16_9 (pc' := 10) rfl rfl ?_
        refine W.iloadN w79 od_16_10 (pc' := 11) rfl rfl ?_
        refine W.icmpYes w79 od_16_11 (pc' := 43) (by decide) (by decide) (flt (by decide : ¬ ((3 : Int32) < (3 : Int32)))).2.1 ?_
        refine W.callS w79 (ow_106 hw) (ow_107 hw) (ow_108 hw) (ow_109 hw) (by decide) opd_6 (Ctr.pay (c_opempty hw S_O w79.old) (own_ew hw) (ow_109 hw) (ow_108 hw) (kf := 1) (kl := 12) (by decide) (by decide)) mN od_16_43 (pc' := 46) rfl rfl rfl (rest := []) rfl (Wd := 0) rfl (by decide) (by decide) (by decide) (by decide) fun v102 T100 h101 M103 w104 q105 => ?_
        obtain ⟨rfl, rfl, rfl⟩ := q105
        show Go Z _ _ _ κ _ (T100.setTop (mkF (km κ) 46 #[.val (.ref x), .val (.ref a7), .val (.int (3 : Int32)), .val (.int (3 : Int32)), .val (.ref U)] [(.ref OE)]))
        have C106 := Keep.refl h0 []
        have C107 := C106.trans K8 RoadKit.all0
        have f108 := (eO.keep K8)
        have f109 := (fO.keep K8 nin0)
        exact W.retR w104 rfl rfl rfl od_16_46 (M' := []) mN (by decide) (by decide) ⟨OE, _, rfl, rfl, C107, f108, f109, Or.inr (Or.inr (Or.inr ⟨qD, qH, qU, rfl⟩))⟩
set_option maxRecDepth 65536 in
set_option maxHeartbeats 40000000 in
theorem c_pick {l : Launch} {Z : State} {a0 : Array Value} (hw : HW Z a0) {h0 : Heap} {x t : Addr} {ws : List Int32} {p0 p2 : Int32} {p4 : Int64} {i : Nat} (hi7 : i ≤ 7) (F_x : Str8 Z h0 x t ws) (hO : Old Z Z.heap.size h0) : Ctr l Z EL0 nw0 ({ cls := "com/example/vestledger/vestledger/number/RoundingNamedPinLaw", name := "pick", desc := "(ILjava/lang/String;IIJ)C" } : Jvm.MethodName) method_3_code 7 (some .char) ({ frames := 4, cells := 0, slots := 0, locals := 53 } : Room) [.int p0, .ref x, .int p2, .int (Int32.ofNat i), .long p4] h0 [] (fun v h M' => ∃ z : Int32, v = some (.int z) ∧ M' = [] ∧ h = h0 ∧ (¬ z < 0 ∧ ¬ (255 : Int32) < z)) := by
  refine of_body (a0 := a0) opn_10 (own_ew hw) hO (Ls := #[.val (.int p0), .val (.ref x), .val (.int p2), .val (.int (Int32.ofNat (i))), .val (.long p4), .second, .unset]) (fun m => by first | rfl | (simp [entryFrame, mkF, argsToLocals, Value.category]; done)) (fun κ T0 w0 hnm => ?_)
  refine W.lload w0 od_1_0 (pc' := 2) rfl rfl ?_
  refine W.bipush w0 od_1_2 (pc' := 4) rfl (z := (8 : Int32)) rfl ?_
  refine W.iloadN w0 od_1_4 (pc' := 5) rfl rfl ?_
  refine W.imul w0 od_1_5 (pc' := 6) rfl (z := ((8 : Int32) * (Int32.ofNat (i)))) rfl ?_
  refine W.lushr w0 od_1_6 (pc' := 7) rfl (z := (XT.ushrL p4 ((8 : Int32) * (Int32.ofNat (i))))) rfl ?_
  refine W.ldcJ w0 (ow_13 hw) od_1_7 (pc' := 10) rfl ?_
  refine W.land w0 od_1_10 (pc' := 11) rfl (z := ((XT.ushrL p4 ((8 : Int32) * (Int32.ofNat (i)))) &&& (255 : Int64))) rfl ?_
  refine W.l2i w0 od_1_11 (pc' := 12) rfl (z := (((XT.ushrL p4 ((8 : Int32) * (Int32.ofNat (i)))) &&& (255 : Int64))).toInt32) rfl ?_
  refine W.i2c w0 od_1_12 (pc' := 13) rfl (z := (((XT.ushrL p4 ((8 : Int32) * (Int32.ofNat (i)))) &&& (255 : Int64))).toInt32) (i2c_lat (l255 _)) ?_
  refine W.istore w0 od_1_13 (pc' := 15) rfl (Ls' := #[.val (.int p0), .val (.ref x), .val (.int p2), .val (.int (Int32.ofNat (i))), .val (.long p4), .second, .val (.int (((XT.ushrL p4 ((8 : Int32) * (Int32.ofNat (i)))) &&& (255 : Int64))).toInt32)]) rfl ?_
  refine W.iloadN w0 od_1_15 (pc' := 16) rfl rfl ?_
  refine W.iconst w0 od_1_16 (pc' := 17) rfl (z := (3 : Int32)) rfl ?_
  rcases Decidable.em (p0 = (3 : Int32)) with hc1 | hc1
  · refine W.icmpYes w0 od_1_17 (pc' := 33) (by decide) (by decide) (teq hc1).1 ?_
    refine W.iload w0 od_1_33 (pc' := 35) rfl rfl ?_
    exact W.retN w0 (t := .char) (z' := (((XT.ushrL p4 ((8 : Int32) * (Int32.ofNat (i)))) &&& (255 : Int64))).toInt32) rfl (nar_lat (l255 _)) (by simp) od_1_35 (M' := []) mN (by decide) (by decide) ⟨_, rfl, rfl, rfl, (l255 _)⟩
  · refine W.icmpNo w0 od_1_17 (pc' := 20) rfl (feq hc1).1 ?_
    refine W.iloadN w0 od_1_20 (pc' := 21) rfl rfl ?_
    refine W.aloadN w0 od_1_21 (pc' := 22) rfl rfl rfl ?_
    refine W.callV w0 (ow_14 hw) (ow_15 hw) (nfSel (ow_17 hw)) (ow_17 hw) (ow_16 hw) (by decide) opd_7 F_x.1 (own_len hw w0.old F_x) mN od_1_22 (pc' := 25) rfl rfl rfl (rest := [(.int (Int32.ofNat (i)))]) rfl (Wd := 1) rfl (by decide) (by decide) (by decide) (by decide) fun v4 T2 h3 M5 w6 q7 => ?_
    obtain ⟨rfl, rfl, rfl⟩ := q7
    show Go Z _ _ _ κ _ (T2.setTop (mkF (km κ) 25 #[.val (.int p0), .val (.ref x), .val (.int p2), .val (.int (Int32.ofNat (i))), .val (.long p4), .second, .val (.int (((XT.ushrL p4 ((8 : Int32) * (Int32.ofNat (i)))) &&& (255 : Int64))).toInt32)] [(.int (Int32.ofNat (ws.length))), (.int (Int32.ofNat (i)))]))
    rcases Decidable.em ((Int32.ofNat (i)) < (Int32.ofNat (ws.length))) with hc8 | hc8
    · refine W.icmpNo w6 od_1_25 (pc' := 28) rfl (tlt hc8).2.1 ?_
      refine W.iloadN w6 od_1_28 (pc' := 29) rfl rfl ?_
      refine W.iloadN w6 od_1_29 (pc' := 30) rfl rfl ?_
      rcases Decidable.em ((Int32.ofNat (i)) = p2) with hc9 | hc9
      · refine W.icmpNo w6 od_1_30 (pc' := 33) rfl (teq hc9).2 ?_
        refine W.iload w6 od_1_33 (pc' := 35) rfl rfl ?_
        exact W.retN w6 (t := .char) (z' := (((XT.ushrL p4 ((8 : Int32) * (Int32.ofNat (i)))) &&& (255 : Int64))).toInt32) rfl (nar_lat (l255 _)) (by simp) od_1_35 (M' := []) mN (by decide) (by decide) ⟨_, rfl, rfl, rfl, (l255 _)⟩
      · refine W.icmpYes w6 od_1_30 (pc' := 36) (by decide) (by decide) (feq hc9).2 ?_
        refine W.aloadN w6 od_1_36 (pc' := 37) rfl rfl rfl ?_
        refine W.iloadN w6 od_1_37 (pc' := 38) rfl rfl ?_
        have hi : i < ws.length := (n_lt (by omega) (by have := F_x.2.2.2.2.2; omega)).mp hc8
        refine W.callV w6 (ow_27 hw) (ow_28 hw) (nfSel (ow_30 hw)) (ow_30 hw) (ow_29 hw) (by decide) opd_8 F_x.1 (own_chr hw w6.old F_x (i := i) hi rfl) mN od_1_38 (pc' := 41) rfl rfl rfl (rest := []) rfl (Wd := 0) rfl (by decide) (by decide) (by decide) (by decide) fun v12 T10 h11 M13 w14 q15 => ?_
        obtain ⟨rfl, rfl, rfl⟩ := q15
        show Go Z _ _ _ κ _ (T10.setTop (mkF (km κ) 41 #[.val (.int p0), .val (.ref x), .val (.int p2), .val (.int (Int32.ofNat (i))), .val (.long p4), .second, .val (.int (((XT.ushrL p4 ((8 : Int32) * (Int32.ofNat (i)))) &&& (255 : Int64))).toInt32)] [(.int (ws.getD i 0))]))
        exact W.retN w14 (t := .char) (z' := (ws.getD i 0)) rfl (nar_lat (getD_lat F_x.2.2.2.2.1 hi)) (by simp) od_1_41 (M' := []) mN (by decide) (by decide) ⟨_, rfl, rfl, rfl, (getD_lat F_x.2.2.2.2.1 hi)⟩
    · refine W.icmpYes w6 od_1_25 (pc' := 33) (by decide) (by decide) (flt hc8).2.1 ?_
      refine W.iload w6 od_1_33 (pc' := 35) rfl rfl ?_
      exact W.retN w6 (t := .char) (z' := (((XT.ushrL p4 ((8 : Int32) * (Int32.ofNat (i)))) &&& (255 : Int64))).toInt32) rfl (nar_lat (l255 _)) (by simp) od_1_35 (M' := []) mN (by decide) (by decide) ⟨_, rfl, rfl, rfl, (l255 _)⟩
set_option maxRecDepth 65536 in
set_option maxHeartbeats 40000000 in
theorem c_str0 {l : Launch} {Z : State} {a0 : Array Value} (hw : HW Z a0) {h0 : Heap} {b : Addr} {k : ClassId} {c0 c1 c2 c3 c4 c5 c6 : Int32} (hc0 : ¬ c0 < 0 ∧ ¬ (255 : Int32) < c0) (hc1 : ¬ c1 < 0 ∧ ¬ (255 : Int32) < c1) (hc2 : ¬ c2 < 0 ∧ ¬ (255 : Int32) < c2) (hc3 : ¬ c3 < 0 ∧ ¬ (255 : Int32) < c3) (hc4 : ¬ c4 < 0 ∧ ¬ (255 : Int32) < c4) (hc5 : ¬ c5 < 0 ∧ ¬ (255 : Int32) < c5) (hc6 : ¬ c6 < 0 ∧ ¬ (255 : Int32) < c6) (V_b : Arv Z h0 b k .char (7 : Int32) [.int c0, .int c1, .int c2, .int c3, .int c4, .int c5, .int c6] (.int (0 : Int32))) (hO : Old Z Z.heap.size h0) : Ctr l Z EL0 nw0 ({ cls := "com/example/vestledger/vestledger/number/RoundingNamedPinLaw", name := "str", desc := "([CI)Ljava/lang/String;" } : Jvm.MethodName) method_4_code 2 (some (.object "java/lang/String")) ({ frames := 3, cells := 6, slots := 12, locals := 43 } : Room) [.ref b, .int (0 : Int32)] h0 [] (fun v h M' => ∃ x t, v = some (.ref x) ∧ M' = [] ∧ Keep h0 h [] ∧ Str8 Z h x t []) := by
  refine of_body (a0 := a0) opn_11 (own_ew hw) hO (Ls := #[.val (.ref b), .val (.int (0 : Int32))]) (fun m => by first | rfl | (simp [entryFrame, mkF, argsToLocals, Value.category]; done)) (fun κ T0 w0 hnm => ?_)
  refine W.iloadN w0 od_9_0 (pc' := 1) rfl rfl ?_
  refine W.ifNo w0 od_9_1 (pc' := 4) rfl ((if0 _ _).trans (teq (by decide : (0 : Int32) = (0 : Int32))).2) ?_
  refine W.newO w0 (ow_52 hw) (ow_2 hw) (ow_1 hw) od_9_4 (pc' := 7) rfl (by decide) (by decide) fun T1 h2 a3 w4 K5 B6 E7 D8 => ?_
  have ne9 : b ≠ a3 := neL V_b.lt B6
  have F10 : Fld Z h2 a3 "java/lang/String" "value" "[B" .null := D8 (Or.inr (ow_4 hw)) (ty := (.array .byte)) (by decide)
  have F11 : Fld Z h2 a3 "java/lang/String" "coder" "B" (.int (0 : Int32)) := D8 (Or.inr (ow_5 hw)) (ty := .byte) (by decide)
  refine W.dup w4 od_9_7 (pc' := 8) rfl rfl ?_
  refine W.iconst w4 od_9_8 (pc' := 9) rfl (z := (0 : Int32)) rfl ?_
  have f20 := (V_b.keep K5 nin0)
  refine W.newP w4 (ty := .char) rfl (ow_8 hw) od_9_9 (pc' := 11) rfl (by decide) (cap := 0) (by decide) (by decide) (by decide) (by decide) fun T12 h13 a14 k15 w16 K17 B18 V19 => ?_
  have ne21 : b ≠ a14 := neL f20.lt B18
  have ne22 : a3 ≠ a14 := neL E7.lt B18
  have V23 : Arv Z h13 a14 k15 .char (0 : Int32) [] (.int (0 : Int32)) := V19
  have f24 := (E7.keep K17)
  have f25 := (F10.keep K17 nin0)
  have f26 := (F11.keep K17 nin0)
  refine W.callI w16 (ow_53 hw) (ow_54 hw) (ow_55 hw) rfl (by decide) opd_9 (Ctr.pay (c_init0 hw f24 f25 f26 V23 w16.old) (own_ew hw) (ow_55 hw) (ow_1 hw) (kf := 3) (kl := 42) (by decide) (by decide)) (mC (memS mem0) mN) od_9_11 (pc' := 14) rfl rfl rfl (rest := [(.ref a3)]) rfl (Wd := 1) rfl (by decide) (by decide) (by decide) (by decide) fun v29 T27 h28 M30 w31 q32 => ?_
  obtain ⟨rfl, rfl, K33, t34, F35, N36⟩ := q32
  have ne37 : a3 ≠ t34 := N36 _ mem0
  show Go Z _ _ _ κ _ (T27.setTop (mkF (km κ) 14 #[.val (.ref b), .val (.int (0 : Int32))] [(.ref a3)]))
  have C38 := Keep.refl h0 []
  have C39 := C38.trans K5 RoadKit.all0
  have C40 := C39.trans K17 RoadKit.all0
  have C41 := C40.trans K33 (allS (Or.inr B6) RoadKit.all0)
  exact W.retR w31 rfl rfl rfl od_9_14 (M' := []) mN (by decide) (by decide) ⟨a3, t34, rfl, rfl, C41, F35⟩
set_option maxRecDepth 65536 in
set_option maxHeartbeats 40000000 in
theorem c_str1 {l : Launch} {Z : State} {a0 : Array Value} (hw : HW Z a0) {h0 : Heap} {b : Addr} {k : ClassId} {c0 c1 c2 c3 c4 c5 c6 : Int32} (hc0 : ¬ c0 < 0 ∧ ¬ (255 : Int32) < c0) (hc1 : ¬ c1 < 0 ∧ ¬ (255 : Int32) < c1) (hc2 : ¬ c2 < 0 ∧ ¬ (255 : Int32) < c2) (hc3 : ¬ c3 < 0 ∧ ¬ (255 : Int32) < c3) (hc4 : ¬ c4 < 0 ∧ ¬ (255 : Int32) < c4) (hc5 : ¬ c5 < 0 ∧ ¬ (255 : Int32) < c5) (hc6 : ¬ c6 < 0 ∧ ¬ (255 : Int32) < c6) (V_b : Arv Z h0 b k .char (7 : Int32) [.int c0, .int c1, .int c2, .int c3, .int c4, .int c5, .int c6] (.int (0 : Int32))) (hO : Old Z Z.heap.size h0) : Ctr l Z EL0 nw0 ({ cls := "com/example/vestledger/vestledger/number/RoundingNamedPinLaw", name := "str", desc := "([CI)Ljava/lang/String;" } : Jvm.MethodName) method_4_code 2 (some (.object "java/lang/String")) ({ frames := 4, cells := 3, slots := 6, locals := 66 } : Room) [.ref b, .int (1 : Int32)] h0 [] (fun v h M' => ∃ x t, v = some (.ref x) ∧ M' = [] ∧ Keep h0 h [] ∧ Str8 Z h x t [c0]) := by
  refine of_body (a0 := a0) opn_11 (own_ew hw) hO (Ls := #[.val (.ref b), .val (.int (1 : Int32))]) (fun m => by first | rfl | (simp [entryFrame, mkF, argsToLocals, Value.category]; done)) (fun κ T0 w0 hnm => ?_)
  refine W.iloadN w0 od_9_0 (pc' := 1) rfl rfl ?_
  refine W.ifYes w0 od_9_1 (pc' := 15) (by decide) (by decide) ((if0 _ _).trans (feq (by decide : ¬ ((1 : Int32) = (0 : Int32)))).2) ?_
  refine W.iloadN w0 od_9_15 (pc' := 16) rfl rfl ?_
  refine W.iconst w0 od_9_16 (pc' := 17) rfl (z := (1 : Int32)) rfl ?_
  refine W.icmpNo w0 od_9_17 (pc' := 20) rfl (teq (by decide : (1 : Int32) = (1 : Int32))).2 ?_
  refine W.newO w0 (ow_52 hw) (ow_2 hw) (ow_1 hw) od_9_20 (pc' := 23) rfl (by decide) (by decide) fun T1 h2 a3 w4 K5 B6 E7 D8 => ?_
  have ne9 : b ≠ a3 := neL V_b.lt B6
  have F10 : Fld Z h2 a3 "java/lang/String" "value" "[B" .null := D8 (Or.inr (ow_4 hw)) (ty := (.array .byte)) (by decide)
  have F11 : Fld Z h2 a3 "java/lang/String" "coder" "B" (.int (0 : Int32)) := D8 (Or.inr (ow_5 hw)) (ty := .byte) (by decide)
  refine W.dup w4 od_9_23 (pc' := 24) rfl rfl ?_
  refine W.iconst w4 od_9_24 (pc' := 25) rfl (z := (1 : Int32)) rfl ?_
  have f20 := (V_b.keep K5 nin0)
  refine W.newP w4 (ty := .char) rfl (ow_8 hw) od_9_25 (pc' := 27) rfl (by decide) (cap := 1) (by decide) (by decide) (by decide) (by decide) fun T12 h13 a14 k15 w16 K17 B18 V19 => ?_
  have ne21 : b ≠ a14 := neL f20.lt B18
  have ne22 : a3 ≠ a14 := neL E7.lt B18
  have V23 : Arv Z h13 a14 k15 .char (1 : Int32) [(.int (0 : Int32))] (.int (0 : Int32)) := V19
  refine W.dup w16 od_9_27 (pc' := 28) rfl rfl ?_
  refine W.iconst w16 od_9_28 (pc' := 29) rfl (z := (0 : Int32)) rfl ?_
  refine W.aloadN w16 od_9_29 (pc' := 30) rfl rfl rfl ?_
  refine W.iconst w16 od_9_30 (pc' := 31) rfl (z := (0 : Int32)) rfl ?_
  have f24 := (f20.keep K17 nin0)
  refine W.ldC w16 f24 ⟨by decide, by decide⟩ (v := (.int c0)) rfl od_9_31 (pc' := 32) rfl ?_
  refine W.stC w16 (x' := c0) (nar_lat hc0) V23 (i := 0) (by decide) ⟨by decide, by decide⟩ (Nat.le_of_ble_eq_true rfl) mem0 od_9_32 (pc' := 33) rfl fun T25 h26 w27 K28 V29 => ?_
  have V30 : Arv Z h26 a14 k15 .char (1 : Int32) [(.int c0)] (.int (0 : Int32)) := V29
  have f31 := ((E7.keep K17).keep K28)
  have f32 := ((F10.keep K17 nin0).keep K28 (ninS ne22 nin0))
  have f33 := ((F11.keep K17 nin0).keep K28 (ninS ne22 nin0))
  have f34 := (f24.keep K28 (ninS ne21 nin0))
  refine W.callI w27 (ow_53 hw) (ow_54 hw) (ow_55 hw) rfl (by decide) opd_9 (own_init hw w27.old (w27.mut (memS mem0)).1 f31 f32 f33 (cs := [c0]) V30 (n := 1) rfl rfl (by decide) (by decide) (faS hc0 fa0)) (mC (memS mem0) mN) od_9_33 (pc' := 36) rfl rfl rfl (rest := [(.ref a3)]) rfl (Wd := 1) rfl (by decide) (by decide) (by decide) (by decide) fun v37 T35 h36 M38 w39 q40 => ?_
  obtain ⟨rfl, rfl, K41, t42, B43, F44⟩ := q40
  have ne45 : b ≠ t42 := neL f34.lt B43
  have ne46 : a3 ≠ t42 := neL f31.lt B43
  have ne47 : a14 ≠ t42 := neL V30.lt B43
  show Go Z _ _ _ κ _ (T35.setTop (mkF (km κ) 36 #[.val (.ref b), .val (.int (1 : Int32))] [(.ref a3)]))
  have C48 := Keep.refl h0 []
  have C49 := C48.trans K5 RoadKit.all0
  have C50 := C49.trans K17 RoadKit.all0
  have C51 := C50.trans K28 (allS (Or.inr (Nat.le_trans K5.1 B18)) RoadKit.all0)
  have C52 := C51.trans K41 (allS (Or.inr B6) RoadKit.all0)
  exact W.retR w39 rfl rfl rfl od_9_36 (M' := []) mN (by decide) (by decide) ⟨a3, t42, rfl, rfl, C52, F44⟩
set_option maxRecDepth 65536 in
set_option maxHeartbeats 40000000 in
theorem c_str2 {l : Launch} {Z : State} {a0 : Array Value} (hw : HW Z a0) {h0 : Heap} {b : Addr} {k : ClassId} {c0 c1 c2 c3 c4 c5 c6 : Int32} (hc0 : ¬ c0 < 0 ∧ ¬ (255 : Int32) < c0) (hc1 : ¬ c1 < 0 ∧ ¬ (255 : Int32) < c1) (hc2 : ¬ c2 < 0 ∧ ¬ (255 : Int32) < c2) (hc3 : ¬ c3 < 0 ∧ ¬ (255 : Int32) < c3) (hc4 : ¬ c4 < 0 ∧ ¬ (255 : Int32) < c4) (hc5 : ¬ c5 < 0 ∧ ¬ (255 : Int32) < c5) (hc6 : ¬ c6 < 0 ∧ ¬ (255 : Int32) < c6) (V_b : Arv Z h0 b k .char (7 : Int32) [.int c0, .int c1, .int c2, .int c3, .int c4, .int c5, .int c6] (.int (0 : Int32))) (hO : Old Z Z.heap.size h0) : Ctr l Z EL0 nw0 ({ cls := "com/example/vestledger/vestledger/number/RoundingNamedPinLaw", name := "str", desc := "([CI)Ljava/lang/String;" } : Jvm.MethodName) method_4_code 2 (some (.object "java/lang/String")) ({ frames := 4, cells := 3, slots := 8, locals := 66 } : Room) [.ref b, .int (2 : Int32)] h0 [] (fun v h M' => ∃ x t, v = some (.ref x) ∧ M' = [] ∧ Keep h0 h [] ∧ Str8 Z h x t [c0, c1]) := by
  refine of_body (a0 := a0) opn_11 (own_ew hw) hO (Ls := #[.val (.ref b), .val (.int (2 : Int32))]) (fun m => by first | rfl | (simp [entryFrame, mkF, argsToLocals, Value.category]; done)) (fun κ T0 w0 hnm => ?_)
  refine W.iloadN w0 od_9_0 (pc' := 1) rfl rfl ?_
  refine W.ifYes w0 od_9_1 (pc' := 15) (by decide) (by decide) ((if0 _ _).trans (feq (by decide : ¬ ((2 : Int32) = (0 : Int32)))).2) ?_
  refine W.iloadN w0 od_9_15 (pc' := 16) rfl rfl ?_
  refine W.iconst w0 od_9_16 (pc' := 17) rfl (z := (1 : Int32)) rfl ?_
  refine W.icmpYes w0 od_9_17 (pc' := 37) (by decide) (by decide) (feq (by decide : ¬ ((2 : Int32) = (1 : Int32)))).2 ?_
  refine W.iloadN w0 od_9_37 (pc' := 38) rfl rfl ?_
  refine W.iconst w0 od_9_38 (pc' := 39) rfl (z := (2 : Int32)) rfl ?_
  refine W.icmpNo w0 od_9_39 (pc' := 42) rfl (teq (by decide : (2 : Int32) = (2 : Int32))).2 ?_
  refine W.newO w0 (ow_52 hw) (ow_2 hw) (ow_1 hw) od_9_42 (pc' := 45) rfl (by decide) (by decide) fun T1 h2 a3 w4 K5 B6 E7 D8 => ?_
  have ne9 : b ≠ a3 := neL V_b.lt B6
  have F10 : Fld Z h2 a3 "java/lang/String" "value" "[B" .null := D8 (Or.inr (ow_4 hw)) (ty := (.array .byte)) (by decide)
  have F11 : Fld Z h2 a3 "java/lang/String" "coder" "B" (.int (0 : Int32)) := D8 (Or.inr (ow_5 hw)) (ty := .byte) (by decide)
  refine W.dup w4 od_9_45 (pc' := 46) rfl rfl ?_
  refine W.iconst w4 od_9_46 (pc' := 47) rfl (z := (2 : Int32)) rfl ?_
  have f20 := (V_b.keep K5 nin0)
  refine W.newP w4 (ty := .char) rfl (ow_8 hw) od_9_47 (pc' := 49) rfl (by decide) (cap := 2) (by decide) (by decide) (by decide) (by decide) fun T12 h13 a14 k15 w16 K17 B18 V19 => ?_
  have ne21 : b ≠ a14 := neL f20.lt B18
  have ne22 : a3 ≠ a14 := neL E7.lt B18
  have V23 : Arv Z h13 a14 k15 .char (2 : Int32) [(.int (0 : Int32)), (.int (0 : Int32))] (.int (0 : Int32)) := V19
  refine W.dup w16 od_9_49 (pc' := 50) rfl rfl ?_
  refine W.iconst w16 od_9_50 (pc' := 51) rfl (z := (0 : Int32)) rfl ?_
  refine W.aloadN w16 od_9_51 (pc' := 52) rfl rfl rfl ?_
  refine W.iconst w16 od_9_52 (pc' := 53) rfl (z := (0 : Int32)) rfl ?_
  have f24 := (f20.keep K17 nin0)
  refine W.ldC w16 f24 ⟨by decide, by decide⟩ (v := (.int c0)) rfl od_9_53 (pc' := 54) rfl ?_
  refine W.stC w16 (x' := c0) (nar_lat hc0) V23 (i := 0) (by decide) ⟨by decide, by decide⟩ (Nat.le_of_ble_eq_true rfl) mem0 od_9_54 (pc' := 55) rfl fun T25 h26 w27 K28 V29 => ?_
  have V30 : Arv Z h26 a14 k15 .char (2 : Int32) [(.int c0), (.int (0 : Int32))] (.int (0 : Int32)) := V29
  refine W.dup w27 od_9_55 (pc' := 56) rfl rfl ?_
  refine W.iconst w27 od_9_56 (pc' := 57) rfl (z := (1 : Int32)) rfl ?_
  refine W.aloadN w27 od_9_57 (pc' := 58) rfl rfl rfl ?_
  refine W.iconst w27 od_9_58 (pc' := 59) rfl (z := (1 : Int32)) rfl ?_
  have f31 := (f24.keep K28 (ninS ne21 nin0))
  refine W.ldC w27 f31 ⟨by decide, by decide⟩ (v := (.int c1)) rfl od_9_59 (pc' := 60) rfl ?_
  refine W.stC w27 (x' := c1) (nar_lat hc1) V30 (i := 1) (by decide) ⟨by decide, by decide⟩ (Nat.le_of_ble_eq_true rfl) mem0 od_9_60 (pc' := 61) rfl fun T32 h33 w34 K35 V36 => ?_
  have V37 : Arv Z h33 a14 k15 .char (2 : Int32) [(.int c0), (.int c1)] (.int (0 : Int32)) := V36
  have f38 := (((E7.keep K17).keep K28).keep K35)
  have f39 := (((F10.keep K17 nin0).keep K28 (ninS ne22 nin0)).keep K35 (ninS ne22 nin0))
  have f40 := (((F11.keep K17 nin0).keep K28 (ninS ne22 nin0)).keep K35 (ninS ne22 nin0))
  have f41 := (f31.keep K35 (ninS ne21 nin0))
  refine W.callI w34 (ow_53 hw) (ow_54 hw) (ow_55 hw) rfl (by decide) opd_9 (own_init hw w34.old (w34.mut (memS mem0)).1 f38 f39 f40 (cs := [c0, c1]) V37 (n := 2) rfl rfl (by decide) (by decide) (faS hc0 (faS hc1 fa0))) (mC (memS mem0) mN) od_9_61 (pc' := 64) rfl rfl rfl (rest := [(.ref a3)]) rfl (Wd := 1) rfl (by decide) (by decide) (by decide) (by decide) fun v44 T42 h43 M45 w46 q47 => ?_
  obtain ⟨rfl, rfl, K48, t49, B50, F51⟩ := q47
  have ne52 : b ≠ t49 := neL f41.lt B50
  have ne53 : a3 ≠ t49 := neL f38.lt B50
  have ne54 : a14 ≠ t49 := neL V37.lt B50
  show Go Z _ _ _ κ _ (T42.setTop (mkF (km κ) 64 #[.val (.ref b), .val (.int (2 : Int32))] [(.ref a3)]))
  have C55 := Keep.refl h0 []
  have C56 := C55.trans K5 RoadKit.all0
  have C57 := C56.trans K17 RoadKit.all0
  have C58 := C57.trans K28 (allS (Or.inr (Nat.le_trans K5.1 B18)) RoadKit.all0)
  have C59 := C58.trans K35 (allS (Or.inr (Nat.le_trans K5.1 B18)) RoadKit.all0)
  have C60 := C59.trans K48 (allS (Or.inr B6) RoadKit.all0)
  exact W.retR w46 rfl rfl rfl od_9_64 (M' := []) mN (by decide) (by decide) ⟨a3, t49, rfl, rfl, C60, F51⟩
set_option maxRecDepth 65536 in
set_option maxHeartbeats 40000000 in
theorem c_str3 {l : Launch} {Z : State} {a0 : Array Value} (hw : HW Z a0) {h0 : Heap} {b : Addr} {k : ClassId} {c0 c1 c2 c3 c4 c5 c6 : Int32} (hc0 : ¬ c0 < 0 ∧ ¬ (255 : Int32) < c0) (hc1 : ¬ c1 < 0 ∧ ¬ (255 : Int32) < c1) (hc2 : ¬ c2 < 0 ∧ ¬ (255 : Int32) < c2) (hc3 : ¬ c3 < 0 ∧ ¬ (255 : Int32) < c3) (hc4 : ¬ c4 < 0 ∧ ¬ (255 : Int32) < c4) (hc5 : ¬ c5 < 0 ∧ ¬ (255 : Int32) < c5) (hc6 : ¬ c6 < 0 ∧ ¬ (255 : Int32) < c6) (V_b : Arv Z h0 b k .char (7 : Int32) [.int c0, .int c1, .int c2, .int c3, .int c4, .int c5, .int c6] (.int (0 : Int32))) (hO : Old Z Z.heap.size h0) : Ctr l Z EL0 nw0 ({ cls := "com/example/vestledger/vestledger/number/RoundingNamedPinLaw", name := "str", desc := "([CI)Ljava/lang/String;" } : Jvm.MethodName) method_4_code 2 (some (.object "java/lang/String")) ({ frames := 4, cells := 3, slots := 10, locals := 66 } : Room) [.ref b, .int (3 : Int32)] h0 [] (fun v h M' => ∃ x t, v = some (.ref x) ∧ M' = [] ∧ Keep h0 h [] ∧ Str8 Z h x t [c0, c1, c2]) := by
  refine of_body (a0 := a0) opn_11 (own_ew hw) hO (Ls := #[.val (.ref b), .val (.int (3 : Int32))]) (fun m => by first | rfl | (simp [entryFrame, mkF, argsToLocals, Value.category]; done)) (fun κ T0 w0 hnm => ?_)
  refine W.iloadN w0 od_9_0 (pc' := 1) rfl rfl ?_
  refine W.ifYes w0 od_9_1 (pc' := 15) (by decide) (by decide) ((if0 _ _).trans (feq (by decide : ¬ ((3 : Int32) = (0 : Int32)))).2) ?_
  refine W.iloadN w0 od_9_15 (pc' := 16) rfl rfl ?_
  refine W.iconst w0 od_9_16 (pc' := 17) rfl (z := (1 : Int32)) rfl ?_
  refine W.icmpYes w0 od_9_17 (pc' := 37) (by decide) (by decide) (feq (by decide : ¬ ((3 : Int32) = (1 : Int32)))).2 ?_
  refine W.iloadN w0 od_9_37 (pc' := 38) rfl rfl ?_
  refine W.iconst w0 od_9_38 (pc' := 39) rfl (z := (2 : Int32)) rfl ?_
  refine W.icmpYes w0 od_9_39 (pc' := 65) (by decide) (by decide) (feq (by decide : ¬ ((3 : Int32) = (2 : Int32)))).2 ?_
  refine W.iloadN w0 od_9_65 (pc' := 66) rfl rfl ?_
  refine W.iconst w0 od_9_66 (pc' := 67) rfl (z := (3 : Int32)) rfl ?_
  refine W.icmpNo w0 od_9_67 (pc' := 70) rfl (teq (by decide : (3 : Int32) = (3 : Int32))).2 ?_
  refine W.newO w0 (ow_52 hw) (ow_2 hw) (ow_1 hw) od_9_70 (pc' := 73) rfl (by decide) (by decide) fun T1 h2 a3 w4 K5 B6 E7 D8 => ?_
  have ne9 : b ≠ a3 := neL V_b.lt B6
  have F10 : Fld Z h2 a3 "java/lang/String" "value" "[B" .null := D8 (Or.inr (ow_4 hw)) (ty := (.array .byte)) (by decide)
  have F11 : Fld Z h2 a3 "java/lang/String" "coder" "B" (.int (0 : Int32)) := D8 (Or.inr (ow_5 hw)) (ty := .byte) (by decide)
  refine W.dup w4 od_9_73 (pc' := 74) rfl rfl ?_
  refine W.iconst w4 od_9_74 (pc' := 75) rfl (z := (3 : Int32)) rfl ?_
  have f20 := (V_b.keep K5 nin0)
  refine W.newP w4 (ty := .char) rfl (ow_8 hw) od_9_75 (pc' := 77) rfl (by decide) (cap := 3) (by decide) (by decide) (by decide) (by decide) fun T12 h13 a14 k15 w16 K17 B18 V19 => ?_
  have ne21 : b ≠ a14 := neL f20.lt B18
  have ne22 : a3 ≠ a14 := neL E7.lt B18
  have V23 : Arv Z h13 a14 k15 .char (3 : Int32) [(.int (0 : Int32)), (.int (0 : Int32)), (.int (0 : Int32))] (.int (0 : Int32)) := V19
  refine W.dup w16 od_9_77 (pc' := 78) rfl rfl ?_
  refine W.iconst w16 od_9_78 (pc' := 79) rfl (z := (0 : Int32)) rfl ?_
  refine W.aloadN w16 od_9_79 (pc' := 80) rfl rfl rfl ?_
  refine W.iconst w16 od_9_80 (pc' := 81) rfl (z := (0 : Int32)) rfl ?_
  have f24 := (f20.keep K17 nin0)
  refine W.ldC w16 f24 ⟨by decide, by decide⟩ (v := (.int c0)) rfl od_9_81 (pc' := 82) rfl ?_
  refine W.stC w16 (x' := c0) (nar_lat hc0) V23 (i := 0) (by decide) ⟨by decide, by decide⟩ (Nat.le_of_ble_eq_true rfl) mem0 od_9_82 (pc' := 83) rfl fun T25 h26 w27 K28 V29 => ?_
  have V30 : Arv Z h26 a14 k15 .char (3 : Int32) [(.int c0), (.int (0 : Int32)), (.int (0 : Int32))] (.int (0 : Int32)) := V29
  refine W.dup w27 od_9_83 (pc' := 84) rfl rfl ?_
  refine W.iconst w27 od_9_84 (pc' := 85) rfl (z := (1 : Int32)) rfl ?_
  refine W.aloadN w27 od_9_85 (pc' := 86) rfl rfl rfl ?_
  refine W.iconst w27 od_9_86 (pc' := 87) rfl (z := (1 : Int32)) rfl ?_
  have f31 := (f24.keep K28 (ninS ne21 nin0))
  refine W.ldC w27 f31 ⟨by decide, by decide⟩ (v := (.int c1)) rfl od_9_87 (pc' := 88) rfl ?_
  refine W.stC w27 (x' := c1) (nar_lat hc1) V30 (i := 1) (by decide) ⟨by decide, by decide⟩ (Nat.le_of_ble_eq_true rfl) mem0 od_9_88 (pc' := 89) rfl fun T32 h33 w34 K35 V36 => ?_
  have V37 : Arv Z h33 a14 k15 .char (3 : Int32) [(.int c0), (.int c1), (.int (0 : Int32))] (.int (0 : Int32)) := V36
  refine W.dup w34 od_9_89 (pc' := 90) rfl rfl ?_
  refine W.iconst w34 od_9_90 (pc' := 91) rfl (z := (2 : Int32)) rfl ?_
  refine W.aloadN w34 od_9_91 (pc' := 92) rfl rfl rfl ?_
  refine W.iconst w34 od_9_92 (pc' := 93) rfl (z := (2 : Int32)) rfl ?_
  have f38 := (f31.keep K35 (ninS ne21 nin0))
  refine W.ldC w34 f38 ⟨by decide, by decide⟩ (v := (.int c2)) rfl od_9_93 (pc' := 94) rfl ?_
  refine W.stC w34 (x' := c2) (nar_lat hc2) V37 (i := 2) (by decide) ⟨by decide, by decide⟩ (Nat.le_of_ble_eq_true rfl) mem0 od_9_94 (pc' := 95) rfl fun T39 h40 w41 K42 V43 => ?_
  have V44 : Arv Z h40 a14 k15 .char (3 : Int32) [(.int c0), (.int c1), (.int c2)] (.int (0 : Int32)) := V43
  have f45 := ((((E7.keep K17).keep K28).keep K35).keep K42)
  have f46 := ((((F10.keep K17 nin0).keep K28 (ninS ne22 nin0)).keep K35 (ninS ne22 nin0)).keep K42 (ninS ne22 nin0))
  have f47 := ((((F11.keep K17 nin0).keep K28 (ninS ne22 nin0)).keep K35 (ninS ne22 nin0)).keep K42 (ninS ne22 nin0))
  have f48 := (f38.keep K42 (ninS ne21 nin0))
  refine W.callI w41 (ow_53 hw) (ow_54 hw) (ow_55 hw) rfl (by decide) opd_9 (own_init hw w41.old (w41.mut (memS mem0)).1 f45 f46 f47 (cs := [c0, c1, c2]) V44 (n := 3) rfl rfl (by decide) (by decide) (faS hc0 (faS hc1 (faS hc2 fa0)))) (mC (memS mem0) mN) od_9_95 (pc' := 98) rfl rfl rfl (rest := [(.ref a3)]) rfl (Wd := 1) rfl (by decide) (by decide) (by decide) (by decide) fun v51 T49 h50 M52 w53 q54 => ?_
  obtain ⟨rfl, rfl, K55, t56, B57, F58⟩ := q54
  have ne59 : b ≠ t56 := neL f48.lt B57
  have ne60 : a3 ≠ t56 := neL f45.lt B57
  have ne61 : a14 ≠ t56 := neL V44.lt B57
  show Go Z _ _ _ κ _ (T49.setTop (mkF (km κ) 98 #[.val (.ref b), .val (.int (3 : Int32))] [(.ref a3)]))
  have C62 := Keep.refl h0 []
  have C63 := C62.trans K5 RoadKit.all0
  have C64 := C63.trans K17 RoadKit.all0
  have C65 := C64.trans K28 (allS (Or.inr (Nat.le_trans K5.1 B18)) RoadKit.all0)
  have C66 := C65.trans K35 (allS (Or.inr (Nat.le_trans K5.1 B18)) RoadKit.all0)
  have C67 := C66.trans K42 (allS (Or.inr (Nat.le_trans K5.1 B18)) RoadKit.all0)
  have C68 := C67.trans K55 (allS (Or.inr B6) RoadKit.all0)
  exact W.retR w53 rfl rfl rfl od_9_98 (M' := []) mN (by decide) (by decide) ⟨a3, t56, rfl, rfl, C68, F58⟩
set_option maxRecDepth 65536 in
set_option maxHeartbeats 40000000 in
theorem c_str4 {l : Launch} {Z : State} {a0 : Array Value} (hw : HW Z a0) {h0 : Heap} {b : Addr} {k : ClassId} {c0 c1 c2 c3 c4 c5 c6 : Int32} (hc0 : ¬ c0 < 0 ∧ ¬ (255 : Int32) < c0) (hc1 : ¬ c1 < 0 ∧ ¬ (255 : Int32) < c1) (hc2 : ¬ c2 < 0 ∧ ¬ (255 : Int32) < c2) (hc3 : ¬ c3 < 0 ∧ ¬ (255 : Int32) < c3) (hc4 : ¬ c4 < 0 ∧ ¬ (255 : Int32) < c4) (hc5 : ¬ c5 < 0 ∧ ¬ (255 : Int32) < c5) (hc6 : ¬ c6 < 0 ∧ ¬ (255 : Int32) < c6) (V_b : Arv Z h0 b k .char (7 : Int32) [.int c0, .int c1, .int c2, .int c3, .int c4, .int c5, .int c6] (.int (0 : Int32))) (hO : Old Z Z.heap.size h0) : Ctr l Z EL0 nw0 ({ cls := "com/example/vestledger/vestledger/number/RoundingNamedPinLaw", name := "str", desc := "([CI)Ljava/lang/String;" } : Jvm.MethodName) method_4_code 2 (some (.object "java/lang/String")) ({ frames := 4, cells := 3, slots := 12, locals := 66 } : Room) [.ref b, .int (4 : Int32)] h0 [] (fun v h M' => ∃ x t, v = some (.ref x) ∧ M' = [] ∧ Keep h0 h [] ∧ Str8 Z h x t [c0, c1, c2, c3]) := by
  refine of_body (a0 := a0) opn_11 (own_ew hw) hO (Ls := #[.val (.ref b), .val (.int (4 : Int32))]) (fun m => by first | rfl | (simp [entryFrame, mkF, argsToLocals, Value.category]; done)) (fun κ T0 w0 hnm => ?_)
  refine W.iloadN w0 od_9_0 (pc' := 1) rfl rfl ?_
  refine W.ifYes w0 od_9_1 (pc' := 15) (by decide) (by decide) ((if0 _ _).trans (feq (by decide : ¬ ((4 : Int32) = (0 : Int32)))).2) ?_
  refine W.iloadN w0 od_9_15 (pc' := 16) rfl rfl ?_
  refine W.iconst w0 od_9_16 (pc' := 17) rfl (z := (1 : Int32)) rfl ?_
  refine W.icmpYes w0 od_9_17 (pc' := 37) (by decide) (by decide) (feq (by decide : ¬ ((4 : Int32) = (1 : Int32)))).2 ?_
  refine W.iloadN w0 od_9_37 (pc' := 38) rfl rfl ?_
  refine W.iconst w0 od_9_38 (pc' := 39) rfl (z := (2 : Int32)) rfl ?_
  refine W.icmpYes w0 od_9_39 (pc' := 65) (by decide) (by decide) (feq (by decide : ¬ ((4 : Int32) = (2 : Int32)))).2 ?_
  refine W.iloadN w0 od_9_65 (pc' := 66) rfl rfl ?_
  refine W.iconst w0 od_9_66 (pc' := 67) rfl (z := (3 : Int32)) rfl ?_
  refine W.icmpYes w0 od_9_67 (pc' := 99) (by decide) (by decide) (feq (by decide : ¬ ((4 : Int32) = (3 : Int32)))).2 ?_
  refine W.iloadN w0 od_9_99 (pc' := 100) rfl rfl ?_
  refine W.iconst w0 od_9_100 (pc' := 101) rfl (z := (4 : Int32)) rfl ?_
  refine W.icmpNo w0 od_9_101 (pc' := 104) rfl (teq (by decide : (4 : Int32) = (4 : Int32))).2 ?_
  refine W.newO w0 (ow_52 hw) (ow_2 hw) (ow_1 hw) od_9_104 (pc' := 107) rfl (by decide) (by decide) fun T1 h2 a3 w4 K5 B6 E7 D8 => ?_
  have ne9 : b ≠ a3 := neL V_b.lt B6
  have F10 : Fld Z h2 a3 "java/lang/String" "value" "[B" .null := D8 (Or.inr (ow_4 hw)) (ty := (.array .byte)) (by decide)
  have F11 : Fld Z h2 a3 "java/lang/String" "coder" "B" (.int (0 : Int32)) := D8 (Or.inr (ow_5 hw)) (ty := .byte) (by decide)
  refine W.dup w4 od_9_107 (pc' := 108) rfl rfl ?_
  refine W.iconst w4 od_9_108 (pc' := 109) rfl (z := (4 : Int32)) rfl ?_
  have f20 := (V_b.keep K5 nin0)
  refine W.newP w4 (ty := .char) rfl (ow_8 hw) od_9_109 (pc' := 111) rfl (by decide) (cap := 4) (by decide) (by decide) (by decide) (by decide) fun T12 h13 a14 k15 w16 K17 B18 V19 => ?_
  have ne21 : b ≠ a14 := neL f20.lt B18
  have ne22 : a3 ≠ a14 := neL E7.lt B18
  have V23 : Arv Z h13 a14 k15 .char (4 : Int32) [(.int (0 : Int32)), (.int (0 : Int32)), (.int (0 : Int32)), (.int (0 : Int32))] (.int (0 : Int32)) := V19
  refine W.dup w16 od_9_111 (pc' := 112) rfl rfl ?_
  refine W.iconst w16 od_9_112 (pc' := 113) rfl (z := (0 : Int32)) rfl ?_
  refine W.aloadN w16 od_9_113 (pc' := 114) rfl rfl rfl ?_
  refine W.iconst w16 od_9_114 (pc' := 115) rfl (z := (0 : Int32)) rfl ?_
  have f24 := (f20.keep K17 nin0)
  refine W.ldC w16 f24 ⟨by decide, by decide⟩ (v := (.int c0)) rfl od_9_115 (pc' := 116) rfl ?_
  refine W.stC w16 (x' := c0) (nar_lat hc0) V23 (i := 0) (by decide) ⟨by decide, by decide⟩ (Nat.le_of_ble_eq_true rfl) mem0 od_9_116 (pc' := 117) rfl fun T25 h26 w27 K28 V29 => ?_
  have V30 : Arv Z h26 a14 k15 .char (4 : Int32) [(.int c0), (.int (0 : Int32)), (.int (0 : Int32)), (.int (0 : Int32))] (.int (0 : Int32)) := V29
  refine W.dup w27 od_9_117 (pc' := 118) rfl rfl ?_
  refine W.iconst w27 od_9_118 (pc' := 119) rfl (z := (1 : Int32)) rfl ?_
  refine W.aloadN w27 od_9_119 (pc' := 120) rfl rfl rfl ?_
  refine W.iconst w27 od_9_120 (pc' := 121) rfl (z := (1 : Int32)) rfl ?_
  have f31 := (f24.keep K28 (ninS ne21 nin0))
  refine W.ldC w27 f31 ⟨by decide, by decide⟩ (v := (.int c1)) rfl od_9_121 (pc' := 122) rfl ?_
  refine W.stC w27 (x' := c1) (nar_lat hc1) V30 (i := 1) (by decide) ⟨by decide, by decide⟩ (Nat.le_of_ble_eq_true rfl) mem0 od_9_122 (pc' := 123) rfl fun T32 h33 w34 K35 V36 => ?_
  have V37 : Arv Z h33 a14 k15 .char (4 : Int32) [(.int c0), (.int c1), (.int (0 : Int32)), (.int (0 : Int32))] (.int (0 : Int32)) := V36
  refine W.dup w34 od_9_123 (pc' := 124) rfl rfl ?_
  refine W.iconst w34 od_9_124 (pc' := 125) rfl (z := (2 : Int32)) rfl ?_
  refine W.aloadN w34 od_9_125 (pc' := 126) rfl rfl rfl ?_
  refine W.iconst w34 od_9_126 (pc' := 127) rfl (z := (2 : Int32)) rfl ?_
  have f38 := (f31.keep K35 (ninS ne21 nin0))
  refine W.ldC w34 f38 ⟨by decide, by decide⟩ (v := (.int c2)) rfl od_9_127 (pc' := 128) rfl ?_
  refine W.stC w34 (x' := c2) (nar_lat hc2) V37 (i := 2) (by decide) ⟨by decide, by decide⟩ (Nat.le_of_ble_eq_true rfl) mem0 od_9_128 (pc' := 129) rfl fun T39 h40 w41 K42 V43 => ?_
  have V44 : Arv Z h40 a14 k15 .char (4 : Int32) [(.int c0), (.int c1), (.int c2), (.int (0 : Int32))] (.int (0 : Int32)) := V43
  refine W.dup w41 od_9_129 (pc' := 130) rfl rfl ?_
  refine W.iconst w41 od_9_130 (pc' := 131) rfl (z := (3 : Int32)) rfl ?_
  refine W.aloadN w41 od_9_131 (pc' := 132) rfl rfl rfl ?_
  refine W.iconst w41 od_9_132 (pc' := 133) rfl (z := (3 : Int32)) rfl ?_
  have f45 := (f38.keep K42 (ninS ne21 nin0))
  refine W.ldC w41 f45 ⟨by decide, by decide⟩ (v := (.int c3)) rfl od_9_133 (pc' := 134) rfl ?_
  refine W.stC w41 (x' := c3) (nar_lat hc3) V44 (i := 3) (by decide) ⟨by decide, by decide⟩ (Nat.le_of_ble_eq_true rfl) mem0 od_9_134 (pc' := 135) rfl fun T46 h47 w48 K49 V50 => ?_
  have V51 : Arv Z h47 a14 k15 .char (4 : Int32) [(.int c0), (.int c1), (.int c2), (.int c3)] (.int (0 : Int32)) := V50
  have f52 := (((((E7.keep K17).keep K28).keep K35).keep K42).keep K49)
  have f53 := (((((F10.keep K17 nin0).keep K28 (ninS ne22 nin0)).keep K35 (ninS ne22 nin0)).keep K42 (ninS ne22 nin0)).keep K49 (ninS ne22 nin0))
  have f54 := (((((F11.keep K17 nin0).keep K28 (ninS ne22 nin0)).keep K35 (ninS ne22 nin0)).keep K42 (ninS ne22 nin0)).keep K49 (ninS ne22 nin0))
  have f55 := (f45.keep K49 (ninS ne21 nin0))
  refine W.callI w48 (ow_53 hw) (ow_54 hw) (ow_55 hw) rfl (by decide) opd_9 (own_init hw w48.old (w48.mut (memS mem0)).1 f52 f53 f54 (cs := [c0, c1, c2, c3]) V51 (n := 4) rfl rfl (by decide) (by decide) (faS hc0 (faS hc1 (faS hc2 (faS hc3 fa0))))) (mC (memS mem0) mN) od_9_135 (pc' := 138) rfl rfl rfl (rest := [(.ref a3)]) rfl (Wd := 1) rfl (by decide) (by decide) (by decide) (by decide) fun v58 T56 h57 M59 w60 q61 => ?_
  obtain ⟨rfl, rfl, K62, t63, B64, F65⟩ := q61
  have ne66 : b ≠ t63 := neL f55.lt B64
  have ne67 : a3 ≠ t63 := neL f52.lt B64
  have ne68 : a14 ≠ t63 := neL V51.lt B64
  show Go Z _ _ _ κ _ (T56.setTop (mkF (km κ) 138 #[.val (.ref b), .val (.int (4 : Int32))] [(.ref a3)]))
  have C69 := Keep.refl h0 []
  have C70 := C69.trans K5 RoadKit.all0
  have C71 := C70.trans K17 RoadKit.all0
  have C72 := C71.trans K28 (allS (Or.inr (Nat.le_trans K5.1 B18)) RoadKit.all0)
  have C73 := C72.trans K35 (allS (Or.inr (Nat.le_trans K5.1 B18)) RoadKit.all0)
  have C74 := C73.trans K42 (allS (Or.inr (Nat.le_trans K5.1 B18)) RoadKit.all0)
  have C75 := C74.trans K49 (allS (Or.inr (Nat.le_trans K5.1 B18)) RoadKit.all0)
  have C76 := C75.trans K62 (allS (Or.inr B6) RoadKit.all0)
  exact W.retR w60 rfl rfl rfl od_9_138 (M' := []) mN (by decide) (by decide) ⟨a3, t63, rfl, rfl, C76, F65⟩
set_option maxRecDepth 65536 in
set_option maxHeartbeats 40000000 in
theorem c_str5 {l : Launch} {Z : State} {a0 : Array Value} (hw : HW Z a0) {h0 : Heap} {b : Addr} {k : ClassId} {c0 c1 c2 c3 c4 c5 c6 : Int32} (hc0 : ¬ c0 < 0 ∧ ¬ (255 : Int32) < c0) (hc1 : ¬ c1 < 0 ∧ ¬ (255 : Int32) < c1) (hc2 : ¬ c2 < 0 ∧ ¬ (255 : Int32) < c2) (hc3 : ¬ c3 < 0 ∧ ¬ (255 : Int32) < c3) (hc4 : ¬ c4 < 0 ∧ ¬ (255 : Int32) < c4) (hc5 : ¬ c5 < 0 ∧ ¬ (255 : Int32) < c5) (hc6 : ¬ c6 < 0 ∧ ¬ (255 : Int32) < c6) (V_b : Arv Z h0 b k .char (7 : Int32) [.int c0, .int c1, .int c2, .int c3, .int c4, .int c5, .int c6] (.int (0 : Int32))) (hO : Old Z Z.heap.size h0) : Ctr l Z EL0 nw0 ({ cls := "com/example/vestledger/vestledger/number/RoundingNamedPinLaw", name := "str", desc := "([CI)Ljava/lang/String;" } : Jvm.MethodName) method_4_code 2 (some (.object "java/lang/String")) ({ frames := 4, cells := 3, slots := 14, locals := 66 } : Room) [.ref b, .int (5 : Int32)] h0 [] (fun v h M' => ∃ x t, v = some (.ref x) ∧ M' = [] ∧ Keep h0 h [] ∧ Str8 Z h x t [c0, c1, c2, c3, c4]) := by
  refine of_body (a0 := a0) opn_11 (own_ew hw) hO (Ls := #[.val (.ref b), .val (.int (5 : Int32))]) (fun m => by first | rfl | (simp [entryFrame, mkF, argsToLocals, Value.category]; done)) (fun κ T0 w0 hnm => ?_)
  refine W.iloadN w0 od_9_0 (pc' := 1) rfl rfl ?_
  refine W.ifYes w0 od_9_1 (pc' := 15) (by decide) (by decide) ((if0 _ _).trans (feq (by decide : ¬ ((5 : Int32) = (0 : Int32)))).2) ?_
  refine W.iloadN w0 od_9_15 (pc' := 16) rfl rfl ?_
  refine W.iconst w0 od_9_16 (pc' := 17) rfl (z := (1 : Int32)) rfl ?_
  refine W.icmpYes w0 od_9_17 (pc' := 37) (by decide) (by decide) (feq (by decide : ¬ ((5 : Int32) = (1 : Int32)))).2 ?_
  refine W.iloadN w0 od_9_37 (pc' := 38) rfl rfl ?_
  refine W.iconst w0 od_9_38 (pc' := 39) rfl (z := (2 : Int32)) rfl ?_
  refine W.icmpYes w0 od_9_39 (pc' := 65) (by decide) (by decide) (feq (by decide : ¬ ((5 : Int32) = (2 : Int32)))).2 ?_
  refine W.iloadN w0 od_9_65 (pc' := 66) rfl rfl ?_
  refine W.iconst w0 od_9_66 (pc' := 67) rfl (z := (3 : Int32)) rfl ?_
  refine W.icmpYes w0 od_9_67 (pc' := 99) (by decide) (by decide) (feq (by decide : ¬ ((5 : Int32) = (3 : Int32)))).2 ?_
  refine W.iloadN w0 od_9_99 (pc' := 100) rfl rfl ?_
  refine W.iconst w0 od_9_100 (pc' := 101) rfl (z := (4 : Int32)) rfl ?_
  refine W.icmpYes w0 od_9_101 (pc' := 139) (by decide) (by decide) (feq (by decide : ¬ ((5 : Int32) = (4 : Int32)))).2 ?_
  refine W.iloadN w0 od_9_139 (pc' := 140) rfl rfl ?_
  refine W.iconst w0 od_9_140 (pc' := 141) rfl (z := (5 : Int32)) rfl ?_
  refine W.icmpNo w0 od_9_141 (pc' := 144) rfl (teq (by decide : (5 : Int32) = (5 : Int32))).2 ?_
  refine W.newO w0 (ow_52 hw) (ow_2 hw) (ow_1 hw) od_9_144 (pc' := 147) rfl (by decide) (by decide) fun T1 h2 a3 w4 K5 B6 E7 D8 => ?_
  have ne9 : b ≠ a3 := neL V_b.lt B6
  have F10 : Fld Z h2 a3 "java/lang/String" "value" "[B" .null := D8 (Or.inr (ow_4 hw)) (ty := (.array .byte)) (by decide)
  have F11 : Fld Z h2 a3 "java/lang/String" "coder" "B" (.int (0 : Int32)) := D8 (Or.inr (ow_5 hw)) (ty := .byte) (by decide)
  refine W.dup w4 od_9_147 (pc' := 148) rfl rfl ?_
  refine W.iconst w4 od_9_148 (pc' := 149) rfl (z := (5 : Int32)) rfl ?_
  have f20 := (V_b.keep K5 nin0)
  refine W.newP w4 (ty := .char) rfl (ow_8 hw) od_9_149 (pc' := 151) rfl (by decide) (cap := 5) (by decide) (by decide) (by decide) (by decide) fun T12 h13 a14 k15 w16 K17 B18 V19 => ?_
  have ne21 : b ≠ a14 := neL f20.lt B18
  have ne22 : a3 ≠ a14 := neL E7.lt B18
  have V23 : Arv Z h13 a14 k15 .char (5 : Int32) [(.int (0 : Int32)), (.int (0 : Int32)), (.int (0 : Int32)), (.int (0 : Int32)), (.int (0 : Int32))] (.int (0 : Int32)) := V19
  refine W.dup w16 od_9_151 (pc' := 152) rfl rfl ?_
  refine W.iconst w16 od_9_152 (pc' := 153) rfl (z := (0 : Int32)) rfl ?_
  refine W.aloadN w16 od_9_153 (pc' := 154) rfl rfl rfl ?_
  refine W.iconst w16 od_9_154 (pc' := 155) rfl (z := (0 : Int32)) rfl ?_
  have f24 := (f20.keep K17 nin0)
  refine W.ldC w16 f24 ⟨by decide, by decide⟩ (v := (.int c0)) rfl od_9_155 (pc' := 156) rfl ?_
  refine W.stC w16 (x' := c0) (nar_lat hc0) V23 (i := 0) (by decide) ⟨by decide, by decide⟩ (Nat.le_of_ble_eq_true rfl) mem0 od_9_156 (pc' := 157) rfl fun T25 h26 w27 K28 V29 => ?_
  have V30 : Arv Z h26 a14 k15 .char (5 : Int32) [(.int c0), (.int (0 : Int32)), (.int (0 : Int32)), (.int (0 : Int32)), (.int (0 : Int32))] (.int (0 : Int32)) := V29
  refine W.dup w27 od_9_157 (pc' := 158) rfl rfl ?_
  refine W.iconst w27 od_9_158 (pc' := 159) rfl (z := (1 : Int32)) rfl ?_
  refine W.aloadN w27 od_9_159 (pc' := 160) rfl rfl rfl ?_
  refine W.iconst w27 od_9_160 (pc' := 161) rfl (z := (1 : Int32)) rfl ?_
  have f31 := (f24.keep K28 (ninS ne21 nin0))
  refine W.ldC w27 f31 ⟨by decide, by decide⟩ (v := (.int c1)) rfl od_9_161 (pc' := 162) rfl ?_
  refine W.stC w27 (x' := c1) (nar_lat hc1) V30 (i := 1) (by decide) ⟨by decide, by decide⟩ (Nat.le_of_ble_eq_true rfl) mem0 od_9_162 (pc' := 163) rfl fun T32 h33 w34 K35 V36 => ?_
  have V37 : Arv Z h33 a14 k15 .char (5 : Int32) [(.int c0), (.int c1), (.int (0 : Int32)), (.int (0 : Int32)), (.int (0 : Int32))] (.int (0 : Int32)) := V36
  refine W.dup w34 od_9_163 (pc' := 164) rfl rfl ?_
  refine W.iconst w34 od_9_164 (pc' := 165) rfl (z := (2 : Int32)) rfl ?_
  refine W.aloadN w34 od_9_165 (pc' := 166) rfl rfl rfl ?_
  refine W.iconst w34 od_9_166 (pc' := 167) rfl (z := (2 : Int32)) rfl ?_
  have f38 := (f31.keep K35 (ninS ne21 nin0))
  refine W.ldC w34 f38 ⟨by decide, by decide⟩ (v := (.int c2)) rfl od_9_167 (pc' := 168) rfl ?_
  refine W.stC w34 (x' := c2) (nar_lat hc2) V37 (i := 2) (by decide) ⟨by decide, by decide⟩ (Nat.le_of_ble_eq_true rfl) mem0 od_9_168 (pc' := 169) rfl fun T39 h40 w41 K42 V43 => ?_
  have V44 : Arv Z h40 a14 k15 .char (5 : Int32) [(.int c0), (.int c1), (.int c2), (.int (0 : Int32)), (.int (0 : Int32))] (.int (0 : Int32)) := V43
  refine W.dup w41 od_9_169 (pc' := 170) rfl rfl ?_
  refine W.iconst w41 od_9_170 (pc' := 171) rfl (z := (3 : Int32)) rfl ?_
  refine W.aloadN w41 od_9_171 (pc' := 172) rfl rfl rfl ?_
  refine W.iconst w41 od_9_172 (pc' := 173) rfl (z := (3 : Int32)) rfl ?_
  have f45 := (f38.keep K42 (ninS ne21 nin0))
  refine W.ldC w41 f45 ⟨by decide, by decide⟩ (v := (.int c3)) rfl od_9_173 (pc' := 174) rfl ?_
  refine W.stC w41 (x' := c3) (nar_lat hc3) V44 (i := 3) (by decide) ⟨by decide, by decide⟩ (Nat.le_of_ble_eq_true rfl) mem0 od_9_174 (pc' := 175) rfl fun T46 h47 w48 K49 V50 => ?_
  have V51 : Arv Z h47 a14 k15 .char (5 : Int32) [(.int c0), (.int c1), (.int c2), (.int c3), (.int (0 : Int32))] (.int (0 : Int32)) := V50
  refine W.dup w48 od_9_175 (pc' := 176) rfl rfl ?_
  refine W.iconst w48 od_9_176 (pc' := 177) rfl (z := (4 : Int32)) rfl ?_
  refine W.aloadN w48 od_9_177 (pc' := 178) rfl rfl rfl ?_
  refine W.iconst w48 od_9_178 (pc' := 179) rfl (z := (4 : Int32)) rfl ?_
  have f52 := (f45.keep K49 (ninS ne21 nin0))
  refine W.ldC w48 f52 ⟨by decide, by decide⟩ (v := (.int c4)) rfl od_9_179 (pc' := 180) rfl ?_
  refine W.stC w48 (x' := c4) (nar_lat hc4) V51 (i := 4) (by decide) ⟨by decide, by decide⟩ (Nat.le_of_ble_eq_true rfl) mem0 od_9_180 (pc' := 181) rfl fun T53 h54 w55 K56 V57 => ?_
  have V58 : Arv Z h54 a14 k15 .char (5 : Int32) [(.int c0), (.int c1), (.int c2), (.int c3), (.int c4)] (.int (0 : Int32)) := V57
  have f59 := ((((((E7.keep K17).keep K28).keep K35).keep K42).keep K49).keep K56)
  have f60 := ((((((F10.keep K17 nin0).keep K28 (ninS ne22 nin0)).keep K35 (ninS ne22 nin0)).keep K42 (ninS ne22 nin0)).keep K49 (ninS ne22 nin0)).keep K56 (ninS ne22 nin0))
  have f61 := ((((((F11.keep K17 nin0).keep K28 (ninS ne22 nin0)).keep K35 (ninS ne22 nin0)).keep K42 (ninS ne22 nin0)).keep K49 (ninS ne22 nin0)).keep K56 (ninS ne22 nin0))
  have f62 := (f52.keep K56 (ninS ne21 nin0))
  refine W.callI w55 (ow_53 hw) (ow_54 hw) (ow_55 hw) rfl (by decide) opd_9 (own_init hw w55.old (w55.mut (memS mem0)).1 f59 f60 f61 (cs := [c0, c1, c2, c3, c4]) V58 (n := 5) rfl rfl (by decide) (by decide) (faS hc0 (faS hc1 (faS hc2 (faS hc3 (faS hc4 fa0)))))) (mC (memS mem0) mN) od_9_181 (pc' := 184) rfl rfl rfl (rest := [(.ref a3)]) rfl (Wd := 1) rfl (by decide) (by decide) (by decide) (by decide) fun v65 T63 h64 M66 w67 q68 => ?_
  obtain ⟨rfl, rfl, K69, t70, B71, F72⟩ := q68
  have ne73 : b ≠ t70 := neL f62.lt B71
  have ne74 : a3 ≠ t70 := neL f59.lt B71
  have ne75 : a14 ≠ t70 := neL V58.lt B71
  show Go Z _ _ _ κ _ (T63.setTop (mkF (km κ) 184 #[.val (.ref b), .val (.int (5 : Int32))] [(.ref a3)]))
  have C76 := Keep.refl h0 []
  have C77 := C76.trans K5 RoadKit.all0
  have C78 := C77.trans K17 RoadKit.all0
  have C79 := C78.trans K28 (allS (Or.inr (Nat.le_trans K5.1 B18)) RoadKit.all0)
  have C80 := C79.trans K35 (allS (Or.inr (Nat.le_trans K5.1 B18)) RoadKit.all0)
  have C81 := C80.trans K42 (allS (Or.inr (Nat.le_trans K5.1 B18)) RoadKit.all0)
  have C82 := C81.trans K49 (allS (Or.inr (Nat.le_trans K5.1 B18)) RoadKit.all0)
  have C83 := C82.trans K56 (allS (Or.inr (Nat.le_trans K5.1 B18)) RoadKit.all0)
  have C84 := C83.trans K69 (allS (Or.inr B6) RoadKit.all0)
  exact W.retR w67 rfl rfl rfl od_9_184 (M' := []) mN (by decide) (by decide) ⟨a3, t70, rfl, rfl, C84, F72⟩
set_option maxRecDepth 65536 in
set_option maxHeartbeats 40000000 in
theorem c_str6 {l : Launch} {Z : State} {a0 : Array Value} (hw : HW Z a0) {h0 : Heap} {b : Addr} {k : ClassId} {c0 c1 c2 c3 c4 c5 c6 : Int32} (hc0 : ¬ c0 < 0 ∧ ¬ (255 : Int32) < c0) (hc1 : ¬ c1 < 0 ∧ ¬ (255 : Int32) < c1) (hc2 : ¬ c2 < 0 ∧ ¬ (255 : Int32) < c2) (hc3 : ¬ c3 < 0 ∧ ¬ (255 : Int32) < c3) (hc4 : ¬ c4 < 0 ∧ ¬ (255 : Int32) < c4) (hc5 : ¬ c5 < 0 ∧ ¬ (255 : Int32) < c5) (hc6 : ¬ c6 < 0 ∧ ¬ (255 : Int32) < c6) (V_b : Arv Z h0 b k .char (7 : Int32) [.int c0, .int c1, .int c2, .int c3, .int c4, .int c5, .int c6] (.int (0 : Int32))) (hO : Old Z Z.heap.size h0) : Ctr l Z EL0 nw0 ({ cls := "com/example/vestledger/vestledger/number/RoundingNamedPinLaw", name := "str", desc := "([CI)Ljava/lang/String;" } : Jvm.MethodName) method_4_code 2 (some (.object "java/lang/String")) ({ frames := 4, cells := 3, slots := 16, locals := 66 } : Room) [.ref b, .int (6 : Int32)] h0 [] (fun v h M' => ∃ x t, v = some (.ref x) ∧ M' = [] ∧ Keep h0 h [] ∧ Str8 Z h x t [c0, c1, c2, c3, c4, c5]) := by
  refine of_body (a0 := a0) opn_11 (own_ew hw) hO (Ls := #[.val (.ref b), .val (.int (6 : Int32))]) (fun m => by first | rfl | (simp [entryFrame, mkF, argsToLocals, Value.category]; done)) (fun κ T0 w0 hnm => ?_)
  refine W.iloadN w0 od_9_0 (pc' := 1) rfl rfl ?_
  refine W.ifYes w0 od_9_1 (pc' := 15) (by decide) (by decide) ((if0 _ _).trans (feq (by decide : ¬ ((6 : Int32) = (0 : Int32)))).2) ?_
  refine W.iloadN w0 od_9_15 (pc' := 16) rfl rfl ?_
  refine W.iconst w0 od_9_16 (pc' := 17) rfl (z := (1 : Int32)) rfl ?_
  refine W.icmpYes w0 od_9_17 (pc' := 37) (by decide) (by decide) (feq (by decide : ¬ ((6 : Int32) = (1 : Int32)))).2 ?_
  refine W.iloadN w0 od_9_37 (pc' := 38) rfl rfl ?_
  refine W.iconst w0 od_9_38 (pc' := 39) rfl (z := (2 : Int32)) rfl ?_
  refine W.icmpYes w0 od_9_39 (pc' := 65) (by decide) (by decide) (feq (by decide : ¬ ((6 : Int32) = (2 : Int32)))).2 ?_
  refine W.iloadN w0 od_9_65 (pc' := 66) rfl rfl ?_
  refine W.iconst w0 od_9_66 (pc' := 67) rfl (z := (3 : Int32)) rfl ?_
  refine W.icmpYes w0 od_9_67 (pc' := 99) (by decide) (by decide) (feq (by decide : ¬ ((6 : Int32) = (3 : Int32)))).2 ?_
  refine W.iloadN w0 od_9_99 (pc' := 100) rfl rfl ?_
  refine W.iconst w0 od_9_100 (pc' := 101) rfl (z := (4 : Int32)) rfl ?_
  refine W.icmpYes w0 od_9_101 (pc' := 139) (by decide) (by decide) (feq (by decide : ¬ ((6 : Int32) = (4 : Int32)))).2 ?_
  refine W.iloadN w0 od_9_139 (pc' := 140) rfl rfl ?_
  refine W.iconst w0 od_9_140 (pc' := 141) rfl (z := (5 : Int32)) rfl ?_
  refine W.icmpYes w0 od_9_141 (pc' := 185) (by decide) (by decide) (feq (by decide : ¬ ((6 : Int32) = (5 : Int32)))).2 ?_
  refine W.iloadN w0 od_9_185 (pc' := 186) rfl rfl ?_
  refine W.bipush w0 od_9_186 (pc' := 188) rfl (z := (6 : Int32)) rfl ?_
  refine W.icmpNo w0 od_9_188 (pc' := 191) rfl (teq (by decide : (6 : Int32) = (6 : Int32))).2 ?_
  refine W.newO w0 (ow_52 hw) (ow_2 hw) (ow_1 hw) od_9_191 (pc' := 194) rfl (by decide) (by decide) fun T1 h2 a3 w4 K5 B6 E7 D8 => ?_
  have ne9 : b ≠ a3 := neL V_b.lt B6
  have F10 : Fld Z h2 a3 "java/lang/String" "value" "[B" .null := D8 (Or.inr (ow_4 hw)) (ty := (.array .byte)) (by decide)
  have F11 : Fld Z h2 a3 "java/lang/String" "coder" "B" (.int (0 : Int32)) := D8 (Or.inr (ow_5 hw)) (ty := .byte) (by decide)
  refine W.dup w4 od_9_194 (pc' := 195) rfl rfl ?_
  refine W.bipush w4 od_9_195 (pc' := 197) rfl (z := (6 : Int32)) rfl ?_
  have f20 := (V_b.keep K5 nin0)
  refine W.newP w4 (ty := .char) rfl (ow_8 hw) od_9_197 (pc' := 199) rfl (by decide) (cap := 6) (by decide) (by decide) (by decide) (by decide) fun T12 h13 a14 k15 w16 K17 B18 V19 => ?_
  have ne21 : b ≠ a14 := neL f20.lt B18
  have ne22 : a3 ≠ a14 := neL E7.lt B18
  have V23 : Arv Z h13 a14 k15 .char (6 : Int32) [(.int (0 : Int32)), (.int (0 : Int32)), (.int (0 : Int32)), (.int (0 : Int32)), (.int (0 : Int32)), (.int (0 : Int32))] (.int (0 : Int32)) := V19
  refine W.dup w16 od_9_199 (pc' := 200) rfl rfl ?_
  refine W.iconst w16 od_9_200 (pc' := 201) rfl (z := (0 : Int32)) rfl ?_
  refine W.aloadN w16 od_9_201 (pc' := 202) rfl rfl rfl ?_
  refine W.iconst w16 od_9_202 (pc' := 203) rfl (z := (0 : Int32)) rfl ?_
  have f24 := (f20.keep K17 nin0)
  refine W.ldC w16 f24 ⟨by decide, by decide⟩ (v := (.int c0)) rfl od_9_203 (pc' := 204) rfl ?_
  refine W.stC w16 (x' := c0) (nar_lat hc0) V23 (i := 0) (by decide) ⟨by decide, by decide⟩ (Nat.le_of_ble_eq_true rfl) mem0 od_9_204 (pc' := 205) rfl fun T25 h26 w27 K28 V29 => ?_
  have V30 : Arv Z h26 a14 k15 .char (6 : Int32) [(.int c0), (.int (0 : Int32)), (.int (0 : Int32)), (.int (0 : Int32)), (.int (0 : Int32)), (.int (0 : Int32))] (.int (0 : Int32)) := V29
  refine W.dup w27 od_9_205 (pc' := 206) rfl rfl ?_
  refine W.iconst w27 od_9_206 (pc' := 207) rfl (z := (1 : Int32)) rfl ?_
  refine W.aloadN w27 od_9_207 (pc' := 208) rfl rfl rfl ?_
  refine W.iconst w27 od_9_208 (pc' := 209) rfl (z := (1 : Int32)) rfl ?_
  have f31 := (f24.keep K28 (ninS ne21 nin0))
  refine W.ldC w27 f31 ⟨by decide, by decide⟩ (v := (.int c1)) rfl od_9_209 (pc' := 210) rfl ?_
  refine W.stC w27 (x' := c1) (nar_lat hc1) V30 (i := 1) (by decide) ⟨by decide, by decide⟩ (Nat.le_of_ble_eq_true rfl) mem0 od_9_210 (pc' := 211) rfl fun T32 h33 w34 K35 V36 => ?_
  have V37 : Arv Z h33 a14 k15 .char (6 : Int32) [(.int c0), (.int c1), (.int (0 : Int32)), (.int (0 : Int32)), (.int (0 : Int32)), (.int (0 : Int32))] (.int (0 : Int32)) := V36
  refine W.dup w34 od_9_211 (pc' := 212) rfl rfl ?_
  refine W.iconst w34 od_9_212 (pc' := 213) rfl (z := (2 : Int32)) rfl ?_
  refine W.aloadN w34 od_9_213 (pc' := 214) rfl rfl rfl ?_
  refine W.iconst w34 od_9_214 (pc' := 215) rfl (z := (2 : Int32)) rfl ?_
  have f38 := (f31.keep K35 (ninS ne21 nin0))
  refine W.ldC w34 f38 ⟨by decide, by decide⟩ (v := (.int c2)) rfl od_9_215 (pc' := 216) rfl ?_
  refine W.stC w34 (x' := c2) (nar_lat hc2) V37 (i := 2) (by decide) ⟨by decide, by decide⟩ (Nat.le_of_ble_eq_true rfl) mem0 od_9_216 (pc' := 217) rfl fun T39 h40 w41 K42 V43 => ?_
  have V44 : Arv Z h40 a14 k15 .char (6 : Int32) [(.int c0), (.int c1), (.int c2), (.int (0 : Int32)), (.int (0 : Int32)), (.int (0 : Int32))] (.int (0 : Int32)) := V43
  refine W.dup w41 od_9_217 (pc' := 218) rfl rfl ?_
  refine W.iconst w41 od_9_218 (pc' := 219) rfl (z := (3 : Int32)) rfl ?_
  refine W.aloadN w41 od_9_219 (pc' := 220) rfl rfl rfl ?_
  refine W.iconst w41 od_9_220 (pc' := 221) rfl (z := (3 : Int32)) rfl ?_
  have f45 := (f38.keep K42 (ninS ne21 nin0))
  refine W.ldC w41 f45 ⟨by decide, by decide⟩ (v := (.int c3)) rfl od_9_221 (pc' := 222) rfl ?_
  refine W.stC w41 (x' := c3) (nar_lat hc3) V44 (i := 3) (by decide) ⟨by decide, by decide⟩ (Nat.le_of_ble_eq_true rfl) mem0 od_9_222 (pc' := 223) rfl fun T46 h47 w48 K49 V50 => ?_
  have V51 : Arv Z h47 a14 k15 .char (6 : Int32) [(.int c0), (.int c1), (.int c2), (.int c3), (.int (0 : Int32)), (.int (0 : Int32))] (.int (0 : Int32)) := V50
  refine W.dup w48 od_9_223 (pc' := 224) rfl rfl ?_
  refine W.iconst w48 od_9_224 (pc' := 225) rfl (z := (4 : Int32)) rfl ?_
  refine W.aloadN w48 od_9_225 (pc' := 226) rfl rfl rfl ?_
  refine W.iconst w48 od_9_226 (pc' := 227) rfl (z := (4 : Int32)) rfl ?_
  have f52 := (f45.keep K49 (ninS ne21 nin0))
  refine W.ldC w48 f52 ⟨by decide, by decide⟩ (v := (.int c4)) rfl od_9_227 (pc' := 228) rfl ?_
  refine W.stC w48 (x' := c4) (nar_lat hc4) V51 (i := 4) (by decide) ⟨by decide, by decide⟩ (Nat.le_of_ble_eq_true rfl) mem0 od_9_228 (pc' := 229) rfl fun T53 h54 w55 K56 V57 => ?_
  have V58 : Arv Z h54 a14 k15 .char (6 : Int32) [(.int c0), (.int c1), (.int c2), (.int c3), (.int c4), (.int (0 : Int32))] (.int (0 : Int32)) := V57
  refine W.dup w55 od_9_229 (pc' := 230) rfl rfl ?_
  refine W.iconst w55 od_9_230 (pc' := 231) rfl (z := (5 : Int32)) rfl ?_
  refine W.aloadN w55 od_9_231 (pc' := 232) rfl rfl rfl ?_
  refine W.iconst w55 od_9_232 (pc' := 233) rfl (z := (5 : Int32)) rfl ?_
  have f59 := (f52.keep K56 (ninS ne21 nin0))
  refine W.ldC w55 f59 ⟨by decide, by decide⟩ (v := (.int c5)) rfl od_9_233 (pc' := 234) rfl ?_
  refine W.stC w55 (x' := c5) (nar_lat hc5) V58 (i := 5) (by decide) ⟨by decide, by decide⟩ (Nat.le_of_ble_eq_true rfl) mem0 od_9_234 (pc' := 235) rfl fun T60 h61 w62 K63 V64 => ?_
  have V65 : Arv Z h61 a14 k15 .char (6 : Int32) [(.int c0), (.int c1), (.int c2), (.int c3), (.int c4), (.int c5)] (.int (0 : Int32)) := V64
  have f66 := (((((((E7.keep K17).keep K28).keep K35).keep K42).keep K49).keep K56).keep K63)
  have f67 := (((((((F10.keep K17 nin0).keep K28 (ninS ne22 nin0)).keep K35 (ninS ne22 nin0)).keep K42 (ninS ne22 nin0)).keep K49 (ninS ne22 nin0)).keep K56 (ninS ne22 nin0)).keep K63 (ninS ne22 nin0))
  have f68 := (((((((F11.keep K17 nin0).keep K28 (ninS ne22 nin0)).keep K35 (ninS ne22 nin0)).keep K42 (ninS ne22 nin0)).keep K49 (ninS ne22 nin0)).keep K56 (ninS ne22 nin0)).keep K63 (ninS ne22 nin0))
  have f69 := (f59.keep K63 (ninS ne21 nin0))
  refine W.callI w62 (ow_53 hw) (ow_54 hw) (ow_55 hw) rfl (by decide) opd_9 (own_init hw w62.old (w62.mut (memS mem0)).1 f66 f67 f68 (cs := [c0, c1, c2, c3, c4, c5]) V65 (n := 6) rfl rfl (by decide) (by decide) (faS hc0 (faS hc1 (faS hc2 (faS hc3 (faS hc4 (faS hc5 fa0))))))) (mC (memS mem0) mN) od_9_235 (pc' := 238) rfl rfl rfl (rest := [(.ref a3)]) rfl (Wd := 1) rfl (by decide) (by decide) (by decide) (by decide) fun v72 T70 h71 M73 w74 q75 => ?_
  obtain ⟨rfl, rfl, K76, t77, B78, F79⟩ := q75
  have ne80 : b ≠ t77 := neL f69.lt B78
  have ne81 : a3 ≠ t77 := neL f66.lt B78
  have ne82 : a14 ≠ t77 := neL V65.lt B78
  show Go Z _ _ _ κ _ (T70.setTop (mkF (km κ) 238 #[.val (.ref b), .val (.int (6 : Int32))] [(.ref a3)]))
  have C83 := Keep.refl h0 []
  have C84 := C83.trans K5 RoadKit.all0
  have C85 := C84.trans K17 RoadKit.all0
  have C86 := C85.trans K28 (allS (Or.inr (Nat.le_trans K5.1 B18)) RoadKit.all0)
  have C87 := C86.trans K35 (allS (Or.inr (Nat.le_trans K5.1 B18)) RoadKit.all0)
  have C88 := C87.trans K42 (allS (Or.inr (Nat.le_trans K5.1 B18)) RoadKit.all0)
  have C89 := C88.trans K49 (allS (Or.inr (Nat.le_trans K5.1 B18)) RoadKit.all0)
  have C90 := C89.trans K56 (allS (Or.inr (Nat.le_trans K5.1 B18)) RoadKit.all0)
  have C91 := C90.trans K63 (allS (Or.inr (Nat.le_trans K5.1 B18)) RoadKit.all0)
  have C92 := C91.trans K76 (allS (Or.inr B6) RoadKit.all0)
  exact W.retR w74 rfl rfl rfl od_9_238 (M' := []) mN (by decide) (by decide) ⟨a3, t77, rfl, rfl, C92, F79⟩
set_option maxRecDepth 65536 in
set_option maxHeartbeats 40000000 in
theorem c_str7 {l : Launch} {Z : State} {a0 : Array Value} (hw : HW Z a0) {h0 : Heap} {b : Addr} {k : ClassId} {c0 c1 c2 c3 c4 c5 c6 : Int32} (hc0 : ¬ c0 < 0 ∧ ¬ (255 : Int32) < c0) (hc1 : ¬ c1 < 0 ∧ ¬ (255 : Int32) < c1) (hc2 : ¬ c2 < 0 ∧ ¬ (255 : Int32) < c2) (hc3 : ¬ c3 < 0 ∧ ¬ (255 : Int32) < c3) (hc4 : ¬ c4 < 0 ∧ ¬ (255 : Int32) < c4) (hc5 : ¬ c5 < 0 ∧ ¬ (255 : Int32) < c5) (hc6 : ¬ c6 < 0 ∧ ¬ (255 : Int32) < c6) (V_b : Arv Z h0 b k .char (7 : Int32) [.int c0, .int c1, .int c2, .int c3, .int c4, .int c5, .int c6] (.int (0 : Int32))) (hO : Old Z Z.heap.size h0) : Ctr l Z EL0 nw0 ({ cls := "com/example/vestledger/vestledger/number/RoundingNamedPinLaw", name := "str", desc := "([CI)Ljava/lang/String;" } : Jvm.MethodName) method_4_code 2 (some (.object "java/lang/String")) ({ frames := 4, cells := 3, slots := 18, locals := 66 } : Room) [.ref b, .int (7 : Int32)] h0 [] (fun v h M' => ∃ x t, v = some (.ref x) ∧ M' = [] ∧ Keep h0 h [] ∧ Str8 Z h x t [c0, c1, c2, c3, c4, c5, c6]) := by
  refine of_body (a0 := a0) opn_11 (own_ew hw) hO (Ls := #[.val (.ref b), .val (.int (7 : Int32))]) (fun m => by first | rfl | (simp [entryFrame, mkF, argsToLocals, Value.category]; done)) (fun κ T0 w0 hnm => ?_)
  refine W.iloadN w0 od_9_0 (pc' := 1) rfl rfl ?_
  refine W.ifYes w0 od_9_1 (pc' := 15) (by decide) (by decide) ((if0 _ _).trans (feq (by decide : ¬ ((7 : Int32) = (0 : Int32)))).2) ?_
  refine W.iloadN w0 od_9_15 (pc' := 16) rfl rfl ?_
  refine W.iconst w0 od_9_16 (pc' := 17) rfl (z := (1 : Int32)) rfl ?_
  refine W.icmpYes w0 od_9_17 (pc' := 37) (by decide) (by decide) (feq (by decide : ¬ ((7 : Int32) = (1 : Int32)))).2 ?_
  refine W.iloadN w0 od_9_37 (pc' := 38) rfl rfl ?_
  refine W.iconst w0 od_9_38 (pc' := 39) rfl (z := (2 : Int32)) rfl ?_
  refine W.icmpYes w0 od_9_39 (pc' := 65) (by decide) (by decide) (feq (by decide : ¬ ((7 : Int32) = (2 : Int32)))).2 ?_
  refine W.iloadN w0 od_9_65 (pc' := 66) rfl rfl ?_
  refine W.iconst w0 od_9_66 (pc' := 67) rfl (z := (3 : Int32)) rfl ?_
  refine W.icmpYes w0 od_9_67 (pc' := 99) (by decide) (by decide) (feq (by decide : ¬ ((7 : Int32) = (3 : Int32)))).2 ?_
  refine W.iloadN w0 od_9_99 (pc' := 100) rfl rfl ?_
  refine W.iconst w0 od_9_100 (pc' := 101) rfl (z := (4 : Int32)) rfl ?_
  refine W.icmpYes w0 od_9_101 (pc' := 139) (by decide) (by decide) (feq (by decide : ¬ ((7 : Int32) = (4 : Int32)))).2 ?_
  refine W.iloadN w0 od_9_139 (pc' := 140) rfl rfl ?_
  refine W.iconst w0 od_9_140 (pc' := 141) rfl (z := (5 : Int32)) rfl ?_
  refine W.icmpYes w0 od_9_141 (pc' := 185) (by decide) (by decide) (feq (by decide : ¬ ((7 : Int32) = (5 : Int32)))).2 ?_
  refine W.iloadN w0 od_9_185 (pc' := 186) rfl rfl ?_
  refine W.bipush w0 od_9_186 (pc' := 188) rfl (z := (6 : Int32)) rfl ?_
  refine W.icmpYes w0 od_9_188 (pc' := 239) (by decide) (by decide) (feq (by decide : ¬ ((7 : Int32) = (6 : Int32)))).2 ?_
  refine W.newO w0 (ow_52 hw) (ow_2 hw) (ow_1 hw) od_9_239 (pc' := 242) rfl (by decide) (by decide) fun T1 h2 a3 w4 K5 B6 E7 D8 => ?_
  have ne9 : b ≠ a3 := neL V_b.lt B6
  have F10 : Fld Z h2 a3 "java/lang/String" "value" "[B" .null := D8 (Or.inr (ow_4 hw)) (ty := (.array .byte)) (by decide)
  have F11 : Fld Z h2 a3 "java/lang/String" "coder" "B" (.int (0 : Int32)) := D8 (Or.inr (ow_5 hw)) (ty := .byte) (by decide)
  refine W.dup w4 od_9_242 (pc' := 243) rfl rfl ?_
  refine W.bipush w4 od_9_243 (pc' := 245) rfl (z := (7 : Int32)) rfl ?_
  have f20 := (V_b.keep K5 nin0)
  refine W.newP w4 (ty := .char) rfl (ow_8 hw) od_9_245 (pc' := 247) rfl (by decide) (cap := 7) (by decide) (by decide) (by decide) (by decide) fun T12 h13 a14 k15 w16 K17 B18 V19 => ?_
  have ne21 : b ≠ a14 := neL f20.lt B18
  have ne22 : a3 ≠ a14 := neL E7.lt B18
  have V23 : Arv Z h13 a14 k15 .char (7 : Int32) [(.int (0 : Int32)), (.int (0 : Int32)), (.int (0 : Int32)), (.int (0 : Int32)), (.int (0 : Int32)), (.int (0 : Int32)), (.int (0 : Int32))] (.int (0 : Int32)) := V19
  refine W.dup w16 od_9_247 (pc' := 248) rfl rfl ?_
  refine W.iconst w16 od_9_248 (pc' := 249) rfl (z := (0 : Int32)) rfl ?_
  refine W.aloadN w16 od_9_249 (pc' := 250) rfl rfl rfl ?_
  refine W.iconst w16 od_9_250 (pc' := 251) rfl (z := (0 : Int32)) rfl ?_
  have f24 := (f20.keep K17 nin0)
  refine W.ldC w16 f24 ⟨by decide, by decide⟩ (v := (.int c0)) rfl od_9_251 (pc' := 252) rfl ?_
  refine W.stC w16 (x' := c0) (nar_lat hc0) V23 (i := 0) (by decide) ⟨by decide, by decide⟩ (Nat.le_of_ble_eq_true rfl) mem0 od_9_252 (pc' := 253) rfl fun T25 h26 w27 K28 V29 => ?_
  have V30 : Arv Z h26 a14 k15 .char (7 : Int32) [(.int c0), (.int (0 : Int32)), (.int (0 : Int32)), (.int (0 : Int32)), (.int (0 : Int32)), (.int (0 : Int32)), (.int (0 : Int32))] (.int (0 : Int32)) := V29
  refine W.dup w27 od_9_253 (pc' := 254) rfl rfl ?_
  refine W.iconst w27 od_9_254 (pc' := 255) rfl (z := (1 : Int32)) rfl ?_
  refine W.aloadN w27 od_9_255 (pc' := 256) rfl rfl rfl ?_
  refine W.iconst w27 od_9_256 (pc' := 257) rfl (z := (1 : Int32)) rfl ?_
  have f31 := (f24.keep K28 (ninS ne21 nin0))
  refine W.ldC w27 f31 ⟨by decide, by decide⟩ (v := (.int c1)) rfl od_9_257 (pc' := 258) rfl ?_
  refine W.stC w27 (x' := c1) (nar_lat hc1) V30 (i := 1) (by decide) ⟨by decide, by decide⟩ (Nat.le_of_ble_eq_true rfl) mem0 od_9_258 (pc' := 259) rfl fun T32 h33 w34 K35 V36 => ?_
  have V37 : Arv Z h33 a14 k15 .char (7 : Int32) [(.int c0), (.int c1), (.int (0 : Int32)), (.int (0 : Int32)), (.int (0 : Int32)), (.int (0 : Int32)), (.int (0 : Int32))] (.int (0 : Int32)) := V36
  refine W.dup w34 od_9_259 (pc' := 260) rfl rfl ?_
  refine W.iconst w34 od_9_260 (pc' := 261) rfl (z := (2 : Int32)) rfl ?_
  refine W.aloadN w34 od_9_261 (pc' := 262) rfl rfl rfl ?_
  refine W.iconst w34 od_9_262 (pc' := 263) rfl (z := (2 : Int32)) rfl ?_
  have f38 := (f31.keep K35 (ninS ne21 nin0))
  refine W.ldC w34 f38 ⟨by decide, by decide⟩ (v := (.int c2)) rfl od_9_263 (pc' := 264) rfl ?_
  refine W.stC w34 (x' := c2) (nar_lat hc2) V37 (i := 2) (by decide) ⟨by decide, by decide⟩ (Nat.le_of_ble_eq_true rfl) mem0 od_9_264 (pc' := 265) rfl fun T39 h40 w41 K42 V43 => ?_
  have V44 : Arv Z h40 a14 k15 .char (7 : Int32) [(.int c0), (.int c1), (.int c2), (.int (0 : Int32)), (.int (0 : Int32)), (.int (0 : Int32)), (.int (0 : Int32))] (.int (0 : Int32)) := V43
  refine W.dup w41 od_9_265 (pc' := 266) rfl rfl ?_
  refine W.iconst w41 od_9_266 (pc' := 267) rfl (z := (3 : Int32)) rfl ?_
  refine W.aloadN w41 od_9_267 (pc' := 268) rfl rfl rfl ?_
  refine W.iconst w41 od_9_268 (pc' := 269) rfl (z := (3 : Int32)) rfl ?_
  have f45 := (f38.keep K42 (ninS ne21 nin0))
  refine W.ldC w41 f45 ⟨by decide, by decide⟩ (v := (.int c3)) rfl od_9_269 (pc' := 270) rfl ?_
  refine W.stC w41 (x' := c3) (nar_lat hc3) V44 (i := 3) (by decide) ⟨by decide, by decide⟩ (Nat.le_of_ble_eq_true rfl) mem0 od_9_270 (pc' := 271) rfl fun T46 h47 w48 K49 V50 => ?_
  have V51 : Arv Z h47 a14 k15 .char (7 : Int32) [(.int c0), (.int c1), (.int c2), (.int c3), (.int (0 : Int32)), (.int (0 : Int32)), (.int (0 : Int32))] (.int (0 : Int32)) := V50
  refine W.dup w48 od_9_271 (pc' := 272) rfl rfl ?_
  refine W.iconst w48 od_9_272 (pc' := 273) rfl (z := (4 : Int32)) rfl ?_
  refine W.aloadN w48 od_9_273 (pc' := 274) rfl rfl rfl ?_
  refine W.iconst w48 od_9_274 (pc' := 275) rfl (z := (4 : Int32)) rfl ?_
  have f52 := (f45.keep K49 (ninS ne21 nin0))
  refine W.ldC w48 f52 ⟨by decide, by decide⟩ (v := (.int c4)) rfl od_9_275 (pc' := 276) rfl ?_
  refine W.stC w48 (x' := c4) (nar_lat hc4) V51 (i := 4) (by decide) ⟨by decide, by decide⟩ (Nat.le_of_ble_eq_true rfl) mem0 od_9_276 (pc' := 277) rfl fun T53 h54 w55 K56 V57 => ?_
  have V58 : Arv Z h54 a14 k15 .char (7 : Int32) [(.int c0), (.int c1), (.int c2), (.int c3), (.int c4), (.int (0 : Int32)), (.int (0 : Int32))] (.int (0 : Int32)) := V57
  refine W.dup w55 od_9_277 (pc' := 278) rfl rfl ?_
  refine W.iconst w55 od_9_278 (pc' := 279) rfl (z := (5 : Int32)) rfl ?_
  refine W.aloadN w55 od_9_279 (pc' := 280) rfl rfl rfl ?_
  refine W.iconst w55 od_9_280 (pc' := 281) rfl (z := (5 : Int32)) rfl ?_
  have f59 := (f52.keep K56 (ninS ne21 nin0))
  refine W.ldC w55 f59 ⟨by decide, by decide⟩ (v := (.int c5)) rfl od_9_281 (pc' := 282) rfl ?_
  refine W.stC w55 (x' := c5) (nar_lat hc5) V58 (i := 5) (by decide) ⟨by decide, by decide⟩ (Nat.le_of_ble_eq_true rfl) mem0 od_9_282 (pc' := 283) rfl fun T60 h61 w62 K63 V64 => ?_
  have V65 : Arv Z h61 a14 k15 .char (7 : Int32) [(.int c0), (.int c1), (.int c2), (.int c3), (.int c4), (.int c5), (.int (0 : Int32))] (.int (0 : Int32)) := V64
  refine W.dup w62 od_9_283 (pc' := 284) rfl rfl ?_
  refine W.bipush w62 od_9_284 (pc' := 286) rfl (z := (6 : Int32)) rfl ?_
  refine W.aloadN w62 od_9_286 (pc' := 287) rfl rfl rfl ?_
  refine W.bipush w62 od_9_287 (pc' := 289) rfl (z := (6 : Int32)) rfl ?_
  have f66 := (f59.keep K63 (ninS ne21 nin0))
  refine W.ldC w62 f66 ⟨by decide, by decide⟩ (v := (.int c6)) rfl od_9_289 (pc' := 290) rfl ?_
  refine W.stC w62 (x' := c6) (nar_lat hc6) V65 (i := 6) (by decide) ⟨by decide, by decide⟩ (Nat.le_of_ble_eq_true rfl) mem0 od_9_290 (pc' := 291) rfl fun T67 h68 w69 K70 V71 => ?_
  have V72 : Arv Z h68 a14 k15 .char (7 : Int32) [(.int c0), (.int c1), (.int c2), (.int c3), (.int c4), (.int c5), (.int c6)] (.int (0 : Int32)) := V71
  have f73 := ((((((((E7.keep K17).keep K28).keep K35).keep K42).keep K49).keep K56).keep K63).keep K70)
  have f74 := ((((((((F10.keep K17 nin0).keep K28 (ninS ne22 nin0)).keep K35 (ninS ne22 nin0)).keep K42 (ninS ne22 nin0)).keep K49 (ninS ne22 nin0)).keep K56 (ninS ne22 nin0)).keep K63 (ninS ne22 nin0)).keep K70 (ninS ne22 nin0))
  have f75 := ((((((((F11.keep K17 nin0).keep K28 (ninS ne22 nin0)).keep K35 (ninS ne22 nin0)).keep K42 (ninS ne22 nin0)).keep K49 (ninS ne22 nin0)).keep K56 (ninS ne22 nin0)).keep K63 (ninS ne22 nin0)).keep K70 (ninS ne22 nin0))
  have f76 := (f66.keep K70 (ninS ne21 nin0))
  refine W.callI w69 (ow_53 hw) (ow_54 hw) (ow_55 hw) rfl (by decide) opd_9 (own_init hw w69.old (w69.mut (memS mem0)).1 f73 f74 f75 (cs := [c0, c1, c2, c3, c4, c5, c6]) V72 (n := 7) rfl rfl (by decide) (by decide) (faS hc0 (faS hc1 (faS hc2 (faS hc3 (faS hc4 (faS hc5 (faS hc6 fa0)))))))) (mC (memS mem0) mN) od_9_291 (pc' := 294) rfl rfl rfl (rest := [(.ref a3)]) rfl (Wd := 1) rfl (by decide) (by decide) (by decide) (by decide) fun v79 T77 h78 M80 w81 q82 => ?_
  obtain ⟨rfl, rfl, K83, t84, B85, F86⟩ := q82
  have ne87 : b ≠ t84 := neL f76.lt B85
  have ne88 : a3 ≠ t84 := neL f73.lt B85
  have ne89 : a14 ≠ t84 := neL V72.lt B85
  show Go Z _ _ _ κ _ (T77.setTop (mkF (km κ) 294 #[.val (.ref b), .val (.int (7 : Int32))] [(.ref a3)]))
  have C90 := Keep.refl h0 []
  have C91 := C90.trans K5 RoadKit.all0
  have C92 := C91.trans K17 RoadKit.all0
  have C93 := C92.trans K28 (allS (Or.inr (Nat.le_trans K5.1 B18)) RoadKit.all0)
  have C94 := C93.trans K35 (allS (Or.inr (Nat.le_trans K5.1 B18)) RoadKit.all0)
  have C95 := C94.trans K42 (allS (Or.inr (Nat.le_trans K5.1 B18)) RoadKit.all0)
  have C96 := C95.trans K49 (allS (Or.inr (Nat.le_trans K5.1 B18)) RoadKit.all0)
  have C97 := C96.trans K56 (allS (Or.inr (Nat.le_trans K5.1 B18)) RoadKit.all0)
  have C98 := C97.trans K63 (allS (Or.inr (Nat.le_trans K5.1 B18)) RoadKit.all0)
  have C99 := C98.trans K70 (allS (Or.inr (Nat.le_trans K5.1 B18)) RoadKit.all0)
  have C100 := C99.trans K83 (allS (Or.inr B6) RoadKit.all0)
  exact W.retR w81 rfl rfl rfl od_9_294 (M' := []) mN (by decide) (by decide) ⟨a3, t84, rfl, rfl, C100, F86⟩
set_option maxRecDepth 65536 in
set_option maxHeartbeats 40000000 in
theorem c_law {l : Launch} {Z : State} {a0 : Array Value} (hw : HW Z a0) {h0 : Heap} {p0 p2 : Int32} {p1 : Int64} (hO : Old Z Z.heap.size h0) : Ctr l Z EL0 nw0 x code maxLocals ret room_1 [.int p0, .long p1, .int p2] h0 [] (fun v h M' => v = some (.int 1)) := by
  refine of_body (a0 := a0) opn_12 (own_ew hw) hO (Ls := #[.val (.int p0), .val (.long p1), .second, .val (.int p2), .unset, .unset, .unset, .unset, .unset, .unset, .unset, .unset, .unset, .unset]) (fun m => by first | rfl | (simp [entryFrame, mkF, argsToLocals, Value.category, maxLocals]; done)) (fun κ T0 w0 hnm => ?_)
  obtain ⟨va, D, H, U, wD, wH, wU, tD, tH, tU, OE, k, X0⟩ := hw.2.2
  have X1 := X0
  obtain ⟨S_v, A_v, E_v, ⟨S_D, E_D, F_D, T_D⟩, ⟨S_H, E_H, F_H, T_H⟩, ⟨S_U, E_U, F_U, T_U⟩, S_O, E_O, F_O⟩ := X0
  refine W.iloadN w0 od_0_0 (pc' := 1) rfl rfl ?_
  refine W.iconst w0 od_0_1 (pc' := 2) rfl (z := (3 : Int32)) rfl ?_
  refine W.iand w0 od_0_2 (pc' := 3) rfl (z := (p2 &&& (3 : Int32))) rfl ?_
  refine W.istore w0 od_0_3 (pc' := 5) rfl (Ls' := #[.val (.int p0), .val (.long p1), .second, .val (.int p2), .val (.int (p2 &&& (3 : Int32))), .unset, .unset, .unset, .unset, .unset, .unset, .unset, .unset, .unset]) rfl ?_
  have J28 : ∀ (T : State) (h : Heap) (xw tw : Addr) (ws : List Int32), W l Z a0 EL0 nw0 x.cls code maxLocals ret room_1 κ T h [] 2 32 → Str8 Z h xw tw ws → ws.length = 4 ∨ ws.length = 7 ∨ ws.length = 2 → Go Z EL0 nw0 room_1 κ (fun v h M' => v = some (.int 1)) (T.setTop (mkF (km κ) 28 #[.val (.int p0), .val (.long p1), .second, .val (.int p2), .val (.int (p2 &&& (3 : Int32))), .unset, .unset, .unset, .unset, .unset, .unset, .unset, .unset, .unset] [.ref xw])) := by
    intro T h xw tw ws wJ Fw hlen
    refine W.astore wJ od_0_28 (pc' := 30) rfl (Ls' := #[.val (.int p0), .val (.long p1), .second, .val (.int p2), .val (.int (p2 &&& (3 : Int32))), .val (.ref xw), .unset, .unset, .unset, .unset, .unset, .unset, .unset, .unset]) rfl rfl ?_
    refine W.iloadN wJ od_0_30 (pc' := 31) rfl rfl ?_
    refine W.iconst wJ od_0_31 (pc' := 32) rfl (z := (2 : Int32)) rfl ?_
    refine W.iushr wJ od_0_32 (pc' := 33) rfl (z := (XT.ushr p2 (2 : Int32))) rfl ?_
    refine W.bipush wJ od_0_33 (pc' := 35) rfl (z := (7 : Int32)) rfl ?_
    refine W.iand wJ od_0_35 (pc' := 36) rfl (z := ((XT.ushr p2 (2 : Int32)) &&& (7 : Int32))) rfl ?_
    refine W.istore wJ od_0_36 (pc' := 38) rfl (Ls' := #[.val (.int p0), .val (.long p1), .second, .val (.int p2), .val (.int (p2 &&& (3 : Int32))), .val (.ref xw), .val (.int ((XT.ushr p2 (2 : Int32)) &&& (7 : Int32))), .unset, .unset, .unset, .unset, .unset, .unset, .unset]) rfl ?_
    refine W.bipush wJ od_0_38 (pc' := 40) rfl (z := (7 : Int32)) rfl ?_
    refine W.newP wJ (ty := .char) rfl (ow_8 hw) od_0_40 (pc' := 42) rfl (by decide) (cap := 7) (by decide) (by decide) (by decide) (by decide) fun T1 h2 a3 k4 w5 K6 B7 V8 => ?_
    have ne9 : xw ≠ a3 := neL Fw.1.lt B7
    have ne10 : tw ≠ a3 := neL Fw.lt2 B7
    have V11 : Arv Z h2 a3 k4 .char (7 : Int32) [(.int (0 : Int32)), (.int (0 : Int32)), (.int (0 : Int32)), (.int (0 : Int32)), (.int (0 : Int32)), (.int (0 : Int32)), (.int (0 : Int32))] (.int (0 : Int32)) := V8
    refine W.astore w5 od_0_42 (pc' := 44) rfl (Ls' := #[.val (.int p0), .val (.long p1), .second, .val (.int p2), .val (.int (p2 &&& (3 : Int32))), .val (.ref xw), .val (.int ((XT.ushr p2 (2 : Int32)) &&& (7 : Int32))), .val (.ref a3), .unset, .unset, .unset, .unset, .unset, .unset]) rfl rfl ?_
    refine W.aload w5 od_0_44 (pc' := 46) rfl rfl rfl ?_
    refine W.iconst w5 od_0_46 (pc' := 47) rfl (z := (0 : Int32)) rfl ?_
    refine W.iload w5 od_0_47 (pc' := 49) rfl rfl ?_
    refine W.aload w5 od_0_49 (pc' := 51) rfl rfl rfl ?_
    refine W.iload w5 od_0_51 (pc' := 53) rfl rfl ?_
    refine W.iconst w5 od_0_53 (pc' := 54) rfl (z := (0 : Int32)) rfl ?_
    refine W.lloadN w5 od_0_54 (pc' := 55) rfl rfl ?_
    have f12 := (Fw.keep K6 nin0 nin0)
    refine W.callS w5 (ow_9 hw) (ow_10 hw) (ow_11 hw) (ow_12 hw) (by decide) opd_10 (Ctr.pay (c_pick hw (i := 0) (by decide) f12 w5.old) (own_ew hw) (ow_12 hw) (ow_11 hw) (kf := 5) (kl := 71) (by decide) (by decide)) mN od_0_55 (pc' := 58) rfl rfl rfl (rest := [(.int (0 : Int32)), (.ref a3)]) rfl (Wd := 2) rfl (by decide) (by decide) (by decide) (by decide) fun v15 T13 h14 M16 w17 q18 => ?_
    obtain ⟨c0, rfl, rfl, rfl, hc0⟩ := q18
    show Go Z _ _ _ κ _ (T13.setTop (mkF (km κ) 58 #[.val (.int p0), .val (.long p1), .second, .val (.int p2), .val (.int (p2 &&& (3 : Int32))), .val (.ref xw), .val (.int ((XT.ushr p2 (2 : Int32)) &&& (7 : Int32))), .val (.ref a3), .unset, .unset, .unset, .unset, .unset, .unset] [(.int c0), (.int (0 : Int32)), (.ref a3)]))
    refine W.stC w17 (x' := c0) (nar_lat hc0) V11 (i := 0) (by decide) ⟨by decide, by decide⟩ (Nat.le_of_ble_eq_true rfl) (memA mem0) od_0_58 (pc' := 59) rfl fun T19 h20 w21 K22 V23 => ?_
    have V24 : Arv Z h20 a3 k4 .char (7 : Int32) [(.int c0), (.int (0 : Int32)), (.int (0 : Int32)), (.int (0 : Int32)), (.int (0 : Int32)), (.int (0 : Int32)), (.int (0 : Int32))] (.int (0 : Int32)) := V23
    refine W.aload w21 od_0_59 (pc' := 61) rfl rfl rfl ?_
    refine W.iconst w21 od_0_61 (pc' := 62) rfl (z := (1 : Int32)) rfl ?_
    refine W.iload w21 od_0_62 (pc' := 64) rfl rfl ?_
    refine W.aload w21 od_0_64 (pc' := 66) rfl rfl rfl ?_
    refine W.iload w21 od_0_66 (pc' := 68) rfl rfl ?_
    refine W.iconst w21 od_0_68 (pc' := 69) rfl (z := (1 : Int32)) rfl ?_
    refine W.lloadN w21 od_0_69 (pc' := 70) rfl rfl ?_
    have f25 := (f12.keep K22 (ninS ne9 nin0) (ninS ne10 nin0))
    refine W.callS w21 (ow_9 hw) (ow_10 hw) (ow_11 hw) (ow_12 hw) (by decide) opd_10 (Ctr.pay (c_pick hw (i := 1) (by decide) f25 w21.old) (own_ew hw) (ow_12 hw) (ow_11 hw) (kf := 5) (kl := 71) (by decide) (by decide)) mN od_0_70 (pc' := 73) rfl rfl rfl (rest := [(.int (1 : Int32)), (.ref a3)]) rfl (Wd := 2) rfl (by decide) (by decide) (by decide) (by decide) fun v28 T26 h27 M29 w30 q31 => ?_
    obtain ⟨c1, rfl, rfl, rfl, hc1⟩ := q31
    show Go Z _ _ _ κ _ (T26.setTop (mkF (km κ) 73 #[.val (.int p0), .val (.long p1), .second, .val (.int p2), .val (.int (p2 &&& (3 : Int32))), .val (.ref xw), .val (.int ((XT.ushr p2 (2 : Int32)) &&& (7 : Int32))), .val (.ref a3), .unset, .unset, .unset, .unset, .unset, .unset] [(.int c1), (.int (1 : Int32)), (.ref a3)]))
    refine W.stC w30 (x' := c1) (nar_lat hc1) V24 (i := 1) (by decide) ⟨by decide, by decide⟩ (Nat.le_of_ble_eq_true rfl) (memA (memA mem0)) od_0_73 (pc' := 74) rfl fun T32 h33 w34 K35 V36 => ?_
    have V37 : Arv Z h33 a3 k4 .char (7 : Int32) [(.int c0), (.int c1), (.int (0 : Int32)), (.int (0 : Int32)), (.int (0 : Int32)), (.int (0 : Int32)), (.int (0 : Int32))] (.int (0 : Int32)) := V36
    refine W.aload w34 od_0_74 (pc' := 76) rfl rfl rfl ?_
    refine W.iconst w34 od_0_76 (pc' := 77) rfl (z := (2 : Int32)) rfl ?_
    refine W.iload w34 od_0_77 (pc' := 79) rfl rfl ?_
    refine W.aload w34 od_0_79 (pc' := 81) rfl rfl rfl ?_
    refine W.iload w34 od_0_81 (pc' := 83) rfl rfl ?_
    refine W.iconst w34 od_0_83 (pc' := 84) rfl (z := (2 : Int32)) rfl ?_
    refine W.lloadN w34 od_0_84 (pc' := 85) rfl rfl ?_
    have f38 := (f25.keep K35 (ninS ne9 nin0) (ninS ne10 nin0))
    refine W.callS w34 (ow_9 hw) (ow_10 hw) (ow_11 hw) (ow_12 hw) (by decide) opd_10 (Ctr.pay (c_pick hw (i := 2) (by decide) f38 w34.old) (own_ew hw) (ow_12 hw) (ow_11 hw) (kf := 5) (kl := 71) (by decide) (by decide)) mN od_0_85 (pc' := 88) rfl rfl rfl (rest := [(.int (2 : Int32)), (.ref a3)]) rfl (Wd := 2) rfl (by decide) (by decide) (by decide) (by decide) fun v41 T39 h40 M42 w43 q44 => ?_
    obtain ⟨c2, rfl, rfl, rfl, hc2⟩ := q44
    show Go Z _ _ _ κ _ (T39.setTop (mkF (km κ) 88 #[.val (.int p0), .val (.long p1), .second, .val (.int p2), .val (.int (p2 &&& (3 : Int32))), .val (.ref xw), .val (.int ((XT.ushr p2 (2 : Int32)) &&& (7 : Int32))), .val (.ref a3), .unset, .unset, .unset, .unset, .unset, .unset] [(.int c2), (.int (2 : Int32)), (.ref a3)]))
    refine W.stC w43 (x' := c2) (nar_lat hc2) V37 (i := 2) (by decide) ⟨by decide, by decide⟩ (Nat.le_of_ble_eq_true rfl) (memA (memA (memA mem0))) od_0_88 (pc' := 89) rfl fun T45 h46 w47 K48 V49 => ?_
    have V50 : Arv Z h46 a3 k4 .char (7 : Int32) [(.int c0), (.int c1), (.int c2), (.int (0 : Int32)), (.int (0 : Int32)), (.int (0 : Int32)), (.int (0 : Int32))] (.int (0 : Int32)) := V49
    refine W.aload w47 od_0_89 (pc' := 91) rfl rfl rfl ?_
    refine W.iconst w47 od_0_91 (pc' := 92) rfl (z := (3 : Int32)) rfl ?_
    refine W.iload w47 od_0_92 (pc' := 94) rfl rfl ?_
    refine W.aload w47 od_0_94 (pc' := 96) rfl rfl rfl ?_
    refine W.iload w47 od_0_96 (pc' := 98) rfl rfl ?_
    refine W.iconst w47 od_0_98 (pc' := 99) rfl (z := (3 : Int32)) rfl ?_
    refine W.lloadN w47 od_0_99 (pc' := 100) rfl rfl ?_
    have f51 := (f38.keep K48 (ninS ne9 nin0) (ninS ne10 nin0))
    refine W.callS w47 (ow_9 hw) (ow_10 hw) (ow_11 hw) (ow_12 hw) (by decide) opd_10 (Ctr.pay (c_pick hw (i := 3) (by decide) f51 w47.old) (own_ew hw) (ow_12 hw) (ow_11 hw) (kf := 5) (kl := 71) (by decide) (by decide)) mN od_0_100 (pc' := 103) rfl rfl rfl (rest := [(.int (3 : Int32)), (.ref a3)]) rfl (Wd := 2) rfl (by decide) (by decide) (by decide) (by decide) fun v54 T52 h53 M55 w56 q57 => ?_
    obtain ⟨c3, rfl, rfl, rfl, hc3⟩ := q57
    show Go Z _ _ _ κ _ (T52.setTop (mkF (km κ) 103 #[.val (.int p0), .val (.long p1), .second, .val (.int p2), .val (.int (p2 &&& (3 : Int32))), .val (.ref xw), .val (.int ((XT.ushr p2 (2 : Int32)) &&& (7 : Int32))), .val (.ref a3), .unset, .unset, .unset, .unset, .unset, .unset] [(.int c3), (.int (3 : Int32)), (.ref a3)]))
    refine W.stC w56 (x' := c3) (nar_lat hc3) V50 (i := 3) (by decide) ⟨by decide, by decide⟩ (Nat.le_of_ble_eq_true rfl) (memA (memA (memA (memA mem0)))) od_0_103 (pc' := 104) rfl fun T58 h59 w60 K61 V62 => ?_
    have V63 : Arv Z h59 a3 k4 .char (7 : Int32) [(.int c0), (.int c1), (.int c2), (.int c3), (.int (0 : Int32)), (.int (0 : Int32)), (.int (0 : Int32))] (.int (0 : Int32)) := V62
    refine W.aload w60 od_0_104 (pc' := 106) rfl rfl rfl ?_
    refine W.iconst w60 od_0_106 (pc' := 107) rfl (z := (4 : Int32)) rfl ?_
    refine W.iload w60 od_0_107 (pc' := 109) rfl rfl ?_
    refine W.aload w60 od_0_109 (pc' := 111) rfl rfl rfl ?_
    refine W.iload w60 od_0_111 (pc' := 113) rfl rfl ?_
    refine W.iconst w60 od_0_113 (pc' := 114) rfl (z := (4 : Int32)) rfl ?_
    refine W.lloadN w60 od_0_114 (pc' := 115) rfl rfl ?_
    have f64 := (f51.keep K61 (ninS ne9 nin0) (ninS ne10 nin0))
    refine W.callS w60 (ow_9 hw) (ow_10 hw) (ow_11 hw) (ow_12 hw) (by decide) opd_10 (Ctr.pay (c_pick hw (i := 4) (by decide) f64 w60.old) (own_ew hw) (ow_12 hw) (ow_11 hw) (kf := 5) (kl := 71) (by decide) (by decide)) mN od_0_115 (pc' := 118) rfl rfl rfl (rest := [(.int (4 : Int32)), (.ref a3)]) rfl (Wd := 2) rfl (by decide) (by decide) (by decide) (by decide) fun v67 T65 h66 M68 w69 q70 => ?_
    obtain ⟨c4, rfl, rfl, rfl, hc4⟩ := q70
    show Go Z _ _ _ κ _ (T65.setTop (mkF (km κ) 118 #[.val (.int p0), .val (.long p1), .second, .val (.int p2), .val (.int (p2 &&& (3 : Int32))), .val (.ref xw), .val (.int ((XT.ushr p2 (2 : Int32)) &&& (7 : Int32))), .val (.ref a3), .unset, .unset, .unset, .unset, .unset, .unset] [(.int c4), (.int (4 : Int32)), (.ref a3)]))
    refine W.stC w69 (x' := c4) (nar_lat hc4) V63 (i := 4) (by decide) ⟨by decide, by decide⟩ (Nat.le_of_ble_eq_true rfl) (memA (memA (memA (memA (memA mem0))))) od_0_118 (pc' := 119) rfl fun T71 h72 w73 K74 V75 => ?_
    have V76 : Arv Z h72 a3 k4 .char (7 : Int32) [(.int c0), (.int c1), (.int c2), (.int c3), (.int c4), (.int (0 : Int32)), (.int (0 : Int32))] (.int (0 : Int32)) := V75
    refine W.aload w73 od_0_119 (pc' := 121) rfl rfl rfl ?_
    refine W.iconst w73 od_0_121 (pc' := 122) rfl (z := (5 : Int32)) rfl ?_
    refine W.iload w73 od_0_122 (pc' := 124) rfl rfl ?_
    refine W.aload w73 od_0_124 (pc' := 126) rfl rfl rfl ?_
    refine W.iload w73 od_0_126 (pc' := 128) rfl rfl ?_
    refine W.iconst w73 od_0_128 (pc' := 129) rfl (z := (5 : Int32)) rfl ?_
    refine W.lloadN w73 od_0_129 (pc' := 130) rfl rfl ?_
    have f77 := (f64.keep K74 (ninS ne9 nin0) (ninS ne10 nin0))
    refine W.callS w73 (ow_9 hw) (ow_10 hw) (ow_11 hw) (ow_12 hw) (by decide) opd_10 (Ctr.pay (c_pick hw (i := 5) (by decide) f77 w73.old) (own_ew hw) (ow_12 hw) (ow_11 hw) (kf := 5) (kl := 71) (by decide) (by decide)) mN od_0_130 (pc' := 133) rfl rfl rfl (rest := [(.int (5 : Int32)), (.ref a3)]) rfl (Wd := 2) rfl (by decide) (by decide) (by decide) (by decide) fun v80 T78 h79 M81 w82 q83 => ?_
    obtain ⟨c5, rfl, rfl, rfl, hc5⟩ := q83
    show Go Z _ _ _ κ _ (T78.setTop (mkF (km κ) 133 #[.val (.int p0), .val (.long p1), .second, .val (.int p2), .val (.int (p2 &&& (3 : Int32))), .val (.ref xw), .val (.int ((XT.ushr p2 (2 : Int32)) &&& (7 : Int32))), .val (.ref a3), .unset, .unset, .unset, .unset, .unset, .unset] [(.int c5), (.int (5 : Int32)), (.ref a3)]))
    refine W.stC w82 (x' := c5) (nar_lat hc5) V76 (i := 5) (by decide) ⟨by decide, by decide⟩ (Nat.le_of_ble_eq_true rfl) (memA (memA (memA (memA (memA (memA mem0)))))) od_0_133 (pc' := 134) rfl fun T84 h85 w86 K87 V88 => ?_
    have V89 : Arv Z h85 a3 k4 .char (7 : Int32) [(.int c0), (.int c1), (.int c2), (.int c3), (.int c4), (.int c5), (.int (0 : Int32))] (.int (0 : Int32)) := V88
    refine W.aload w86 od_0_134 (pc' := 136) rfl rfl rfl ?_
    refine W.bipush w86 od_0_136 (pc' := 138) rfl (z := (6 : Int32)) rfl ?_
    refine W.iload w86 od_0_138 (pc' := 140) rfl rfl ?_
    refine W.aload w86 od_0_140 (pc' := 142) rfl rfl rfl ?_
    refine W.iload w86 od_0_142 (pc' := 144) rfl rfl ?_
    refine W.bipush w86 od_0_144 (pc' := 146) rfl (z := (6 : Int32)) rfl ?_
    refine W.lloadN w86 od_0_146 (pc' := 147) rfl rfl ?_
    have f90 := (f77.keep K87 (ninS ne9 nin0) (ninS ne10 nin0))
    refine W.callS w86 (ow_9 hw) (ow_10 hw) (ow_11 hw) (ow_12 hw) (by decide) opd_10 (Ctr.pay (c_pick hw (i := 6) (by decide) f90 w86.old) (own_ew hw) (ow_12 hw) (ow_11 hw) (kf := 5) (kl := 71) (by decide) (by decide)) mN od_0_147 (pc' := 150) rfl rfl rfl (rest := [(.int (6 : Int32)), (.ref a3)]) rfl (Wd := 2) rfl (by decide) (by decide) (by decide) (by decide) fun v93 T91 h92 M94 w95 q96 => ?_
    obtain ⟨c6, rfl, rfl, rfl, hc6⟩ := q96
    show Go Z _ _ _ κ _ (T91.setTop (mkF (km κ) 150 #[.val (.int p0), .val (.long p1), .second, .val (.int p2), .val (.int (p2 &&& (3 : Int32))), .val (.ref xw), .val (.int ((XT.ushr p2 (2 : Int32)) &&& (7 : Int32))), .val (.ref a3), .unset, .unset, .unset, .unset, .unset, .unset] [(.int c6), (.int (6 : Int32)), (.ref a3)]))
    refine W.stC w95 (x' := c6) (nar_lat hc6) V89 (i := 6) (by decide) ⟨by decide, by decide⟩ (Nat.le_of_ble_eq_true rfl) (memA (memA (memA (memA (memA (memA (memA mem0))))))) od_0_150 (pc' := 151) rfl fun T97 h98 w99 K100 V101 => ?_
    have V102 : Arv Z h98 a3 k4 .char (7 : Int32) [(.int c0), (.int c1), (.int c2), (.int c3), (.int c4), (.int c5), (.int c6)] (.int (0 : Int32)) := V101
    have J176 : ∀ (T : State) (n : Int32), W l Z a0 EL0 nw0 x.cls code maxLocals ret room_1 κ T h98 [] 3 39 → n = 0 ∨ n = 1 ∨ n = 2 ∨ n = 3 ∨ n = 4 ∨ n = 5 ∨ n = 6 ∨ n = 7 → Go Z EL0 nw0 room_1 κ (fun v h M' => v = some (.int 1)) (T.setTop (mkF (km κ) 176 #[.val (.int p0), .val (.long p1), .second, .val (.int p2), .val (.int (p2 &&& (3 : Int32))), .val (.ref xw), .val (.int ((XT.ushr p2 (2 : Int32)) &&& (7 : Int32))), .val (.ref a3), .unset, .unset, .unset, .unset, .unset, .unset] [.int n])) := by
      intro T n wK hn
      rcases hn with rfl | rfl | rfl | rfl | rfl | rfl | rfl | rfl
      · refine W.istore wK od_0_176 (pc' := 178) rfl (Ls' := #[.val (.int p0), .val (.long p1), .second, .val (.int p2), .val (.int (p2 &&& (3 : Int32))), .val (.ref xw), .val (.int ((XT.ushr p2 (2 : Int32)) &&& (7 : Int32))), .val (.ref a3), .val (.int (0 : Int32)), .unset, .unset, .unset, .unset, .unset]) rfl ?_
        refine W.aload wK od_0_178 (pc' := 180) rfl rfl rfl ?_
        refine W.iload wK od_0_180 (pc' := 182) rfl rfl ?_
        refine W.callS wK (ow_49 hw) (ow_50 hw) (ow_11 hw) (ow_51 hw) (by decide) opd_11 (Ctr.pay (c_str0 hw hc0 hc1 hc2 hc3 hc4 hc5 hc6 V102 wK.old) (own_ew hw) (ow_51 hw) (ow_11 hw) (kf := 4) (kl := 56) (by decide) (by decide)) mN od_0_182 (pc' := 185) rfl rfl rfl (rest := []) rfl (Wd := 0) rfl (by decide) (by decide) (by decide) (by decide) fun v105 T103 h104 M106 w107 q108 => ?_
        obtain ⟨a109, t110, rfl, rfl, K111, F112⟩ := q108
        show Go Z _ _ _ κ _ (T103.setTop (mkF (km κ) 185 #[.val (.int p0), .val (.long p1), .second, .val (.int p2), .val (.int (p2 &&& (3 : Int32))), .val (.ref xw), .val (.int ((XT.ushr p2 (2 : Int32)) &&& (7 : Int32))), .val (.ref a3), .val (.int (0 : Int32)), .unset, .unset, .unset, .unset, .unset] [(.ref a109)]))
        refine W.astore w107 od_0_185 (pc' := 187) rfl (Ls' := #[.val (.int p0), .val (.long p1), .second, .val (.int p2), .val (.int (p2 &&& (3 : Int32))), .val (.ref xw), .val (.int ((XT.ushr p2 (2 : Int32)) &&& (7 : Int32))), .val (.ref a3), .val (.int (0 : Int32)), .val (.ref a109), .unset, .unset, .unset, .unset]) rfl rfl ?_
        refine W.iload w107 od_0_187 (pc' := 189) rfl rfl ?_
        refine W.iconst w107 od_0_189 (pc' := 190) rfl (z := (4 : Int32)) rfl ?_
        refine W.icmpYes w107 od_0_190 (pc' := 233) (by decide) (by decide) (feq (by decide : ¬ ((0 : Int32) = (4 : Int32)))).2 ?_
        refine W.iconst w107 od_0_233 (pc' := 234) rfl (z := (0 : Int32)) rfl ?_
        refine W.istore w107 od_0_234 (pc' := 236) rfl (Ls' := #[.val (.int p0), .val (.long p1), .second, .val (.int p2), .val (.int (p2 &&& (3 : Int32))), .val (.ref xw), .val (.int ((XT.ushr p2 (2 : Int32)) &&& (7 : Int32))), .val (.ref a3), .val (.int (0 : Int32)), .val (.ref a109), .val (.int (0 : Int32)), .unset, .unset, .unset]) rfl ?_
        refine W.iload w107 od_0_236 (pc' := 238) rfl rfl ?_
        refine W.bipush w107 od_0_238 (pc' := 240) rfl (z := (7 : Int32)) rfl ?_
        refine W.icmpYes w107 od_0_240 (pc' := 311) (by decide) (by decide) (feq (by decide : ¬ ((0 : Int32) = (7 : Int32)))).2 ?_
        refine W.iconst w107 od_0_311 (pc' := 312) rfl (z := (0 : Int32)) rfl ?_
        refine W.istore w107 od_0_312 (pc' := 314) rfl (Ls' := #[.val (.int p0), .val (.long p1), .second, .val (.int p2), .val (.int (p2 &&& (3 : Int32))), .val (.ref xw), .val (.int ((XT.ushr p2 (2 : Int32)) &&& (7 : Int32))), .val (.ref a3), .val (.int (0 : Int32)), .val (.ref a109), .val (.int (0 : Int32)), .val (.int (0 : Int32)), .unset, .unset]) rfl ?_
        refine W.iload w107 od_0_314 (pc' := 316) rfl rfl ?_
        refine W.iconst w107 od_0_316 (pc' := 317) rfl (z := (2 : Int32)) rfl ?_
        refine W.icmpYes w107 od_0_317 (pc' := 342) (by decide) (by decide) (feq (by decide : ¬ ((0 : Int32) = (2 : Int32)))).2 ?_
        refine W.iconst w107 od_0_342 (pc' := 343) rfl (z := (0 : Int32)) rfl ?_
        refine W.istore w107 od_0_343 (pc' := 345) rfl (Ls' := #[.val (.int p0), .val (.long p1), .second, .val (.int p2), .val (.int (p2 &&& (3 : Int32))), .val (.ref xw), .val (.int ((XT.ushr p2 (2 : Int32)) &&& (7 : Int32))), .val (.ref a3), .val (.int (0 : Int32)), .val (.ref a109), .val (.int (0 : Int32)), .val (.int (0 : Int32)), .val (.int (0 : Int32)), .unset]) rfl ?_
        refine W.aload w107 od_0_345 (pc' := 347) rfl rfl rfl ?_
        refine W.callS w107 (ow_73 hw) (ow_74 hw) (ow_75 hw) (ow_76 hw) (by decide) opd_12 (Ctr.pay (c_named hw F112 X1 w107.old) (own_ew hw) (ow_76 hw) (ow_75 hw) (kf := 4) (kl := 54) (by decide) (by decide)) mN od_0_347 (pc' := 350) rfl rfl rfl (rest := []) rfl (Wd := 0) rfl (by decide) (by decide) (by decide) (by decide) fun v115 T113 h114 M116 w117 q118 => ?_
        obtain ⟨a119, u120, rfl, rfl, K121, E122, F123, q124⟩ := q118
        have ea119 : u120 = .null := by
          rcases q124 with ⟨e1, e2⟩ | ⟨e1, e2⟩ | ⟨e1, e2⟩ | ⟨e1, e2, e3, e4⟩
          · exact absurd e1 (by simp)
          · exact absurd e1 (by simp)
          · exact absurd e1 (by simp)
          · exact e4
        rw [ea119] at F123
        show Go Z _ _ _ κ _ (T113.setTop (mkF (km κ) 350 #[.val (.int p0), .val (.long p1), .second, .val (.int p2), .val (.int (p2 &&& (3 : Int32))), .val (.ref xw), .val (.int ((XT.ushr p2 (2 : Int32)) &&& (7 : Int32))), .val (.ref a3), .val (.int (0 : Int32)), .val (.ref a109), .val (.int (0 : Int32)), .val (.int (0 : Int32)), .val (.int (0 : Int32)), .unset] [(.ref a119)]))
        refine W.astore w117 od_0_350 (pc' := 352) rfl (Ls' := #[.val (.int p0), .val (.long p1), .second, .val (.int p2), .val (.int (p2 &&& (3 : Int32))), .val (.ref xw), .val (.int ((XT.ushr p2 (2 : Int32)) &&& (7 : Int32))), .val (.ref a3), .val (.int (0 : Int32)), .val (.ref a109), .val (.int (0 : Int32)), .val (.int (0 : Int32)), .val (.int (0 : Int32)), .val (.ref a119)]) rfl rfl ?_
        refine W.iload w117 od_0_352 (pc' := 354) rfl rfl ?_
        refine W.ifYes w117 od_0_354 (pc' := 382) (by decide) (by decide) ((if0 _ _).trans (teq (by decide : (0 : Int32) = (0 : Int32))).1) ?_
        refine W.iload w117 od_0_382 (pc' := 384) rfl rfl ?_
        refine W.ifYes w117 od_0_384 (pc' := 412) (by decide) (by decide) ((if0 _ _).trans (teq (by decide : (0 : Int32) = (0 : Int32))).1) ?_
        refine W.iload w117 od_0_412 (pc' := 414) rfl rfl ?_
        refine W.ifYes w117 od_0_414 (pc' := 442) (by decide) (by decide) ((if0 _ _).trans (teq (by decide : (0 : Int32) = (0 : Int32))).1) ?_
        refine W.aload w117 od_0_442 (pc' := 444) rfl rfl rfl ?_
        refine W.callV w117 (ow_111 hw) (ow_112 hw) (nfSel (ow_114 hw)) (ow_114 hw) (ow_113 hw) (by decide) opd_13 E122 (Ctr.pay (c_opisPresent0 hw (x1 := 0) F123 w117.old) (own_ew hw) (ow_115 hw) (ow_108 hw) (kf := 1) (kl := 12) (by decide) (by decide)) mN od_0_444 (pc' := 447) rfl rfl rfl (rest := []) rfl (Wd := 0) rfl (by decide) (by decide) (by decide) (by decide) fun v127 T125 h126 M128 w129 q130 => ?_
        obtain ⟨rfl, rfl, rfl⟩ := q130
        show Go Z _ _ _ κ _ (T125.setTop (mkF (km κ) 447 #[.val (.int p0), .val (.long p1), .second, .val (.int p2), .val (.int (p2 &&& (3 : Int32))), .val (.ref xw), .val (.int ((XT.ushr p2 (2 : Int32)) &&& (7 : Int32))), .val (.ref a3), .val (.int (0 : Int32)), .val (.ref a109), .val (.int (0 : Int32)), .val (.int (0 : Int32)), .val (.int (0 : Int32)), .val (.ref a119)] [(.int (0 : Int32))]))
        refine W.ifNo w129 od_0_447 (pc' := 450) rfl ((if0 _ _).trans (teq (by decide : (0 : Int32) = (0 : Int32))).2) ?_
        refine W.iconst w129 od_0_450 (pc' := 451) rfl (z := (1 : Int32)) rfl ?_
        refine W.goto w129 od_0_451 (pc' := 455) (by decide) (by decide) ?_
        exact W.retN w129 (t := .boolean) (z' := (1 : Int32)) rfl rfl (by simp) od_0_455 (M' := []) mN (by decide) (by decide) rfl
      · refine W.istore wK od_0_176 (pc' := 178) rfl (Ls' := #[.val (.int p0), .val (.long p1), .second, .val (.int p2), .val (.int (p2 &&& (3 : Int32))), .val (.ref xw), .val (.int ((XT.ushr p2 (2 : Int32)) &&& (7 : Int32))), .val (.ref a3), .val (.int (1 : Int32)), .unset, .unset, .unset, .unset, .unset]) rfl ?_
        refine W.aload wK od_0_178 (pc' := 180) rfl rfl rfl ?_
        refine W.iload wK od_0_180 (pc' := 182) rfl rfl ?_
        refine W.callS wK (ow_49 hw) (ow_50 hw) (ow_11 hw) (ow_51 hw) (by decide) opd_11 (Ctr.pay (c_str1 hw hc0 hc1 hc2 hc3 hc4 hc5 hc6 V102 wK.old) (own_ew hw) (ow_51 hw) (ow_11 hw) (kf := 5) (kl := 79) (by decide) (by decide)) mN od_0_182 (pc' := 185) rfl rfl rfl (rest := []) rfl (Wd := 0) rfl (by decide) (by decide) (by decide) (by decide) fun v133 T131 h132 M134 w135 q136 => ?_
        obtain ⟨a137, t138, rfl, rfl, K139, F140⟩ := q136
        show Go Z _ _ _ κ _ (T131.setTop (mkF (km κ) 185 #[.val (.int p0), .val (.long p1), .second, .val (.int p2), .val (.int (p2 &&& (3 : Int32))), .val (.ref xw), .val (.int ((XT.ushr p2 (2 : Int32)) &&& (7 : Int32))), .val (.ref a3), .val (.int (1 : Int32)), .unset, .unset, .unset, .unset, .unset] [(.ref a137)]))
        refine W.astore w135 od_0_185 (pc' := 187) rfl (Ls' := #[.val (.int p0), .val (.long p1), .second, .val (.int p2), .val (.int (p2 &&& (3 : Int32))), .val (.ref xw), .val (.int ((XT.ushr p2 (2 : Int32)) &&& (7 : Int32))), .val (.ref a3), .val (.int (1 : Int32)), .val (.ref a137), .unset, .unset, .unset, .unset]) rfl rfl ?_
        refine W.iload w135 od_0_187 (pc' := 189) rfl rfl ?_
        refine W.iconst w135 od_0_189 (pc' := 190) rfl (z := (4 : Int32)) rfl ?_
        refine W.icmpYes w135 od_0_190 (pc' := 233) (by decide) (by decide) (feq (by decide : ¬ ((1 : Int32) = (4 : Int32)))).2 ?_
        refine W.iconst w135 od_0_233 (pc' := 234) rfl (z := (0 : Int32)) rfl ?_
        refine W.istore w135 od_0_234 (pc' := 236) rfl (Ls' := #[.val (.int p0), .val (.long p1), .second, .val (.int p2), .val (.int (p2 &&& (3 : Int32))), .val (.ref xw), .val (.int ((XT.ushr p2 (2 : Int32)) &&& (7 : Int32))), .val (.ref a3), .val (.int (1 : Int32)), .val (.ref a137), .val (.int (0 : Int32)), .unset, .unset, .unset]) rfl ?_
        refine W.iload w135 od_0_236 (pc' := 238) rfl rfl ?_
        refine W.bipush w135 od_0_238 (pc' := 240) rfl (z := (7 : Int32)) rfl ?_
        refine W.icmpYes w135 od_0_240 (pc' := 311) (by decide) (by decide) (feq (by decide : ¬ ((1 : Int32) = (7 : Int32)))).2 ?_
        refine W.iconst w135 od_0_311 (pc' := 312) rfl (z := (0 : Int32)) rfl ?_
        refine W.istore w135 od_0_312 (pc' := 314) rfl (Ls' := #[.val (.int p0), .val (.long p1), .second, .val (.int p2), .val (.int (p2 &&& (3 : Int32))), .val (.ref xw), .val (.int ((XT.ushr p2 (2 : Int32)) &&& (7 : Int32))), .val (.ref a3), .val (.int (1 : Int32)), .val (.ref a137), .val (.int (0 : Int32)), .val (.int (0 : Int32)), .unset, .unset]) rfl ?_
        refine W.iload w135 od_0_314 (pc' := 316) rfl rfl ?_
        refine W.iconst w135 od_0_316 (pc' := 317) rfl (z := (2 : Int32)) rfl ?_
        refine W.icmpYes w135 od_0_317 (pc' := 342) (by decide) (by decide) (feq (by decide : ¬ ((1 : Int32) = (2 : Int32)))).2 ?_
        refine W.iconst w135 od_0_342 (pc' := 343) rfl (z := (0 : Int32)) rfl ?_
        refine W.istore w135 od_0_343 (pc' := 345) rfl (Ls' := #[.val (.int p0), .val (.long p1), .second, .val (.int p2), .val (.int (p2 &&& (3 : Int32))), .val (.ref xw), .val (.int ((XT.ushr p2 (2 : Int32)) &&& (7 : Int32))), .val (.ref a3), .val (.int (1 : Int32)), .val (.ref a137), .val (.int (0 : Int32)), .val (.int (0 : Int32)), .val (.int (0 : Int32)), .unset]) rfl ?_
        refine W.aload w135 od_0_345 (pc' := 347) rfl rfl rfl ?_
        refine W.callS w135 (ow_73 hw) (ow_74 hw) (ow_75 hw) (ow_76 hw) (by decide) opd_12 (Ctr.pay (c_named hw F140 X1 w135.old) (own_ew hw) (ow_76 hw) (ow_75 hw) (kf := 4) (kl := 54) (by decide) (by decide)) mN od_0_347 (pc' := 350) rfl rfl rfl (rest := []) rfl (Wd := 0) rfl (by decide) (by decide) (by decide) (by decide) fun v143 T141 h142 M144 w145 q146 => ?_
        obtain ⟨a147, u148, rfl, rfl, K149, E150, F151, q152⟩ := q146
        have ea147 : u148 = .null := by
          rcases q152 with ⟨e1, e2⟩ | ⟨e1, e2⟩ | ⟨e1, e2⟩ | ⟨e1, e2, e3, e4⟩
          · exact absurd e1 (by simp)
          · exact absurd e1 (by simp)
          · exact absurd e1 (by simp)
          · exact e4
        rw [ea147] at F151
        show Go Z _ _ _ κ _ (T141.setTop (mkF (km κ) 350 #[.val (.int p0), .val (.long p1), .second, .val (.int p2), .val (.int (p2 &&& (3 : Int32))), .val (.ref xw), .val (.int ((XT.ushr p2 (2 : Int32)) &&& (7 : Int32))), .val (.ref a3), .val (.int (1 : Int32)), .val (.ref a137), .val (.int (0 : Int32)), .val (.int (0 : Int32)), .val (.int (0 : Int32)), .unset] [(.ref a147)]))
        refine W.astore w145 od_0_350 (pc' := 352) rfl (Ls' := #[.val (.int p0), .val (.long p1), .second, .val (.int p2), .val (.int (p2 &&& (3 : Int32))), .val (.ref xw), .val (.int ((XT.ushr p2 (2 : Int32)) &&& (7 : Int32))), .val (.ref a3), .val (.int (1 : Int32)), .val (.ref a137), .val (.int (0 : Int32)), .val (.int (0 : Int32)), .val (.int (0 : Int32)), .val (.ref a147)]) rfl rfl ?_
        refine W.iload w145 od_0_352 (pc' := 354) rfl rfl ?_
        refine W.ifYes w145 od_0_354 (pc' := 382) (by decide) (by decide) ((if0 _ _).trans (teq (by decide : (0 : Int32) = (0 : Int32))).1) ?_
        refine W.iload w145 od_0_382 (pc' := 384) rfl rfl ?_
        refine W.ifYes w145 od_0_384 (pc' := 412) (by decide) (by decide) ((if0 _ _).trans (teq (by decide : (0 : Int32) = (0 : Int32))).1) ?_
        refine W.iload w145 od_0_412 (pc' := 414) rfl rfl ?_
        refine W.ifYes w145 od_0_414 (pc' := 442) (by decide) (by decide) ((if0 _ _).trans (teq (by decide : (0 : Int32) = (0 : Int32))).1) ?_
        refine W.aload w145 od_0_442 (pc' := 444) rfl rfl rfl ?_
        refine W.callV w145 (ow_111 hw) (ow_112 hw) (nfSel (ow_114 hw)) (ow_114 hw) (ow_113 hw) (by decide) opd_13 E150 (Ctr.pay (c_opisPresent0 hw (x1 := 0) F151 w145.old) (own_ew hw) (ow_115 hw) (ow_108 hw) (kf := 1) (kl := 12) (by decide) (by decide)) mN od_0_444 (pc' := 447) rfl rfl rfl (rest := []) rfl (Wd := 0) rfl (by decide) (by decide) (by decide) (by decide) fun v155 T153 h154 M156 w157 q158 => ?_
        obtain ⟨rfl, rfl, rfl⟩ := q158
        show Go Z _ _ _ κ _ (T153.setTop (mkF (km κ) 447 #[.val (.int p0), .val (.long p1), .second, .val (.int p2), .val (.int (p2 &&& (3 : Int32))), .val (.ref xw), .val (.int ((XT.ushr p2 (2 : Int32)) &&& (7 : Int32))), .val (.ref a3), .val (.int (1 : Int32)), .val (.ref a137), .val (.int (0 : Int32)), .val (.int (0 : Int32)), .val (.int (0 : Int32)), .val (.ref a147)] [(.int (0 : Int32))]))
        refine W.ifNo w157 od_0_447 (pc' := 450) rfl ((if0 _ _).trans (teq (by decide : (0 : Int32) = (0 : Int32))).2) ?_
        refine W.iconst w157 od_0_450 (pc' := 451) rfl (z := (1 : Int32)) rfl ?_
        refine W.goto w157 od_0_451 (pc' := 455) (by decide) (by decide) ?_
        exact W.retN w157 (t := .boolean) (z' := (1 : Int32)) rfl rfl (by simp) od_0_455 (M' := []) mN (by decide) (by decide) rfl
      · refine W.istore wK od_0_176 (pc' := 178) rfl (Ls' := #[.val (.int p0), .val (.long p1), .second, .val (.int p2), .val (.int (p2 &&& (3 : Int32))), .val (.ref xw), .val (.int ((XT.ushr p2 (2 : Int32)) &&& (7 : Int32))), .val (.ref a3), .val (.int (2 : Int32)), .unset, .unset, .unset, .unset, .unset]) rfl ?_
        refine W.aload wK od_0_178 (pc' := 180) rfl rfl rfl ?_
        refine W.iload wK od_0_180 (pc' := 182) rfl rfl ?_
        refine W.callS wK (ow_49 hw) (ow_50 hw) (ow_11 hw) (ow_51 hw) (by decide) opd_11 (Ctr.pay (c_str2 hw hc0 hc1 hc2 hc3 hc4 hc5 hc6 V102 wK.old) (own_ew hw) (ow_51 hw) (ow_11 hw) (kf := 5) (kl := 79) (by decide) (by decide)) mN od_0_182 (pc' := 185) rfl rfl rfl (rest := []) rfl (Wd := 0) rfl (by decide) (by decide) (by decide) (by decide) fun v161 T159 h160 M162 w163 q164 => ?_
        obtain ⟨a165, t166, rfl, rfl, K167, F168⟩ := q164
        show Go Z _ _ _ κ _ (T159.setTop (mkF (km κ) 185 #[.val (.int p0), .val (.long p1), .second, .val (.int p2), .val (.int (p2 &&& (3 : Int32))), .val (.ref xw), .val (.int ((XT.ushr p2 (2 : Int32)) &&& (7 : Int32))), .val (.ref a3), .val (.int (2 : Int32)), .unset, .unset, .unset, .unset, .unset] [(.ref a165)]))
        refine W.astore w163 od_0_185 (pc' := 187) rfl (Ls' := #[.val (.int p0), .val (.long p1), .second, .val (.int p2), .val (.int (p2 &&& (3 : Int32))), .val (.ref xw), .val (.int ((XT.ushr p2 (2 : Int32)) &&& (7 : Int32))), .val (.ref a3), .val (.int (2 : Int32)), .val (.ref a165), .unset, .unset, .unset, .unset]) rfl rfl ?_
        refine W.iload w163 od_0_187 (pc' := 189) rfl rfl ?_
        refine W.iconst w163 od_0_189 (pc' := 190) rfl (z := (4 : Int32)) rfl ?_
        refine W.icmpYes w163 od_0_190 (pc' := 233) (by decide) (by decide) (feq (by decide : ¬ ((2 : Int32) = (4 : Int32)))).2 ?_
        refine W.iconst w163 od_0_233 (pc' := 234) rfl (z := (0 : Int32)) rfl ?_
        refine W.istore w163 od_0_234 (pc' := 236) rfl (Ls' := #[.val (.int p0), .val (.long p1), .second, .val (.int p2), .val (.int (p2 &&& (3 : Int32))), .val (.ref xw), .val (.int ((XT.ushr p2 (2 : Int32)) &&& (7 : Int32))), .val (.ref a3), .val (.int (2 : Int32)), .val (.ref a165), .val (.int (0 : Int32)), .unset, .unset, .unset]) rfl ?_
        refine W.iload w163 od_0_236 (pc' := 238) rfl rfl ?_
        refine W.bipush w163 od_0_238 (pc' := 240) rfl (z := (7 : Int32)) rfl ?_
        refine W.icmpYes w163 od_0_240 (pc' := 311) (by decide) (by decide) (feq (by decide : ¬ ((2 : Int32) = (7 : Int32)))).2 ?_
        refine W.iconst w163 od_0_311 (pc' := 312) rfl (z := (0 : Int32)) rfl ?_
        refine W.istore w163 od_0_312 (pc' := 314) rfl (Ls' := #[.val (.int p0), .val (.long p1), .second, .val (.int p2), .val (.int (p2 &&& (3 : Int32))), .val (.ref xw), .val (.int ((XT.ushr p2 (2 : Int32)) &&& (7 : Int32))), .val (.ref a3), .val (.int (2 : Int32)), .val (.ref a165), .val (.int (0 : Int32)), .val (.int (0 : Int32)), .unset, .unset]) rfl ?_
        refine W.iload w163 od_0_314 (pc' := 316) rfl rfl ?_
        refine W.iconst w163 od_0_316 (pc' := 317) rfl (z := (2 : Int32)) rfl ?_
        refine W.icmpNo w163 od_0_317 (pc' := 320) rfl (teq (by decide : (2 : Int32) = (2 : Int32))).2 ?_
        refine W.aload w163 od_0_320 (pc' := 322) rfl rfl rfl ?_
        refine W.iconst w163 od_0_322 (pc' := 323) rfl (z := (0 : Int32)) rfl ?_
        have f169 := (V102.keep K167 nin0)
        refine W.ldC w163 f169 ⟨by decide, by decide⟩ (v := (.int c0)) rfl od_0_323 (pc' := 324) rfl ?_
        refine W.bipush w163 od_0_324 (pc' := 326) rfl (z := (117 : Int32)) rfl ?_
        rcases Decidable.em (c0 = (117 : Int32)) with hc170 | hc170
        · refine W.icmpNo w163 od_0_326 (pc' := 329) rfl (teq hc170).2 ?_
          refine W.aload w163 od_0_329 (pc' := 331) rfl rfl rfl ?_
          refine W.iconst w163 od_0_331 (pc' := 332) rfl (z := (1 : Int32)) rfl ?_
          refine W.ldC w163 f169 ⟨by decide, by decide⟩ (v := (.int c1)) rfl od_0_332 (pc' := 333) rfl ?_
          refine W.bipush w163 od_0_333 (pc' := 335) rfl (z := (112 : Int32)) rfl ?_
          rcases Decidable.em (c1 = (112 : Int32)) with hc171 | hc171
          · refine W.icmpNo w163 od_0_335 (pc' := 338) rfl (teq hc171).2 ?_
            refine W.iconst w163 od_0_338 (pc' := 339) rfl (z := (1 : Int32)) rfl ?_
            refine W.goto w163 od_0_339 (pc' := 343) (by decide) (by decide) ?_
            refine W.istore w163 od_0_343 (pc' := 345) rfl (Ls' := #[.val (.int p0), .val (.long p1), .second, .val (.int p2), .val (.int (p2 &&& (3 : Int32))), .val (.ref xw), .val (.int ((XT.ushr p2 (2 : Int32)) &&& (7 : Int32))), .val (.ref a3), .val (.int (2 : Int32)), .val (.ref a165), .val (.int (0 : Int32)), .val (.int (0 : Int32)), .val (.int (1 : Int32)), .unset]) rfl ?_
            refine W.aload w163 od_0_345 (pc' := 347) rfl rfl rfl ?_
            refine W.callS w163 (ow_73 hw) (ow_74 hw) (ow_75 hw) (ow_76 hw) (by decide) opd_12 (Ctr.pay (c_named hw F168 X1 w163.old) (own_ew hw) (ow_76 hw) (ow_75 hw) (kf := 4) (kl := 54) (by decide) (by decide)) mN od_0_347 (pc' := 350) rfl rfl rfl (rest := []) rfl (Wd := 0) rfl (by decide) (by decide) (by decide) (by decide) fun v174 T172 h173 M175 w176 q177 => ?_
            obtain ⟨a178, u179, rfl, rfl, K180, E181, F182, q183⟩ := q177
            have ea178 : u179 = .ref U := by
              rcases q183 with ⟨e1, e2⟩ | ⟨e1, e2⟩ | ⟨e1, e2⟩ | ⟨e1, e2, e3, e4⟩
              · exact absurd e1 (by simp [hc170, hc171])
              · exact absurd e1 (by simp [hc170, hc171])
              · exact e2
              · exact absurd (show [(117 : Int32), (112 : Int32)] = [c0, c1] by simp [hc170, hc171]) e3
            rw [ea178] at F182
            show Go Z _ _ _ κ _ (T172.setTop (mkF (km κ) 350 #[.val (.int p0), .val (.long p1), .second, .val (.int p2), .val (.int (p2 &&& (3 : Int32))), .val (.ref xw), .val (.int ((XT.ushr p2 (2 : Int32)) &&& (7 : Int32))), .val (.ref a3), .val (.int (2 : Int32)), .val (.ref a165), .val (.int (0 : Int32)), .val (.int (0 : Int32)), .val (.int (1 : Int32)), .unset] [(.ref a178)]))
            refine W.astore w176 od_0_350 (pc' := 352) rfl (Ls' := #[.val (.int p0), .val (.long p1), .second, .val (.int p2), .val (.int (p2 &&& (3 : Int32))), .val (.ref xw), .val (.int ((XT.ushr p2 (2 : Int32)) &&& (7 : Int32))), .val (.ref a3), .val (.int (2 : Int32)), .val (.ref a165), .val (.int (0 : Int32)), .val (.int (0 : Int32)), .val (.int (1 : Int32)), .val (.ref a178)]) rfl rfl ?_
            refine W.iload w176 od_0_352 (pc' := 354) rfl rfl ?_
            refine W.ifYes w176 od_0_354 (pc' := 382) (by decide) (by decide) ((if0 _ _).trans (teq (by decide : (0 : Int32) = (0 : Int32))).1) ?_
            refine W.iload w176 od_0_382 (pc' := 384) rfl rfl ?_
            refine W.ifYes w176 od_0_384 (pc' := 412) (by decide) (by decide) ((if0 _ _).trans (teq (by decide : (0 : Int32) = (0 : Int32))).1) ?_
            refine W.iload w176 od_0_412 (pc' := 414) rfl rfl ?_
            refine W.ifNo w176 od_0_414 (pc' := 417) rfl ((if0 _ _).trans (feq (by decide : ¬ ((1 : Int32) = (0 : Int32)))).1) ?_
            refine W.aload w176 od_0_417 (pc' := 419) rfl rfl rfl ?_
            refine W.callV w176 (ow_111 hw) (ow_112 hw) (nfSel (ow_114 hw)) (ow_114 hw) (ow_113 hw) (by decide) opd_13 E181 (Ctr.pay (c_opisPresent hw F182 w176.old) (own_ew hw) (ow_115 hw) (ow_108 hw) (kf := 1) (kl := 12) (by decide) (by decide)) mN od_0_419 (pc' := 422) rfl rfl rfl (rest := []) rfl (Wd := 0) rfl (by decide) (by decide) (by decide) (by decide) fun v186 T184 h185 M187 w188 q189 => ?_
            obtain ⟨rfl, rfl, rfl⟩ := q189
            show Go Z _ _ _ κ _ (T184.setTop (mkF (km κ) 422 #[.val (.int p0), .val (.long p1), .second, .val (.int p2), .val (.int (p2 &&& (3 : Int32))), .val (.ref xw), .val (.int ((XT.ushr p2 (2 : Int32)) &&& (7 : Int32))), .val (.ref a3), .val (.int (2 : Int32)), .val (.ref a165), .val (.int (0 : Int32)), .val (.int (0 : Int32)), .val (.int (1 : Int32)), .val (.ref a178)] [(.int (1 : Int32))]))
            refine W.ifNo w188 od_0_422 (pc' := 425) rfl ((if0 _ _).trans (feq (by decide : ¬ ((1 : Int32) = (0 : Int32)))).1) ?_
            refine W.aload w188 od_0_425 (pc' := 427) rfl rfl rfl ?_
            refine W.callV w188 (ow_133 hw) (ow_134 hw) (nfSel (ow_136 hw)) (ow_136 hw) (ow_135 hw) (by decide) opd_14 E181 (Ctr.pay (c_opget hw F182 w188.old) (own_ew hw) (ow_137 hw) (ow_108 hw) (kf := 1) (kl := 12) (by decide) (by decide)) mN od_0_427 (pc' := 430) rfl rfl rfl (rest := []) rfl (Wd := 0) rfl (by decide) (by decide) (by decide) (by decide) fun v192 T190 h191 M193 w194 q195 => ?_
            obtain ⟨rfl, rfl, rfl⟩ := q195
            show Go Z _ _ _ κ _ (T190.setTop (mkF (km κ) 430 #[.val (.int p0), .val (.long p1), .second, .val (.int p2), .val (.int (p2 &&& (3 : Int32))), .val (.ref xw), .val (.int ((XT.ushr p2 (2 : Int32)) &&& (7 : Int32))), .val (.ref a3), .val (.int (2 : Int32)), .val (.ref a165), .val (.int (0 : Int32)), .val (.int (0 : Int32)), .val (.int (1 : Int32)), .val (.ref a178)] [(.ref U)]))
            refine W.getS w194 (ow_138 hw) Via.refl (S_U.ext w194.old.2) od_0_430 (pc' := 433) rfl fun T196 w197 => ?_
            refine W.acmpNo w197 od_0_433 (pc' := 436) rfl rfl rfl (by simp [XT.acmp]) ?_
            refine W.iconst w197 od_0_436 (pc' := 437) rfl (z := (1 : Int32)) rfl ?_
            refine W.goto w197 od_0_437 (pc' := 441) (by decide) (by decide) ?_
            exact W.retN w197 (t := .boolean) (z' := (1 : Int32)) rfl rfl (by simp) od_0_441 (M' := []) mN (by decide) (by decide) rfl
          · refine W.icmpYes w163 od_0_335 (pc' := 342) (by decide) (by decide) (feq hc171).2 ?_
            refine W.iconst w163 od_0_342 (pc' := 343) rfl (z := (0 : Int32)) rfl ?_
            refine W.istore w163 od_0_343 (pc' := 345) rfl (Ls' := #[.val (.int p0), .val (.long p1), .second, .val (.int p2), .val (.int (p2 &&& (3 : Int32))), .val (.ref xw), .val (.int ((XT.ushr p2 (2 : Int32)) &&& (7 : Int32))), .val (.ref a3), .val (.int (2 : Int32)), .val (.ref a165), .val (.int (0 : Int32)), .val (.int (0 : Int32)), .val (.int (0 : Int32)), .unset]) rfl ?_
            refine W.aload w163 od_0_345 (pc' := 347) rfl rfl rfl ?_
            refine W.callS w163 (ow_73 hw) (ow_74 hw) (ow_75 hw) (ow_76 hw) (by decide) opd_12 (Ctr.pay (c_named hw F168 X1 w163.old) (own_ew hw) (ow_76 hw) (ow_75 hw) (kf := 4) (kl := 54) (by decide) (by decide)) mN od_0_347 (pc' := 350) rfl rfl rfl (rest := []) rfl (Wd := 0) rfl (by decide) (by decide) (by decide) (by decide) fun v200 T198 h199 M201 w202 q203 => ?_
            obtain ⟨a204, u205, rfl, rfl, K206, E207, F208, q209⟩ := q203
            have ea204 : u205 = .null := by
              rcases q209 with ⟨e1, e2⟩ | ⟨e1, e2⟩ | ⟨e1, e2⟩ | ⟨e1, e2, e3, e4⟩
              · exact absurd e1 (by simp [hc170, Ne.symm hc171, hc171])
              · exact absurd e1 (by simp [hc170, Ne.symm hc171, hc171])
              · exact absurd e1 (by simp [hc170, Ne.symm hc171, hc171])
              · exact e4
            rw [ea204] at F208
            show Go Z _ _ _ κ _ (T198.setTop (mkF (km κ) 350 #[.val (.int p0), .val (.long p1), .second, .val (.int p2), .val (.int (p2 &&& (3 : Int32))), .val (.ref xw), .val (.int ((XT.ushr p2 (2 : Int32)) &&& (7 : Int32))), .val (.ref a3), .val (.int (2 : Int32)), .val (.ref a165), .val (.int (0 : Int32)), .val (.int (0 : Int32)), .val (.int (0 : Int32)), .unset] [(.ref a204)]))
            refine W.astore w202 od_0_350 (pc' := 352) rfl (Ls' := #[.val (.int p0), .val (.long p1), .second, .val (.int p2), .val (.int (p2 &&& (3 : Int32))), .val (.ref xw), .val (.int ((XT.ushr p2 (2 : Int32)) &&& (7 : Int32))), .val (.ref a3), .val (.int (2 : Int32)), .val (.ref a165), .val (.int (0 : Int32)), .val (.int (0 : Int32)), .val (.int (0 : Int32)), .val (.ref a204)]) rfl rfl ?_
            refine W.iload w202 od_0_352 (pc' := 354) rfl rfl ?_
            refine W.ifYes w202 od_0_354 (pc' := 382) (by decide) (by decide) ((if0 _ _).trans (teq (by decide : (0 : Int32) = (0 : Int32))).1) ?_
            refine W.iload w202 od_0_382 (pc' := 384) rfl rfl ?_
            refine W.ifYes w202 od_0_384 (pc' := 412) (by decide) (by decide) ((if0 _ _).trans (teq (by decide : (0 : Int32) = (0 : Int32))).1) ?_
            refine W.iload w202 od_0_412 (pc' := 414) rfl rfl ?_
            refine W.ifYes w202 od_0_414 (pc' := 442) (by decide) (by decide) ((if0 _ _).trans (teq (by decide : (0 : Int32) = (0 : Int32))).1) ?_
            refine W.aload w202 od_0_442 (pc' := 444) rfl rfl rfl ?_
            refine W.callV w202 (ow_111 hw) (ow_112 hw) (nfSel (ow_114 hw)) (ow_114 hw) (ow_113 hw) (by decide) opd_13 E207 (Ctr.pay (c_opisPresent0 hw (x1 := 0) F208 w202.old) (own_ew hw) (ow_115 hw) (ow_108 hw) (kf := 1) (kl := 12) (by decide) (by decide)) mN od_0_444 (pc' := 447) rfl rfl rfl (rest := []) rfl (Wd := 0) rfl (by decide) (by decide) (by decide) (by decide) fun v212 T210 h211 M213 w214 q215 => ?_
            obtain ⟨rfl, rfl, rfl⟩ := q215
            show Go Z _ _ _ κ _ (T210.setTop (mkF (km κ) 447 #[.val (.int p0), .val (.long p1), .second, .val (.int p2), .val (.int (p2 &&& (3 : Int32))), .val (.ref xw), .val (.int ((XT.ushr p2 (2 : Int32)) &&& (7 : Int32))), .val (.ref a3), .val (.int (2 : Int32)), .val (.ref a165), .val (.int (0 : Int32)), .val (.int (0 : Int32)), .val (.int (0 : Int32)), .val (.ref a204)] [(.int (0 : Int32))]))
            refine W.ifNo w214 od_0_447 (pc' := 450) rfl ((if0 _ _).trans (teq (by decide : (0 : Int32) = (0 : Int32))).2) ?_
            refine W.iconst w214 od_0_450 (pc' := 451) rfl (z := (1 : Int32)) rfl ?_
            refine W.goto w214 od_0_451 (pc' := 455) (by decide) (by decide) ?_
            exact W.retN w214 (t := .boolean) (z' := (1 : Int32)) rfl rfl (by simp) od_0_455 (M' := []) mN (by decide) (by decide) rfl
        · refine W.icmpYes w163 od_0_326 (pc' := 342) (by decide) (by decide) (feq hc170).2 ?_
          refine W.iconst w163 od_0_342 (pc' := 343) rfl (z := (0 : Int32)) rfl ?_
          refine W.istore w163 od_0_343 (pc' := 345) rfl (Ls' := #[.val (.int p0), .val (.long p1), .second, .val (.int p2), .val (.int (p2 &&& (3 : Int32))), .val (.ref xw), .val (.int ((XT.ushr p2 (2 : Int32)) &&& (7 : Int32))), .val (.ref a3), .val (.int (2 : Int32)), .val (.ref a165), .val (.int (0 : Int32)), .val (.int (0 : Int32)), .val (.int (0 : Int32)), .unset]) rfl ?_
          refine W.aload w163 od_0_345 (pc' := 347) rfl rfl rfl ?_
          refine W.callS w163 (ow_73 hw) (ow_74 hw) (ow_75 hw) (ow_76 hw) (by decide) opd_12 (Ctr.pay (c_named hw F168 X1 w163.old) (own_ew hw) (ow_76 hw) (ow_75 hw) (kf := 4) (kl := 54) (by decide) (by decide)) mN od_0_347 (pc' := 350) rfl rfl rfl (rest := []) rfl (Wd := 0) rfl (by decide) (by decide) (by decide) (by decide) fun v218 T216 h217 M219 w220 q221 => ?_
          obtain ⟨a222, u223, rfl, rfl, K224, E225, F226, q227⟩ := q221
          have ea222 : u223 = .null := by
            rcases q227 with ⟨e1, e2⟩ | ⟨e1, e2⟩ | ⟨e1, e2⟩ | ⟨e1, e2, e3, e4⟩
            · exact absurd e1 (by simp [Ne.symm hc170, hc170])
            · exact absurd e1 (by simp [Ne.symm hc170, hc170])
            · exact absurd e1 (by simp [Ne.symm hc170, hc170])
            · exact e4
          rw [ea222] at F226
          show Go Z _ _ _ κ _ (T216.setTop (mkF (km κ) 350 #[.val (.int p0), .val (.long p1), .second, .val (.int p2), .val (.int (p2 &&& (3 : Int32))), .val (.ref xw), .val (.int ((XT.ushr p2 (2 : Int32)) &&& (7 : Int32))), .val (.ref a3), .val (.int (2 : Int32)), .val (.ref a165), .val (.int (0 : Int32)), .val (.int (0 : Int32)), .val (.int (0 : Int32)), .unset] [(.ref a222)]))
          refine W.astore w220 od_0_350 (pc' := 352) rfl (Ls' := #[.val (.int p0), .val (.long p1), .second, .val (.int p2), .val (.int (p2 &&& (3 : Int32))), .val (.ref xw), .val (.int ((XT.ushr p2 (2 : Int32)) &&& (7 : Int32))), .val (.ref a3), .val (.int (2 : Int32)), .val (.ref a165), .val (.int (0 : Int32)), .val (.int (0 : Int32)), .val (.int (0 : Int32)), .val (.ref a222)]) rfl rfl ?_
          refine W.iload w220 od_0_352 (pc' := 354) rfl rfl ?_
          refine W.ifYes w220 od_0_354 (pc' := 382) (by decide) (by decide) ((if0 _ _).trans (teq (by decide : (0 : Int32) = (0 : Int32))).1) ?_
          refine W.iload w220 od_0_382 (pc' := 384) rfl rfl ?_
          refine W.ifYes w220 od_0_384 (pc' := 412) (by decide) (by decide) ((if0 _ _).trans (teq (by decide : (0 : Int32) = (0 : Int32))).1) ?_
          refine W.iload w220 od_0_412 (pc' := 414) rfl rfl ?_
          refine W.ifYes w220 od_0_414 (pc' := 442) (by decide) (by decide) ((if0 _ _).trans (teq (by decide : (0 : Int32) = (0 : Int32))).1) ?_
          refine W.aload w220 od_0_442 (pc' := 444) rfl rfl rfl ?_
          refine W.callV w220 (ow_111 hw) (ow_112 hw) (nfSel (ow_114 hw)) (ow_114 hw) (ow_113 hw) (by decide) opd_13 E225 (Ctr.pay (c_opisPresent0 hw (x1 := 0) F226 w220.old) (own_ew hw) (ow_115 hw) (ow_108 hw) (kf := 1) (kl := 12) (by decide) (by decide)) mN od_0_444 (pc' := 447) rfl rfl rfl (rest := []) rfl (Wd := 0) rfl (by decide) (by decide) (by decide) (by decide) fun v230 T228 h229 M231 w232 q233 => ?_
          obtain ⟨rfl, rfl, rfl⟩ := q233
          show Go Z _ _ _ κ _ (T228.setTop (mkF (km κ) 447 #[.val (.int p0), .val (.long p1), .second, .val (.int p2), .val (.int (p2 &&& (3 : Int32))), .val (.ref xw), .val (.int ((XT.ushr p2 (2 : Int32)) &&& (7 : Int32))), .val (.ref a3), .val (.int (2 : Int32)), .val (.ref a165), .val (.int (0 : Int32)), .val (.int (0 : Int32)), .val (.int (0 : Int32)), .val (.ref a222)] [(.int (0 : Int32))]))
          refine W.ifNo w232 od_0_447 (pc' := 450) rfl ((if0 _ _).trans (teq (by decide : (0 : Int32) = (0 : Int32))).2) ?_
          refine W.iconst w232 od_0_450 (pc' := 451) rfl (z := (1 : Int32)) rfl ?_
          refine W.goto w232 od_0_451 (pc' := 455) (by decide) (by decide) ?_
          exact W.retN w232 (t := .boolean) (z' := (1 : Int32)) rfl rfl (by simp) od_0_455 (M' := []) mN (by decide) (by decide) rfl
      · refine W.istore wK od_0_176 (pc' := 178) rfl (Ls' := #[.val (.int p0), .val (.long p1), .second, .val (.int p2), .val (.int (p2 &&& (3 : Int32))), .val (.ref xw), .val (.int ((XT.ushr p2 (2 : Int32)) &&& (7 : Int32))), .val (.ref a3), .val (.int (3 : Int32)), .unset, .unset, .unset, .unset, .unset]) rfl ?_
        refine W.aload wK od_0_178 (pc' := 180) rfl rfl rfl ?_
        refine W.iload wK od_0_180 (pc' := 182) rfl rfl ?_
        refine W.callS wK (ow_49 hw) (ow_50 hw) (ow_11 hw) (ow_51 hw) (by decide) opd_11 (Ctr.pay (c_str3 hw hc0 hc1 hc2 hc3 hc4 hc5 hc6 V102 wK.old) (own_ew hw) (ow_51 hw) (ow_11 hw) (kf := 5) (kl := 79) (by decide) (by decide)) mN od_0_182 (pc' := 185) rfl rfl rfl (rest := []) rfl (Wd := 0) rfl (by decide) (by decide) (by decide) (by decide) fun v236 T234 h235 M237 w238 q239 => ?_
        obtain ⟨a240, t241, rfl, rfl, K242, F243⟩ := q239
        show Go Z _ _ _ κ _ (T234.setTop (mkF (km κ) 185 #[.val (.int p0), .val (.long p1), .second, .val (.int p2), .val (.int (p2 &&& (3 : Int32))), .val (.ref xw), .val (.int ((XT.ushr p2 (2 : Int32)) &&& (7 : Int32))), .val (.ref a3), .val (.int (3 : Int32)), .unset, .unset, .unset, .unset, .unset] [(.ref a240)]))
        refine W.astore w238 od_0_185 (pc' := 187) rfl (Ls' := #[.val (.int p0), .val (.long p1), .second, .val (.int p2), .val (.int (p2 &&& (3 : Int32))), .val (.ref xw), .val (.int ((XT.ushr p2 (2 : Int32)) &&& (7 : Int32))), .val (.ref a3), .val (.int (3 : Int32)), .val (.ref a240), .unset, .unset, .unset, .unset]) rfl rfl ?_
        refine W.iload w238 od_0_187 (pc' := 189) rfl rfl ?_
        refine W.iconst w238 od_0_189 (pc' := 190) rfl (z := (4 : Int32)) rfl ?_
        refine W.icmpYes w238 od_0_190 (pc' := 233) (by decide) (by decide) (feq (by decide : ¬ ((3 : Int32) = (4 : Int32)))).2 ?_
        refine W.iconst w238 od_0_233 (pc' := 234) rfl (z := (0 : Int32)) rfl ?_
        refine W.istore w238 od_0_234 (pc' := 236) rfl (Ls' := #[.val (.int p0), .val (.long p1), .second, .val (.int p2), .val (.int (p2 &&& (3 : Int32))), .val (.ref xw), .val (.int ((XT.ushr p2 (2 : Int32)) &&& (7 : Int32))), .val (.ref a3), .val (.int (3 : Int32)), .val (.ref a240), .val (.int (0 : Int32)), .unset, .unset, .unset]) rfl ?_
        refine W.iload w238 od_0_236 (pc' := 238) rfl rfl ?_
        refine W.bipush w238 od_0_238 (pc' := 240) rfl (z := (7 : Int32)) rfl ?_
        refine W.icmpYes w238 od_0_240 (pc' := 311) (by decide) (by decide) (feq (by decide : ¬ ((3 : Int32) = (7 : Int32)))).2 ?_
        refine W.iconst w238 od_0_311 (pc' := 312) rfl (z := (0 : Int32)) rfl ?_
        refine W.istore w238 od_0_312 (pc' := 314) rfl (Ls' := #[.val (.int p0), .val (.long p1), .second, .val (.int p2), .val (.int (p2 &&& (3 : Int32))), .val (.ref xw), .val (.int ((XT.ushr p2 (2 : Int32)) &&& (7 : Int32))), .val (.ref a3), .val (.int (3 : Int32)), .val (.ref a240), .val (.int (0 : Int32)), .val (.int (0 : Int32)), .unset, .unset]) rfl ?_
        refine W.iload w238 od_0_314 (pc' := 316) rfl rfl ?_
        refine W.iconst w238 od_0_316 (pc' := 317) rfl (z := (2 : Int32)) rfl ?_
        refine W.icmpYes w238 od_0_317 (pc' := 342) (by decide) (by decide) (feq (by decide : ¬ ((3 : Int32) = (2 : Int32)))).2 ?_
        refine W.iconst w238 od_0_342 (pc' := 343) rfl (z := (0 : Int32)) rfl ?_
        refine W.istore w238 od_0_343 (pc' := 345) rfl (Ls' := #[.val (.int p0), .val (.long p1), .second, .val (.int p2), .val (.int (p2 &&& (3 : Int32))), .val (.ref xw), .val (.int ((XT.ushr p2 (2 : Int32)) &&& (7 : Int32))), .val (.ref a3), .val (.int (3 : Int32)), .val (.ref a240), .val (.int (0 : Int32)), .val (.int (0 : Int32)), .val (.int (0 : Int32)), .unset]) rfl ?_
        refine W.aload w238 od_0_345 (pc' := 347) rfl rfl rfl ?_
        refine W.callS w238 (ow_73 hw) (ow_74 hw) (ow_75 hw) (ow_76 hw) (by decide) opd_12 (Ctr.pay (c_named hw F243 X1 w238.old) (own_ew hw) (ow_76 hw) (ow_75 hw) (kf := 4) (kl := 54) (by decide) (by decide)) mN od_0_347 (pc' := 350) rfl rfl rfl (rest := []) rfl (Wd := 0) rfl (by decide) (by decide) (by decide) (by decide) fun v246 T244 h245 M247 w248 q249 => ?_
        obtain ⟨a250, u251, rfl, rfl, K252, E253, F254, q255⟩ := q249
        have ea250 : u251 = .null := by
          rcases q255 with ⟨e1, e2⟩ | ⟨e1, e2⟩ | ⟨e1, e2⟩ | ⟨e1, e2, e3, e4⟩
          · exact absurd e1 (by simp)
          · exact absurd e1 (by simp)
          · exact absurd e1 (by simp)
          · exact e4
        rw [ea250] at F254
        show Go Z _ _ _ κ _ (T244.setTop (mkF (km κ) 350 #[.val (.int p0), .val (.long p1), .second, .val (.int p2), .val (.int (p2 &&& (3 : Int32))), .val (.ref xw), .val (.int ((XT.ushr p2 (2 : Int32)) &&& (7 : Int32))), .val (.ref a3), .val (.int (3 : Int32)), .val (.ref a240), .val (.int (0 : Int32)), .val (.int (0 : Int32)), .val (.int (0 : Int32)), .unset] [(.ref a250)]))
        refine W.astore w248 od_0_350 (pc' := 352) rfl (Ls' := #[.val (.int p0), .val (.long p1), .second, .val (.int p2), .val (.int (p2 &&& (3 : Int32))), .val (.ref xw), .val (.int ((XT.ushr p2 (2 : Int32)) &&& (7 : Int32))), .val (.ref a3), .val (.int (3 : Int32)), .val (.ref a240), .val (.int (0 : Int32)), .val (.int (0 : Int32)), .val (.int (0 : Int32)), .val (.ref a250)]) rfl rfl ?_
        refine W.iload w248 od_0_352 (pc' := 354) rfl rfl ?_
        refine W.ifYes w248 od_0_354 (pc' := 382) (by decide) (by decide) ((if0 _ _).trans (teq (by decide : (0 : Int32) = (0 : Int32))).1) ?_
        refine W.iload w248 od_0_382 (pc' := 384) rfl rfl ?_
        refine W.ifYes w248 od_0_384 (pc' := 412) (by decide) (by decide) ((if0 _ _).trans (teq (by decide : (0 : Int32) = (0 : Int32))).1) ?_
        refine W.iload w248 od_0_412 (pc' := 414) rfl rfl ?_
        refine W.ifYes w248 od_0_414 (pc' := 442) (by decide) (by decide) ((if0 _ _).trans (teq (by decide : (0 : Int32) = (0 : Int32))).1) ?_
        refine W.aload w248 od_0_442 (pc' := 444) rfl rfl rfl ?_
        refine W.callV w248 (ow_111 hw) (ow_112 hw) (nfSel (ow_114 hw)) (ow_114 hw) (ow_113 hw) (by decide) opd_13 E253 (Ctr.pay (c_opisPresent0 hw (x1 := 0) F254 w248.old) (own_ew hw) (ow_115 hw) (ow_108 hw) (kf := 1) (kl := 12) (by decide) (by decide)) mN od_0_444 (pc' := 447) rfl rfl rfl (rest := []) rfl (Wd := 0) rfl (by decide) (by decide) (by decide) (by decide) fun v258 T256 h257 M259 w260 q261 => ?_
        obtain ⟨rfl, rfl, rfl⟩ := q261
        show Go Z _ _ _ κ _ (T256.setTop (mkF (km κ) 447 #[.val (.int p0), .val (.long p1), .second, .val (.int p2), .val (.int (p2 &&& (3 : Int32))), .val (.ref xw), .val (.int ((XT.ushr p2 (2 : Int32)) &&& (7 : Int32))), .val (.ref a3), .val (.int (3 : Int32)), .val (.ref a240), .val (.int (0 : Int32)), .val (.int (0 : Int32)), .val (.int (0 : Int32)), .val (.ref a250)] [(.int (0 : Int32))]))
        refine W.ifNo w260 od_0_447 (pc' := 450) rfl ((if0 _ _).trans (teq (by decide : (0 : Int32) = (0 : Int32))).2) ?_
        refine W.iconst w260 od_0_450 (pc' := 451) rfl (z := (1 : Int32)) rfl ?_
        refine W.goto w260 od_0_451 (pc' := 455) (by decide) (by decide) ?_
        exact W.retN w260 (t := .boolean) (z' := (1 : Int32)) rfl rfl (by simp) od_0_455 (M' := []) mN (by decide) (by decide) rfl
      · refine W.istore wK od_0_176 (pc' := 178) rfl (Ls' := #[.val (.int p0), .val (.long p1), .second, .val (.int p2), .val (.int (p2 &&& (3 : Int32))), .val (.ref xw), .val (.int ((XT.ushr p2 (2 : Int32)) &&& (7 : Int32))), .val (.ref a3), .val (.int (4 : Int32)), .unset, .unset, .unset, .unset, .unset]) rfl ?_
        refine W.aload wK od_0_178 (pc' := 180) rfl rfl rfl ?_
        refine W.iload wK od_0_180 (pc' := 182) rfl rfl ?_
        refine W.callS wK (ow_49 hw) (ow_50 hw) (ow_11 hw) (ow_51 hw) (by decide) opd_11 (Ctr.pay (c_str4 hw hc0 hc1 hc2 hc3 hc4 hc5 hc6 V102 wK.old) (own_ew hw) (ow_51 hw) (ow_11 hw) (kf := 5) (kl := 79) (by decide) (by decide)) mN od_0_182 (pc' := 185) rfl rfl rfl (rest := []) rfl (Wd := 0) rfl (by decide) (by decide) (by decide) (by decide) fun v264 T262 h263 M265 w266 q267 => ?_
        obtain ⟨a268, t269, rfl, rfl, K270, F271⟩ := q267
        show Go Z _ _ _ κ _ (T262.setTop (mkF (km κ) 185 #[.val (.int p0), .val (.long p1), .second, .val (.int p2), .val (.int (p2 &&& (3 : Int32))), .val (.ref xw), .val (.int ((XT.ushr p2 (2 : Int32)) &&& (7 : Int32))), .val (.ref a3), .val (.int (4 : Int32)), .unset, .unset, .unset, .unset, .unset] [(.ref a268)]))
        refine W.astore w266 od_0_185 (pc' := 187) rfl (Ls' := #[.val (.int p0), .val (.long p1), .second, .val (.int p2), .val (.int (p2 &&& (3 : Int32))), .val (.ref xw), .val (.int ((XT.ushr p2 (2 : Int32)) &&& (7 : Int32))), .val (.ref a3), .val (.int (4 : Int32)), .val (.ref a268), .unset, .unset, .unset, .unset]) rfl rfl ?_
        refine W.iload w266 od_0_187 (pc' := 189) rfl rfl ?_
        refine W.iconst w266 od_0_189 (pc' := 190) rfl (z := (4 : Int32)) rfl ?_
        refine W.icmpNo w266 od_0_190 (pc' := 193) rfl (teq (by decide : (4 : Int32) = (4 : Int32))).2 ?_
        refine W.aload w266 od_0_193 (pc' := 195) rfl rfl rfl ?_
        refine W.iconst w266 od_0_195 (pc' := 196) rfl (z := (0 : Int32)) rfl ?_
        have f272 := (V102.keep K270 nin0)
        refine W.ldC w266 f272 ⟨by decide, by decide⟩ (v := (.int c0)) rfl od_0_196 (pc' := 197) rfl ?_
        refine W.bipush w266 od_0_197 (pc' := 199) rfl (z := (100 : Int32)) rfl ?_
        rcases Decidable.em (c0 = (100 : Int32)) with hc273 | hc273
        · refine W.icmpNo w266 od_0_199 (pc' := 202) rfl (teq hc273).2 ?_
          refine W.aload w266 od_0_202 (pc' := 204) rfl rfl rfl ?_
          refine W.iconst w266 od_0_204 (pc' := 205) rfl (z := (1 : Int32)) rfl ?_
          refine W.ldC w266 f272 ⟨by decide, by decide⟩ (v := (.int c1)) rfl od_0_205 (pc' := 206) rfl ?_
          refine W.bipush w266 od_0_206 (pc' := 208) rfl (z := (111 : Int32)) rfl ?_
          rcases Decidable.em (c1 = (111 : Int32)) with hc274 | hc274
          · refine W.icmpNo w266 od_0_208 (pc' := 211) rfl (teq hc274).2 ?_
            refine W.aload w266 od_0_211 (pc' := 213) rfl rfl rfl ?_
            refine W.iconst w266 od_0_213 (pc' := 214) rfl (z := (2 : Int32)) rfl ?_
            refine W.ldC w266 f272 ⟨by decide, by decide⟩ (v := (.int c2)) rfl od_0_214 (pc' := 215) rfl ?_
            refine W.bipush w266 od_0_215 (pc' := 217) rfl (z := (119 : Int32)) rfl ?_
            rcases Decidable.em (c2 = (119 : Int32)) with hc275 | hc275
            · refine W.icmpNo w266 od_0_217 (pc' := 220) rfl (teq hc275).2 ?_
              refine W.aload w266 od_0_220 (pc' := 222) rfl rfl rfl ?_
              refine W.iconst w266 od_0_222 (pc' := 223) rfl (z := (3 : Int32)) rfl ?_
              refine W.ldC w266 f272 ⟨by decide, by decide⟩ (v := (.int c3)) rfl od_0_223 (pc' := 224) rfl ?_
              refine W.bipush w266 od_0_224 (pc' := 226) rfl (z := (110 : Int32)) rfl ?_
              rcases Decidable.em (c3 = (110 : Int32)) with hc276 | hc276
              · refine W.icmpNo w266 od_0_226 (pc' := 229) rfl (teq hc276).2 ?_
                refine W.iconst w266 od_0_229 (pc' := 230) rfl (z := (1 : Int32)) rfl ?_
                refine W.goto w266 od_0_230 (pc' := 234) (by decide) (by decide) ?_
                refine W.istore w266 od_0_234 (pc' := 236) rfl (Ls' := #[.val (.int p0), .val (.long p1), .second, .val (.int p2), .val (.int (p2 &&& (3 : Int32))), .val (.ref xw), .val (.int ((XT.ushr p2 (2 : Int32)) &&& (7 : Int32))), .val (.ref a3), .val (.int (4 : Int32)), .val (.ref a268), .val (.int (1 : Int32)), .unset, .unset, .unset]) rfl ?_
                refine W.iload w266 od_0_236 (pc' := 238) rfl rfl ?_
                refine W.bipush w266 od_0_238 (pc' := 240) rfl (z := (7 : Int32)) rfl ?_
                refine W.icmpYes w266 od_0_240 (pc' := 311) (by decide) (by decide) (feq (by decide : ¬ ((4 : Int32) = (7 : Int32)))).2 ?_
                refine W.iconst w266 od_0_311 (pc' := 312) rfl (z := (0 : Int32)) rfl ?_
                refine W.istore w266 od_0_312 (pc' := 314) rfl (Ls' := #[.val (.int p0), .val (.long p1), .second, .val (.int p2), .val (.int (p2 &&& (3 : Int32))), .val (.ref xw), .val (.int ((XT.ushr p2 (2 : Int32)) &&& (7 : Int32))), .val (.ref a3), .val (.int (4 : Int32)), .val (.ref a268), .val (.int (1 : Int32)), .val (.int (0 : Int32)), .unset, .unset]) rfl ?_
                refine W.iload w266 od_0_314 (pc' := 316) rfl rfl ?_
                refine W.iconst w266 od_0_316 (pc' := 317) rfl (z := (2 : Int32)) rfl ?_
                refine W.icmpYes w266 od_0_317 (pc' := 342) (by decide) (by decide) (feq (by decide : ¬ ((4 : Int32) = (2 : Int32)))).2 ?_
                refine W.iconst w266 od_0_342 (pc' := 343) rfl (z := (0 : Int32)) rfl ?_
                refine W.istore w266 od_0_343 (pc' := 345) rfl (Ls' := #[.val (.int p0), .val (.long p1), .second, .val (.int p2), .val (.int (p2 &&& (3 : Int32))), .val (.ref xw), .val (.int ((XT.ushr p2 (2 : Int32)) &&& (7 : Int32))), .val (.ref a3), .val (.int (4 : Int32)), .val (.ref a268), .val (.int (1 : Int32)), .val (.int (0 : Int32)), .val (.int (0 : Int32)), .unset]) rfl ?_
                refine W.aload w266 od_0_345 (pc' := 347) rfl rfl rfl ?_
                refine W.callS w266 (ow_73 hw) (ow_74 hw) (ow_75 hw) (ow_76 hw) (by decide) opd_12 (Ctr.pay (c_named hw F271 X1 w266.old) (own_ew hw) (ow_76 hw) (ow_75 hw) (kf := 4) (kl := 54) (by decide) (by decide)) mN od_0_347 (pc' := 350) rfl rfl rfl (rest := []) rfl (Wd := 0) rfl (by decide) (by decide) (by decide) (by decide) fun v279 T277 h278 M280 w281 q282 => ?_
                obtain ⟨a283, u284, rfl, rfl, K285, E286, F287, q288⟩ := q282
                have ea283 : u284 = .ref D := by
                  rcases q288 with ⟨e1, e2⟩ | ⟨e1, e2⟩ | ⟨e1, e2⟩ | ⟨e1, e2, e3, e4⟩
                  · exact e2
                  · exact absurd e1 (by simp [hc273, hc274, hc275, hc276])
                  · exact absurd e1 (by simp [hc273, hc274, hc275, hc276])
                  · exact absurd (show [(100 : Int32), (111 : Int32), (119 : Int32), (110 : Int32)] = [c0, c1, c2, c3] by simp [hc273, hc274, hc275, hc276]) e1
                rw [ea283] at F287
                show Go Z _ _ _ κ _ (T277.setTop (mkF (km κ) 350 #[.val (.int p0), .val (.long p1), .second, .val (.int p2), .val (.int (p2 &&& (3 : Int32))), .val (.ref xw), .val (.int ((XT.ushr p2 (2 : Int32)) &&& (7 : Int32))), .val (.ref a3), .val (.int (4 : Int32)), .val (.ref a268), .val (.int (1 : Int32)), .val (.int (0 : Int32)), .val (.int (0 : Int32)), .unset] [(.ref a283)]))
                refine W.astore w281 od_0_350 (pc' := 352) rfl (Ls' := #[.val (.int p0), .val (.long p1), .second, .val (.int p2), .val (.int (p2 &&& (3 : Int32))), .val (.ref xw), .val (.int ((XT.ushr p2 (2 : Int32)) &&& (7 : Int32))), .val (.ref a3), .val (.int (4 : Int32)), .val (.ref a268), .val (.int (1 : Int32)), .val (.int (0 : Int32)), .val (.int (0 : Int32)), .val (.ref a283)]) rfl rfl ?_
                refine W.iload w281 od_0_352 (pc' := 354) rfl rfl ?_
                refine W.ifNo w281 od_0_354 (pc' := 357) rfl ((if0 _ _).trans (feq (by decide : ¬ ((1 : Int32) = (0 : Int32)))).1) ?_
                refine W.aload w281 od_0_357 (pc' := 359) rfl rfl rfl ?_
                refine W.callV w281 (ow_111 hw) (ow_112 hw) (nfSel (ow_114 hw)) (ow_114 hw) (ow_113 hw) (by decide) opd_13 E286 (Ctr.pay (c_opisPresent hw F287 w281.old) (own_ew hw) (ow_115 hw) (ow_108 hw) (kf := 1) (kl := 12) (by decide) (by decide)) mN od_0_359 (pc' := 362) rfl rfl rfl (rest := []) rfl (Wd := 0) rfl (by decide) (by decide) (by decide) (by decide) fun v291 T289 h290 M292 w293 q294 => ?_
                obtain ⟨rfl, rfl, rfl⟩ := q294
                show Go Z _ _ _ κ _ (T289.setTop (mkF (km κ) 362 #[.val (.int p0), .val (.long p1), .second, .val (.int p2), .val (.int (p2 &&& (3 : Int32))), .val (.ref xw), .val (.int ((XT.ushr p2 (2 : Int32)) &&& (7 : Int32))), .val (.ref a3), .val (.int (4 : Int32)), .val (.ref a268), .val (.int (1 : Int32)), .val (.int (0 : Int32)), .val (.int (0 : Int32)), .val (.ref a283)] [(.int (1 : Int32))]))
                refine W.ifNo w293 od_0_362 (pc' := 365) rfl ((if0 _ _).trans (feq (by decide : ¬ ((1 : Int32) = (0 : Int32)))).1) ?_
                refine W.aload w293 od_0_365 (pc' := 367) rfl rfl rfl ?_
                refine W.callV w293 (ow_133 hw) (ow_134 hw) (nfSel (ow_136 hw)) (ow_136 hw) (ow_135 hw) (by decide) opd_14 E286 (Ctr.pay (c_opget hw F287 w293.old) (own_ew hw) (ow_137 hw) (ow_108 hw) (kf := 1) (kl := 12) (by decide) (by decide)) mN od_0_367 (pc' := 370) rfl rfl rfl (rest := []) rfl (Wd := 0) rfl (by decide) (by decide) (by decide) (by decide) fun v297 T295 h296 M298 w299 q300 => ?_
                obtain ⟨rfl, rfl, rfl⟩ := q300
                show Go Z _ _ _ κ _ (T295.setTop (mkF (km κ) 370 #[.val (.int p0), .val (.long p1), .second, .val (.int p2), .val (.int (p2 &&& (3 : Int32))), .val (.ref xw), .val (.int ((XT.ushr p2 (2 : Int32)) &&& (7 : Int32))), .val (.ref a3), .val (.int (4 : Int32)), .val (.ref a268), .val (.int (1 : Int32)), .val (.int (0 : Int32)), .val (.int (0 : Int32)), .val (.ref a283)] [(.ref D)]))
                refine W.getS w299 (ow_142 hw) Via.refl (S_D.ext w299.old.2) od_0_370 (pc' := 373) rfl fun T301 w302 => ?_
                refine W.acmpNo w302 od_0_373 (pc' := 376) rfl rfl rfl (by simp [XT.acmp]) ?_
                refine W.iconst w302 od_0_376 (pc' := 377) rfl (z := (1 : Int32)) rfl ?_
                refine W.goto w302 od_0_377 (pc' := 381) (by decide) (by decide) ?_
                exact W.retN w302 (t := .boolean) (z' := (1 : Int32)) rfl rfl (by simp) od_0_381 (M' := []) mN (by decide) (by decide) rfl
              · refine W.icmpYes w266 od_0_226 (pc' := 233) (by decide) (by decide) (feq hc276).2 ?_
                refine W.iconst w266 od_0_233 (pc' := 234) rfl (z := (0 : Int32)) rfl ?_
                refine W.istore w266 od_0_234 (pc' := 236) rfl (Ls' := #[.val (.int p0), .val (.long p1), .second, .val (.int p2), .val (.int (p2 &&& (3 : Int32))), .val (.ref xw), .val (.int ((XT.ushr p2 (2 : Int32)) &&& (7 : Int32))), .val (.ref a3), .val (.int (4 : Int32)), .val (.ref a268), .val (.int (0 : Int32)), .unset, .unset, .unset]) rfl ?_
                refine W.iload w266 od_0_236 (pc' := 238) rfl rfl ?_
                refine W.bipush w266 od_0_238 (pc' := 240) rfl (z := (7 : Int32)) rfl ?_
                refine W.icmpYes w266 od_0_240 (pc' := 311) (by decide) (by decide) (feq (by decide : ¬ ((4 : Int32) = (7 : Int32)))).2 ?_
                refine W.iconst w266 od_0_311 (pc' := 312) rfl (z := (0 : Int32)) rfl ?_
                refine W.istore w266 od_0_312 (pc' := 314) rfl (Ls' := #[.val (.int p0), .val (.long p1), .second, .val (.int p2), .val (.int (p2 &&& (3 : Int32))), .val (.ref xw), .val (.int ((XT.ushr p2 (2 : Int32)) &&& (7 : Int32))), .val (.ref a3), .val (.int (4 : Int32)), .val (.ref a268), .val (.int (0 : Int32)), .val (.int (0 : Int32)), .unset, .unset]) rfl ?_
                refine W.iload w266 od_0_314 (pc' := 316) rfl rfl ?_
                refine W.iconst w266 od_0_316 (pc' := 317) rfl (z := (2 : Int32)) rfl ?_
                refine W.icmpYes w266 od_0_317 (pc' := 342) (by decide) (by decide) (feq (by decide : ¬ ((4 : Int32) = (2 : Int32)))).2 ?_
                refine W.iconst w266 od_0_342 (pc' := 343) rfl (z := (0 : Int32)) rfl ?_
                refine W.istore w266 od_0_343 (pc' := 345) rfl (Ls' := #[.val (.int p0), .val (.long p1), .second, .val (.int p2), .val (.int (p2 &&& (3 : Int32))), .val (.ref xw), .val (.int ((XT.ushr p2 (2 : Int32)) &&& (7 : Int32))), .val (.ref a3), .val (.int (4 : Int32)), .val (.ref a268), .val (.int (0 : Int32)), .val (.int (0 : Int32)), .val (.int (0 : Int32)), .unset]) rfl ?_
                refine W.aload w266 od_0_345 (pc' := 347) rfl rfl rfl ?_
                refine W.callS w266 (ow_73 hw) (ow_74 hw) (ow_75 hw) (ow_76 hw) (by decide) opd_12 (Ctr.pay (c_named hw F271 X1 w266.old) (own_ew hw) (ow_76 hw) (ow_75 hw) (kf := 4) (kl := 54) (by decide) (by decide)) mN od_0_347 (pc' := 350) rfl rfl rfl (rest := []) rfl (Wd := 0) rfl (by decide) (by decide) (by decide) (by decide) fun v305 T303 h304 M306 w307 q308 => ?_
                obtain ⟨a309, u310, rfl, rfl, K311, E312, F313, q314⟩ := q308
                have ea309 : u310 = .null := by
                  rcases q314 with ⟨e1, e2⟩ | ⟨e1, e2⟩ | ⟨e1, e2⟩ | ⟨e1, e2, e3, e4⟩
                  · exact absurd e1 (by simp [hc273, hc274, hc275, Ne.symm hc276, hc276])
                  · exact absurd e1 (by simp [hc273, hc274, hc275, Ne.symm hc276, hc276])
                  · exact absurd e1 (by simp [hc273, hc274, hc275, Ne.symm hc276, hc276])
                  · exact e4
                rw [ea309] at F313
                show Go Z _ _ _ κ _ (T303.setTop (mkF (km κ) 350 #[.val (.int p0), .val (.long p1), .second, .val (.int p2), .val (.int (p2 &&& (3 : Int32))), .val (.ref xw), .val (.int ((XT.ushr p2 (2 : Int32)) &&& (7 : Int32))), .val (.ref a3), .val (.int (4 : Int32)), .val (.ref a268), .val (.int (0 : Int32)), .val (.int (0 : Int32)), .val (.int (0 : Int32)), .unset] [(.ref a309)]))
                refine W.astore w307 od_0_350 (pc' := 352) rfl (Ls' := #[.val (.int p0), .val (.long p1), .second, .val (.int p2), .val (.int (p2 &&& (3 : Int32))), .val (.ref xw), .val (.int ((XT.ushr p2 (2 : Int32)) &&& (7 : Int32))), .val (.ref a3), .val (.int (4 : Int32)), .val (.ref a268), .val (.int (0 : Int32)), .val (.int (0 : Int32)), .val (.int (0 : Int32)), .val (.ref a309)]) rfl rfl ?_
                refine W.iload w307 od_0_352 (pc' := 354) rfl rfl ?_
                refine W.ifYes w307 od_0_354 (pc' := 382) (by decide) (by decide) ((if0 _ _).trans (teq (by decide : (0 : Int32) = (0 : Int32))).1) ?_
                refine W.iload w307 od_0_382 (pc' := 384) rfl rfl ?_
                refine W.ifYes w307 od_0_384 (pc' := 412) (by decide) (by decide) ((if0 _ _).trans (teq (by decide : (0 : Int32) = (0 : Int32))).1) ?_
                refine W.iload w307 od_0_412 (pc' := 414) rfl rfl ?_
                refine W.ifYes w307 od_0_414 (pc' := 442) (by decide) (by decide) ((if0 _ _).trans (teq (by decide : (0 : Int32) = (0 : Int32))).1) ?_
                refine W.aload w307 od_0_442 (pc' := 444) rfl rfl rfl ?_
                refine W.callV w307 (ow_111 hw) (ow_112 hw) (nfSel (ow_114 hw)) (ow_114 hw) (ow_113 hw) (by decide) opd_13 E312 (Ctr.pay (c_opisPresent0 hw (x1 := 0) F313 w307.old) (own_ew hw) (ow_115 hw) (ow_108 hw) (kf := 1) (kl := 12) (by decide) (by decide)) mN od_0_444 (pc' := 447) rfl rfl rfl (rest := []) rfl (Wd := 0) rfl (by decide) (by decide) (by decide) (by decide) fun v317 T315 h316 M318 w319 q320 => ?_
                obtain ⟨rfl, rfl, rfl⟩ := q320
                show Go Z _ _ _ κ _ (T315.setTop (mkF (km κ) 447 #[.val (.int p0), .val (.long p1), .second, .val (.int p2), .val (.int (p2 &&& (3 : Int32))), .val (.ref xw), .val (.int ((XT.ushr p2 (2 : Int32)) &&& (7 : Int32))), .val (.ref a3), .val (.int (4 : Int32)), .val (.ref a268), .val (.int (0 : Int32)), .val (.int (0 : Int32)), .val (.int (0 : Int32)), .val (.ref a309)] [(.int (0 : Int32))]))
                refine W.ifNo w319 od_0_447 (pc' := 450) rfl ((if0 _ _).trans (teq (by decide : (0 : Int32) = (0 : Int32))).2) ?_
                refine W.iconst w319 od_0_450 (pc' := 451) rfl (z := (1 : Int32)) rfl ?_
                refine W.goto w319 od_0_451 (pc' := 455) (by decide) (by decide) ?_
                exact W.retN w319 (t := .boolean) (z' := (1 : Int32)) rfl rfl (by simp) od_0_455 (M' := []) mN (by decide) (by decide) rfl
            · refine W.icmpYes w266 od_0_217 (pc' := 233) (by decide) (by decide) (feq hc275).2 ?_
              refine W.iconst w266 od_0_233 (pc' := 234) rfl (z := (0 : Int32)) rfl ?_
              refine W.istore w266 od_0_234 (pc' := 236) rfl (Ls' := #[.val (.int p0), .val (.long p1), .second, .val (.int p2), .val (.int (p2 &&& (3 : Int32))), .val (.ref xw), .val (.int ((XT.ushr p2 (2 : Int32)) &&& (7 : Int32))), .val (.ref a3), .val (.int (4 : Int32)), .val (.ref a268), .val (.int (0 : Int32)), .unset, .unset, .unset]) rfl ?_
              refine W.iload w266 od_0_236 (pc' := 238) rfl rfl ?_
              refine W.bipush w266 od_0_238 (pc' := 240) rfl (z := (7 : Int32)) rfl ?_
              refine W.icmpYes w266 od_0_240 (pc' := 311) (by decide) (by decide) (feq (by decide : ¬ ((4 : Int32) = (7 : Int32)))).2 ?_
              refine W.iconst w266 od_0_311 (pc' := 312) rfl (z := (0 : Int32)) rfl ?_
              refine W.istore w266 od_0_312 (pc' := 314) rfl (Ls' := #[.val (.int p0), .val (.long p1), .second, .val (.int p2), .val (.int (p2 &&& (3 : Int32))), .val (.ref xw), .val (.int ((XT.ushr p2 (2 : Int32)) &&& (7 : Int32))), .val (.ref a3), .val (.int (4 : Int32)), .val (.ref a268), .val (.int (0 : Int32)), .val (.int (0 : Int32)), .unset, .unset]) rfl ?_
              refine W.iload w266 od_0_314 (pc' := 316) rfl rfl ?_
              refine W.iconst w266 od_0_316 (pc' := 317) rfl (z := (2 : Int32)) rfl ?_
              refine W.icmpYes w266 od_0_317 (pc' := 342) (by decide) (by decide) (feq (by decide : ¬ ((4 : Int32) = (2 : Int32)))).2 ?_
              refine W.iconst w266 od_0_342 (pc' := 343) rfl (z := (0 : Int32)) rfl ?_
              refine W.istore w266 od_0_343 (pc' := 345) rfl (Ls' := #[.val (.int p0), .val (.long p1), .second, .val (.int p2), .val (.int (p2 &&& (3 : Int32))), .val (.ref xw), .val (.int ((XT.ushr p2 (2 : Int32)) &&& (7 : Int32))), .val (.ref a3), .val (.int (4 : Int32)), .val (.ref a268), .val (.int (0 : Int32)), .val (.int (0 : Int32)), .val (.int (0 : Int32)), .unset]) rfl ?_
              refine W.aload w266 od_0_345 (pc' := 347) rfl rfl rfl ?_
              refine W.callS w266 (ow_73 hw) (ow_74 hw) (ow_75 hw) (ow_76 hw) (by decide) opd_12 (Ctr.pay (c_named hw F271 X1 w266.old) (own_ew hw) (ow_76 hw) (ow_75 hw) (kf := 4) (kl := 54) (by decide) (by decide)) mN od_0_347 (pc' := 350) rfl rfl rfl (rest := []) rfl (Wd := 0) rfl (by decide) (by decide) (by decide) (by decide) fun v323 T321 h322 M324 w325 q326 => ?_
              obtain ⟨a327, u328, rfl, rfl, K329, E330, F331, q332⟩ := q326
              have ea327 : u328 = .null := by
                rcases q332 with ⟨e1, e2⟩ | ⟨e1, e2⟩ | ⟨e1, e2⟩ | ⟨e1, e2, e3, e4⟩
                · exact absurd e1 (by simp [hc273, hc274, Ne.symm hc275, hc275])
                · exact absurd e1 (by simp [hc273, hc274, Ne.symm hc275, hc275])
                · exact absurd e1 (by simp [hc273, hc274, Ne.symm hc275, hc275])
                · exact e4
              rw [ea327] at F331
              show Go Z _ _ _ κ _ (T321.setTop (mkF (km κ) 350 #[.val (.int p0), .val (.long p1), .second, .val (.int p2), .val (.int (p2 &&& (3 : Int32))), .val (.ref xw), .val (.int ((XT.ushr p2 (2 : Int32)) &&& (7 : Int32))), .val (.ref a3), .val (.int (4 : Int32)), .val (.ref a268), .val (.int (0 : Int32)), .val (.int (0 : Int32)), .val (.int (0 : Int32)), .unset] [(.ref a327)]))
              refine W.astore w325 od_0_350 (pc' := 352) rfl (Ls' := #[.val (.int p0), .val (.long p1), .second, .val (.int p2), .val (.int (p2 &&& (3 : Int32))), .val (.ref xw), .val (.int ((XT.ushr p2 (2 : Int32)) &&& (7 : Int32))), .val (.ref a3), .val (.int (4 : Int32)), .val (.ref a268), .val (.int (0 : Int32)), .val (.int (0 : Int32)), .val (.int (0 : Int32)), .val (.ref a327)]) rfl rfl ?_
              refine W.iload w325 od_0_352 (pc' := 354) rfl rfl ?_
              refine W.ifYes w325 od_0_354 (pc' := 382) (by decide) (by decide) ((if0 _ _).trans (teq (by decide : (0 : Int32) = (0 : Int32))).1) ?_
              refine W.iload w325 od_0_382 (pc' := 384) rfl rfl ?_
              refine W.ifYes w325 od_0_384 (pc' := 412) (by decide) (by decide) ((if0 _ _).trans (teq (by decide : (0 : Int32) = (0 : Int32))).1) ?_
              refine W.iload w325 od_0_412 (pc' := 414) rfl rfl ?_
              refine W.ifYes w325 od_0_414 (pc' := 442) (by decide) (by decide) ((if0 _ _).trans (teq (by decide : (0 : Int32) = (0 : Int32))).1) ?_
              refine W.aload w325 od_0_442 (pc' := 444) rfl rfl rfl ?_
              refine W.callV w325 (ow_111 hw) (ow_112 hw) (nfSel (ow_114 hw)) (ow_114 hw) (ow_113 hw) (by decide) opd_13 E330 (Ctr.pay (c_opisPresent0 hw (x1 := 0) F331 w325.old) (own_ew hw) (ow_115 hw) (ow_108 hw) (kf := 1) (kl := 12) (by decide) (by decide)) mN od_0_444 (pc' := 447) rfl rfl rfl (rest := []) rfl (Wd := 0) rfl (by decide) (by decide) (by decide) (by decide) fun v335 T333 h334 M336 w337 q338 => ?_
              obtain ⟨rfl, rfl, rfl⟩ := q338
              show Go Z _ _ _ κ _ (T333.setTop (mkF (km κ) 447 #[.val (.int p0), .val (.long p1), .second, .val (.int p2), .val (.int (p2 &&& (3 : Int32))), .val (.ref xw), .val (.int ((XT.ushr p2 (2 : Int32)) &&& (7 : Int32))), .val (.ref a3), .val (.int (4 : Int32)), .val (.ref a268), .val (.int (0 : Int32)), .val (.int (0 : Int32)), .val (.int (0 : Int32)), .val (.ref a327)] [(.int (0 : Int32))]))
              refine W.ifNo w337 od_0_447 (pc' := 450) rfl ((if0 _ _).trans (teq (by decide : (0 : Int32) = (0 : Int32))).2) ?_
              refine W.iconst w337 od_0_450 (pc' := 451) rfl (z := (1 : Int32)) rfl ?_
              refine W.goto w337 od_0_451 (pc' := 455) (by decide) (by decide) ?_
              exact W.retN w337 (t := .boolean) (z' := (1 : Int32)) rfl rfl (by simp) od_0_455 (M' := []) mN (by decide) (by decide) rfl
          · refine W.icmpYes w266 od_0_208 (pc' := 233) (by decide) (by decide) (feq hc274).2 ?_
            refine W.iconst w266 od_0_233 (pc' := 234) rfl (z := (0 : Int32)) rfl ?_
            refine W.istore w266 od_0_234 (pc' := 236) rfl (Ls' := #[.val (.int p0), .val (.long p1), .second, .val (.int p2), .val (.int (p2 &&& (3 : Int32))), .val (.ref xw), .val (.int ((XT.ushr p2 (2 : Int32)) &&& (7 : Int32))), .val (.ref a3), .val (.int (4 : Int32)), .val (.ref a268), .val (.int (0 : Int32)), .unset, .unset, .unset]) rfl ?_
            refine W.iload w266 od_0_236 (pc' := 238) rfl rfl ?_
            refine W.bipush w266 od_0_238 (pc' := 240) rfl (z := (7 : Int32)) rfl ?_
            refine W.icmpYes w266 od_0_240 (pc' := 311) (by decide) (by decide) (feq (by decide : ¬ ((4 : Int32) = (7 : Int32)))).2 ?_
            refine W.iconst w266 od_0_311 (pc' := 312) rfl (z := (0 : Int32)) rfl ?_
            refine W.istore w266 od_0_312 (pc' := 314) rfl (Ls' := #[.val (.int p0), .val (.long p1), .second, .val (.int p2), .val (.int (p2 &&& (3 : Int32))), .val (.ref xw), .val (.int ((XT.ushr p2 (2 : Int32)) &&& (7 : Int32))), .val (.ref a3), .val (.int (4 : Int32)), .val (.ref a268), .val (.int (0 : Int32)), .val (.int (0 : Int32)), .unset, .unset]) rfl ?_
            refine W.iload w266 od_0_314 (pc' := 316) rfl rfl ?_
            refine W.iconst w266 od_0_316 (pc' := 317) rfl (z := (2 : Int32)) rfl ?_
            refine W.icmpYes w266 od_0_317 (pc' := 342) (by decide) (by decide) (feq (by decide : ¬ ((4 : Int32) = (2 : Int32)))).2 ?_
            refine W.iconst w266 od_0_342 (pc' := 343) rfl (z := (0 : Int32)) rfl ?_
            refine W.istore w266 od_0_343 (pc' := 345) rfl (Ls' := #[.val (.int p0), .val (.long p1), .second, .val (.int p2), .val (.int (p2 &&& (3 : Int32))), .val (.ref xw), .val (.int ((XT.ushr p2 (2 : Int32)) &&& (7 : Int32))), .val (.ref a3), .val (.int (4 : Int32)), .val (.ref a268), .val (.int (0 : Int32)), .val (.int (0 : Int32)), .val (.int (0 : Int32)), .unset]) rfl ?_
            refine W.aload w266 od_0_345 (pc' := 347) rfl rfl rfl ?_
            refine W.callS w266 (ow_73 hw) (ow_74 hw) (ow_75 hw) (ow_76 hw) (by decide) opd_12 (Ctr.pay (c_named hw F271 X1 w266.old) (own_ew hw) (ow_76 hw) (ow_75 hw) (kf := 4) (kl := 54) (by decide) (by decide)) mN od_0_347 (pc' := 350) rfl rfl rfl (rest := []) rfl (Wd := 0) rfl (by decide) (by decide) (by decide) (by decide) fun v341 T339 h340 M342 w343 q344 => ?_
            obtain ⟨a345, u346, rfl, rfl, K347, E348, F349, q350⟩ := q344
            have ea345 : u346 = .null := by
              rcases q350 with ⟨e1, e2⟩ | ⟨e1, e2⟩ | ⟨e1, e2⟩ | ⟨e1, e2, e3, e4⟩
              · exact absurd e1 (by simp [hc273, Ne.symm hc274, hc274])
              · exact absurd e1 (by simp [hc273, Ne.symm hc274, hc274])
              · exact absurd e1 (by simp [hc273, Ne.symm hc274, hc274])
              · exact e4
            rw [ea345] at F349
            show Go Z _ _ _ κ _ (T339.setTop (mkF (km κ) 350 #[.val (.int p0), .val (.long p1), .second, .val (.int p2), .val (.int (p2 &&& (3 : Int32))), .val (.ref xw), .val (.int ((XT.ushr p2 (2 : Int32)) &&& (7 : Int32))), .val (.ref a3), .val (.int (4 : Int32)), .val (.ref a268), .val (.int (0 : Int32)), .val (.int (0 : Int32)), .val (.int (0 : Int32)), .unset] [(.ref a345)]))
            refine W.astore w343 od_0_350 (pc' := 352) rfl (Ls' := #[.val (.int p0), .val (.long p1), .second, .val (.int p2), .val (.int (p2 &&& (3 : Int32))), .val (.ref xw), .val (.int ((XT.ushr p2 (2 : Int32)) &&& (7 : Int32))), .val (.ref a3), .val (.int (4 : Int32)), .val (.ref a268), .val (.int (0 : Int32)), .val (.int (0 : Int32)), .val (.int (0 : Int32)), .val (.ref a345)]) rfl rfl ?_
            refine W.iload w343 od_0_352 (pc' := 354) rfl rfl ?_
            refine W.ifYes w343 od_0_354 (pc' := 382) (by decide) (by decide) ((if0 _ _).trans (teq (by decide : (0 : Int32) = (0 : Int32))).1) ?_
            refine W.iload w343 od_0_382 (pc' := 384) rfl rfl ?_
            refine W.ifYes w343 od_0_384 (pc' := 412) (by decide) (by decide) ((if0 _ _).trans (teq (by decide : (0 : Int32) = (0 : Int32))).1) ?_
            refine W.iload w343 od_0_412 (pc' := 414) rfl rfl ?_
            refine W.ifYes w343 od_0_414 (pc' := 442) (by decide) (by decide) ((if0 _ _).trans (teq (by decide : (0 : Int32) = (0 : Int32))).1) ?_
            refine W.aload w343 od_0_442 (pc' := 444) rfl rfl rfl ?_
            refine W.callV w343 (ow_111 hw) (ow_112 hw) (nfSel (ow_114 hw)) (ow_114 hw) (ow_113 hw) (by decide) opd_13 E348 (Ctr.pay (c_opisPresent0 hw (x1 := 0) F349 w343.old) (own_ew hw) (ow_115 hw) (ow_108 hw) (kf := 1) (kl := 12) (by decide) (by decide)) mN od_0_444 (pc' := 447) rfl rfl rfl (rest := []) rfl (Wd := 0) rfl (by decide) (by decide) (by decide) (by decide) fun v353 T351 h352 M354 w355 q356 => ?_
            obtain ⟨rfl, rfl, rfl⟩ := q356
            show Go Z _ _ _ κ _ (T351.setTop (mkF (km κ) 447 #[.val (.int p0), .val (.long p1), .second, .val (.int p2), .val (.int (p2 &&& (3 : Int32))), .val (.ref xw), .val (.int ((XT.ushr p2 (2 : Int32)) &&& (7 : Int32))), .val (.ref a3), .val (.int (4 : Int32)), .val (.ref a268), .val (.int (0 : Int32)), .val (.int (0 : Int32)), .val (.int (0 : Int32)), .val (.ref a345)] [(.int (0 : Int32))]))
            refine W.ifNo w355 od_0_447 (pc' := 450) rfl ((if0 _ _).trans (teq (by decide : (0 : Int32) = (0 : Int32))).2) ?_
            refine W.iconst w355 od_0_450 (pc' := 451) rfl (z := (1 : Int32)) rfl ?_
            refine W.goto w355 od_0_451 (pc' := 455) (by decide) (by decide) ?_
            exact W.retN w355 (t := .boolean) (z' := (1 : Int32)) rfl rfl (by simp) od_0_455 (M' := []) mN (by decide) (by decide) rfl
        · refine W.icmpYes w266 od_0_199 (pc' := 233) (by decide) (by decide) (feq hc273).2 ?_
          refine W.iconst w266 od_0_233 (pc' := 234) rfl (z := (0 : Int32)) rfl ?_
          refine W.istore w266 od_0_234 (pc' := 236) rfl (Ls' := #[.val (.int p0), .val (.long p1), .second, .val (.int p2), .val (.int (p2 &&& (3 : Int32))), .val (.ref xw), .val (.int ((XT.ushr p2 (2 : Int32)) &&& (7 : Int32))), .val (.ref a3), .val (.int (4 : Int32)), .val (.ref a268), .val (.int (0 : Int32)), .unset, .unset, .unset]) rfl ?_
          refine W.iload w266 od_0_236 (pc' := 238) rfl rfl ?_
          refine W.bipush w266 od_0_238 (pc' := 240) rfl (z := (7 : Int32)) rfl ?_
          refine W.icmpYes w266 od_0_240 (pc' := 311) (by decide) (by decide) (feq (by decide : ¬ ((4 : Int32) = (7 : Int32)))).2 ?_
          refine W.iconst w266 od_0_311 (pc' := 312) rfl (z := (0 : Int32)) rfl ?_
          refine W.istore w266 od_0_312 (pc' := 314) rfl (Ls' := #[.val (.int p0), .val (.long p1), .second, .val (.int p2), .val (.int (p2 &&& (3 : Int32))), .val (.ref xw), .val (.int ((XT.ushr p2 (2 : Int32)) &&& (7 : Int32))), .val (.ref a3), .val (.int (4 : Int32)), .val (.ref a268), .val (.int (0 : Int32)), .val (.int (0 : Int32)), .unset, .unset]) rfl ?_
          refine W.iload w266 od_0_314 (pc' := 316) rfl rfl ?_
          refine W.iconst w266 od_0_316 (pc' := 317) rfl (z := (2 : Int32)) rfl ?_
          refine W.icmpYes w266 od_0_317 (pc' := 342) (by decide) (by decide) (feq (by decide : ¬ ((4 : Int32) = (2 : Int32)))).2 ?_
          refine W.iconst w266 od_0_342 (pc' := 343) rfl (z := (0 : Int32)) rfl ?_
          refine W.istore w266 od_0_343 (pc' := 345) rfl (Ls' := #[.val (.int p0), .val (.long p1), .second, .val (.int p2), .val (.int (p2 &&& (3 : Int32))), .val (.ref xw), .val (.int ((XT.ushr p2 (2 : Int32)) &&& (7 : Int32))), .val (.ref a3), .val (.int (4 : Int32)), .val (.ref a268), .val (.int (0 : Int32)), .val (.int (0 : Int32)), .val (.int (0 : Int32)), .unset]) rfl ?_
          refine W.aload w266 od_0_345 (pc' := 347) rfl rfl rfl ?_
          refine W.callS w266 (ow_73 hw) (ow_74 hw) (ow_75 hw) (ow_76 hw) (by decide) opd_12 (Ctr.pay (c_named hw F271 X1 w266.old) (own_ew hw) (ow_76 hw) (ow_75 hw) (kf := 4) (kl := 54) (by decide) (by decide)) mN od_0_347 (pc' := 350) rfl rfl rfl (rest := []) rfl (Wd := 0) rfl (by decide) (by decide) (by decide) (by decide) fun v359 T357 h358 M360 w361 q362 => ?_
          obtain ⟨a363, u364, rfl, rfl, K365, E366, F367, q368⟩ := q362
          have ea363 : u364 = .null := by
            rcases q368 with ⟨e1, e2⟩ | ⟨e1, e2⟩ | ⟨e1, e2⟩ | ⟨e1, e2, e3, e4⟩
            · exact absurd e1 (by simp [Ne.symm hc273, hc273])
            · exact absurd e1 (by simp [Ne.symm hc273, hc273])
            · exact absurd e1 (by simp [Ne.symm hc273, hc273])
            · exact e4
          rw [ea363] at F367
          show Go Z _ _ _ κ _ (T357.setTop (mkF (km κ) 350 #[.val (.int p0), .val (.long p1), .second, .val (.int p2), .val (.int (p2 &&& (3 : Int32))), .val (.ref xw), .val (.int ((XT.ushr p2 (2 : Int32)) &&& (7 : Int32))), .val (.ref a3), .val (.int (4 : Int32)), .val (.ref a268), .val (.int (0 : Int32)), .val (.int (0 : Int32)), .val (.int (0 : Int32)), .unset] [(.ref a363)]))
          refine W.astore w361 od_0_350 (pc' := 352) rfl (Ls' := #[.val (.int p0), .val (.long p1), .second, .val (.int p2), .val (.int (p2 &&& (3 : Int32))), .val (.ref xw), .val (.int ((XT.ushr p2 (2 : Int32)) &&& (7 : Int32))), .val (.ref a3), .val (.int (4 : Int32)), .val (.ref a268), .val (.int (0 : Int32)), .val (.int (0 : Int32)), .val (.int (0 : Int32)), .val (.ref a363)]) rfl rfl ?_
          refine W.iload w361 od_0_352 (pc' := 354) rfl rfl ?_
          refine W.ifYes w361 od_0_354 (pc' := 382) (by decide) (by decide) ((if0 _ _).trans (teq (by decide : (0 : Int32) = (0 : Int32))).1) ?_
          refine W.iload w361 od_0_382 (pc' := 384) rfl rfl ?_
          refine W.ifYes w361 od_0_384 (pc' := 412) (by decide) (by decide) ((if0 _ _).trans (teq (by decide : (0 : Int32) = (0 : Int32))).1) ?_
          refine W.iload w361 od_0_412 (pc' := 414) rfl rfl ?_
          refine W.ifYes w361 od_0_414 (pc' := 442) (by decide) (by decide) ((if0 _ _).trans (teq (by decide : (0 : Int32) = (0 : Int32))).1) ?_
          refine W.aload w361 od_0_442 (pc' := 444) rfl rfl rfl ?_
          refine W.callV w361 (ow_111 hw) (ow_112 hw) (nfSel (ow_114 hw)) (ow_114 hw) (ow_113 hw) (by decide) opd_13 E366 (Ctr.pay (c_opisPresent0 hw (x1 := 0) F367 w361.old) (own_ew hw) (ow_115 hw) (ow_108 hw) (kf := 1) (kl := 12) (by decide) (by decide)) mN od_0_444 (pc' := 447) rfl rfl rfl (rest := []) rfl (Wd := 0) rfl (by decide) (by decide) (by decide) (by decide) fun v371 T369 h370 M372 w373 q374 => ?_
          obtain ⟨rfl, rfl, rfl⟩ := q374
          show Go Z _ _ _ κ _ (T369.setTop (mkF (km κ) 447 #[.val (.int p0), .val (.long p1), .second, .val (.int p2), .val (.int (p2 &&& (3 : Int32))), .val (.ref xw), .val (.int ((XT.ushr p2 (2 : Int32)) &&& (7 : Int32))), .val (.ref a3), .val (.int (4 : Int32)), .val (.ref a268), .val (.int (0 : Int32)), .val (.int (0 : Int32)), .val (.int (0 : Int32)), .val (.ref a363)] [(.int (0 : Int32))]))
          refine W.ifNo w373 od_0_447 (pc' := 450) rfl ((if0 _ _).trans (teq (by decide : (0 : Int32) = (0 : Int32))).2) ?_
          refine W.iconst w373 od_0_450 (pc' := 451) rfl (z := (1 : Int32)) rfl ?_
          refine W.goto w373 od_0_451 (pc' := 455) (by decide) (by decide) ?_
          exact W.retN w373 (t := .boolean) (z' := (1 : Int32)) rfl rfl (by simp) od_0_455 (M' := []) mN (by decide) (by decide) rfl
      · refine W.istore wK od_0_176 (pc' := 178) rfl (Ls' := #[.val (.int p0), .val (.long p1), .second, .val (.int p2), .val (.int (p2 &&& (3 : Int32))), .val (.ref xw), .val (.int ((XT.ushr p2 (2 : Int32)) &&& (7 : Int32))), .val (.ref a3), .val (.int (5 : Int32)), .unset, .unset, .unset, .unset, .unset]) rfl ?_
        refine W.aload wK od_0_178 (pc' := 180) rfl rfl rfl ?_
        refine W.iload wK od_0_180 (pc' := 182) rfl rfl ?_
        refine W.callS wK (ow_49 hw) (ow_50 hw) (ow_11 hw) (ow_51 hw) (by decide) opd_11 (Ctr.pay (c_str5 hw hc0 hc1 hc2 hc3 hc4 hc5 hc6 V102 wK.old) (own_ew hw) (ow_51 hw) (ow_11 hw) (kf := 5) (kl := 79) (by decide) (by decide)) mN od_0_182 (pc' := 185) rfl rfl rfl (rest := []) rfl (Wd := 0) rfl (by decide) (by decide) (by decide) (by decide) fun v377 T375 h376 M378 w379 q380 => ?_
        obtain ⟨a381, t382, rfl, rfl, K383, F384⟩ := q380
        show Go Z _ _ _ κ _ (T375.setTop (mkF (km κ) 185 #[.val (.int p0), .val (.long p1), .second, .val (.int p2), .val (.int (p2 &&& (3 : Int32))), .val (.ref xw), .val (.int ((XT.ushr p2 (2 : Int32)) &&& (7 : Int32))), .val (.ref a3), .val (.int (5 : Int32)), .unset, .unset, .unset, .unset, .unset] [(.ref a381)]))
        refine W.astore w379 od_0_185 (pc' := 187) rfl (Ls' := #[.val (.int p0), .val (.long p1), .second, .val (.int p2), .val (.int (p2 &&& (3 : Int32))), .val (.ref xw), .val (.int ((XT.ushr p2 (2 : Int32)) &&& (7 : Int32))), .val (.ref a3), .val (.int (5 : Int32)), .val (.ref a381), .unset, .unset, .unset, .unset]) rfl rfl ?_
        refine W.iload w379 od_0_187 (pc' := 189) rfl rfl ?_
        refine W.iconst w379 od_0_189 (pc' := 190) rfl (z := (4 : Int32)) rfl ?_
        refine W.icmpYes w379 od_0_190 (pc' := 233) (by decide) (by decide) (feq (by decide : ¬ ((5 : Int32) = (4 : Int32)))).2 ?_
        refine W.iconst w379 od_0_233 (pc' := 234) rfl (z := (0 : Int32)) rfl ?_
        refine W.istore w379 od_0_234 (pc' := 236) rfl (Ls' := #[.val (.int p0), .val (.long p1), .second, .val (.int p2), .val (.int (p2 &&& (3 : Int32))), .val (.ref xw), .val (.int ((XT.ushr p2 (2 : Int32)) &&& (7 : Int32))), .val (.ref a3), .val (.int (5 : Int32)), .val (.ref a381), .val (.int (0 : Int32)), .unset, .unset, .unset]) rfl ?_
        refine W.iload w379 od_0_236 (pc' := 238) rfl rfl ?_
        refine W.bipush w379 od_0_238 (pc' := 240) rfl (z := (7 : Int32)) rfl ?_
        refine W.icmpYes w379 od_0_240 (pc' := 311) (by decide) (by decide) (feq (by decide : ¬ ((5 : Int32) = (7 : Int32)))).2 ?_
        refine W.iconst w379 od_0_311 (pc' := 312) rfl (z := (0 : Int32)) rfl ?_
        refine W.istore w379 od_0_312 (pc' := 314) rfl (Ls' := #[.val (.int p0), .val (.long p1), .second, .val (.int p2), .val (.int (p2 &&& (3 : Int32))), .val (.ref xw), .val (.int ((XT.ushr p2 (2 : Int32)) &&& (7 : Int32))), .val (.ref a3), .val (.int (5 : Int32)), .val (.ref a381), .val (.int (0 : Int32)), .val (.int (0 : Int32)), .unset, .unset]) rfl ?_
        refine W.iload w379 od_0_314 (pc' := 316) rfl rfl ?_
        refine W.iconst w379 od_0_316 (pc' := 317) rfl (z := (2 : Int32)) rfl ?_
        refine W.icmpYes w379 od_0_317 (pc' := 342) (by decide) (by decide) (feq (by decide : ¬ ((5 : Int32) = (2 : Int32)))).2 ?_
        refine W.iconst w379 od_0_342 (pc' := 343) rfl (z := (0 : Int32)) rfl ?_
        refine W.istore w379 od_0_343 (pc' := 345) rfl (Ls' := #[.val (.int p0), .val (.long p1), .second, .val (.int p2), .val (.int (p2 &&& (3 : Int32))), .val (.ref xw), .val (.int ((XT.ushr p2 (2 : Int32)) &&& (7 : Int32))), .val (.ref a3), .val (.int (5 : Int32)), .val (.ref a381), .val (.int (0 : Int32)), .val (.int (0 : Int32)), .val (.int (0 : Int32)), .unset]) rfl ?_
        refine W.aload w379 od_0_345 (pc' := 347) rfl rfl rfl ?_
        refine W.callS w379 (ow_73 hw) (ow_74 hw) (ow_75 hw) (ow_76 hw) (by decide) opd_12 (Ctr.pay (c_named hw F384 X1 w379.old) (own_ew hw) (ow_76 hw) (ow_75 hw) (kf := 4) (kl := 54) (by decide) (by decide)) mN od_0_347 (pc' := 350) rfl rfl rfl (rest := []) rfl (Wd := 0) rfl (by decide) (by decide) (by decide) (by decide) fun v387 T385 h386 M388 w389 q390 => ?_
        obtain ⟨a391, u392, rfl, rfl, K393, E394, F395, q396⟩ := q390
        have ea391 : u392 = .null := by
          rcases q396 with ⟨e1, e2⟩ | ⟨e1, e2⟩ | ⟨e1, e2⟩ | ⟨e1, e2, e3, e4⟩
          · exact absurd e1 (by simp)
          · exact absurd e1 (by simp)
          · exact absurd e1 (by simp)
          · exact e4
        rw [ea391] at F395
        show Go Z _ _ _ κ _ (T385.setTop (mkF (km κ) 350 #[.val (.int p0), .val (.long p1), .second, .val (.int p2), .val (.int (p2 &&& (3 : Int32))), .val (.ref xw), .val (.int ((XT.ushr p2 (2 : Int32)) &&& (7 : Int32))), .val (.ref a3), .val (.int (5 : Int32)), .val (.ref a381), .val (.int (0 : Int32)), .val (.int (0 : Int32)), .val (.int (0 : Int32)), .unset] [(.ref a391)]))
        refine W.astore w389 od_0_350 (pc' := 352) rfl (Ls' := #[.val (.int p0), .val (.long p1), .second, .val (.int p2), .val (.int (p2 &&& (3 : Int32))), .val (.ref xw), .val (.int ((XT.ushr p2 (2 : Int32)) &&& (7 : Int32))), .val (.ref a3), .val (.int (5 : Int32)), .val (.ref a381), .val (.int (0 : Int32)), .val (.int (0 : Int32)), .val (.int (0 : Int32)), .val (.ref a391)]) rfl rfl ?_
        refine W.iload w389 od_0_352 (pc' := 354) rfl rfl ?_
        refine W.ifYes w389 od_0_354 (pc' := 382) (by decide) (by decide) ((if0 _ _).trans (teq (by decide : (0 : Int32) = (0 : Int32))).1) ?_
        refine W.iload w389 od_0_382 (pc' := 384) rfl rfl ?_
        refine W.ifYes w389 od_0_384 (pc' := 412) (by decide) (by decide) ((if0 _ _).trans (teq (by decide : (0 : Int32) = (0 : Int32))).1) ?_
        refine W.iload w389 od_0_412 (pc' := 414) rfl rfl ?_
        refine W.ifYes w389 od_0_414 (pc' := 442) (by decide) (by decide) ((if0 _ _).trans (teq (by decide : (0 : Int32) = (0 : Int32))).1) ?_
        refine W.aload w389 od_0_442 (pc' := 444) rfl rfl rfl ?_
        refine W.callV w389 (ow_111 hw) (ow_112 hw) (nfSel (ow_114 hw)) (ow_114 hw) (ow_113 hw) (by decide) opd_13 E394 (Ctr.pay (c_opisPresent0 hw (x1 := 0) F395 w389.old) (own_ew hw) (ow_115 hw) (ow_108 hw) (kf := 1) (kl := 12) (by decide) (by decide)) mN od_0_444 (pc' := 447) rfl rfl rfl (rest := []) rfl (Wd := 0) rfl (by decide) (by decide) (by decide) (by decide) fun v399 T397 h398 M400 w401 q402 => ?_
        obtain ⟨rfl, rfl, rfl⟩ := q402
        show Go Z _ _ _ κ _ (T397.setTop (mkF (km κ) 447 #[.val (.int p0), .val (.long p1), .second, .val (.int p2), .val (.int (p2 &&& (3 : Int32))), .val (.ref xw), .val (.int ((XT.ushr p2 (2 : Int32)) &&& (7 : Int32))), .val (.ref a3), .val (.int (5 : Int32)), .val (.ref a381), .val (.int (0 : Int32)), .val (.int (0 : Int32)), .val (.int (0 : Int32)), .val (.ref a391)] [(.int (0 : Int32))]))
        refine W.ifNo w401 od_0_447 (pc' := 450) rfl ((if0 _ _).trans (teq (by decide : (0 : Int32) = (0 : Int32))).2) ?_
        refine W.iconst w401 od_0_450 (pc' := 451) rfl (z := (1 : Int32)) rfl ?_
        refine W.goto w401 od_0_451 (pc' := 455) (by decide) (by decide) ?_
        exact W.retN w401 (t := .boolean) (z' := (1 : Int32)) rfl rfl (by simp) od_0_455 (M' := []) mN (by decide) (by decide) rfl
      · refine W.istore wK od_0_176 (pc' := 178) rfl (Ls' := #[.val (.int p0), .val (.long p1), .second, .val (.int p2), .val (.int (p2 &&& (3 : Int32))), .val (.ref xw), .val (.int ((XT.ushr p2 (2 : Int32)) &&& (7 : Int32))), .val (.ref a3), .val (.int (6 : Int32)), .unset, .unset, .unset, .unset, .unset]) rfl ?_
        refine W.aload wK od_0_178 (pc' := 180) rfl rfl rfl ?_
        refine W.iload wK od_0_180 (pc' := 182) rfl rfl ?_
        refine W.callS wK (ow_49 hw) (ow_50 hw) (ow_11 hw) (ow_51 hw) (by decide) opd_11 (Ctr.pay (c_str6 hw hc0 hc1 hc2 hc3 hc4 hc5 hc6 V102 wK.old) (own_ew hw) (ow_51 hw) (ow_11 hw) (kf := 5) (kl := 79) (by decide) (by decide)) mN od_0_182 (pc' := 185) rfl rfl rfl (rest := []) rfl (Wd := 0) rfl (by decide) (by decide) (by decide) (by decide) fun v405 T403 h404 M406 w407 q408 => ?_
        obtain ⟨a409, t410, rfl, rfl, K411, F412⟩ := q408
        show Go Z _ _ _ κ _ (T403.setTop (mkF (km κ) 185 #[.val (.int p0), .val (.long p1), .second, .val (.int p2), .val (.int (p2 &&& (3 : Int32))), .val (.ref xw), .val (.int ((XT.ushr p2 (2 : Int32)) &&& (7 : Int32))), .val (.ref a3), .val (.int (6 : Int32)), .unset, .unset, .unset, .unset, .unset] [(.ref a409)]))
        refine W.astore w407 od_0_185 (pc' := 187) rfl (Ls' := #[.val (.int p0), .val (.long p1), .second, .val (.int p2), .val (.int (p2 &&& (3 : Int32))), .val (.ref xw), .val (.int ((XT.ushr p2 (2 : Int32)) &&& (7 : Int32))), .val (.ref a3), .val (.int (6 : Int32)), .val (.ref a409), .unset, .unset, .unset, .unset]) rfl rfl ?_
        refine W.iload w407 od_0_187 (pc' := 189) rfl rfl ?_
        refine W.iconst w407 od_0_189 (pc' := 190) rfl (z := (4 : Int32)) rfl ?_
        refine W.icmpYes w407 od_0_190 (pc' := 233) (by decide) (by decide) (feq (by decide : ¬ ((6 : Int32) = (4 : Int32)))).2 ?_
        refine W.iconst w407 od_0_233 (pc' := 234) rfl (z := (0 : Int32)) rfl ?_
        refine W.istore w407 od_0_234 (pc' := 236) rfl (Ls' := #[.val (.int p0), .val (.long p1), .second, .val (.int p2), .val (.int (p2 &&& (3 : Int32))), .val (.ref xw), .val (.int ((XT.ushr p2 (2 : Int32)) &&& (7 : Int32))), .val (.ref a3), .val (.int (6 : Int32)), .val (.ref a409), .val (.int (0 : Int32)), .unset, .unset, .unset]) rfl ?_
        refine W.iload w407 od_0_236 (pc' := 238) rfl rfl ?_
        refine W.bipush w407 od_0_238 (pc' := 240) rfl (z := (7 : Int32)) rfl ?_
        refine W.icmpYes w407 od_0_240 (pc' := 311) (by decide) (by decide) (feq (by decide : ¬ ((6 : Int32) = (7 : Int32)))).2 ?_
        refine W.iconst w407 od_0_311 (pc' := 312) rfl (z := (0 : Int32)) rfl ?_
        refine W.istore w407 od_0_312 (pc' := 314) rfl (Ls' := #[.val (.int p0), .val (.long p1), .second, .val (.int p2), .val (.int (p2 &&& (3 : Int32))), .val (.ref xw), .val (.int ((XT.ushr p2 (2 : Int32)) &&& (7 : Int32))), .val (.ref a3), .val (.int (6 : Int32)), .val (.ref a409), .val (.int (0 : Int32)), .val (.int (0 : Int32)), .unset, .unset]) rfl ?_
        refine W.iload w407 od_0_314 (pc' := 316) rfl rfl ?_
        refine W.iconst w407 od_0_316 (pc' := 317) rfl (z := (2 : Int32)) rfl ?_
        refine W.icmpYes w407 od_0_317 (pc' := 342) (by decide) (by decide) (feq (by decide : ¬ ((6 : Int32) = (2 : Int32)))).2 ?_
        refine W.iconst w407 od_0_342 (pc' := 343) rfl (z := (0 : Int32)) rfl ?_
        refine W.istore w407 od_0_343 (pc' := 345) rfl (Ls' := #[.val (.int p0), .val (.long p1), .second, .val (.int p2), .val (.int (p2 &&& (3 : Int32))), .val (.ref xw), .val (.int ((XT.ushr p2 (2 : Int32)) &&& (7 : Int32))), .val (.ref a3), .val (.int (6 : Int32)), .val (.ref a409), .val (.int (0 : Int32)), .val (.int (0 : Int32)), .val (.int (0 : Int32)), .unset]) rfl ?_
        refine W.aload w407 od_0_345 (pc' := 347) rfl rfl rfl ?_
        refine W.callS w407 (ow_73 hw) (ow_74 hw) (ow_75 hw) (ow_76 hw) (by decide) opd_12 (Ctr.pay (c_named hw F412 X1 w407.old) (own_ew hw) (ow_76 hw) (ow_75 hw) (kf := 4) (kl := 54) (by decide) (by decide)) mN od_0_347 (pc' := 350) rfl rfl rfl (rest := []) rfl (Wd := 0) rfl (by decide) (by decide) (by decide) (by decide) fun v415 T413 h414 M416 w417 q418 => ?_
        obtain ⟨a419, u420, rfl, rfl, K421, E422, F423, q424⟩ := q418
        have ea419 : u420 = .null := by
          rcases q424 with ⟨e1, e2⟩ | ⟨e1, e2⟩ | ⟨e1, e2⟩ | ⟨e1, e2, e3, e4⟩
          · exact absurd e1 (by simp)
          · exact absurd e1 (by simp)
          · exact absurd e1 (by simp)
          · exact e4
        rw [ea419] at F423
        show Go Z _ _ _ κ _ (T413.setTop (mkF (km κ) 350 #[.val (.int p0), .val (.long p1), .second, .val (.int p2), .val (.int (p2 &&& (3 : Int32))), .val (.ref xw), .val (.int ((XT.ushr p2 (2 : Int32)) &&& (7 : Int32))), .val (.ref a3), .val (.int (6 : Int32)), .val (.ref a409), .val (.int (0 : Int32)), .val (.int (0 : Int32)), .val (.int (0 : Int32)), .unset] [(.ref a419)]))
        refine W.astore w417 od_0_350 (pc' := 352) rfl (Ls' := #[.val (.int p0), .val (.long p1), .second, .val (.int p2), .val (.int (p2 &&& (3 : Int32))), .val (.ref xw), .val (.int ((XT.ushr p2 (2 : Int32)) &&& (7 : Int32))), .val (.ref a3), .val (.int (6 : Int32)), .val (.ref a409), .val (.int (0 : Int32)), .val (.int (0 : Int32)), .val (.int (0 : Int32)), .val (.ref a419)]) rfl rfl ?_
        refine W.iload w417 od_0_352 (pc' := 354) rfl rfl ?_
        refine W.ifYes w417 od_0_354 (pc' := 382) (by decide) (by decide) ((if0 _ _).trans (teq (by decide : (0 : Int32) = (0 : Int32))).1) ?_
        refine W.iload w417 od_0_382 (pc' := 384) rfl rfl ?_
        refine W.ifYes w417 od_0_384 (pc' := 412) (by decide) (by decide) ((if0 _ _).trans (teq (by decide : (0 : Int32) = (0 : Int32))).1) ?_
        refine W.iload w417 od_0_412 (pc' := 414) rfl rfl ?_
        refine W.ifYes w417 od_0_414 (pc' := 442) (by decide) (by decide) ((if0 _ _).trans (teq (by decide : (0 : Int32) = (0 : Int32))).1) ?_
        refine W.aload w417 od_0_442 (pc' := 444) rfl rfl rfl ?_
        refine W.callV w417 (ow_111 hw) (ow_112 hw) (nfSel (ow_114 hw)) (ow_114 hw) (ow_113 hw) (by decide) opd_13 E422 (Ctr.pay (c_opisPresent0 hw (x1 := 0) F423 w417.old) (own_ew hw) (ow_115 hw) (ow_108 hw) (kf := 1) (kl := 12) (by decide) (by decide)) mN od_0_444 (pc' := 447) rfl rfl rfl (rest := []) rfl (Wd := 0) rfl (by decide) (by decide) (by decide) (by decide) fun v427 T425 h426 M428 w429 q430 => ?_
        obtain ⟨rfl, rfl, rfl⟩ := q430
        show Go Z _ _ _ κ _ (T425.setTop (mkF (km κ) 447 #[.val (.int p0), .val (.long p1), .second, .val (.int p2), .val (.int (p2 &&& (3 : Int32))), .val (.ref xw), .val (.int ((XT.ushr p2 (2 : Int32)) &&& (7 : Int32))), .val (.ref a3), .val (.int (6 : Int32)), .val (.ref a409), .val (.int (0 : Int32)), .val (.int (0 : Int32)), .val (.int (0 : Int32)), .val (.ref a419)] [(.int (0 : Int32))]))
        refine W.ifNo w429 od_0_447 (pc' := 450) rfl ((if0 _ _).trans (teq (by decide : (0 : Int32) = (0 : Int32))).2) ?_
        refine W.iconst w429 od_0_450 (pc' := 451) rfl (z := (1 : Int32)) rfl ?_
        refine W.goto w429 od_0_451 (pc' := 455) (by decide) (by decide) ?_
        exact W.retN w429 (t := .boolean) (z' := (1 : Int32)) rfl rfl (by simp) od_0_455 (M' := []) mN (by decide) (by decide) rfl
      · refine W.istore wK od_0_176 (pc' := 178) rfl (Ls' := #[.val (.int p0), .val (.long p1), .second, .val (.int p2), .val (.int (p2 &&& (3 : Int32))), .val (.ref xw), .val (.int ((XT.ushr p2 (2 : Int32)) &&& (7 : Int32))), .val (.ref a3), .val (.int (7 : Int32)), .unset, .unset, .unset, .unset, .unset]) rfl ?_
        refine W.aload wK od_0_178 (pc' := 180) rfl rfl rfl ?_
        refine W.iload wK od_0_180 (pc' := 182) rfl rfl ?_
        refine W.callS wK (ow_49 hw) (ow_50 hw) (ow_11 hw) (ow_51 hw) (by decide) opd_11 (Ctr.pay (c_str7 hw hc0 hc1 hc2 hc3 hc4 hc5 hc6 V102 wK.old) (own_ew hw) (ow_51 hw) (ow_11 hw) (kf := 5) (kl := 79) (by decide) (by decide)) mN od_0_182 (pc' := 185) rfl rfl rfl (rest := []) rfl (Wd := 0) rfl (by decide) (by decide) (by decide) (by decide) fun v433 T431 h432 M434 w435 q436 => ?_
        obtain ⟨a437, t438, rfl, rfl, K439, F440⟩ := q436
        show Go Z _ _ _ κ _ (T431.setTop (mkF (km κ) 185 #[.val (.int p0), .val (.long p1), .second, .val (.int p2), .val (.int (p2 &&& (3 : Int32))), .val (.ref xw), .val (.int ((XT.ushr p2 (2 : Int32)) &&& (7 : Int32))), .val (.ref a3), .val (.int (7 : Int32)), .unset, .unset, .unset, .unset, .unset] [(.ref a437)]))
        refine W.astore w435 od_0_185 (pc' := 187) rfl (Ls' := #[.val (.int p0), .val (.long p1), .second, .val (.int p2), .val (.int (p2 &&& (3 : Int32))), .val (.ref xw), .val (.int ((XT.ushr p2 (2 : Int32)) &&& (7 : Int32))), .val (.ref a3), .val (.int (7 : Int32)), .val (.ref a437), .unset, .unset, .unset, .unset]) rfl rfl ?_
        refine W.iload w435 od_0_187 (pc' := 189) rfl rfl ?_
        refine W.iconst w435 od_0_189 (pc' := 190) rfl (z := (4 : Int32)) rfl ?_
        refine W.icmpYes w435 od_0_190 (pc' := 233) (by decide) (by decide) (feq (by decide : ¬ ((7 : Int32) = (4 : Int32)))).2 ?_
        refine W.iconst w435 od_0_233 (pc' := 234) rfl (z := (0 : Int32)) rfl ?_
        refine W.istore w435 od_0_234 (pc' := 236) rfl (Ls' := #[.val (.int p0), .val (.long p1), .second, .val (.int p2), .val (.int (p2 &&& (3 : Int32))), .val (.ref xw), .val (.int ((XT.ushr p2 (2 : Int32)) &&& (7 : Int32))), .val (.ref a3), .val (.int (7 : Int32)), .val (.ref a437), .val (.int (0 : Int32)), .unset, .unset, .unset]) rfl ?_
        refine W.iload w435 od_0_236 (pc' := 238) rfl rfl ?_
        refine W.bipush w435 od_0_238 (pc' := 240) rfl (z := (7 : Int32)) rfl ?_
        refine W.icmpNo w435 od_0_240 (pc' := 243) rfl (teq (by decide : (7 : Int32) = (7 : Int32))).2 ?_
        refine W.aload w435 od_0_243 (pc' := 245) rfl rfl rfl ?_
        refine W.iconst w435 od_0_245 (pc' := 246) rfl (z := (0 : Int32)) rfl ?_
        have f441 := (V102.keep K439 nin0)
        refine W.ldC w435 f441 ⟨by decide, by decide⟩ (v := (.int c0)) rfl od_0_246 (pc' := 247) rfl ?_
        refine W.bipush w435 od_0_247 (pc' := 249) rfl (z := (104 : Int32)) rfl ?_
        rcases Decidable.em (c0 = (104 : Int32)) with hc442 | hc442
        · refine W.icmpNo w435 od_0_249 (pc' := 252) rfl (teq hc442).2 ?_
          refine W.aload w435 od_0_252 (pc' := 254) rfl rfl rfl ?_
          refine W.iconst w435 od_0_254 (pc' := 255) rfl (z := (1 : Int32)) rfl ?_
          refine W.ldC w435 f441 ⟨by decide, by decide⟩ (v := (.int c1)) rfl od_0_255 (pc' := 256) rfl ?_
          refine W.bipush w435 od_0_256 (pc' := 258) rfl (z := (97 : Int32)) rfl ?_
          rcases Decidable.em (c1 = (97 : Int32)) with hc443 | hc443
          · refine W.icmpNo w435 od_0_258 (pc' := 261) rfl (teq hc443).2 ?_
            refine W.aload w435 od_0_261 (pc' := 263) rfl rfl rfl ?_
            refine W.iconst w435 od_0_263 (pc' := 264) rfl (z := (2 : Int32)) rfl ?_
            refine W.ldC w435 f441 ⟨by decide, by decide⟩ (v := (.int c2)) rfl od_0_264 (pc' := 265) rfl ?_
            refine W.bipush w435 od_0_265 (pc' := 267) rfl (z := (108 : Int32)) rfl ?_
            rcases Decidable.em (c2 = (108 : Int32)) with hc444 | hc444
            · refine W.icmpNo w435 od_0_267 (pc' := 270) rfl (teq hc444).2 ?_
              refine W.aload w435 od_0_270 (pc' := 272) rfl rfl rfl ?_
              refine W.iconst w435 od_0_272 (pc' := 273) rfl (z := (3 : Int32)) rfl ?_
              refine W.ldC w435 f441 ⟨by decide, by decide⟩ (v := (.int c3)) rfl od_0_273 (pc' := 274) rfl ?_
              refine W.bipush w435 od_0_274 (pc' := 276) rfl (z := (102 : Int32)) rfl ?_
              rcases Decidable.em (c3 = (102 : Int32)) with hc445 | hc445
              · refine W.icmpNo w435 od_0_276 (pc' := 279) rfl (teq hc445).2 ?_
                refine W.aload w435 od_0_279 (pc' := 281) rfl rfl rfl ?_
                refine W.iconst w435 od_0_281 (pc' := 282) rfl (z := (4 : Int32)) rfl ?_
                refine W.ldC w435 f441 ⟨by decide, by decide⟩ (v := (.int c4)) rfl od_0_282 (pc' := 283) rfl ?_
                refine W.bipush w435 od_0_283 (pc' := 285) rfl (z := (45 : Int32)) rfl ?_
                rcases Decidable.em (c4 = (45 : Int32)) with hc446 | hc446
                · refine W.icmpNo w435 od_0_285 (pc' := 288) rfl (teq hc446).2 ?_
                  refine W.aload w435 od_0_288 (pc' := 290) rfl rfl rfl ?_
                  refine W.iconst w435 od_0_290 (pc' := 291) rfl (z := (5 : Int32)) rfl ?_
                  refine W.ldC w435 f441 ⟨by decide, by decide⟩ (v := (.int c5)) rfl od_0_291 (pc' := 292) rfl ?_
                  refine W.bipush w435 od_0_292 (pc' := 294) rfl (z := (117 : Int32)) rfl ?_
                  rcases Decidable.em (c5 = (117 : Int32)) with hc447 | hc447
                  · refine W.icmpNo w435 od_0_294 (pc' := 297) rfl (teq hc447).2 ?_
                    refine W.aload w435 od_0_297 (pc' := 299) rfl rfl rfl ?_
                    refine W.bipush w435 od_0_299 (pc' := 301) rfl (z := (6 : Int32)) rfl ?_
                    refine W.ldC w435 f441 ⟨by decide, by decide⟩ (v := (.int c6)) rfl od_0_301 (pc' := 302) rfl ?_
                    refine W.bipush w435 od_0_302 (pc' := 304) rfl (z := (112 : Int32)) rfl ?_
                    rcases Decidable.em (c6 = (112 : Int32)) with hc448 | hc448
                    · refine W.icmpNo w435 od_0_304 (pc' := 307) rfl (teq hc448).2 ?_
                      refine W.iconst w435 od_0_307 (pc' := 308) rfl (z := (1 : Int32)) rfl ?_
                      refine W.goto w435 od_0_308 (pc' := 312) (by decide) (by decide) ?_
                      refine W.istore w435 od_0_312 (pc' := 314) rfl (Ls' := #[.val (.int p0), .val (.long p1), .second, .val (.int p2), .val (.int (p2 &&& (3 : Int32))), .val (.ref xw), .val (.int ((XT.ushr p2 (2 : Int32)) &&& (7 : Int32))), .val (.ref a3), .val (.int (7 : Int32)), .val (.ref a437), .val (.int (0 : Int32)), .val (.int (1 : Int32)), .unset, .unset]) rfl ?_
                      refine W.iload w435 od_0_314 (pc' := 316) rfl rfl ?_
                      refine W.iconst w435 od_0_316 (pc' := 317) rfl (z := (2 : Int32)) rfl ?_
                      refine W.icmpYes w435 od_0_317 (pc' := 342) (by decide) (by decide) (feq (by decide : ¬ ((7 : Int32) = (2 : Int32)))).2 ?_
                      refine W.iconst w435 od_0_342 (pc' := 343) rfl (z := (0 : Int32)) rfl ?_
                      refine W.istore w435 od_0_343 (pc' := 345) rfl (Ls' := #[.val (.int p0), .val (.long p1), .second, .val (.int p2), .val (.int (p2 &&& (3 : Int32))), .val (.ref xw), .val (.int ((XT.ushr p2 (2 : Int32)) &&& (7 : Int32))), .val (.ref a3), .val (.int (7 : Int32)), .val (.ref a437), .val (.int (0 : Int32)), .val (.int (1 : Int32)), .val (.int (0 : Int32)), .unset]) rfl ?_
                      refine W.aload w435 od_0_345 (pc' := 347) rfl rfl rfl ?_
                      refine W.callS w435 (ow_73 hw) (ow_74 hw) (ow_75 hw) (ow_76 hw) (by decide) opd_12 (Ctr.pay (c_named hw F440 X1 w435.old) (own_ew hw) (ow_76 hw) (ow_75 hw) (kf := 4) (kl := 54) (by decide) (by decide)) mN od_0_347 (pc' := 350) rfl rfl rfl (rest := []) rfl (Wd := 0) rfl (by decide) (by decide) (by decide) (by decide) fun v451 T449 h450 M452 w453 q454 => ?_
                      obtain ⟨a455, u456, rfl, rfl, K457, E458, F459, q460⟩ := q454
                      have ea455 : u456 = .ref H := by
                        rcases q460 with ⟨e1, e2⟩ | ⟨e1, e2⟩ | ⟨e1, e2⟩ | ⟨e1, e2, e3, e4⟩
                        · exact absurd e1 (by simp [hc442, hc443, hc444, hc445, hc446, hc447, hc448])
                        · exact e2
                        · exact absurd e1 (by simp [hc442, hc443, hc444, hc445, hc446, hc447, hc448])
                        · exact absurd (show [(104 : Int32), (97 : Int32), (108 : Int32), (102 : Int32), (45 : Int32), (117 : Int32), (112 : Int32)] = [c0, c1, c2, c3, c4, c5, c6] by simp [hc442, hc443, hc444, hc445, hc446, hc447, hc448]) e2
                      rw [ea455] at F459
                      show Go Z _ _ _ κ _ (T449.setTop (mkF (km κ) 350 #[.val (.int p0), .val (.long p1), .second, .val (.int p2), .val (.int (p2 &&& (3 : Int32))), .val (.ref xw), .val (.int ((XT.ushr p2 (2 : Int32)) &&& (7 : Int32))), .val (.ref a3), .val (.int (7 : Int32)), .val (.ref a437), .val (.int (0 : Int32)), .val (.int (1 : Int32)), .val (.int (0 : Int32)), .unset] [(.ref a455)]))
                      refine W.astore w453 od_0_350 (pc' := 352) rfl (Ls' := #[.val (.int p0), .val (.long p1), .second, .val (.int p2), .val (.int (p2 &&& (3 : Int32))), .val (.ref xw), .val (.int ((XT.ushr p2 (2 : Int32)) &&& (7 : Int32))), .val (.ref a3), .val (.int (7 : Int32)), .val (.ref a437), .val (.int (0 : Int32)), .val (.int (1 : Int32)), .val (.int (0 : Int32)), .val (.ref a455)]) rfl rfl ?_
                      refine W.iload w453 od_0_352 (pc' := 354) rfl rfl ?_
                      refine W.ifYes w453 od_0_354 (pc' := 382) (by decide) (by decide) ((if0 _ _).trans (teq (by decide : (0 : Int32) = (0 : Int32))).1) ?_
                      refine W.iload w453 od_0_382 (pc' := 384) rfl rfl ?_
                      refine W.ifNo w453 od_0_384 (pc' := 387) rfl ((if0 _ _).trans (feq (by decide : ¬ ((1 : Int32) = (0 : Int32)))).1) ?_
                      refine W.aload w453 od_0_387 (pc' := 389) rfl rfl rfl ?_
                      refine W.callV w453 (ow_111 hw) (ow_112 hw) (nfSel (ow_114 hw)) (ow_114 hw) (ow_113 hw) (by decide) opd_13 E458 (Ctr.pay (c_opisPresent hw F459 w453.old) (own_ew hw) (ow_115 hw) (ow_108 hw) (kf := 1) (kl := 12) (by decide) (by decide)) mN od_0_389 (pc' := 392) rfl rfl rfl (rest := []) rfl (Wd := 0) rfl (by decide) (by decide) (by decide) (by decide) fun v463 T461 h462 M464 w465 q466 => ?_
                      obtain ⟨rfl, rfl, rfl⟩ := q466
                      show Go Z _ _ _ κ _ (T461.setTop (mkF (km κ) 392 #[.val (.int p0), .val (.long p1), .second, .val (.int p2), .val (.int (p2 &&& (3 : Int32))), .val (.ref xw), .val (.int ((XT.ushr p2 (2 : Int32)) &&& (7 : Int32))), .val (.ref a3), .val (.int (7 : Int32)), .val (.ref a437), .val (.int (0 : Int32)), .val (.int (1 : Int32)), .val (.int (0 : Int32)), .val (.ref a455)] [(.int (1 : Int32))]))
                      refine W.ifNo w465 od_0_392 (pc' := 395) rfl ((if0 _ _).trans (feq (by decide : ¬ ((1 : Int32) = (0 : Int32)))).1) ?_
                      refine W.aload w465 od_0_395 (pc' := 397) rfl rfl rfl ?_
                      refine W.callV w465 (ow_133 hw) (ow_134 hw) (nfSel (ow_136 hw)) (ow_136 hw) (ow_135 hw) (by decide) opd_14 E458 (Ctr.pay (c_opget hw F459 w465.old) (own_ew hw) (ow_137 hw) (ow_108 hw) (kf := 1) (kl := 12) (by decide) (by decide)) mN od_0_397 (pc' := 400) rfl rfl rfl (rest := []) rfl (Wd := 0) rfl (by decide) (by decide) (by decide) (by decide) fun v469 T467 h468 M470 w471 q472 => ?_
                      obtain ⟨rfl, rfl, rfl⟩ := q472
                      show Go Z _ _ _ κ _ (T467.setTop (mkF (km κ) 400 #[.val (.int p0), .val (.long p1), .second, .val (.int p2), .val (.int (p2 &&& (3 : Int32))), .val (.ref xw), .val (.int ((XT.ushr p2 (2 : Int32)) &&& (7 : Int32))), .val (.ref a3), .val (.int (7 : Int32)), .val (.ref a437), .val (.int (0 : Int32)), .val (.int (1 : Int32)), .val (.int (0 : Int32)), .val (.ref a455)] [(.ref H)]))
                      refine W.getS w471 (ow_141 hw) Via.refl (S_H.ext w471.old.2) od_0_400 (pc' := 403) rfl fun T473 w474 => ?_
                      refine W.acmpNo w474 od_0_403 (pc' := 406) rfl rfl rfl (by simp [XT.acmp]) ?_
                      refine W.iconst w474 od_0_406 (pc' := 407) rfl (z := (1 : Int32)) rfl ?_
                      refine W.goto w474 od_0_407 (pc' := 411) (by decide) (by decide) ?_
                      exact W.retN w474 (t := .boolean) (z' := (1 : Int32)) rfl rfl (by simp) od_0_411 (M' := []) mN (by decide) (by decide) rfl
                    · refine W.icmpYes w435 od_0_304 (pc' := 311) (by decide) (by decide) (feq hc448).2 ?_
                      refine W.iconst w435 od_0_311 (pc' := 312) rfl (z := (0 : Int32)) rfl ?_
                      refine W.istore w435 od_0_312 (pc' := 314) rfl (Ls' := #[.val (.int p0), .val (.long p1), .second, .val (.int p2), .val (.int (p2 &&& (3 : Int32))), .val (.ref xw), .val (.int ((XT.ushr p2 (2 : Int32)) &&& (7 : Int32))), .val (.ref a3), .val (.int (7 : Int32)), .val (.ref a437), .val (.int (0 : Int32)), .val (.int (0 : Int32)), .unset, .unset]) rfl ?_
                      refine W.iload w435 od_0_314 (pc' := 316) rfl rfl ?_
                      refine W.iconst w435 od_0_316 (pc' := 317) rfl (z := (2 : Int32)) rfl ?_
                      refine W.icmpYes w435 od_0_317 (pc' := 342) (by decide) (by decide) (feq (by decide : ¬ ((7 : Int32) = (2 : Int32)))).2 ?_
                      refine W.iconst w435 od_0_342 (pc' := 343) rfl (z := (0 : Int32)) rfl ?_
                      refine W.istore w435 od_0_343 (pc' := 345) rfl (Ls' := #[.val (.int p0), .val (.long p1), .second, .val (.int p2), .val (.int (p2 &&& (3 : Int32))), .val (.ref xw), .val (.int ((XT.ushr p2 (2 : Int32)) &&& (7 : Int32))), .val (.ref a3), .val (.int (7 : Int32)), .val (.ref a437), .val (.int (0 : Int32)), .val (.int (0 : Int32)), .val (.int (0 : Int32)), .unset]) rfl ?_
                      refine W.aload w435 od_0_345 (pc' := 347) rfl rfl rfl ?_
                      refine W.callS w435 (ow_73 hw) (ow_74 hw) (ow_75 hw) (ow_76 hw) (by decide) opd_12 (Ctr.pay (c_named hw F440 X1 w435.old) (own_ew hw) (ow_76 hw) (ow_75 hw) (kf := 4) (kl := 54) (by decide) (by decide)) mN od_0_347 (pc' := 350) rfl rfl rfl (rest := []) rfl (Wd := 0) rfl (by decide) (by decide) (by decide) (by decide) fun v477 T475 h476 M478 w479 q480 => ?_
                      obtain ⟨a481, u482, rfl, rfl, K483, E484, F485, q486⟩ := q480
                      have ea481 : u482 = .null := by
                        rcases q486 with ⟨e1, e2⟩ | ⟨e1, e2⟩ | ⟨e1, e2⟩ | ⟨e1, e2, e3, e4⟩
                        · exact absurd e1 (by simp [hc442, hc443, hc444, hc445, hc446, hc447, Ne.symm hc448, hc448])
                        · exact absurd e1 (by simp [hc442, hc443, hc444, hc445, hc446, hc447, Ne.symm hc448, hc448])
                        · exact absurd e1 (by simp [hc442, hc443, hc444, hc445, hc446, hc447, Ne.symm hc448, hc448])
                        · exact e4
                      rw [ea481] at F485
                      show Go Z _ _ _ κ _ (T475.setTop (mkF (km κ) 350 #[.val (.int p0), .val (.long p1), .second, .val (.int p2), .val (.int (p2 &&& (3 : Int32))), .val (.ref xw), .val (.int ((XT.ushr p2 (2 : Int32)) &&& (7 : Int32))), .val (.ref a3), .val (.int (7 : Int32)), .val (.ref a437), .val (.int (0 : Int32)), .val (.int (0 : Int32)), .val (.int (0 : Int32)), .unset] [(.ref a481)]))
                      refine W.astore w479 od_0_350 (pc' := 352) rfl (Ls' := #[.val (.int p0), .val (.long p1), .second, .val (.int p2), .val (.int (p2 &&& (3 : Int32))), .val (.ref xw), .val (.int ((XT.ushr p2 (2 : Int32)) &&& (7 : Int32))), .val (.ref a3), .val (.int (7 : Int32)), .val (.ref a437), .val (.int (0 : Int32)), .val (.int (0 : Int32)), .val (.int (0 : Int32)), .val (.ref a481)]) rfl rfl ?_
                      refine W.iload w479 od_0_352 (pc' := 354) rfl rfl ?_
                      refine W.ifYes w479 od_0_354 (pc' := 382) (by decide) (by decide) ((if0 _ _).trans (teq (by decide : (0 : Int32) = (0 : Int32))).1) ?_
                      refine W.iload w479 od_0_382 (pc' := 384) rfl rfl ?_
                      refine W.ifYes w479 od_0_384 (pc' := 412) (by decide) (by decide) ((if0 _ _).trans (teq (by decide : (0 : Int32) = (0 : Int32))).1) ?_
                      refine W.iload w479 od_0_412 (pc' := 414) rfl rfl ?_
                      refine W.ifYes w479 od_0_414 (pc' := 442) (by decide) (by decide) ((if0 _ _).trans (teq (by decide : (0 : Int32) = (0 : Int32))).1) ?_
                      refine W.aload w479 od_0_442 (pc' := 444) rfl rfl rfl ?_
                      refine W.callV w479 (ow_111 hw) (ow_112 hw) (nfSel (ow_114 hw)) (ow_114 hw) (ow_113 hw) (by decide) opd_13 E484 (Ctr.pay (c_opisPresent0 hw (x1 := 0) F485 w479.old) (own_ew hw) (ow_115 hw) (ow_108 hw) (kf := 1) (kl := 12) (by decide) (by decide)) mN od_0_444 (pc' := 447) rfl rfl rfl (rest := []) rfl (Wd := 0) rfl (by decide) (by decide) (by decide) (by decide) fun v489 T487 h488 M490 w491 q492 => ?_
                      obtain ⟨rfl, rfl, rfl⟩ := q492
                      show Go Z _ _ _ κ _ (T487.setTop (mkF (km κ) 447 #[.val (.int p0), .val (.long p1), .second, .val (.int p2), .val (.int (p2 &&& (3 : Int32))), .val (.ref xw), .val (.int ((XT.ushr p2 (2 : Int32)) &&& (7 : Int32))), .val (.ref a3), .val (.int (7 : Int32)), .val (.ref a437), .val (.int (0 : Int32)), .val (.int (0 : Int32)), .val (.int (0 : Int32)), .val (.ref a481)] [(.int (0 : Int32))]))
                      refine W.ifNo w491 od_0_447 (pc' := 450) rfl ((if0 _ _).trans (teq (by decide : (0 : Int32) = (0 : Int32))).2) ?_
                      refine W.iconst w491 od_0_450 (pc' := 451) rfl (z := (1 : Int32)) rfl ?_
                      refine W.goto w491 od_0_451 (pc' := 455) (by decide) (by decide) ?_
                      exact W.retN w491 (t := .boolean) (z' := (1 : Int32)) rfl rfl (by simp) od_0_455 (M' := []) mN (by decide) (by decide) rfl
                  · refine W.icmpYes w435 od_0_294 (pc' := 311) (by decide) (by decide) (feq hc447).2 ?_
                    refine W.iconst w435 od_0_311 (pc' := 312) rfl (z := (0 : Int32)) rfl ?_
                    refine W.istore w435 od_0_312 (pc' := 314) rfl (Ls' := #[.val (.int p0), .val (.long p1), .second, .val (.int p2), .val (.int (p2 &&& (3 : Int32))), .val (.ref xw), .val (.int ((XT.ushr p2 (2 : Int32)) &&& (7 : Int32))), .val (.ref a3), .val (.int (7 : Int32)), .val (.ref a437), .val (.int (0 : Int32)), .val (.int (0 : Int32)), .unset, .unset]) rfl ?_
                    refine W.iload w435 od_0_314 (pc' := 316) rfl rfl ?_
                    refine W.iconst w435 od_0_316 (pc' := 317) rfl (z := (2 : Int32)) rfl ?_
                    refine W.icmpYes w435 od_0_317 (pc' := 342) (by decide) (by decide) (feq (by decide : ¬ ((7 : Int32) = (2 : Int32)))).2 ?_
                    refine W.iconst w435 od_0_342 (pc' := 343) rfl (z := (0 : Int32)) rfl ?_
                    refine W.istore w435 od_0_343 (pc' := 345) rfl (Ls' := #[.val (.int p0), .val (.long p1), .second, .val (.int p2), .val (.int (p2 &&& (3 : Int32))), .val (.ref xw), .val (.int ((XT.ushr p2 (2 : Int32)) &&& (7 : Int32))), .val (.ref a3), .val (.int (7 : Int32)), .val (.ref a437), .val (.int (0 : Int32)), .val (.int (0 : Int32)), .val (.int (0 : Int32)), .unset]) rfl ?_
                    refine W.aload w435 od_0_345 (pc' := 347) rfl rfl rfl ?_
                    refine W.callS w435 (ow_73 hw) (ow_74 hw) (ow_75 hw) (ow_76 hw) (by decide) opd_12 (Ctr.pay (c_named hw F440 X1 w435.old) (own_ew hw) (ow_76 hw) (ow_75 hw) (kf := 4) (kl := 54) (by decide) (by decide)) mN od_0_347 (pc' := 350) rfl rfl rfl (rest := []) rfl (Wd := 0) rfl (by decide) (by decide) (by decide) (by decide) fun v495 T493 h494 M496 w497 q498 => ?_
                    obtain ⟨a499, u500, rfl, rfl, K501, E502, F503, q504⟩ := q498
                    have ea499 : u500 = .null := by
                      rcases q504 with ⟨e1, e2⟩ | ⟨e1, e2⟩ | ⟨e1, e2⟩ | ⟨e1, e2, e3, e4⟩
                      · exact absurd e1 (by simp [hc442, hc443, hc444, hc445, hc446, Ne.symm hc447, hc447])
                      · exact absurd e1 (by simp [hc442, hc443, hc444, hc445, hc446, Ne.symm hc447, hc447])
                      · exact absurd e1 (by simp [hc442, hc443, hc444, hc445, hc446, Ne.symm hc447, hc447])
                      · exact e4
                    rw [ea499] at F503
                    show Go Z _ _ _ κ _ (T493.setTop (mkF (km κ) 350 #[.val (.int p0), .val (.long p1), .second, .val (.int p2), .val (.int (p2 &&& (3 : Int32))), .val (.ref xw), .val (.int ((XT.ushr p2 (2 : Int32)) &&& (7 : Int32))), .val (.ref a3), .val (.int (7 : Int32)), .val (.ref a437), .val (.int (0 : Int32)), .val (.int (0 : Int32)), .val (.int (0 : Int32)), .unset] [(.ref a499)]))
                    refine W.astore w497 od_0_350 (pc' := 352) rfl (Ls' := #[.val (.int p0), .val (.long p1), .second, .val (.int p2), .val (.int (p2 &&& (3 : Int32))), .val (.ref xw), .val (.int ((XT.ushr p2 (2 : Int32)) &&& (7 : Int32))), .val (.ref a3), .val (.int (7 : Int32)), .val (.ref a437), .val (.int (0 : Int32)), .val (.int (0 : Int32)), .val (.int (0 : Int32)), .val (.ref a499)]) rfl rfl ?_
                    refine W.iload w497 od_0_352 (pc' := 354) rfl rfl ?_
                    refine W.ifYes w497 od_0_354 (pc' := 382) (by decide) (by decide) ((if0 _ _).trans (teq (by decide : (0 : Int32) = (0 : Int32))).1) ?_
                    refine W.iload w497 od_0_382 (pc' := 384) rfl rfl ?_
                    refine W.ifYes w497 od_0_384 (pc' := 412) (by decide) (by decide) ((if0 _ _).trans (teq (by decide : (0 : Int32) = (0 : Int32))).1) ?_
                    refine W.iload w497 od_0_412 (pc' := 414) rfl rfl ?_
                    refine W.ifYes w497 od_0_414 (pc' := 442) (by decide) (by decide) ((if0 _ _).trans (teq (by decide : (0 : Int32) = (0 : Int32))).1) ?_
                    refine W.aload w497 od_0_442 (pc' := 444) rfl rfl rfl ?_
                    refine W.callV w497 (ow_111 hw) (ow_112 hw) (nfSel (ow_114 hw)) (ow_114 hw) (ow_113 hw) (by decide) opd_13 E502 (Ctr.pay (c_opisPresent0 hw (x1 := 0) F503 w497.old) (own_ew hw) (ow_115 hw) (ow_108 hw) (kf := 1) (kl := 12) (by decide) (by decide)) mN od_0_444 (pc' := 447) rfl rfl rfl (rest := []) rfl (Wd := 0) rfl (by decide) (by decide) (by decide) (by decide) fun v507 T505 h506 M508 w509 q510 => ?_
                    obtain ⟨rfl, rfl, rfl⟩ := q510
                    show Go Z _ _ _ κ _ (T505.setTop (mkF (km κ) 447 #[.val (.int p0), .val (.long p1), .second, .val (.int p2), .val (.int (p2 &&& (3 : Int32))), .val (.ref xw), .val (.int ((XT.ushr p2 (2 : Int32)) &&& (7 : Int32))), .val (.ref a3), .val (.int (7 : Int32)), .val (.ref a437), .val (.int (0 : Int32)), .val (.int (0 : Int32)), .val (.int (0 : Int32)), .val (.ref a499)] [(.int (0 : Int32))]))
                    refine W.ifNo w509 od_0_447 (pc' := 450) rfl ((if0 _ _).trans (teq (by decide : (0 : Int32) = (0 : Int32))).2) ?_
                    refine W.iconst w509 od_0_450 (pc' := 451) rfl (z := (1 : Int32)) rfl ?_
                    refine W.goto w509 od_0_451 (pc' := 455) (by decide) (by decide) ?_
                    exact W.retN w509 (t := .boolean) (z' := (1 : Int32)) rfl rfl (by simp) od_0_455 (M' := []) mN (by decide) (by decide) rfl
                · refine W.icmpYes w435 od_0_285 (pc' := 311) (by decide) (by decide) (feq hc446).2 ?_
                  refine W.iconst w435 od_0_311 (pc' := 312) rfl (z := (0 : Int32)) rfl ?_
                  refine W.istore w435 od_0_312 (pc' := 314) rfl (Ls' := #[.val (.int p0), .val (.long p1), .second, .val (.int p2), .val (.int (p2 &&& (3 : Int32))), .val (.ref xw), .val (.int ((XT.ushr p2 (2 : Int32)) &&& (7 : Int32))), .val (.ref a3), .val (.int (7 : Int32)), .val (.ref a437), .val (.int (0 : Int32)), .val (.int (0 : Int32)), .unset, .unset]) rfl ?_
                  refine W.iload w435 od_0_314 (pc' := 316) rfl rfl ?_
                  refine W.iconst w435 od_0_316 (pc' := 317) rfl (z := (2 : Int32)) rfl ?_
                  refine W.icmpYes w435 od_0_317 (pc' := 342) (by decide) (by decide) (feq (by decide : ¬ ((7 : Int32) = (2 : Int32)))).2 ?_
                  refine W.iconst w435 od_0_342 (pc' := 343) rfl (z := (0 : Int32)) rfl ?_
                  refine W.istore w435 od_0_343 (pc' := 345) rfl (Ls' := #[.val (.int p0), .val (.long p1), .second, .val (.int p2), .val (.int (p2 &&& (3 : Int32))), .val (.ref xw), .val (.int ((XT.ushr p2 (2 : Int32)) &&& (7 : Int32))), .val (.ref a3), .val (.int (7 : Int32)), .val (.ref a437), .val (.int (0 : Int32)), .val (.int (0 : Int32)), .val (.int (0 : Int32)), .unset]) rfl ?_
                  refine W.aload w435 od_0_345 (pc' := 347) rfl rfl rfl ?_
                  refine W.callS w435 (ow_73 hw) (ow_74 hw) (ow_75 hw) (ow_76 hw) (by decide) opd_12 (Ctr.pay (c_named hw F440 X1 w435.old) (own_ew hw) (ow_76 hw) (ow_75 hw) (kf := 4) (kl := 54) (by decide) (by decide)) mN od_0_347 (pc' := 350) rfl rfl rfl (rest := []) rfl (Wd := 0) rfl (by decide) (by decide) (by decide) (by decide) fun v513 T511 h512 M514 w515 q516 => ?_
                  obtain ⟨a517, u518, rfl, rfl, K519, E520, F521, q522⟩ := q516
                  have ea517 : u518 = .null := by
                    rcases q522 with ⟨e1, e2⟩ | ⟨e1, e2⟩ | ⟨e1, e2⟩ | ⟨e1, e2, e3, e4⟩
                    · exact absurd e1 (by simp [hc442, hc443, hc444, hc445, Ne.symm hc446, hc446])
                    · exact absurd e1 (by simp [hc442, hc443, hc444, hc445, Ne.symm hc446, hc446])
                    · exact absurd e1 (by simp [hc442, hc443, hc444, hc445, Ne.symm hc446, hc446])
                    · exact e4
                  rw [ea517] at F521
                  show Go Z _ _ _ κ _ (T511.setTop (mkF (km κ) 350 #[.val (.int p0), .val (.long p1), .second, .val (.int p2), .val (.int (p2 &&& (3 : Int32))), .val (.ref xw), .val (.int ((XT.ushr p2 (2 : Int32)) &&& (7 : Int32))), .val (.ref a3), .val (.int (7 : Int32)), .val (.ref a437), .val (.int (0 : Int32)), .val (.int (0 : Int32)), .val (.int (0 : Int32)), .unset] [(.ref a517)]))
                  refine W.astore w515 od_0_350 (pc' := 352) rfl (Ls' := #[.val (.int p0), .val (.long p1), .second, .val (.int p2), .val (.int (p2 &&& (3 : Int32))), .val (.ref xw), .val (.int ((XT.ushr p2 (2 : Int32)) &&& (7 : Int32))), .val (.ref a3), .val (.int (7 : Int32)), .val (.ref a437), .val (.int (0 : Int32)), .val (.int (0 : Int32)), .val (.int (0 : Int32)), .val (.ref a517)]) rfl rfl ?_
                  refine W.iload w515 od_0_352 (pc' := 354) rfl rfl ?_
                  refine W.ifYes w515 od_0_354 (pc' := 382) (by decide) (by decide) ((if0 _ _).trans (teq (by decide : (0 : Int32) = (0 : Int32))).1) ?_
                  refine W.iload w515 od_0_382 (pc' := 384) rfl rfl ?_
                  refine W.ifYes w515 od_0_384 (pc' := 412) (by decide) (by decide) ((if0 _ _).trans (teq (by decide : (0 : Int32) = (0 : Int32))).1) ?_
                  refine W.iload w515 od_0_412 (pc' := 414) rfl rfl ?_
                  refine W.ifYes w515 od_0_414 (pc' := 442) (by decide) (by decide) ((if0 _ _).trans (teq (by decide : (0 : Int32) = (0 : Int32))).1) ?_
                  refine W.aload w515 od_0_442 (pc' := 444) rfl rfl rfl ?_
                  refine W.callV w515 (ow_111 hw) (ow_112 hw) (nfSel (ow_114 hw)) (ow_114 hw) (ow_113 hw) (by decide) opd_13 E520 (Ctr.pay (c_opisPresent0 hw (x1 := 0) F521 w515.old) (own_ew hw) (ow_115 hw) (ow_108 hw) (kf := 1) (kl := 12) (by decide) (by decide)) mN od_0_444 (pc' := 447) rfl rfl rfl (rest := []) rfl (Wd := 0) rfl (by decide) (by decide) (by decide) (by decide) fun v525 T523 h524 M526 w527 q528 => ?_
                  obtain ⟨rfl, rfl, rfl⟩ := q528
                  show Go Z _ _ _ κ _ (T523.setTop (mkF (km κ) 447 #[.val (.int p0), .val (.long p1), .second, .val (.int p2), .val (.int (p2 &&& (3 : Int32))), .val (.ref xw), .val (.int ((XT.ushr p2 (2 : Int32)) &&& (7 : Int32))), .val (.ref a3), .val (.int (7 : Int32)), .val (.ref a437), .val (.int (0 : Int32)), .val (.int (0 : Int32)), .val (.int (0 : Int32)), .val (.ref a517)] [(.int (0 : Int32))]))
                  refine W.ifNo w527 od_0_447 (pc' := 450) rfl ((if0 _ _).trans (teq (by decide : (0 : Int32) = (0 : Int32))).2) ?_
                  refine W.iconst w527 od_0_450 (pc' := 451) rfl (z := (1 : Int32)) rfl ?_
                  refine W.goto w527 od_0_451 (pc' := 455) (by decide) (by decide) ?_
                  exact W.retN w527 (t := .boolean) (z' := (1 : Int32)) rfl rfl (by simp) od_0_455 (M' := []) mN (by decide) (by decide) rfl
              · refine W.icmpYes w435 od_0_276 (pc' := 311) (by decide) (by decide) (feq hc445).2 ?_
                refine W.iconst w435 od_0_311 (pc' := 312) rfl (z := (0 : Int32)) rfl ?_
                refine W.istore w435 od_0_312 (pc' := 314) rfl (Ls' := #[.val (.int p0), .val (.long p1), .second, .val (.int p2), .val (.int (p2 &&& (3 : Int32))), .val (.ref xw), .val (.int ((XT.ushr p2 (2 : Int32)) &&& (7 : Int32))), .val (.ref a3), .val (.int (7 : Int32)), .val (.ref a437), .val (.int (0 : Int32)), .val (.int (0 : Int32)), .unset, .unset]) rfl ?_
                refine W.iload w435 od_0_314 (pc' := 316) rfl rfl ?_
                refine W.iconst w435 od_0_316 (pc' := 317) rfl (z := (2 : Int32)) rfl ?_
                refine W.icmpYes w435 od_0_317 (pc' := 342) (by decide) (by decide) (feq (by decide : ¬ ((7 : Int32) = (2 : Int32)))).2 ?_
                refine W.iconst w435 od_0_342 (pc' := 343) rfl (z := (0 : Int32)) rfl ?_
                refine W.istore w435 od_0_343 (pc' := 345) rfl (Ls' := #[.val (.int p0), .val (.long p1), .second, .val (.int p2), .val (.int (p2 &&& (3 : Int32))), .val (.ref xw), .val (.int ((XT.ushr p2 (2 : Int32)) &&& (7 : Int32))), .val (.ref a3), .val (.int (7 : Int32)), .val (.ref a437), .val (.int (0 : Int32)), .val (.int (0 : Int32)), .val (.int (0 : Int32)), .unset]) rfl ?_
                refine W.aload w435 od_0_345 (pc' := 347) rfl rfl rfl ?_
                refine W.callS w435 (ow_73 hw) (ow_74 hw) (ow_75 hw) (ow_76 hw) (by decide) opd_12 (Ctr.pay (c_named hw F440 X1 w435.old) (own_ew hw) (ow_76 hw) (ow_75 hw) (kf := 4) (kl := 54) (by decide) (by decide)) mN od_0_347 (pc' := 350) rfl rfl rfl (rest := []) rfl (Wd := 0) rfl (by decide) (by decide) (by decide) (by decide) fun v531 T529 h530 M532 w533 q534 => ?_
                obtain ⟨a535, u536, rfl, rfl, K537, E538, F539, q540⟩ := q534
                have ea535 : u536 = .null := by
                  rcases q540 with ⟨e1, e2⟩ | ⟨e1, e2⟩ | ⟨e1, e2⟩ | ⟨e1, e2, e3, e4⟩
                  · exact absurd e1 (by simp [hc442, hc443, hc444, Ne.symm hc445, hc445])
                  · exact absurd e1 (by simp [hc442, hc443, hc444, Ne.symm hc445, hc445])
                  · exact absurd e1 (by simp [hc442, hc443, hc444, Ne.symm hc445, hc445])
                  · exact e4
                rw [ea535] at F539
                show Go Z _ _ _ κ _ (T529.setTop (mkF (km κ) 350 #[.val (.int p0), .val (.long p1), .second, .val (.int p2), .val (.int (p2 &&& (3 : Int32))), .val (.ref xw), .val (.int ((XT.ushr p2 (2 : Int32)) &&& (7 : Int32))), .val (.ref a3), .val (.int (7 : Int32)), .val (.ref a437), .val (.int (0 : Int32)), .val (.int (0 : Int32)), .val (.int (0 : Int32)), .unset] [(.ref a535)]))
                refine W.astore w533 od_0_350 (pc' := 352) rfl (Ls' := #[.val (.int p0), .val (.long p1), .second, .val (.int p2), .val (.int (p2 &&& (3 : Int32))), .val (.ref xw), .val (.int ((XT.ushr p2 (2 : Int32)) &&& (7 : Int32))), .val (.ref a3), .val (.int (7 : Int32)), .val (.ref a437), .val (.int (0 : Int32)), .val (.int (0 : Int32)), .val (.int (0 : Int32)), .val (.ref a535)]) rfl rfl ?_
                refine W.iload w533 od_0_352 (pc' := 354) rfl rfl ?_
                refine W.ifYes w533 od_0_354 (pc' := 382) (by decide) (by decide) ((if0 _ _).trans (teq (by decide : (0 : Int32) = (0 : Int32))).1) ?_
                refine W.iload w533 od_0_382 (pc' := 384) rfl rfl ?_
                refine W.ifYes w533 od_0_384 (pc' := 412) (by decide) (by decide) ((if0 _ _).trans (teq (by decide : (0 : Int32) = (0 : Int32))).1) ?_
                refine W.iload w533 od_0_412 (pc' := 414) rfl rfl ?_
                refine W.ifYes w533 od_0_414 (pc' := 442) (by decide) (by decide) ((if0 _ _).trans (teq (by decide : (0 : Int32) = (0 : Int32))).1) ?_
                refine W.aload w533 od_0_442 (pc' := 444) rfl rfl rfl ?_
                refine W.callV w533 (ow_111 hw) (ow_112 hw) (nfSel (ow_114 hw)) (ow_114 hw) (ow_113 hw) (by decide) opd_13 E538 (Ctr.pay (c_opisPresent0 hw (x1 := 0) F539 w533.old) (own_ew hw) (ow_115 hw) (ow_108 hw) (kf := 1) (kl := 12) (by decide) (by decide)) mN od_0_444 (pc' := 447) rfl rfl rfl (rest := []) rfl (Wd := 0) rfl (by decide) (by decide) (by decide) (by decide) fun v543 T541 h542 M544 w545 q546 => ?_
                obtain ⟨rfl, rfl, rfl⟩ := q546
                show Go Z _ _ _ κ _ (T541.setTop (mkF (km κ) 447 #[.val (.int p0), .val (.long p1), .second, .val (.int p2), .val (.int (p2 &&& (3 : Int32))), .val (.ref xw), .val (.int ((XT.ushr p2 (2 : Int32)) &&& (7 : Int32))), .val (.ref a3), .val (.int (7 : Int32)), .val (.ref a437), .val (.int (0 : Int32)), .val (.int (0 : Int32)), .val (.int (0 : Int32)), .val (.ref a535)] [(.int (0 : Int32))]))
                refine W.ifNo w545 od_0_447 (pc' := 450) rfl ((if0 _ _).trans (teq (by decide : (0 : Int32) = (0 : Int32))).2) ?_
                refine W.iconst w545 od_0_450 (pc' := 451) rfl (z := (1 : Int32)) rfl ?_
                refine W.goto w545 od_0_451 (pc' := 455) (by decide) (by decide) ?_
                exact W.retN w545 (t := .boolean) (z' := (1 : Int32)) rfl rfl (by simp) od_0_455 (M' := []) mN (by decide) (by decide) rfl
            · refine W.icmpYes w435 od_0_267 (pc' := 311) (by decide) (by decide) (feq hc444).2 ?_
              refine W.iconst w435 od_0_311 (pc' := 312) rfl (z := (0 : Int32)) rfl ?_
              refine W.istore w435 od_0_312 (pc' := 314) rfl (Ls' := #[.val (.int p0), .val (.long p1), .second, .val (.int p2), .val (.int (p2 &&& (3 : Int32))), .val (.ref xw), .val (.int ((XT.ushr p2 (2 : Int32)) &&& (7 : Int32))), .val (.ref a3), .val (.int (7 : Int32)), .val (.ref a437), .val (.int (0 : Int32)), .val (.int (0 : Int32)), .unset, .unset]) rfl ?_
              refine W.iload w435 od_0_314 (pc' := 316) rfl rfl ?_
              refine W.iconst w435 od_0_316 (pc' := 317) rfl (z := (2 : Int32)) rfl ?_
              refine W.icmpYes w435 od_0_317 (pc' := 342) (by decide) (by decide) (feq (by decide : ¬ ((7 : Int32) = (2 : Int32)))).2 ?_
              refine W.iconst w435 od_0_342 (pc' := 343) rfl (z := (0 : Int32)) rfl ?_
              refine W.istore w435 od_0_343 (pc' := 345) rfl (Ls' := #[.val (.int p0), .val (.long p1), .second, .val (.int p2), .val (.int (p2 &&& (3 : Int32))), .val (.ref xw), .val (.int ((XT.ushr p2 (2 : Int32)) &&& (7 : Int32))), .val (.ref a3), .val (.int (7 : Int32)), .val (.ref a437), .val (.int (0 : Int32)), .val (.int (0 : Int32)), .val (.int (0 : Int32)), .unset]) rfl ?_
              refine W.aload w435 od_0_345 (pc' := 347) rfl rfl rfl ?_
              refine W.callS w435 (ow_73 hw) (ow_74 hw) (ow_75 hw) (ow_76 hw) (by decide) opd_12 (Ctr.pay (c_named hw F440 X1 w435.old) (own_ew hw) (ow_76 hw) (ow_75 hw) (kf := 4) (kl := 54) (by decide) (by decide)) mN od_0_347 (pc' := 350) rfl rfl rfl (rest := []) rfl (Wd := 0) rfl (by decide) (by decide) (by decide) (by decide) fun v549 T547 h548 M550 w551 q552 => ?_
              obtain ⟨a553, u554, rfl, rfl, K555, E556, F557, q558⟩ := q552
              have ea553 : u554 = .null := by
                rcases q558 with ⟨e1, e2⟩ | ⟨e1, e2⟩ | ⟨e1, e2⟩ | ⟨e1, e2, e3, e4⟩
                · exact absurd e1 (by simp [hc442, hc443, Ne.symm hc444, hc444])
                · exact absurd e1 (by simp [hc442, hc443, Ne.symm hc444, hc444])
                · exact absurd e1 (by simp [hc442, hc443, Ne.symm hc444, hc444])
                · exact e4
              rw [ea553] at F557
              show Go Z _ _ _ κ _ (T547.setTop (mkF (km κ) 350 #[.val (.int p0), .val (.long p1), .second, .val (.int p2), .val (.int (p2 &&& (3 : Int32))), .val (.ref xw), .val (.int ((XT.ushr p2 (2 : Int32)) &&& (7 : Int32))), .val (.ref a3), .val (.int (7 : Int32)), .val (.ref a437), .val (.int (0 : Int32)), .val (.int (0 : Int32)), .val (.int (0 : Int32)), .unset] [(.ref a553)]))
              refine W.astore w551 od_0_350 (pc' := 352) rfl (Ls' := #[.val (.int p0), .val (.long p1), .second, .val (.int p2), .val (.int (p2 &&& (3 : Int32))), .val (.ref xw), .val (.int ((XT.ushr p2 (2 : Int32)) &&& (7 : Int32))), .val (.ref a3), .val (.int (7 : Int32)), .val (.ref a437), .val (.int (0 : Int32)), .val (.int (0 : Int32)), .val (.int (0 : Int32)), .val (.ref a553)]) rfl rfl ?_
              refine W.iload w551 od_0_352 (pc' := 354) rfl rfl ?_
              refine W.ifYes w551 od_0_354 (pc' := 382) (by decide) (by decide) ((if0 _ _).trans (teq (by decide : (0 : Int32) = (0 : Int32))).1) ?_
              refine W.iload w551 od_0_382 (pc' := 384) rfl rfl ?_
              refine W.ifYes w551 od_0_384 (pc' := 412) (by decide) (by decide) ((if0 _ _).trans (teq (by decide : (0 : Int32) = (0 : Int32))).1) ?_
              refine W.iload w551 od_0_412 (pc' := 414) rfl rfl ?_
              refine W.ifYes w551 od_0_414 (pc' := 442) (by decide) (by decide) ((if0 _ _).trans (teq (by decide : (0 : Int32) = (0 : Int32))).1) ?_
              refine W.aload w551 od_0_442 (pc' := 444) rfl rfl rfl ?_
              refine W.callV w551 (ow_111 hw) (ow_112 hw) (nfSel (ow_114 hw)) (ow_114 hw) (ow_113 hw) (by decide) opd_13 E556 (Ctr.pay (c_opisPresent0 hw (x1 := 0) F557 w551.old) (own_ew hw) (ow_115 hw) (ow_108 hw) (kf := 1) (kl := 12) (by decide) (by decide)) mN od_0_444 (pc' := 447) rfl rfl rfl (rest := []) rfl (Wd := 0) rfl (by decide) (by decide) (by decide) (by decide) fun v561 T559 h560 M562 w563 q564 => ?_
              obtain ⟨rfl, rfl, rfl⟩ := q564
              show Go Z _ _ _ κ _ (T559.setTop (mkF (km κ) 447 #[.val (.int p0), .val (.long p1), .second, .val (.int p2), .val (.int (p2 &&& (3 : Int32))), .val (.ref xw), .val (.int ((XT.ushr p2 (2 : Int32)) &&& (7 : Int32))), .val (.ref a3), .val (.int (7 : Int32)), .val (.ref a437), .val (.int (0 : Int32)), .val (.int (0 : Int32)), .val (.int (0 : Int32)), .val (.ref a553)] [(.int (0 : Int32))]))
              refine W.ifNo w563 od_0_447 (pc' := 450) rfl ((if0 _ _).trans (teq (by decide : (0 : Int32) = (0 : Int32))).2) ?_
              refine W.iconst w563 od_0_450 (pc' := 451) rfl (z := (1 : Int32)) rfl ?_
              refine W.goto w563 od_0_451 (pc' := 455) (by decide) (by decide) ?_
              exact W.retN w563 (t := .boolean) (z' := (1 : Int32)) rfl rfl (by simp) od_0_455 (M' := []) mN (by decide) (by decide) rfl
          · refine W.icmpYes w435 od_0_258 (pc' := 311) (by decide) (by decide) (feq hc443).2 ?_
            refine W.iconst w435 od_0_311 (pc' := 312) rfl (z := (0 : Int32)) rfl ?_
            refine W.istore w435 od_0_312 (pc' := 314) rfl (Ls' := #[.val (.int p0), .val (.long p1), .second, .val (.int p2), .val (.int (p2 &&& (3 : Int32))), .val (.ref xw), .val (.int ((XT.ushr p2 (2 : Int32)) &&& (7 : Int32))), .val (.ref a3), .val (.int (7 : Int32)), .val (.ref a437), .val (.int (0 : Int32)), .val (.int (0 : Int32)), .unset, .unset]) rfl ?_
            refine W.iload w435 od_0_314 (pc' := 316) rfl rfl ?_
            refine W.iconst w435 od_0_316 (pc' := 317) rfl (z := (2 : Int32)) rfl ?_
            refine W.icmpYes w435 od_0_317 (pc' := 342) (by decide) (by decide) (feq (by decide : ¬ ((7 : Int32) = (2 : Int32)))).2 ?_
            refine W.iconst w435 od_0_342 (pc' := 343) rfl (z := (0 : Int32)) rfl ?_
            refine W.istore w435 od_0_343 (pc' := 345) rfl (Ls' := #[.val (.int p0), .val (.long p1), .second, .val (.int p2), .val (.int (p2 &&& (3 : Int32))), .val (.ref xw), .val (.int ((XT.ushr p2 (2 : Int32)) &&& (7 : Int32))), .val (.ref a3), .val (.int (7 : Int32)), .val (.ref a437), .val (.int (0 : Int32)), .val (.int (0 : Int32)), .val (.int (0 : Int32)), .unset]) rfl ?_
            refine W.aload w435 od_0_345 (pc' := 347) rfl rfl rfl ?_
            refine W.callS w435 (ow_73 hw) (ow_74 hw) (ow_75 hw) (ow_76 hw) (by decide) opd_12 (Ctr.pay (c_named hw F440 X1 w435.old) (own_ew hw) (ow_76 hw) (ow_75 hw) (kf := 4) (kl := 54) (by decide) (by decide)) mN od_0_347 (pc' := 350) rfl rfl rfl (rest := []) rfl (Wd := 0) rfl (by decide) (by decide) (by decide) (by decide) fun v567 T565 h566 M568 w569 q570 => ?_
            obtain ⟨a571, u572, rfl, rfl, K573, E574, F575, q576⟩ := q570
            have ea571 : u572 = .null := by
              rcases q576 with ⟨e1, e2⟩ | ⟨e1, e2⟩ | ⟨e1, e2⟩ | ⟨e1, e2, e3, e4⟩
              · exact absurd e1 (by simp [hc442, Ne.symm hc443, hc443])
              · exact absurd e1 (by simp [hc442, Ne.symm hc443, hc443])
              · exact absurd e1 (by simp [hc442, Ne.symm hc443, hc443])
              · exact e4
            rw [ea571] at F575
            show Go Z _ _ _ κ _ (T565.setTop (mkF (km κ) 350 #[.val (.int p0), .val (.long p1), .second, .val (.int p2), .val (.int (p2 &&& (3 : Int32))), .val (.ref xw), .val (.int ((XT.ushr p2 (2 : Int32)) &&& (7 : Int32))), .val (.ref a3), .val (.int (7 : Int32)), .val (.ref a437), .val (.int (0 : Int32)), .val (.int (0 : Int32)), .val (.int (0 : Int32)), .unset] [(.ref a571)]))
            refine W.astore w569 od_0_350 (pc' := 352) rfl (Ls' := #[.val (.int p0), .val (.long p1), .second, .val (.int p2), .val (.int (p2 &&& (3 : Int32))), .val (.ref xw), .val (.int ((XT.ushr p2 (2 : Int32)) &&& (7 : Int32))), .val (.ref a3), .val (.int (7 : Int32)), .val (.ref a437), .val (.int (0 : Int32)), .val (.int (0 : Int32)), .val (.int (0 : Int32)), .val (.ref a571)]) rfl rfl ?_
            refine W.iload w569 od_0_352 (pc' := 354) rfl rfl ?_
            refine W.ifYes w569 od_0_354 (pc' := 382) (by decide) (by decide) ((if0 _ _).trans (teq (by decide : (0 : Int32) = (0 : Int32))).1) ?_
            refine W.iload w569 od_0_382 (pc' := 384) rfl rfl ?_
            refine W.ifYes w569 od_0_384 (pc' := 412) (by decide) (by decide) ((if0 _ _).trans (teq (by decide : (0 : Int32) = (0 : Int32))).1) ?_
            refine W.iload w569 od_0_412 (pc' := 414) rfl rfl ?_
            refine W.ifYes w569 od_0_414 (pc' := 442) (by decide) (by decide) ((if0 _ _).trans (teq (by decide : (0 : Int32) = (0 : Int32))).1) ?_
            refine W.aload w569 od_0_442 (pc' := 444) rfl rfl rfl ?_
            refine W.callV w569 (ow_111 hw) (ow_112 hw) (nfSel (ow_114 hw)) (ow_114 hw) (ow_113 hw) (by decide) opd_13 E574 (Ctr.pay (c_opisPresent0 hw (x1 := 0) F575 w569.old) (own_ew hw) (ow_115 hw) (ow_108 hw) (kf := 1) (kl := 12) (by decide) (by decide)) mN od_0_444 (pc' := 447) rfl rfl rfl (rest := []) rfl (Wd := 0) rfl (by decide) (by decide) (by decide) (by decide) fun v579 T577 h578 M580 w581 q582 => ?_
            obtain ⟨rfl, rfl, rfl⟩ := q582
            show Go Z _ _ _ κ _ (T577.setTop (mkF (km κ) 447 #[.val (.int p0), .val (.long p1), .second, .val (.int p2), .val (.int (p2 &&& (3 : Int32))), .val (.ref xw), .val (.int ((XT.ushr p2 (2 : Int32)) &&& (7 : Int32))), .val (.ref a3), .val (.int (7 : Int32)), .val (.ref a437), .val (.int (0 : Int32)), .val (.int (0 : Int32)), .val (.int (0 : Int32)), .val (.ref a571)] [(.int (0 : Int32))]))
            refine W.ifNo w581 od_0_447 (pc' := 450) rfl ((if0 _ _).trans (teq (by decide : (0 : Int32) = (0 : Int32))).2) ?_
            refine W.iconst w581 od_0_450 (pc' := 451) rfl (z := (1 : Int32)) rfl ?_
            refine W.goto w581 od_0_451 (pc' := 455) (by decide) (by decide) ?_
            exact W.retN w581 (t := .boolean) (z' := (1 : Int32)) rfl rfl (by simp) od_0_455 (M' := []) mN (by decide) (by decide) rfl
        · refine W.icmpYes w435 od_0_249 (pc' := 311) (by decide) (by decide) (feq hc442).2 ?_
          refine W.iconst w435 od_0_311 (pc' := 312) rfl (z := (0 : Int32)) rfl ?_
          refine W.istore w435 od_0_312 (pc' := 314) rfl (Ls' := #[.val (.int p0), .val (.long p1), .second, .val (.int p2), .val (.int (p2 &&& (3 : Int32))), .val (.ref xw), .val (.int ((XT.ushr p2 (2 : Int32)) &&& (7 : Int32))), .val (.ref a3), .val (.int (7 : Int32)), .val (.ref a437), .val (.int (0 : Int32)), .val (.int (0 : Int32)), .unset, .unset]) rfl ?_
          refine W.iload w435 od_0_314 (pc' := 316) rfl rfl ?_
          refine W.iconst w435 od_0_316 (pc' := 317) rfl (z := (2 : Int32)) rfl ?_
          refine W.icmpYes w435 od_0_317 (pc' := 342) (by decide) (by decide) (feq (by decide : ¬ ((7 : Int32) = (2 : Int32)))).2 ?_
          refine W.iconst w435 od_0_342 (pc' := 343) rfl (z := (0 : Int32)) rfl ?_
          refine W.istore w435 od_0_343 (pc' := 345) rfl (Ls' := #[.val (.int p0), .val (.long p1), .second, .val (.int p2), .val (.int (p2 &&& (3 : Int32))), .val (.ref xw), .val (.int ((XT.ushr p2 (2 : Int32)) &&& (7 : Int32))), .val (.ref a3), .val (.int (7 : Int32)), .val (.ref a437), .val (.int (0 : Int32)), .val (.int (0 : Int32)), .val (.int (0 : Int32)), .unset]) rfl ?_
          refine W.aload w435 od_0_345 (pc' := 347) rfl rfl rfl ?_
          refine W.callS w435 (ow_73 hw) (ow_74 hw) (ow_75 hw) (ow_76 hw) (by decide) opd_12 (Ctr.pay (c_named hw F440 X1 w435.old) (own_ew hw) (ow_76 hw) (ow_75 hw) (kf := 4) (kl := 54) (by decide) (by decide)) mN od_0_347 (pc' := 350) rfl rfl rfl (rest := []) rfl (Wd := 0) rfl (by decide) (by decide) (by decide) (by decide) fun v585 T583 h584 M586 w587 q588 => ?_
          obtain ⟨a589, u590, rfl, rfl, K591, E592, F593, q594⟩ := q588
          have ea589 : u590 = .null := by
            rcases q594 with ⟨e1, e2⟩ | ⟨e1, e2⟩ | ⟨e1, e2⟩ | ⟨e1, e2, e3, e4⟩
            · exact absurd e1 (by simp [Ne.symm hc442, hc442])
            · exact absurd e1 (by simp [Ne.symm hc442, hc442])
            · exact absurd e1 (by simp [Ne.symm hc442, hc442])
            · exact e4
          rw [ea589] at F593
          show Go Z _ _ _ κ _ (T583.setTop (mkF (km κ) 350 #[.val (.int p0), .val (.long p1), .second, .val (.int p2), .val (.int (p2 &&& (3 : Int32))), .val (.ref xw), .val (.int ((XT.ushr p2 (2 : Int32)) &&& (7 : Int32))), .val (.ref a3), .val (.int (7 : Int32)), .val (.ref a437), .val (.int (0 : Int32)), .val (.int (0 : Int32)), .val (.int (0 : Int32)), .unset] [(.ref a589)]))
          refine W.astore w587 od_0_350 (pc' := 352) rfl (Ls' := #[.val (.int p0), .val (.long p1), .second, .val (.int p2), .val (.int (p2 &&& (3 : Int32))), .val (.ref xw), .val (.int ((XT.ushr p2 (2 : Int32)) &&& (7 : Int32))), .val (.ref a3), .val (.int (7 : Int32)), .val (.ref a437), .val (.int (0 : Int32)), .val (.int (0 : Int32)), .val (.int (0 : Int32)), .val (.ref a589)]) rfl rfl ?_
          refine W.iload w587 od_0_352 (pc' := 354) rfl rfl ?_
          refine W.ifYes w587 od_0_354 (pc' := 382) (by decide) (by decide) ((if0 _ _).trans (teq (by decide : (0 : Int32) = (0 : Int32))).1) ?_
          refine W.iload w587 od_0_382 (pc' := 384) rfl rfl ?_
          refine W.ifYes w587 od_0_384 (pc' := 412) (by decide) (by decide) ((if0 _ _).trans (teq (by decide : (0 : Int32) = (0 : Int32))).1) ?_
          refine W.iload w587 od_0_412 (pc' := 414) rfl rfl ?_
          refine W.ifYes w587 od_0_414 (pc' := 442) (by decide) (by decide) ((if0 _ _).trans (teq (by decide : (0 : Int32) = (0 : Int32))).1) ?_
          refine W.aload w587 od_0_442 (pc' := 444) rfl rfl rfl ?_
          refine W.callV w587 (ow_111 hw) (ow_112 hw) (nfSel (ow_114 hw)) (ow_114 hw) (ow_113 hw) (by decide) opd_13 E592 (Ctr.pay (c_opisPresent0 hw (x1 := 0) F593 w587.old) (own_ew hw) (ow_115 hw) (ow_108 hw) (kf := 1) (kl := 12) (by decide) (by decide)) mN od_0_444 (pc' := 447) rfl rfl rfl (rest := []) rfl (Wd := 0) rfl (by decide) (by decide) (by decide) (by decide) fun v597 T595 h596 M598 w599 q600 => ?_
          obtain ⟨rfl, rfl, rfl⟩ := q600
          show Go Z _ _ _ κ _ (T595.setTop (mkF (km κ) 447 #[.val (.int p0), .val (.long p1), .second, .val (.int p2), .val (.int (p2 &&& (3 : Int32))), .val (.ref xw), .val (.int ((XT.ushr p2 (2 : Int32)) &&& (7 : Int32))), .val (.ref a3), .val (.int (7 : Int32)), .val (.ref a437), .val (.int (0 : Int32)), .val (.int (0 : Int32)), .val (.int (0 : Int32)), .val (.ref a589)] [(.int (0 : Int32))]))
          refine W.ifNo w599 od_0_447 (pc' := 450) rfl ((if0 _ _).trans (teq (by decide : (0 : Int32) = (0 : Int32))).2) ?_
          refine W.iconst w599 od_0_450 (pc' := 451) rfl (z := (1 : Int32)) rfl ?_
          refine W.goto w599 od_0_451 (pc' := 455) (by decide) (by decide) ?_
          exact W.retN w599 (t := .boolean) (z' := (1 : Int32)) rfl rfl (by simp) od_0_455 (M' := []) mN (by decide) (by decide) rfl
    refine W.iload w99 od_0_151 (pc' := 153) rfl rfl ?_
    refine W.iconst w99 od_0_153 (pc' := 154) rfl (z := (3 : Int32)) rfl ?_
    rcases Decidable.em ((p2 &&& (3 : Int32)) = (3 : Int32)) with hc601 | hc601
    · refine W.icmpYes w99 od_0_154 (pc' := 172) (by decide) (by decide) (teq hc601).1 ?_
      refine W.iloadN w99 od_0_172 (pc' := 173) rfl rfl ?_
      refine W.bipush w99 od_0_173 (pc' := 175) rfl (z := (7 : Int32)) rfl ?_
      refine W.iand w99 od_0_175 (pc' := 176) rfl (z := (p0 &&& (7 : Int32))) rfl ?_
      exact J176 _ _ (w99.less mN) (and7 _)
    · refine W.icmpNo w99 od_0_154 (pc' := 157) rfl (feq hc601).1 ?_
      refine W.iloadN w99 od_0_157 (pc' := 158) rfl rfl ?_
      refine W.bipush w99 od_0_158 (pc' := 160) rfl (z := (32 : Int32)) rfl ?_
      refine W.iand w99 od_0_160 (pc' := 161) rfl (z := (p2 &&& (32 : Int32))) rfl ?_
      rcases Decidable.em ((p2 &&& (32 : Int32)) = (0 : Int32)) with hc602 | hc602
      · refine W.ifNo w99 od_0_161 (pc' := 164) rfl ((if0 _ _).trans (teq hc602).2) ?_
        refine W.aload w99 od_0_164 (pc' := 166) rfl rfl rfl ?_
        have f603 := (f90.keep K100 (ninS ne9 nin0) (ninS ne10 nin0))
        have f610 := ((((((((Fw.1.keep K6).keep K22).keep K35).keep K48).keep K61).keep K74).keep K87).keep K100)
        refine W.callV w99 (ow_14 hw) (ow_15 hw) (nfSel (ow_17 hw)) (ow_17 hw) (ow_16 hw) (by decide) opd_7 f610 (own_len hw w99.old f603) mN od_0_166 (pc' := 169) rfl rfl rfl (rest := []) rfl (Wd := 0) rfl (by decide) (by decide) (by decide) (by decide) fun v606 T604 h605 M607 w608 q609 => ?_
        obtain ⟨rfl, rfl, rfl⟩ := q609
        show Go Z _ _ _ κ _ (T604.setTop (mkF (km κ) 169 #[.val (.int p0), .val (.long p1), .second, .val (.int p2), .val (.int (p2 &&& (3 : Int32))), .val (.ref xw), .val (.int ((XT.ushr p2 (2 : Int32)) &&& (7 : Int32))), .val (.ref a3), .unset, .unset, .unset, .unset, .unset, .unset] [(.int (Int32.ofNat (ws.length)))]))
        refine W.goto w608 od_0_169 (pc' := 176) (by decide) (by decide) ?_
        exact J176 _ _ (w608.less mN) (by rcases hlen with q | q | q <;> rw [q] <;> decide)
      · refine W.ifYes w99 od_0_161 (pc' := 172) (by decide) (by decide) ((if0 _ _).trans (feq hc602).2) ?_
        refine W.iloadN w99 od_0_172 (pc' := 173) rfl rfl ?_
        refine W.bipush w99 od_0_173 (pc' := 175) rfl (z := (7 : Int32)) rfl ?_
        refine W.iand w99 od_0_175 (pc' := 176) rfl (z := (p0 &&& (7 : Int32))) rfl ?_
        exact J176 _ _ (w99.less mN) (and7 _)
  refine W.iload w0 od_0_5 (pc' := 7) rfl rfl ?_
  rcases Decidable.em ((p2 &&& (3 : Int32)) = (0 : Int32)) with hc611 | hc611
  · refine W.ifNo w0 od_0_7 (pc' := 10) rfl ((if0 _ _).trans (teq hc611).2) ?_
    refine W.ldcS w0 rfl (ow_139 hw) (own_sA hw) (List.mem_of_getElem? (i := 0) rfl) (vs := [(.int (100 : Int32)), (.int (111 : Int32)), (.int (119 : Int32)), (.int (110 : Int32))]) (z := (4 : Int32)) ⟨by decide, by decide⟩ (by decide) (by decide) od_0_10 (pc' := 12) rfl (n := 16) (by decide) (by decide) (by decide) (by decide) fun T612 h613 a614 a615 k616 w617 K618 E619 F620 F621 V622 Q623 => ?_
    have F624 : Str8 Z h613 a614 a615 [(100 : Int32), (111 : Int32), (119 : Int32), (110 : Int32)] := ⟨E619, F620, F621, ⟨_, V622⟩, by decide, by decide⟩
    refine W.goto w617 od_0_12 (pc' := 28) (by decide) (by decide) ?_
    exact J28 _ _ _ _ _ (w617.less mN |>.grow (by decide) (by decide)) F624 (by decide)
  · refine W.ifYes w0 od_0_7 (pc' := 15) (by decide) (by decide) ((if0 _ _).trans (feq hc611).2) ?_
    refine W.iload w0 od_0_15 (pc' := 17) rfl rfl ?_
    refine W.iconst w0 od_0_17 (pc' := 18) rfl (z := (1 : Int32)) rfl ?_
    rcases Decidable.em ((p2 &&& (3 : Int32)) = (1 : Int32)) with hc625 | hc625
    · refine W.icmpNo w0 od_0_18 (pc' := 21) rfl (teq hc625).2 ?_
      refine W.ldcS w0 rfl (ow_0 hw) (own_sA hw) (List.mem_of_getElem? (i := 1) rfl) (vs := [(.int (104 : Int32)), (.int (97 : Int32)), (.int (108 : Int32)), (.int (102 : Int32)), (.int (45 : Int32)), (.int (117 : Int32)), (.int (112 : Int32))]) (z := (7 : Int32)) ⟨by decide, by decide⟩ (by decide) (by decide) od_0_21 (pc' := 23) rfl (n := 28) (by decide) (by decide) (by decide) (by decide) fun T626 h627 a628 a629 k630 w631 K632 E633 F634 F635 V636 Q637 => ?_
      have F638 : Str8 Z h627 a628 a629 [(104 : Int32), (97 : Int32), (108 : Int32), (102 : Int32), (45 : Int32), (117 : Int32), (112 : Int32)] := ⟨E633, F634, F635, ⟨_, V636⟩, by decide, by decide⟩
      refine W.goto w631 od_0_23 (pc' := 28) (by decide) (by decide) ?_
      exact J28 _ _ _ _ _ (w631.less mN |>.grow (by decide) (by decide)) F638 (by decide)
    · refine W.icmpYes w0 od_0_18 (pc' := 26) (by decide) (by decide) (feq hc625).2 ?_
      refine W.ldcS w0 rfl (ow_118 hw) (own_sA hw) (List.mem_of_getElem? (i := 2) rfl) (vs := [(.int (117 : Int32)), (.int (112 : Int32))]) (z := (2 : Int32)) ⟨by decide, by decide⟩ (by decide) (by decide) od_0_26 (pc' := 28) rfl (n := 8) (by decide) (by decide) (by decide) (by decide) fun T639 h640 a641 a642 k643 w644 K645 E646 F647 F648 V649 Q650 => ?_
      have F651 : Str8 Z h640 a641 a642 [(117 : Int32), (112 : Int32)] := ⟨E646, F647, F648, ⟨_, V649⟩, by decide, by decide⟩
      exact J28 _ _ _ _ _ (w644.less mN |>.grow (by decide) (by decide)) F651 (by decide)
set_option maxRecDepth 65536 in
set_option maxHeartbeats 40000000 in
theorem comes_1 {Post : Tables → Env → Array Value → State → Outcome → State → Prop} (hpost : ∀ tb e args s v u, (limb_1_1.after args s (.returned v) u = true ∧ limb_1_2.after args s (.returned v) u = true ∧ True) → ReturnedEndW s (.returned v) u (Jvm.fieldLocs frame_1_writes args s ++ Jvm.arrayLocs frame_1_arrays args s ++ Jvm.staticLocs frame_1_statics s) 32 4288 → Post tb e args s (.returned v) u) :
    ArmFor flags0 classFile x code maxLocals ret World_1 tables_1 room_1 Calls_1 rest_1 Pre_1 Post := by
  intro l hfl _ _ p e ha hc hk s m args below hf hA hF happ hP
  obtain ⟨hcalls, hrest, hpre⟩ := hP
  obtain ⟨-, -, -, hnamed, -, -, -, hat⟩ := (Spec.applies_iff hf).mp happ
  obtain ⟨hg, hn⟩ := and_e (Cond.before_iff.mp (show (Jvm.Cond.and given_1 narrow_1).before args s = true from hpre))
  obtain ⟨hcnt, hg0⟩ := and_e hg
  obtain ⟨hv0, hg1⟩ := and_e hg0
  obtain ⟨hv1, hg2⟩ := and_e hg1
  obtain ⟨w0, w1, w2, rfl⟩ : ∃ w0 w1 w2 : Value, args = #[w0, w1, w2] := by
    have hs : args.size = 3 := by simpa [Cond.value, given_1] using hcnt
    obtain ⟨L⟩ := args
    match L, hs with
    | [w0, w1, w2], _ => exact ⟨w0, w1, w2, rfl⟩
  have hw0 := fun d (hd : d ∈ tables_1) => atoms_spec (ws := Jvm.Cond.code x code maxLocals ret :: tables_1) hat d (List.mem_cons_of_mem _ hd)
  have hw1 := atoms_spec (ws := Jvm.Cond.code x code maxLocals ret :: tables_1) hat _ (List.mem_cons_self ..)
  have hfit : Fit s := fun {y c} hc i hi => by
    obtain ⟨ha, rfl⟩ := Array.getElem?_eq_some_iff.mp hc
    have q := List.all_eq_true.mp ((Array.all_eq_true_iff_forall_mem.mp hF) _ (Array.getElem_mem ha)) i (List.mem_range.mpr hi)
    simpa [Array.getElem?_eq_getElem hi] using q
  obtain ⟨hsets, hown0⟩ := atoms_of _ (rest_1_c_eq ▸ (show rest_1_c.before _ s = true from hrest))
  have hr0 := Cond.before_iff.mp hown0
  obtain ⟨i0, ei0⟩ := is_v hv0
  obtain rfl : w0 = (.int i0) := Option.some.inj ei0
  obtain ⟨i1, ei1⟩ := isL_v hv1
  obtain rfl : w1 = (.long i1) := Option.some.inj ei1
  obtain ⟨i2, ei2⟩ := is_v hg2
  obtain rfl : w2 = (.int i2) := Option.some.inj ei2
  have cst : Cst s := by
    obtain ⟨z, ez⟩ := is_v (Cond.before_iff.mp (hsets _ (List.mem_of_getElem? (i := 1) rfl)))
    obtain ⟨f, ef, rf⟩ := isR_v (Cond.before_iff.mp (hsets _ (List.mem_of_getElem? (i := 8) rfl)))
    exact ⟨⟨z, Sta.start ez (Or.inl (hsets _ (List.mem_of_getElem? (i := 0) rfl))), gotF (Cond.eq_ints ez (Term.int_eval (0))) (not_v (Cond.before_iff.mp (hsets _ (List.mem_of_getElem? (i := 2) rfl))))⟩, f, Sta.start ef (Or.inl (hsets _ (List.mem_of_getElem? (i := 7) rfl))), rf⟩
  obtain ⟨n0, r0⟩ := and_e hn
  obtain ⟨n1, r1⟩ := and_e r0
  obtain ⟨n2, r2⟩ := and_e r1
  obtain ⟨n3, r3⟩ := and_e r2
  obtain ⟨n4, r4⟩ := and_e r3
  obtain ⟨n5, r5⟩ := and_e r4
  obtain ⟨n6, r6⟩ := and_e r5
  obtain ⟨n7, r7⟩ := and_e r6
  obtain ⟨n8, r8⟩ := and_e r7
  obtain ⟨n9, r9⟩ := and_e r8
  obtain ⟨n10, r10⟩ := and_e r9
  obtain ⟨n11, r11⟩ := and_e r10
  obtain ⟨n12, r12⟩ := and_e r11
  obtain ⟨n13, r13⟩ := and_e r12
  obtain ⟨n14, r14⟩ := and_e r13
  obtain ⟨n15, r15⟩ := and_e r14
  obtain ⟨n16, r16⟩ := and_e r15
  obtain ⟨n17, r17⟩ := and_e r16
  obtain ⟨n18, r18⟩ := and_e r17
  obtain ⟨n19, r19⟩ := and_e r18
  obtain ⟨n20, r20⟩ := and_e r19
  obtain ⟨n21, r21⟩ := and_e r20
  obtain ⟨n22, r22⟩ := and_e r21
  obtain ⟨n23, r23⟩ := and_e r22
  obtain ⟨n24, r24⟩ := and_e r23
  obtain ⟨n25, r25⟩ := and_e r24
  obtain ⟨n26, r26⟩ := and_e r25
  obtain ⟨n27, r27⟩ := and_e r26
  obtain ⟨n28, r28⟩ := and_e r27
  obtain ⟨n29, r29⟩ := and_e r28
  obtain ⟨n30, r30⟩ := and_e r29
  obtain ⟨n31, r31⟩ := and_e r30
  obtain ⟨n32, r32⟩ := and_e r31
  have n33 := r32
  have xs0 : XS0 s := by
    obtain ⟨D, eD⟩ := exa_v n3
    obtain ⟨wD, ewD⟩ := exa_v n9
    obtain ⟨tD, etD⟩ := arr_v n11
    obtain ⟨clD, ArD⟩ := Arr.start etD n11
    have leD := lenI_v (eqI_v n12) etD ArD
    have AvD : Arv s s.heap tD clD.cls .byte (Int32.ofNat 4) ((([(100 : Int32), (111 : Int32), (119 : Int32), (110 : Int32)] : List Int32).map fun c => c.toInt8.toInt32).map Value.int) (.int 0) := Arv.start hfit ArD leD.1 leD.2 (by decide) (by decide) ⟨elI_v (eqI_v n23) etD ArD (i := 0) (by decide), elI_v (eqI_v n24) etD ArD (i := 1) (by decide), elI_v (eqI_v n25) etD ArD (i := 2) (by decide), elI_v (eqI_v n26) etD ArD (i := 3) (by decide), trivial⟩
    have cxD := Sta.start eD (Or.inr ⟨hw0 _ (List.mem_of_getElem? (i := 75) rfl), hw0 _ (List.mem_of_getElem? (i := 89) rfl)⟩)
    have stD : Str8 s s.heap wD tD [(100 : Int32), (111 : Int32), (119 : Int32), (110 : Int32)] := ⟨Exa.start ewD n9, Fld.start ((fld_at ewD).symm.trans (eqI_v n10)), Fld.start ((fld_at ewD).symm.trans etD), ⟨_, AvD⟩, by decide, by decide⟩
    obtain ⟨H, eH⟩ := exa_v n5
    obtain ⟨wH, ewH⟩ := exa_v n13
    obtain ⟨tH, etH⟩ := arr_v n15
    obtain ⟨clH, ArH⟩ := Arr.start etH n15
    have leH := lenI_v (eqI_v n16) etH ArH
    have AvH : Arv s s.heap tH clH.cls .byte (Int32.ofNat 7) ((([(104 : Int32), (97 : Int32), (108 : Int32), (102 : Int32), (45 : Int32), (117 : Int32), (112 : Int32)] : List Int32).map fun c => c.toInt8.toInt32).map Value.int) (.int 0) := Arv.start hfit ArH leH.1 leH.2 (by decide) (by decide) ⟨elI_v (eqI_v n27) etH ArH (i := 0) (by decide), elI_v (eqI_v n28) etH ArH (i := 1) (by decide), elI_v (eqI_v n29) etH ArH (i := 2) (by decide), elI_v (eqI_v n30) etH ArH (i := 3) (by decide), elI_v (eqI_v n31) etH ArH (i := 4) (by decide), elI_v (eqI_v n32) etH ArH (i := 5) (by decide), elI_v (eqI_v n33) etH ArH (i := 6) (by decide), trivial⟩
    have cxH := Sta.start eH (Or.inr ⟨hw0 _ (List.mem_of_getElem? (i := 75) rfl), hw0 _ (List.mem_of_getElem? (i := 90) rfl)⟩)
    have stH : Str8 s s.heap wH tH [(104 : Int32), (97 : Int32), (108 : Int32), (102 : Int32), (45 : Int32), (117 : Int32), (112 : Int32)] := ⟨Exa.start ewH n13, Fld.start ((fld_at ewH).symm.trans (eqI_v n14)), Fld.start ((fld_at ewH).symm.trans etH), ⟨_, AvH⟩, by decide, by decide⟩
    obtain ⟨U, eU⟩ := exa_v n7
    obtain ⟨wU, ewU⟩ := exa_v n17
    obtain ⟨tU, etU⟩ := arr_v n19
    obtain ⟨clU, ArU⟩ := Arr.start etU n19
    have leU := lenI_v (eqI_v n20) etU ArU
    have AvU : Arv s s.heap tU clU.cls .byte (Int32.ofNat 2) ((([(117 : Int32), (112 : Int32)] : List Int32).map fun c => c.toInt8.toInt32).map Value.int) (.int 0) := Arv.start hfit ArU leU.1 leU.2 (by decide) (by decide) ⟨elI_v (eqI_v n21) etU ArU (i := 0) (by decide), elI_v (eqI_v n22) etU ArU (i := 1) (by decide), trivial⟩
    have cxU := Sta.start eU (Or.inr ⟨hw0 _ (List.mem_of_getElem? (i := 75) rfl), hw0 _ (List.mem_of_getElem? (i := 91) rfl)⟩)
    have stU : Str8 s s.heap wU tU [(117 : Int32), (112 : Int32)] := ⟨Exa.start ewU n17, Fld.start ((fld_at ewU).symm.trans (eqI_v n18)), Fld.start ((fld_at ewU).symm.trans etU), ⟨_, AvU⟩, by decide, by decide⟩
    obtain ⟨va, eva⟩ := arr_v n0
    obtain ⟨clv, Arv0⟩ := Arr.start eva n0
    have lev := lenI_v (eqI_v n2) eva Arv0
    have Av : Arv s s.heap va clv.cls (.object "com/example/vestledger/vestledger/number/Rounding") (3 : Int32) [.ref D, .ref H, .ref U] .null := Arv.start hfit Arv0 lev.1 lev.2 (by decide) rfl ⟨elI_v (eqR_v n4 eD) eva Arv0 (i := 0) (by decide), elI_v (eqR_v n6 eH) eva Arv0 (i := 1) (by decide), elI_v (eqR_v n8 eU) eva Arv0 (i := 2) (by decide), trivial⟩
    have cxv := Sta.start eva (Or.inl (hw0 _ (List.mem_of_getElem? (i := 92) rfl)))
    obtain ⟨OE, eOE⟩ := exa_v (Cond.before_iff.mp (hsets _ (List.mem_of_getElem? (i := 11) rfl)))
    have cxo := Sta.start eOE (Or.inl (hsets _ (List.mem_of_getElem? (i := 10) rfl)))
    refine ⟨va, D, H, U, wD, wH, wU, tD, tH, tU, OE, clv.cls, cxv, Av, Exa.start eva n1, ⟨cxD, Exa.start eD n3, Fld.start ((fld_at eD).symm.trans ewD), stD⟩, ⟨cxH, Exa.start eH n5, Fld.start ((fld_at eH).symm.trans ewH), stH⟩, ⟨cxU, Exa.start eU n7, Fld.start ((fld_at eU).symm.trans ewU), stU⟩, cxo, Exa.start eOE (Cond.before_iff.mp (hsets _ (List.mem_of_getElem? (i := 11) rfl))), Fld.start ((fld_at eOE).symm.trans (null_v (Cond.before_iff.mp (hsets _ (List.mem_of_getElem? (i := 12) rfl)))))⟩
  have hw : HW s _ := ⟨hw0, cst, xs0⟩
  have hch : CHv s EL0 s.vm s.heap := CHv.start (own_ew hw) (fun p hp => hcalls.1 p hp) (by have q := (hsets _ (List.mem_of_getElem? (i := 2) rfl)); exact q) (ow_3 hw) (own_wS hw)
  obtain ⟨a1, a2, a3, a4, a5, a6, a7, -⟩ := (Spec.appliesLoose_iff hf).mp ((Spec.applies_iff_loose hf).mp happ).1
  obtain ⟨n, o, h1, h2, h3, v, L, M', rfl, hq, N, -, -, -, hE⟩ := c_law (l := l) hw (h0 := s.heap) (p0 := i0) (p1 := i1) (p2 := i2) (Old.start s) p e ha hc hk s m _ below hf ((Spec.appliesLoose_iff hf).mpr ⟨a1, a2, a3, a4, a5, a6, a7, by show (Cond.and _ .tt).before _ s = true; rw [Cond.before_and, hw1]; rfl⟩) ⟨rfl, State.Warmed39.refl s, rfl, hch, fun x hx => nomatch hx⟩ trivial
  subst hq
  obtain ⟨e1, e2, e2', e3⟩ := hE.1
  refine ⟨n, _, h1, h2, h3, hpost _ _ _ _ _ _ ⟨Cond.after_iff.mpr rfl, Cond.after_iff.mpr (eq_i res_at (Term.int_eval (1)) rfl), trivial⟩ ⟨e1, e2, e2', (e3.sift fun y hy => Or.inr (N y hy)).mono (by decide) (by decide)⟩⟩
theorem main_1_1 : Claimed_1_1 := comes_1 fun _ _ _ _ _ _ h hF => ⟨h.1, hF⟩
theorem main_1_2 : Claimed_1_2 := comes_1 fun _ _ _ _ _ _ h hF => ⟨h.2.1, hF⟩
end Jvm.Pilot.@@N@@
namespace Jvm.Pilot.@@N@@
open Jvm Jvm.ClassFile Sem Op Lib Jvm.Free Jvm.Stand Jvm.Pilot.@@N@@.Jvm.D
/-! MADE BY PROGRAM (witnessworld.py) out of the Statement's table words and the real class files: 24 classes; the members and pool entries that the words name. The judged class is class 1, her method 1. -/
namespace start1
open Jvm.ClassFile
def u (s : String) : CpInfo := .utf8 (stringToUtf16 s)
/-- a pool by its gaps: so many unusable entries, then the entry; so many at the end -/
def gap : Nat → List CpInfo → List CpInfo
  | 0, r => r
  | n + 1, r => .unusable :: gap n r
def poolList (es : List (Nat × CpInfo)) (last : Nat) : List CpInfo := es.foldr (fun e r => gap e.1 (e.2 :: r)) (gap last [])
def pool (es : List (Nat × CpInfo)) (last : Nat) : Array CpInfo := ⟨poolList es last⟩
def fileOf (pool : Array CpInfo) (this : Nat) (attrs : Array Attribute := #[]) (ms : Array MethodInfo := #[]) (fl : Nat := 33) (sup : Nat := 0) (ifs : Array Nat := #[]) (fds : Array FieldInfo := #[]) : ClassFile where
  minorVersion := 0
  majorVersion := 65
  constantPool := pool
  accessFlags := fl
  thisClass := this
  superClass := sup
  interfaces := ifs
  fields := fds
  methods := ms
  attributes := attrs
def plain (name : String) (sup : Option ClassId) : Class where
  name := name
  kind := .ordinary
  loader := none
  accessFlags := 33
  super := sup
  interfaces := #[]
  cf := none
  fields := #[]
  methods := #[]
  instanceTypes := #[]
  staticTypes := #[]
  resolved := #[]
  callSites := []
  init := .initialized
  statics := none
  mirror := none

def pool0 : Array CpInfo := pool [(5, u "<init>"), (0, u "()V"), (1, .class_ 10), (1, u "java/lang/Object"), (85, u "clone"), (0, u "()Ljava/lang/Object;")] 26

def k0c0 : Code := { maxStack := 0, maxLocals := 1, code := object_method_1_code, exceptionTable := #[], attributes := #[] }
def k0m0 : Method := { name := "<init>", desc := "()V", sig := { parameters := [], returnType := none }, accessFlags := 1, code := some k0c0 }
def k0m1 : Method := { name := "clone", desc := "()Ljava/lang/Object;", sig := { parameters := [], returnType := some (.object "java/lang/Object") }, accessFlags := 260, code := none }
/-- java/lang/Object -/
def k0 : Class := { plain "java/lang/Object" none with
  accessFlags := 33
  interfaces := #[]
  cf := some (fileOf pool0 8 #[] #[{ accessFlags := 1, nameIndex := 5, descriptorIndex := 6, attributes := #[] }, { accessFlags := 260, nameIndex := 96, descriptorIndex := 97, attributes := #[] }] 33 0 #[] #[])
  fields := #[]
  methods := #[k0m0, k0m1]
  instanceTypes := #[]
  staticTypes := #[]
  resolved := Array.replicate 124 none
  statics := none }

def pool1 : Array CpInfo := pool [(2, .class_ 4), (1, u "java/lang/Object"), (0, u "<init>"), (0, u "()V"), (0, .string 8), (0, u "down"), (0, .string 10), (0, u "half-up"), (0, .string 12), (0, u "up"), (0, .methodref 14 15), (0, .class_ 16), (0, .nameAndType 17 18), (0, u "com/example/vestledger/vestledger/number/RoundingNamedPinLaw"), (0, u "pick"), (0, u "(ILjava/lang/String;IIJ)C"), (0, .methodref 20 21), (0, .class_ 22), (0, .nameAndType 23 24), (0, u "java/lang/String"), (0, u "length"), (0, u "()I"), (0, .methodref 14 26), (0, .nameAndType 27 28), (0, u "str"), (0, u "([CI)Ljava/lang/String;"), (0, .methodref 30 31), (0, .class_ 32), (0, .nameAndType 33 34), (0, u "com/example/vestledger/vestledger/number/Rounding"), (0, u "named"), (0, u "(Ljava/lang/String;)Ljava/util/Optional;"), (0, .methodref 36 37), (0, .class_ 38), (0, .nameAndType 39 40), (0, u "java/util/Optional"), (0, u "isPresent"), (0, u "()Z"), (0, .methodref 36 42), (0, .nameAndType 43 44), (0, u "get"), (0, u "()Ljava/lang/Object;"), (0, .fieldref 30 46), (0, .nameAndType 47 48), (0, u "DOWN"), (0, u "Lcom/example/vestledger/vestledger/number/Rounding;"), (0, .fieldref 30 50), (0, .nameAndType 51 48), (0, u "HALF_UP"), (0, .fieldref 30 53), (0, .nameAndType 54 48), (0, u "UP"), (0, .long 255), (1, .methodref 20 58), (0, .nameAndType 59 60), (0, u "charAt"), (0, u "(I)C"), (0, .methodref 20 62), (0, .nameAndType 5 63), (0, u "([C)V"), (2, u "law"), (0, u "(IJI)Z")] 5

def k1m0 : Method := { name := "<init>", desc := "()V", sig := { parameters := [], returnType := none }, accessFlags := 1, code := none }
def k1c1 : Code := { maxStack := 8, maxLocals := 14, code := code, exceptionTable := #[], attributes := #[] }
def k1m1 : Method := { name := "law", desc := "(IJI)Z", sig := { parameters := [.int, .long, .int], returnType := some .boolean }, accessFlags := 9, code := some k1c1 }
def k1c2 : Code := { maxStack := 4, maxLocals := 7, code := method_3_code, exceptionTable := #[], attributes := #[] }
def k1m2 : Method := { name := "pick", desc := "(ILjava/lang/String;IIJ)C", sig := { parameters := [.int, (.object "java/lang/String"), .int, .int, .long], returnType := some .char }, accessFlags := 10, code := some k1c2 }
def k1c3 : Code := { maxStack := 7, maxLocals := 2, code := method_4_code, exceptionTable := #[], attributes := #[] }
def k1m3 : Method := { name := "str", desc := "([CI)Ljava/lang/String;", sig := { parameters := [(.array .char), .int], returnType := some (.object "java/lang/String") }, accessFlags := 10, code := some k1c3 }
/-- com/example/vestledger/vestledger/number/RoundingNamedPinLaw -/
def k1 : Class := { plain "com/example/vestledger/vestledger/number/RoundingNamedPinLaw" (some 0) with
  accessFlags := 49
  interfaces := #[]
  cf := some (fileOf pool1 14 #[] #[{ accessFlags := 1, nameIndex := 5, descriptorIndex := 6, attributes := #[] }, { accessFlags := 9, nameIndex := 66, descriptorIndex := 67, attributes := #[] }, { accessFlags := 10, nameIndex := 17, descriptorIndex := 18, attributes := #[] }, { accessFlags := 10, nameIndex := 27, descriptorIndex := 28, attributes := #[] }] 49 2 #[] #[])
  fields := #[]
  methods := #[k1m0, k1m1, k1m2, k1m3]
  instanceTypes := #[]
  staticTypes := #[]
  resolved := Array.replicate 73 none
  statics := none }

def pool2 : Array CpInfo := pool [(1, .class_ 2), (0, u "java/io/Serializable"), (0, .class_ 4), (0, u "java/lang/Object")] 2

/-- java/io/Serializable -/
def k2 : Class := { plain "java/io/Serializable" (some 0) with
  accessFlags := 1537
  interfaces := #[]
  cf := some (fileOf pool2 1 #[] #[] 1537 3 #[] #[])
  fields := #[]
  methods := #[]
  instanceTypes := #[]
  staticTypes := #[]
  resolved := Array.replicate 7 none
  statics := none }

def pool3 : Array CpInfo := pool [(1, .class_ 2), (0, u "java/lang/Comparable"), (0, .class_ 4), (0, u "java/lang/Object")] 7

/-- java/lang/Comparable -/
def k3 : Class := { plain "java/lang/Comparable" (some 0) with
  accessFlags := 1537
  interfaces := #[]
  cf := some (fileOf pool3 1 #[] #[] 1537 3 #[] #[])
  fields := #[]
  methods := #[]
  instanceTypes := #[]
  staticTypes := #[]
  resolved := Array.replicate 12 none
  statics := none }

def pool4 : Array CpInfo := pool [(2, .class_ 4), (1, u "java/lang/CharSequence"), (42, .class_ 48), (0, u "java/lang/CharSequence$1CodePointIterator"), (10, .class_ 60), (0, u "java/lang/CharSequence$1CharIterator"), (5, .class_ 67), (0, u "java/lang/Object")] 63

/-- java/lang/CharSequence -/
def k4 : Class := { plain "java/lang/CharSequence" (some 0) with
  accessFlags := 1537
  interfaces := #[]
  cf := some (fileOf pool4 2 #[.nestMembers #[47, 59]] #[] 1537 66 #[] #[])
  fields := #[]
  methods := #[]
  instanceTypes := #[]
  staticTypes := #[]
  resolved := Array.replicate 131 none
  statics := none }

def pool5 : Array CpInfo := pool [(1, .class_ 2), (0, u "java/lang/constant/Constable"), (0, .class_ 4), (0, u "java/lang/Object")] 6

/-- java/lang/constant/Constable -/
def k5 : Class := { plain "java/lang/constant/Constable" (some 0) with
  accessFlags := 1537
  interfaces := #[]
  cf := some (fileOf pool5 1 #[] #[] 1537 3 #[] #[])
  fields := #[]
  methods := #[]
  instanceTypes := #[]
  staticTypes := #[]
  resolved := Array.replicate 11 none
  statics := none }

def pool6 : Array CpInfo := pool [(1, .class_ 2), (0, u "java/lang/constant/ConstantDesc"), (0, .class_ 4), (0, u "java/lang/Object")] 32

/-- java/lang/constant/ConstantDesc -/
def k6 : Class := { plain "java/lang/constant/ConstantDesc" (some 0) with
  accessFlags := 1537
  interfaces := #[]
  cf := some (fileOf pool6 1 #[] #[] 1537 3 #[] #[])
  fields := #[]
  methods := #[]
  instanceTypes := #[]
  staticTypes := #[]
  resolved := Array.replicate 37 none
  statics := none }

def pool7 : Array CpInfo := pool [(1, .methodref 2 3), (0, .class_ 4), (0, .nameAndType 5 6), (0, u "java/lang/Object"), (0, u "<init>"), (0, u "()V"), (0, .string 8), (0, u ""), (0, .fieldref 10 11), (0, .class_ 12), (0, .nameAndType 13 14), (0, u "java/lang/String"), (0, u "value"), (0, u "[B"), (0, .fieldref 10 16), (0, .nameAndType 17 18), (0, u "coder"), (0, u "B"), (2, u "hash"), (0, u "I"), (2, u "hashIsZero"), (0, u "Z"), (0, .methodref 10 28), (0, .nameAndType 5 29), (0, u "([CIILjava/lang/Void;)V"), (8, .fieldref 10 39), (0, .nameAndType 40 26), (0, u "COMPACT_STRINGS"), (1, .class_ 44), (1, u "java/lang/StringUTF16"), (0, u "compress"), (1, .methodref 42 48), (0, .nameAndType 49 50), (0, u "coderFromArrayLen"), (0, u "([BI)B"), (56, .class_ 109), (1, u "java/lang/StringLatin1"), (32, u "()Z"), (34, .methodref 42 178), (0, .nameAndType 45 179), (0, u "([CII)[B"), (154, u "()I"), (0, .methodref 10 336), (0, .nameAndType 17 337), (0, u "()B"), (25, u "([BI)C"), (27, u "(II)V"), (35, u "(I)C"), (64, .methodref 10 493), (0, .nameAndType 494 142), (0, u "isLatin1"), (0, .methodref 107 496), (0, .nameAndType 497 363), (0, u "charAt"), (3, u "checkIndex"), (5, u "length"), (33, .methodref 107 542), (0, .nameAndType 543 544), (0, u "equals"), (0, u "([B[B)Z"), (28, u "(Ljava/lang/Object;)Z"), (1, .class_ 576), (0, u "java/lang/CharSequence"), (22, u "CASE_INSENSITIVE_ORDER"), (0, u "Ljava/util/Comparator;"), (409, u "([C)V"), (42, .fieldref 1054 1055), (0, .class_ 1056), (0, .nameAndType 1057 1058), (0, u "jdk/internal/util/Preconditions"), (0, u "SIOOBE_FORMATTER"), (0, u "Ljava/util/function/BiFunction;"), (0, .methodref 1054 1060), (0, .nameAndType 501 1061), (0, u "(IILjava/util/function/BiFunction;)I"), (39, u "serialPersistentFields"), (0, u "[Ljava/io/ObjectStreamField;"), (0, .class_ 1104), (0, u "java/lang/String$CaseInsensitiveComparator"), (1, .class_ 1107), (0, u "java/io/Serializable"), (0, .class_ 1109), (0, u "java/lang/Comparable"), (0, .class_ 1111), (0, u "java/lang/constant/Constable"), (0, .class_ 1113), (0, u "java/lang/constant/ConstantDesc"), (2, u "serialVersionUID"), (0, u "J"), (3, u "REPL"), (0, u "C"), (2, u "LATIN1"), (1, u "UTF16")] 323

def k7m0 : Method := { name := "<init>", desc := "()V", sig := { parameters := [], returnType := none }, accessFlags := 1, code := none }
def k7c1 : Code := { maxStack := 5, maxLocals := 2, code := jdk_42_method_3_code, exceptionTable := #[], attributes := #[] }
def k7m1 : Method := { name := "<init>", desc := "([C)V", sig := { parameters := [(.array .char)], returnType := none }, accessFlags := 1, code := some k7c1 }
def k7c2 : Code := { maxStack := 2, maxLocals := 1, code := jdk_42_method_54_code, exceptionTable := #[], attributes := #[] }
def k7m2 : Method := { name := "length", desc := "()I", sig := { parameters := [], returnType := some .int }, accessFlags := 1, code := some k7c2 }
def k7c3 : Code := { maxStack := 2, maxLocals := 2, code := jdk_42_method_56_code, exceptionTable := #[], attributes := #[] }
def k7m3 : Method := { name := "charAt", desc := "(I)C", sig := { parameters := [.int], returnType := some .char }, accessFlags := 1, code := some k7c3 }
def k7c4 : Code := { maxStack := 2, maxLocals := 3, code := jdk_42_method_66_code, exceptionTable := #[], attributes := #[] }
def k7m4 : Method := { name := "equals", desc := "(Ljava/lang/Object;)Z", sig := { parameters := [(.object "java/lang/Object")], returnType := some .boolean }, accessFlags := 1, code := some k7c4 }
def k7c5 : Code := { maxStack := 4, maxLocals := 6, code := jdk_42_method_149_code, exceptionTable := #[], attributes := #[] }
def k7m5 : Method := { name := "<init>", desc := "([CIILjava/lang/Void;)V", sig := { parameters := [(.array .char), .int, .int, (.object "java/lang/Void")], returnType := none }, accessFlags := 2, code := some k7c5 }
def k7c6 : Code := { maxStack := 1, maxLocals := 1, code := jdk_42_method_152_code, exceptionTable := #[], attributes := #[] }
def k7m6 : Method := { name := "coder", desc := "()B", sig := { parameters := [], returnType := some .byte }, accessFlags := 0, code := some k7c6 }
def k7c7 : Code := { maxStack := 1, maxLocals := 1, code := jdk_42_method_154_code, exceptionTable := #[], attributes := #[] }
def k7m7 : Method := { name := "isLatin1", desc := "()Z", sig := { parameters := [], returnType := some .boolean }, accessFlags := 0, code := some k7c7 }
def k7c8 : Code := { maxStack := 3, maxLocals := 2, code := jdk_42_method_155_code, exceptionTable := #[], attributes := #[] }
def k7m8 : Method := { name := "checkIndex", desc := "(II)V", sig := { parameters := [.int, .int], returnType := none }, accessFlags := 8, code := some k7c8 }
/-- java/lang/String -/
def k7 : Class := { plain "java/lang/String" (some 0) with
  accessFlags := 49
  interfaces := #[2, 3, 4, 5, 6]
  cf := some (fileOf pool7 10 #[.nestMembers #[1103]] #[{ accessFlags := 1, nameIndex := 5, descriptorIndex := 6, attributes := #[] }, { accessFlags := 1, nameIndex := 5, descriptorIndex := 1010, attributes := #[] }, { accessFlags := 1, nameIndex := 507, descriptorIndex := 334, attributes := #[] }, { accessFlags := 1, nameIndex := 497, descriptorIndex := 427, attributes := #[] }, { accessFlags := 1, nameIndex := 543, descriptorIndex := 573, attributes := #[] }, { accessFlags := 2, nameIndex := 5, descriptorIndex := 29, attributes := #[] }, { accessFlags := 0, nameIndex := 17, descriptorIndex := 337, attributes := #[] }, { accessFlags := 0, nameIndex := 494, descriptorIndex := 142, attributes := #[] }, { accessFlags := 8, nameIndex := 501, descriptorIndex := 391, attributes := #[] }] 49 2 #[1106, 1108, 575, 1110, 1112] #[{ accessFlags := 18, nameIndex := 13, descriptorIndex := 14, attributes := #[] }, { accessFlags := 18, nameIndex := 17, descriptorIndex := 18, attributes := #[] }, { accessFlags := 2, nameIndex := 21, descriptorIndex := 22, attributes := #[] }, { accessFlags := 2, nameIndex := 25, descriptorIndex := 26, attributes := #[] }, { accessFlags := 26, nameIndex := 1116, descriptorIndex := 1117, attributes := #[] }, { accessFlags := 24, nameIndex := 40, descriptorIndex := 26, attributes := #[] }, { accessFlags := 26, nameIndex := 1101, descriptorIndex := 1102, attributes := #[] }, { accessFlags := 26, nameIndex := 1121, descriptorIndex := 1122, attributes := #[] }, { accessFlags := 25, nameIndex := 599, descriptorIndex := 600, attributes := #[] }, { accessFlags := 24, nameIndex := 1125, descriptorIndex := 18, attributes := #[] }, { accessFlags := 24, nameIndex := 1127, descriptorIndex := 18, attributes := #[] }])
  fields := #[{ name := "value", type := (.array .byte), accessFlags := 18, slot := 0, constantValue := 0 }, { name := "coder", type := .byte, accessFlags := 18, slot := 1, constantValue := 0 }, { name := "hash", type := .int, accessFlags := 2, slot := 2, constantValue := 0 }, { name := "hashIsZero", type := .boolean, accessFlags := 2, slot := 3, constantValue := 0 }, { name := "serialVersionUID", type := .long, accessFlags := 26, slot := 0, constantValue := 0 }, { name := "COMPACT_STRINGS", type := .boolean, accessFlags := 24, slot := 1, constantValue := 0 }, { name := "serialPersistentFields", type := (.array (.object "java/io/ObjectStreamField")), accessFlags := 26, slot := 2, constantValue := 0 }, { name := "REPL", type := .char, accessFlags := 26, slot := 3, constantValue := 0 }, { name := "CASE_INSENSITIVE_ORDER", type := (.object "java/util/Comparator"), accessFlags := 25, slot := 4, constantValue := 0 }, { name := "LATIN1", type := .byte, accessFlags := 24, slot := 5, constantValue := 0 }, { name := "UTF16", type := .byte, accessFlags := 24, slot := 6, constantValue := 0 }]
  methods := #[k7m0, k7m1, k7m2, k7m3, k7m4, k7m5, k7m6, k7m7, k7m8]
  instanceTypes := #[(.array .byte), .byte, .int, .boolean]
  staticTypes := #[.long, .boolean, (.array (.object "java/io/ObjectStreamField")), .char, (.object "java/util/Comparator"), .byte, .byte]
  resolved := Array.replicate 1451 none
  statics := some 0 }

def pool8 : Array CpInfo := pool [(1, .class_ 2), (0, u "java/lang/String"), (1, .class_ 6), (1, u "java/lang/Object"), (0, u "<init>"), (0, u "()V"), (0, .methodref 1 10), (0, .nameAndType 11 12), (0, u "checkIndex"), (0, u "(II)V"), (1, .class_ 16), (1, u "java/lang/StringLatin1"), (36, u "([BI)C"), (67, u "$assertionsDisabled"), (0, u "Z"), (98, .class_ 223), (1, u "java/lang/StringLatin1$LinesSpliterator"), (28, u "charAt"), (28, u "equals"), (0, u "([B[B)Z"), (107, .class_ 391), (0, u "java/lang/StringLatin1$CharsSpliterator")] 3

def k8m0 : Method := { name := "<init>", desc := "()V", sig := { parameters := [], returnType := none }, accessFlags := 0, code := none }
def k8c1 : Code := { maxStack := 2, maxLocals := 2, code := jdk_43_method_2_code, exceptionTable := #[], attributes := #[] }
def k8m1 : Method := { name := "charAt", desc := "([BI)C", sig := { parameters := [(.array .byte), .int], returnType := some .char }, accessFlags := 9, code := some k8c1 }
def k8c2 : Code := { maxStack := 3, maxLocals := 3, code := jdk_43_method_13_code, exceptionTable := #[], attributes := #[] }
def k8m2 : Method := { name := "equals", desc := "([B[B)Z", sig := { parameters := [(.array .byte), (.array .byte)], returnType := some .boolean }, accessFlags := 9, code := some k8c2 }
/-- java/lang/StringLatin1 -/
def k8 : Class := { plain "java/lang/StringLatin1" (some 0) with
  accessFlags := 48
  interfaces := #[]
  cf := some (fileOf pool8 14 #[.nestMembers #[390, 221]] #[{ accessFlags := 0, nameIndex := 7, descriptorIndex := 8, attributes := #[] }, { accessFlags := 9, nameIndex := 252, descriptorIndex := 53, attributes := #[] }, { accessFlags := 9, nameIndex := 281, descriptorIndex := 282, attributes := #[] }] 48 4 #[] #[{ accessFlags := 4120, nameIndex := 121, descriptorIndex := 122, attributes := #[] }])
  fields := #[{ name := "$assertionsDisabled", type := .boolean, accessFlags := 4120, slot := 0, constantValue := 0 }]
  methods := #[k8m0, k8m1, k8m2]
  instanceTypes := #[]
  staticTypes := #[.boolean]
  resolved := Array.replicate 395 none
  statics := none }

def pool9 : Array CpInfo := pool [(2, .class_ 4), (1, u "java/lang/Object"), (0, u "<init>"), (0, u "()V"), (17, .class_ 26), (1, u "jdk/internal/util/Preconditions"), (6, u "checkIndex"), (21, .class_ 56), (0, u "jdk/internal/util/Preconditions$4"), (57, .class_ 115), (0, u "jdk/internal/util/Preconditions$1"), (7, u "SIOOBE_FORMATTER"), (0, u "Ljava/util/function/BiFunction;"), (0, .class_ 126), (0, u "jdk/internal/util/Preconditions$2"), (3, u "AIOOBE_FORMATTER"), (0, .class_ 132), (0, u "jdk/internal/util/Preconditions$3"), (3, u "IOOBE_FORMATTER"), (41, u "(IILjava/util/function/BiFunction;)I")] 15

def k9m0 : Method := { name := "<init>", desc := "()V", sig := { parameters := [], returnType := none }, accessFlags := 1, code := none }
def k9c1 : Code := { maxStack := 3, maxLocals := 3, code := jdk_41_method_11_code, exceptionTable := #[], attributes := #[] }
def k9m1 : Method := { name := "checkIndex", desc := "(IILjava/util/function/BiFunction;)I", sig := { parameters := [.int, .int, (.object "java/util/function/BiFunction")], returnType := some .int }, accessFlags := 9, code := some k9c1 }
/-- jdk/internal/util/Preconditions -/
def k9 : Class := { plain "jdk/internal/util/Preconditions" (some 0) with
  accessFlags := 33
  interfaces := #[]
  cf := some (fileOf pool9 24 #[.nestMembers #[55, 131, 125, 114]] #[{ accessFlags := 1, nameIndex := 5, descriptorIndex := 6, attributes := #[] }, { accessFlags := 9, nameIndex := 33, descriptorIndex := 178, attributes := #[] }] 33 2 #[] #[{ accessFlags := 25, nameIndex := 123, descriptorIndex := 124, attributes := #[] }, { accessFlags := 25, nameIndex := 130, descriptorIndex := 124, attributes := #[] }, { accessFlags := 25, nameIndex := 136, descriptorIndex := 124, attributes := #[] }])
  fields := #[{ name := "SIOOBE_FORMATTER", type := (.object "java/util/function/BiFunction"), accessFlags := 25, slot := 0, constantValue := 0 }, { name := "AIOOBE_FORMATTER", type := (.object "java/util/function/BiFunction"), accessFlags := 25, slot := 1, constantValue := 0 }, { name := "IOOBE_FORMATTER", type := (.object "java/util/function/BiFunction"), accessFlags := 25, slot := 2, constantValue := 0 }]
  methods := #[k9m0, k9m1]
  instanceTypes := #[]
  staticTypes := #[(.object "java/util/function/BiFunction"), (.object "java/util/function/BiFunction"), (.object "java/util/function/BiFunction")]
  resolved := Array.replicate 194 none
  statics := some 1 }

def pool10 : Array CpInfo := pool [(6, .class_ 8), (1, u "java/lang/Object"), (0, u "<init>"), (0, u "()V"), (1, .class_ 14), (1, u "java/lang/StringUTF16"), (31, u "$assertionsDisabled"), (0, u "Z"), (13, u "HI_BYTE_SHIFT"), (0, u "I"), (2, u "LO_BYTE_SHIFT"), (49, .methodref 12 116), (0, .nameAndType 117 118), (0, u "compress"), (0, u "([CI[BII)I"), (3, u "([CII)[B"), (138, u "coderFromArrayLen"), (0, u "([BI)B"), (106, .class_ 371), (1, u "java/lang/StringUTF16$LinesSpliterator"), (58, u "MAX_LENGTH"), (196, .class_ 628), (0, u "java/lang/StringUTF16$CodePointsSpliterator"), (0, .class_ 630), (0, u "java/lang/StringUTF16$CharsSpliterator")] 4

def k10m0 : Method := { name := "<init>", desc := "()V", sig := { parameters := [], returnType := none }, accessFlags := 0, code := none }
def k10c1 : Code := { maxStack := 2, maxLocals := 2, code := jdk_52_method_15_code, exceptionTable := #[], attributes := #[] }
def k10m1 : Method := { name := "coderFromArrayLen", desc := "([BI)B", sig := { parameters := [(.array .byte), .int], returnType := some .byte }, accessFlags := 8, code := some k10c1 }
def k10c2 : Code := { maxStack := 5, maxLocals := 6, code := jdk_52_method_16_code, exceptionTable := #[], attributes := #[] }
def k10m2 : Method := { name := "compress", desc := "([CII)[B", sig := { parameters := [(.array .char), .int, .int], returnType := some (.array .byte) }, accessFlags := 9, code := some k10c2 }
def k10c3 : Code := { maxStack := 3, maxLocals := 7, code := jdk_52_method_21_code, exceptionTable := #[], attributes := #[] }
def k10m3 : Method := { name := "compress", desc := "([CI[BII)I", sig := { parameters := [(.array .char), .int, (.array .byte), .int, .int], returnType := some .int }, accessFlags := 9, code := some k10c3 }
/-- java/lang/StringUTF16 -/
def k10 : Class := { plain "java/lang/StringUTF16" (some 0) with
  accessFlags := 48
  interfaces := #[]
  cf := some (fileOf pool10 12 #[.nestMembers #[627, 629, 369]] #[{ accessFlags := 0, nameIndex := 9, descriptorIndex := 10, attributes := #[] }, { accessFlags := 8, nameIndex := 261, descriptorIndex := 262, attributes := #[] }, { accessFlags := 9, nameIndex := 117, descriptorIndex := 122, attributes := #[] }, { accessFlags := 9, nameIndex := 117, descriptorIndex := 118, attributes := #[] }] 48 6 #[] #[{ accessFlags := 26, nameIndex := 61, descriptorIndex := 62, attributes := #[] }, { accessFlags := 26, nameIndex := 65, descriptorIndex := 62, attributes := #[] }, { accessFlags := 24, nameIndex := 430, descriptorIndex := 62, attributes := #[] }, { accessFlags := 4120, nameIndex := 46, descriptorIndex := 47, attributes := #[] }])
  fields := #[{ name := "HI_BYTE_SHIFT", type := .int, accessFlags := 26, slot := 0, constantValue := 0 }, { name := "LO_BYTE_SHIFT", type := .int, accessFlags := 26, slot := 1, constantValue := 0 }, { name := "MAX_LENGTH", type := .int, accessFlags := 24, slot := 2, constantValue := 0 }, { name := "$assertionsDisabled", type := .boolean, accessFlags := 4120, slot := 3, constantValue := 0 }]
  methods := #[k10m0, k10m1, k10m2, k10m3]
  instanceTypes := #[]
  staticTypes := #[.int, .int, .int, .boolean]
  resolved := Array.replicate 635 none
  statics := none }

def pool11 : Array CpInfo := pool [(2, .class_ 4), (1, u "java/lang/Enum"), (0, u "name"), (0, u "Ljava/lang/String;"), (2, u "ordinal"), (0, u "I"), (1, .class_ 14), (1, u "java/lang/Object"), (4, u "hash"), (86, .class_ 108), (1, u "java/lang/Enum$EnumDesc"), (2, .class_ 112), (0, u "java/lang/constant/Constable"), (0, .class_ 114), (0, u "java/lang/Comparable"), (0, .class_ 116), (0, u "java/io/Serializable")] 87

/-- java/lang/Enum -/
def k11 : Class := { plain "java/lang/Enum" (some 0) with
  accessFlags := 1057
  interfaces := #[5, 3, 2]
  cf := some (fileOf pool11 2 #[.nestMembers #[106]] #[] 1057 12 #[111, 113, 115] #[{ accessFlags := 18, nameIndex := 5, descriptorIndex := 6, attributes := #[] }, { accessFlags := 18, nameIndex := 9, descriptorIndex := 10, attributes := #[] }, { accessFlags := 2, nameIndex := 19, descriptorIndex := 10, attributes := #[] }])
  fields := #[{ name := "name", type := (.object "java/lang/String"), accessFlags := 18, slot := 0, constantValue := 0 }, { name := "ordinal", type := .int, accessFlags := 18, slot := 1, constantValue := 0 }, { name := "hash", type := .int, accessFlags := 2, slot := 2, constantValue := 0 }]
  methods := #[]
  instanceTypes := #[(.object "java/lang/String"), .int, .int]
  staticTypes := #[]
  resolved := Array.replicate 204 none
  statics := none }

def pool12 : Array CpInfo := pool [(1, .class_ 2), (0, u "com/example/vestledger/vestledger/number/Rounding"), (2, u "DOWN"), (0, u "Lcom/example/vestledger/vestledger/number/Rounding;"), (2, u "HALF_UP"), (2, u "UP"), (0, .fieldref 1 14), (0, .nameAndType 15 16), (0, u "$VALUES"), (0, u "[Lcom/example/vestledger/vestledger/number/Rounding;"), (0, .methodref 18 19), (0, .class_ 16), (0, .nameAndType 20 21), (0, u "clone"), (0, u "()Ljava/lang/Object;"), (1, .class_ 25), (1, u "java/lang/Enum"), (6, .fieldref 1 33), (0, .nameAndType 34 35), (0, u "word"), (0, u "Ljava/lang/String;"), (0, .methodref 1 37), (0, .nameAndType 38 39), (0, u "values"), (0, u "()[Lcom/example/vestledger/vestledger/number/Rounding;"), (0, .methodref 41 42), (0, .class_ 43), (0, .nameAndType 44 45), (0, u "java/lang/String"), (0, u "equals"), (0, u "(Ljava/lang/Object;)Z"), (0, .methodref 47 48), (0, .class_ 49), (0, .nameAndType 50 51), (0, u "java/util/Optional"), (0, u "of"), (0, u "(Ljava/lang/Object;)Ljava/util/Optional;"), (0, .methodref 47 53), (0, .nameAndType 54 55), (0, u "empty"), (0, u "()Ljava/util/Optional;"), (30, u "ONE_HALF"), (0, u "Lcom/example/vestledger/vestledger/number/Fraction;"), (60, u "named"), (0, u "(Ljava/lang/String;)Ljava/util/Optional;")] 9

def k12c0 : Code := { maxStack := 1, maxLocals := 0, code := prog_10_method_1_code, exceptionTable := #[], attributes := #[] }
def k12m0 : Method := { name := "values", desc := "()[Lcom/example/vestledger/vestledger/number/Rounding;", sig := { parameters := [], returnType := some (.array (.object "com/example/vestledger/vestledger/number/Rounding")) }, accessFlags := 9, code := some k12c0 }
def k12c1 : Code := { maxStack := 2, maxLocals := 5, code := prog_10_method_4_code, exceptionTable := #[], attributes := #[] }
def k12m1 : Method := { name := "named", desc := "(Ljava/lang/String;)Ljava/util/Optional;", sig := { parameters := [(.object "java/lang/String")], returnType := some (.object "java/util/Optional") }, accessFlags := 9, code := some k12c1 }
/-- com/example/vestledger/vestledger/number/Rounding -/
def k12 : Class := { plain "com/example/vestledger/vestledger/number/Rounding" (some 11) with
  accessFlags := 16433
  interfaces := #[]
  cf := some (fileOf pool12 1 #[] #[{ accessFlags := 9, nameIndex := 38, descriptorIndex := 39, attributes := #[] }, { accessFlags := 9, nameIndex := 148, descriptorIndex := 149, attributes := #[] }] 16433 23 #[] #[{ accessFlags := 16409, nameIndex := 5, descriptorIndex := 6, attributes := #[] }, { accessFlags := 16409, nameIndex := 9, descriptorIndex := 6, attributes := #[] }, { accessFlags := 16409, nameIndex := 12, descriptorIndex := 6, attributes := #[] }, { accessFlags := 26, nameIndex := 86, descriptorIndex := 87, attributes := #[] }, { accessFlags := 18, nameIndex := 34, descriptorIndex := 35, attributes := #[] }, { accessFlags := 4122, nameIndex := 15, descriptorIndex := 16, attributes := #[] }])
  fields := #[{ name := "DOWN", type := (.object "com/example/vestledger/vestledger/number/Rounding"), accessFlags := 16409, slot := 0, constantValue := 0 }, { name := "HALF_UP", type := (.object "com/example/vestledger/vestledger/number/Rounding"), accessFlags := 16409, slot := 1, constantValue := 0 }, { name := "UP", type := (.object "com/example/vestledger/vestledger/number/Rounding"), accessFlags := 16409, slot := 2, constantValue := 0 }, { name := "ONE_HALF", type := (.object "com/example/vestledger/vestledger/number/Fraction"), accessFlags := 26, slot := 3, constantValue := 0 }, { name := "word", type := (.object "java/lang/String"), accessFlags := 18, slot := 3, constantValue := 0 }, { name := "$VALUES", type := (.array (.object "com/example/vestledger/vestledger/number/Rounding")), accessFlags := 4122, slot := 4, constantValue := 0 }]
  methods := #[k12m0, k12m1]
  instanceTypes := #[(.object "java/lang/String"), .int, .int, (.object "java/lang/String")]
  staticTypes := #[(.object "com/example/vestledger/vestledger/number/Rounding"), (.object "com/example/vestledger/vestledger/number/Rounding"), (.object "com/example/vestledger/vestledger/number/Rounding"), (.object "com/example/vestledger/vestledger/number/Fraction"), (.array (.object "com/example/vestledger/vestledger/number/Rounding"))]
  resolved := Array.replicate 159 none
  statics := some 2 }

def pool13 : Array CpInfo := pool [(1, .class_ 2), (0, u "java/lang/Cloneable"), (0, .class_ 4), (0, u "java/lang/Object")] 2

/-- java/lang/Cloneable -/
def k13 : Class := { plain "java/lang/Cloneable" (some 0) with
  accessFlags := 1537
  interfaces := #[]
  cf := some (fileOf pool13 1 #[] #[] 1537 3 #[] #[])
  fields := #[]
  methods := #[]
  instanceTypes := #[]
  staticTypes := #[]
  resolved := Array.replicate 7 none
  statics := none }

def pool14 : Array CpInfo := pool [(1, .fieldref 2 3), (0, .class_ 4), (0, .nameAndType 5 6), (0, u "java/util/Optional"), (0, u "EMPTY"), (0, u "Ljava/util/Optional;"), (0, .methodref 8 9), (0, .class_ 10), (0, .nameAndType 11 12), (0, u "java/lang/Object"), (0, u "<init>"), (0, u "()V"), (0, .fieldref 2 14), (0, .nameAndType 15 16), (0, u "value"), (0, u "Ljava/lang/Object;"), (0, .methodref 18 19), (0, .class_ 20), (0, .nameAndType 21 22), (0, u "java/util/Objects"), (0, u "requireNonNull"), (0, u "(Ljava/lang/Object;)Ljava/lang/Object;"), (0, .methodref 2 24), (0, .nameAndType 11 25), (0, u "(Ljava/lang/Object;)V"), (20, u "()Z"), (8, u "empty"), (0, u "()Ljava/util/Optional;"), (8, u "(Ljava/lang/Object;)Ljava/util/Optional;"), (2, u "isPresent"), (4, u "get"), (0, u "()Ljava/lang/Object;"), (7, u "of")] 104

def k14c0 : Code := { maxStack := 1, maxLocals := 1, code := jdk_32_method_1_code, exceptionTable := #[], attributes := #[] }
def k14m0 : Method := { name := "empty", desc := "()Ljava/util/Optional;", sig := { parameters := [], returnType := some (.object "java/util/Optional") }, accessFlags := 9, code := some k14c0 }
def k14c1 : Code := { maxStack := 2, maxLocals := 2, code := jdk_32_method_2_code, exceptionTable := #[], attributes := #[] }
def k14m1 : Method := { name := "<init>", desc := "(Ljava/lang/Object;)V", sig := { parameters := [(.object "java/lang/Object")], returnType := none }, accessFlags := 2, code := some k14c1 }
def k14c2 : Code := { maxStack := 3, maxLocals := 1, code := jdk_32_method_3_code, exceptionTable := #[], attributes := #[] }
def k14m2 : Method := { name := "of", desc := "(Ljava/lang/Object;)Ljava/util/Optional;", sig := { parameters := [(.object "java/lang/Object")], returnType := some (.object "java/util/Optional") }, accessFlags := 9, code := some k14c2 }
def k14c3 : Code := { maxStack := 3, maxLocals := 1, code := jdk_32_method_5_code, exceptionTable := #[], attributes := #[] }
def k14m3 : Method := { name := "get", desc := "()Ljava/lang/Object;", sig := { parameters := [], returnType := some (.object "java/lang/Object") }, accessFlags := 1, code := some k14c3 }
def k14c4 : Code := { maxStack := 1, maxLocals := 1, code := jdk_32_method_6_code, exceptionTable := #[], attributes := #[] }
def k14m4 : Method := { name := "isPresent", desc := "()Z", sig := { parameters := [], returnType := some .boolean }, accessFlags := 1, code := some k14c4 }
/-- java/util/Optional -/
def k14 : Class := { plain "java/util/Optional" (some 0) with
  accessFlags := 49
  interfaces := #[]
  cf := some (fileOf pool14 2 #[] #[{ accessFlags := 9, nameIndex := 55, descriptorIndex := 56, attributes := #[] }, { accessFlags := 2, nameIndex := 11, descriptorIndex := 25, attributes := #[] }, { accessFlags := 9, nameIndex := 82, descriptorIndex := 65, attributes := #[] }, { accessFlags := 1, nameIndex := 73, descriptorIndex := 74, attributes := #[] }, { accessFlags := 1, nameIndex := 68, descriptorIndex := 46, attributes := #[] }] 49 8 #[] #[{ accessFlags := 26, nameIndex := 5, descriptorIndex := 6, attributes := #[] }, { accessFlags := 18, nameIndex := 15, descriptorIndex := 16, attributes := #[] }])
  fields := #[{ name := "EMPTY", type := (.object "java/util/Optional"), accessFlags := 26, slot := 0, constantValue := 0 }, { name := "value", type := (.object "java/lang/Object"), accessFlags := 18, slot := 0, constantValue := 0 }]
  methods := #[k14m0, k14m1, k14m2, k14m3, k14m4]
  instanceTypes := #[(.object "java/lang/Object")]
  staticTypes := #[(.object "java/util/Optional")]
  resolved := Array.replicate 187 none
  statics := some 3 }

def pool15 : Array CpInfo := pool [(2, .class_ 4), (1, u "java/lang/Object"), (0, u "<init>"), (0, u "()V"), (35, .class_ 44), (1, u "java/util/Objects"), (0, u "requireNonNull"), (0, u "(Ljava/lang/Object;)Ljava/lang/Object;")] 137

def k15m0 : Method := { name := "<init>", desc := "()V", sig := { parameters := [], returnType := none }, accessFlags := 2, code := none }
def k15c1 : Code := { maxStack := 2, maxLocals := 1, code := jdk_31_method_10_code, exceptionTable := #[], attributes := #[] }
def k15m1 : Method := { name := "requireNonNull", desc := "(Ljava/lang/Object;)Ljava/lang/Object;", sig := { parameters := [(.object "java/lang/Object")], returnType := some (.object "java/lang/Object") }, accessFlags := 9, code := some k15c1 }
/-- java/util/Objects -/
def k15 : Class := { plain "java/util/Objects" (some 0) with
  accessFlags := 49
  interfaces := #[]
  cf := some (fileOf pool15 42 #[] #[{ accessFlags := 2, nameIndex := 5, descriptorIndex := 6, attributes := #[] }, { accessFlags := 9, nameIndex := 45, descriptorIndex := 46, attributes := #[] }] 49 2 #[] #[])
  fields := #[]
  methods := #[k15m0, k15m1]
  instanceTypes := #[]
  staticTypes := #[]
  resolved := Array.replicate 184 none
  statics := none }

def pool16 : Array CpInfo := pool [(9, u "<init>"), (6, .class_ 18), (1, u "java/lang/Object"), (0, u "()V"), (1, .class_ 23), (1, u "jdk/internal/util/ArraysSupport"), (0, u "LOG2_ARRAY_LONG_INDEX_SCALE"), (0, u "I"), (2, u "U"), (0, u "Ljdk/internal/misc/Unsafe;"), (8, u "BIG_ENDIAN"), (0, u "Z"), (8, u "LOG2_BYTE_BIT_SIZE"), (4, u "LOG2_ARRAY_INT_INDEX_SCALE"), (54, u "JLA"), (0, u "Ljdk/internal/access/JavaLangAccess;"), (11, u "LOG2_ARRAY_BOOLEAN_INDEX_SCALE"), (9, u "LOG2_ARRAY_BYTE_INDEX_SCALE"), (5, u "LOG2_ARRAY_CHAR_INDEX_SCALE"), (5, u "LOG2_ARRAY_SHORT_INDEX_SCALE"), (18, u "LOG2_ARRAY_FLOAT_INDEX_SCALE"), (24, u "LOG2_ARRAY_DOUBLE_INDEX_SCALE"), (89, u "T_BOOLEAN"), (2, u "T_CHAR"), (1, u "T_FLOAT"), (1, u "T_DOUBLE"), (1, u "T_BYTE"), (1, u "T_SHORT"), (1, u "T_INT"), (1, u "T_LONG"), (1, u "SOFT_MAX_ARRAY_LENGTH")] 83

def k16m0 : Method := { name := "<init>", desc := "()V", sig := { parameters := [], returnType := none }, accessFlags := 2, code := none }
/-- jdk/internal/util/ArraysSupport -/
def k16 : Class := { plain "jdk/internal/util/ArraysSupport" (some 0) with
  accessFlags := 33
  interfaces := #[]
  cf := some (fileOf pool16 21 #[] #[{ accessFlags := 2, nameIndex := 9, descriptorIndex := 19, attributes := #[] }] 33 16 #[] #[{ accessFlags := 24, nameIndex := 28, descriptorIndex := 29, attributes := #[] }, { accessFlags := 26, nameIndex := 38, descriptorIndex := 39, attributes := #[] }, { accessFlags := 25, nameIndex := 121, descriptorIndex := 25, attributes := #[] }, { accessFlags := 25, nameIndex := 131, descriptorIndex := 25, attributes := #[] }, { accessFlags := 25, nameIndex := 137, descriptorIndex := 25, attributes := #[] }, { accessFlags := 25, nameIndex := 143, descriptorIndex := 25, attributes := #[] }, { accessFlags := 25, nameIndex := 53, descriptorIndex := 25, attributes := #[] }, { accessFlags := 25, nameIndex := 24, descriptorIndex := 25, attributes := #[] }, { accessFlags := 25, nameIndex := 162, descriptorIndex := 25, attributes := #[] }, { accessFlags := 25, nameIndex := 187, descriptorIndex := 25, attributes := #[] }, { accessFlags := 26, nameIndex := 48, descriptorIndex := 25, attributes := #[] }, { accessFlags := 25, nameIndex := 277, descriptorIndex := 25, attributes := #[] }, { accessFlags := 25, nameIndex := 280, descriptorIndex := 25, attributes := #[] }, { accessFlags := 25, nameIndex := 282, descriptorIndex := 25, attributes := #[] }, { accessFlags := 25, nameIndex := 284, descriptorIndex := 25, attributes := #[] }, { accessFlags := 25, nameIndex := 286, descriptorIndex := 25, attributes := #[] }, { accessFlags := 25, nameIndex := 288, descriptorIndex := 25, attributes := #[] }, { accessFlags := 25, nameIndex := 290, descriptorIndex := 25, attributes := #[] }, { accessFlags := 25, nameIndex := 292, descriptorIndex := 25, attributes := #[] }, { accessFlags := 26, nameIndex := 108, descriptorIndex := 109, attributes := #[] }, { accessFlags := 25, nameIndex := 294, descriptorIndex := 25, attributes := #[] }])
  fields := #[{ name := "U", type := (.object "jdk/internal/misc/Unsafe"), accessFlags := 24, slot := 0, constantValue := 0 }, { name := "BIG_ENDIAN", type := .boolean, accessFlags := 26, slot := 1, constantValue := 0 }, { name := "LOG2_ARRAY_BOOLEAN_INDEX_SCALE", type := .int, accessFlags := 25, slot := 2, constantValue := 0 }, { name := "LOG2_ARRAY_BYTE_INDEX_SCALE", type := .int, accessFlags := 25, slot := 3, constantValue := 0 }, { name := "LOG2_ARRAY_CHAR_INDEX_SCALE", type := .int, accessFlags := 25, slot := 4, constantValue := 0 }, { name := "LOG2_ARRAY_SHORT_INDEX_SCALE", type := .int, accessFlags := 25, slot := 5, constantValue := 0 }, { name := "LOG2_ARRAY_INT_INDEX_SCALE", type := .int, accessFlags := 25, slot := 6, constantValue := 0 }, { name := "LOG2_ARRAY_LONG_INDEX_SCALE", type := .int, accessFlags := 25, slot := 7, constantValue := 0 }, { name := "LOG2_ARRAY_FLOAT_INDEX_SCALE", type := .int, accessFlags := 25, slot := 8, constantValue := 0 }, { name := "LOG2_ARRAY_DOUBLE_INDEX_SCALE", type := .int, accessFlags := 25, slot := 9, constantValue := 0 }, { name := "LOG2_BYTE_BIT_SIZE", type := .int, accessFlags := 26, slot := 10, constantValue := 0 }, { name := "T_BOOLEAN", type := .int, accessFlags := 25, slot := 11, constantValue := 0 }, { name := "T_CHAR", type := .int, accessFlags := 25, slot := 12, constantValue := 0 }, { name := "T_FLOAT", type := .int, accessFlags := 25, slot := 13, constantValue := 0 }, { name := "T_DOUBLE", type := .int, accessFlags := 25, slot := 14, constantValue := 0 }, { name := "T_BYTE", type := .int, accessFlags := 25, slot := 15, constantValue := 0 }, { name := "T_SHORT", type := .int, accessFlags := 25, slot := 16, constantValue := 0 }, { name := "T_INT", type := .int, accessFlags := 25, slot := 17, constantValue := 0 }, { name := "T_LONG", type := .int, accessFlags := 25, slot := 18, constantValue := 0 }, { name := "JLA", type := (.object "jdk/internal/access/JavaLangAccess"), accessFlags := 26, slot := 19, constantValue := 0 }, { name := "SOFT_MAX_ARRAY_LENGTH", type := .int, accessFlags := 25, slot := 20, constantValue := 0 }]
  methods := #[k16m0]
  instanceTypes := #[]
  staticTypes := #[(.object "jdk/internal/misc/Unsafe"), .boolean, .int, .int, .int, .int, .int, .int, .int, .int, .int, .int, .int, .int, .int, .int, .int, .int, .int, (.object "jdk/internal/access/JavaLangAccess"), .int]
  resolved := Array.replicate 378 none
  statics := none }

/-- the primitive byte -/
def k17 : Class := { plain "byte" none with kind := .primitive 'B', accessFlags := 0x411 }
/-- [B -/
def k18 : Class := { plain "[B" (some 0) with kind := .array 17 .byte, interfaces := #[13, 2], accessFlags := 1041 }

/-- the primitive char -/
def k19 : Class := { plain "char" none with kind := .primitive 'C', accessFlags := 0x411 }
/-- [C -/
def k20 : Class := { plain "[C" (some 0) with kind := .array 19 .char, interfaces := #[13, 2], accessFlags := 1041 }

/-- the primitive int -/
def k21 : Class := { plain "int" none with kind := .primitive 'I', accessFlags := 0x411 }
/-- [I -/
def k22 : Class := { plain "[I" (some 0) with kind := .array 21 .int, interfaces := #[13, 2], accessFlags := 1041 }

/-- [Lcom/example/vestledger/vestledger/number/Rounding; -/
def k23 : Class := { plain "[Lcom/example/vestledger/vestledger/number/Rounding;" (some 0) with kind := .array 12 (.object "com/example/vestledger/vestledger/number/Rounding"), interfaces := #[13, 2], accessFlags := 1041 }

def heap : Heap := #[{ cls := 7, slots := #[.long 0, .int 1, .null, .int 0, .null, .int 0, .int 0], vm := .statics 7 },
  { cls := 9, slots := #[.null, .null, .null], vm := .statics 9 },
  { cls := 12, slots := #[.ref 5, .ref 6, .ref 7, .null, .ref 4], vm := .statics 12 },
  { cls := 14, slots := #[.ref 14], vm := .statics 14 },
  { cls := 23, slots := #[.ref 5, .ref 6, .ref 7], vm := .none },
  { cls := 12, slots := #[.null, .int 0, .int 0, .ref 8], vm := .none },
  { cls := 12, slots := #[.null, .int 1, .int 0, .ref 9], vm := .none },
  { cls := 12, slots := #[.null, .int 2, .int 0, .ref 10], vm := .none },
  { cls := 7, slots := #[.ref 11, .int 0, .int 0, .int 0], vm := .none },
  { cls := 7, slots := #[.ref 12, .int 0, .int 0, .int 0], vm := .none },
  { cls := 7, slots := #[.ref 13, .int 0, .int 0, .int 0], vm := .none },
  { cls := 18, slots := #[.int 100, .int 111, .int 119, .int 110], vm := .none },
  { cls := 18, slots := #[.int 104, .int 97, .int 108, .int 102, .int 45, .int 117, .int 112], vm := .none },
  { cls := 18, slots := #[.int 117, .int 112], vm := .none },
  { cls := 14, slots := #[.null], vm := .none }]
def classes : Array Class := #[k0, k1, k2, k3, k4, k5, k6, k7, k8, k9, k10, k11, k12, k13, k14, k15, k16, k17, k18, k19, k20, k21, k22, k23]
def interned : List (Array UInt16 × Addr) := []
def slotsUsed : Nat := 57
def theMethod : MethodId := ⟨1, 1⟩
def args0 : Array Value := #[.int 2, .long 65, .int 3]
def aboutOver (below : List Frame) : State where
  vm := { classes := classes, interned := interned.toArray }
  heap := heap
  slotsUsed := slotsUsed
  threads := #[{ frames := .invoking theMethod args0 :: below }]
def below0 : List Frame := [.native { method := ⟨0, 0⟩, args := #[] }]
def about1 : State := aboutOver below0
def p0 : Program := .bare "" "" ""
def e0 : Env := launch0.env 0 0 0
theorem w_frames : about1.frames = Frame.invoking theMethod args0 :: below0 := rfl
set_option maxRecDepth 65536 in
theorem w_args : argsFit about1.vm theMethod args0 = true := by decide +kernel
set_option maxRecDepth 65536 in
theorem w_heap : heapFits about1 = true := by decide +kernel
set_option maxRecDepth 65536 in
theorem w_runnable : about1.curStatus? = some .runnable := by decide +kernel
set_option maxRecDepth 65536 in
theorem w_alone : about1.alone = true := by decide +kernel
set_option maxRecDepth 65536 in
theorem w_named : about1.methodNamed? x = some theMethod := by decide +kernel
set_option maxRecDepth 65536 in
theorem w_hears : about1.hears theMethod below0 = true := by decide +kernel
set_option maxRecDepth 65536 in
theorem w_ripe : about1.ripe theMethod args0 below0 = true := by decide +kernel
theorem w_running : about1.status = .running := rfl
set_option maxRecDepth 65536 in
theorem w_room : about1.hasRoom e0.platform room_1 = true :=
  launch0.hasRoom_least _ room_1 (by decide +kernel) (by decide +kernel) (by decide +kernel) (by decide +kernel) (by decide +kernel) (by decide +kernel)
theorem allAtoms_all (ts : List Jvm.Cond) (a : Array Jvm.Value) (st : Jvm.State) : (allAtoms ts).before a st = ts.all (fun c => c.before a st) := by
  induction ts with
  | nil => rfl
  | cons c t ih =>
    show (Jvm.Cond.and c (allAtoms t)).before a st = _
    rw [Jvm.Cond.before_and, ih, List.all_cons]
def words1 : List Jvm.Cond := Jvm.Cond.code x code maxLocals ret :: tables_1
/-- a 'code' word, met by the world's own term for the bytes: nothing is compared byte by byte -/
theorem code_word {y : MethodName} {bytes : ByteArray} {mx : Nat} {rt : Option FieldType} {a : Array Value} {s : State} {m : MethodId} {meth : Method} {c : Code} (h1 : s.methodNamed? y = some m) (h2 : s.vm.method? m = some meth) (h3 : meth.code = some c) (h4 : c.code = bytes)
    (h5 : (c.maxLocals == mx && c.exceptionTable.isEmpty && decide (c.maxStack ≤ mostOperands) && decide (meth.sig.returnType = rt) && !meth.locks && decide (parseMethodDescriptor y.desc = some meth.sig)) = true) : (Jvm.Cond.code y bytes mx rt).before a s = true := by
  simp only [Bool.and_eq_true, beq_iff_eq, Bool.not_eq_true', decide_eq_true_eq] at h5
  obtain ⟨⟨⟨⟨⟨g1, g2⟩, g3⟩, g4⟩, g5⟩, g6⟩ := h5
  simp [Cond.before, Cond.holds, Cond.value, h1, h2, h3, h4, g1, g2, g3, g4, g5, g6]
def isCode : Jvm.Cond → Bool
  | .code _ _ _ _ => true
  | _ => false
theorem all_split {L : List Jvm.Cond} {P : Jvm.Cond → Bool} (h1 : L.all (fun c => isCode c || P c) = true) (h2 : ∀ c ∈ L.filter isCode, P c = true) : L.all P = true := by
  refine List.all_eq_true.mpr fun c hc => ?_
  have h := List.all_eq_true.mp h1 c hc
  rcases Bool.eq_false_or_eq_true (isCode c) with hi | hi
  · exact h2 c (List.mem_filter.mpr ⟨hc, hi⟩)
  · simpa [hi] using h
set_option maxRecDepth 65536 in
theorem w_c0 : (Jvm.Cond.code x code maxLocals ret).before args0 about1 = true := code_word (m := ⟨1, 1⟩) (meth := k1m1) (c := k1c1) (by decide +kernel) rfl rfl rfl (by decide +kernel)
set_option maxRecDepth 65536 in
theorem w_c1 : (Jvm.Cond.code ({ cls := "com/example/vestledger/vestledger/number/RoundingNamedPinLaw", name := "pick", desc := "(ILjava/lang/String;IIJ)C" } : Jvm.MethodName) method_3_code (7 : Nat) (Option.some Jvm.ClassFile.FieldType.char)).before args0 about1 = true := code_word (m := ⟨1, 2⟩) (meth := k1m2) (c := k1c2) (by decide +kernel) rfl rfl rfl (by decide +kernel)
set_option maxRecDepth 65536 in
theorem w_c2 : (Jvm.Cond.code ({ cls := "java/lang/String", name := "length", desc := "()I" } : Jvm.MethodName) jdk_42_method_54_code (1 : Nat) (Option.some Jvm.ClassFile.FieldType.int)).before args0 about1 = true := code_word (m := ⟨7, 2⟩) (meth := k7m2) (c := k7c2) (by decide +kernel) rfl rfl rfl (by decide +kernel)
set_option maxRecDepth 65536 in
theorem w_c3 : (Jvm.Cond.code ({ cls := "java/lang/String", name := "coder", desc := "()B" } : Jvm.MethodName) jdk_42_method_152_code (1 : Nat) (Option.some Jvm.ClassFile.FieldType.byte)).before args0 about1 = true := code_word (m := ⟨7, 6⟩) (meth := k7m6) (c := k7c6) (by decide +kernel) rfl rfl rfl (by decide +kernel)
set_option maxRecDepth 65536 in
theorem w_c4 : (Jvm.Cond.code ({ cls := "java/lang/String", name := "charAt", desc := "(I)C" } : Jvm.MethodName) jdk_42_method_56_code (2 : Nat) (Option.some Jvm.ClassFile.FieldType.char)).before args0 about1 = true := code_word (m := ⟨7, 3⟩) (meth := k7m3) (c := k7c3) (by decide +kernel) rfl rfl rfl (by decide +kernel)
set_option maxRecDepth 65536 in
theorem w_c5 : (Jvm.Cond.code ({ cls := "java/lang/String", name := "isLatin1", desc := "()Z" } : Jvm.MethodName) jdk_42_method_154_code (1 : Nat) (Option.some Jvm.ClassFile.FieldType.boolean)).before args0 about1 = true := code_word (m := ⟨7, 7⟩) (meth := k7m7) (c := k7c7) (by decide +kernel) rfl rfl rfl (by decide +kernel)
set_option maxRecDepth 65536 in
theorem w_c6 : (Jvm.Cond.code ({ cls := "java/lang/StringLatin1", name := "charAt", desc := "([BI)C" } : Jvm.MethodName) jdk_43_method_2_code (2 : Nat) (Option.some Jvm.ClassFile.FieldType.char)).before args0 about1 = true := code_word (m := ⟨8, 1⟩) (meth := k8m1) (c := k8c1) (by decide +kernel) rfl rfl rfl (by decide +kernel)
set_option maxRecDepth 65536 in
theorem w_c7 : (Jvm.Cond.code ({ cls := "java/lang/String", name := "checkIndex", desc := "(II)V" } : Jvm.MethodName) jdk_42_method_155_code (2 : Nat) (Option.none : Option Jvm.ClassFile.FieldType)).before args0 about1 = true := code_word (m := ⟨7, 8⟩) (meth := k7m8) (c := k7c8) (by decide +kernel) rfl rfl rfl (by decide +kernel)
set_option maxRecDepth 65536 in
theorem w_c8 : (Jvm.Cond.code ({ cls := "jdk/internal/util/Preconditions", name := "checkIndex", desc := "(IILjava/util/function/BiFunction;)I" } : Jvm.MethodName) jdk_41_method_11_code (3 : Nat) (Option.some Jvm.ClassFile.FieldType.int)).before args0 about1 = true := code_word (m := ⟨9, 1⟩) (meth := k9m1) (c := k9c1) (by decide +kernel) rfl rfl rfl (by decide +kernel)
set_option maxRecDepth 65536 in
theorem w_c9 : (Jvm.Cond.code ({ cls := "com/example/vestledger/vestledger/number/RoundingNamedPinLaw", name := "str", desc := "([CI)Ljava/lang/String;" } : Jvm.MethodName) method_4_code (2 : Nat) (Option.some (Jvm.ClassFile.FieldType.object "java/lang/String"))).before args0 about1 = true := code_word (m := ⟨1, 3⟩) (meth := k1m3) (c := k1c3) (by decide +kernel) rfl rfl rfl (by decide +kernel)
set_option maxRecDepth 65536 in
theorem w_c10 : (Jvm.Cond.code ({ cls := "java/lang/String", name := "<init>", desc := "([C)V" } : Jvm.MethodName) jdk_42_method_3_code (2 : Nat) (Option.none : Option Jvm.ClassFile.FieldType)).before args0 about1 = true := code_word (m := ⟨7, 1⟩) (meth := k7m1) (c := k7c1) (by decide +kernel) rfl rfl rfl (by decide +kernel)
set_option maxRecDepth 65536 in
theorem w_c11 : (Jvm.Cond.code ({ cls := "java/lang/String", name := "<init>", desc := "([CIILjava/lang/Void;)V" } : Jvm.MethodName) jdk_42_method_149_code (6 : Nat) (Option.none : Option Jvm.ClassFile.FieldType)).before args0 about1 = true := code_word (m := ⟨7, 5⟩) (meth := k7m5) (c := k7c5) (by decide +kernel) rfl rfl rfl (by decide +kernel)
set_option maxRecDepth 65536 in
theorem w_c12 : (Jvm.Cond.code ({ cls := "java/lang/Object", name := "<init>", desc := "()V" } : Jvm.MethodName) object_method_1_code (1 : Nat) (Option.none : Option Jvm.ClassFile.FieldType)).before args0 about1 = true := code_word (m := ⟨0, 0⟩) (meth := k0m0) (c := k0c0) (by decide +kernel) rfl rfl rfl (by decide +kernel)
set_option maxRecDepth 65536 in
theorem w_c13 : (Jvm.Cond.code ({ cls := "java/lang/StringUTF16", name := "compress", desc := "([CII)[B" } : Jvm.MethodName) jdk_52_method_16_code (6 : Nat) (Option.some (Jvm.ClassFile.FieldType.array Jvm.ClassFile.FieldType.byte))).before args0 about1 = true := code_word (m := ⟨10, 2⟩) (meth := k10m2) (c := k10c2) (by decide +kernel) rfl rfl rfl (by decide +kernel)
set_option maxRecDepth 65536 in
theorem w_c14 : (Jvm.Cond.code ({ cls := "java/lang/StringUTF16", name := "compress", desc := "([CI[BII)I" } : Jvm.MethodName) jdk_52_method_21_code (7 : Nat) (Option.some Jvm.ClassFile.FieldType.int)).before args0 about1 = true := code_word (m := ⟨10, 3⟩) (meth := k10m3) (c := k10c3) (by decide +kernel) rfl rfl rfl (by decide +kernel)
set_option maxRecDepth 65536 in
theorem w_c15 : (Jvm.Cond.code ({ cls := "java/lang/StringUTF16", name := "coderFromArrayLen", desc := "([BI)B" } : Jvm.MethodName) jdk_52_method_15_code (2 : Nat) (Option.some Jvm.ClassFile.FieldType.byte)).before args0 about1 = true := code_word (m := ⟨10, 1⟩) (meth := k10m1) (c := k10c1) (by decide +kernel) rfl rfl rfl (by decide +kernel)
set_option maxRecDepth 65536 in
theorem w_c16 : (Jvm.Cond.code ({ cls := "com/example/vestledger/vestledger/number/Rounding", name := "named", desc := "(Ljava/lang/String;)Ljava/util/Optional;" } : Jvm.MethodName) prog_10_method_4_code (5 : Nat) (Option.some (Jvm.ClassFile.FieldType.object "java/util/Optional"))).before args0 about1 = true := code_word (m := ⟨12, 1⟩) (meth := k12m1) (c := k12c1) (by decide +kernel) rfl rfl rfl (by decide +kernel)
set_option maxRecDepth 65536 in
theorem w_c17 : (Jvm.Cond.code ({ cls := "com/example/vestledger/vestledger/number/Rounding", name := "values", desc := "()[Lcom/example/vestledger/vestledger/number/Rounding;" } : Jvm.MethodName) prog_10_method_1_code (0 : Nat) (Option.some (Jvm.ClassFile.FieldType.array (Jvm.ClassFile.FieldType.object "com/example/vestledger/vestledger/number/Rounding")))).before args0 about1 = true := code_word (m := ⟨12, 0⟩) (meth := k12m0) (c := k12c0) (by decide +kernel) rfl rfl rfl (by decide +kernel)
set_option maxRecDepth 65536 in
theorem w_c18 : (Jvm.Cond.code ({ cls := "java/lang/String", name := "equals", desc := "(Ljava/lang/Object;)Z" } : Jvm.MethodName) jdk_42_method_66_code (3 : Nat) (Option.some Jvm.ClassFile.FieldType.boolean)).before args0 about1 = true := code_word (m := ⟨7, 4⟩) (meth := k7m4) (c := k7c4) (by decide +kernel) rfl rfl rfl (by decide +kernel)
set_option maxRecDepth 65536 in
theorem w_c19 : (Jvm.Cond.code ({ cls := "java/lang/StringLatin1", name := "equals", desc := "([B[B)Z" } : Jvm.MethodName) jdk_43_method_13_code (3 : Nat) (Option.some Jvm.ClassFile.FieldType.boolean)).before args0 about1 = true := code_word (m := ⟨8, 2⟩) (meth := k8m2) (c := k8c2) (by decide +kernel) rfl rfl rfl (by decide +kernel)
set_option maxRecDepth 65536 in
theorem w_c20 : (Jvm.Cond.code ({ cls := "java/util/Optional", name := "empty", desc := "()Ljava/util/Optional;" } : Jvm.MethodName) jdk_32_method_1_code (1 : Nat) (Option.some (Jvm.ClassFile.FieldType.object "java/util/Optional"))).before args0 about1 = true := code_word (m := ⟨14, 0⟩) (meth := k14m0) (c := k14c0) (by decide +kernel) rfl rfl rfl (by decide +kernel)
set_option maxRecDepth 65536 in
theorem w_c21 : (Jvm.Cond.code ({ cls := "java/util/Optional", name := "isPresent", desc := "()Z" } : Jvm.MethodName) jdk_32_method_6_code (1 : Nat) (Option.some Jvm.ClassFile.FieldType.boolean)).before args0 about1 = true := code_word (m := ⟨14, 4⟩) (meth := k14m4) (c := k14c4) (by decide +kernel) rfl rfl rfl (by decide +kernel)
set_option maxRecDepth 65536 in
theorem w_c22 : (Jvm.Cond.code ({ cls := "java/util/Optional", name := "of", desc := "(Ljava/lang/Object;)Ljava/util/Optional;" } : Jvm.MethodName) jdk_32_method_3_code (1 : Nat) (Option.some (Jvm.ClassFile.FieldType.object "java/util/Optional"))).before args0 about1 = true := code_word (m := ⟨14, 2⟩) (meth := k14m2) (c := k14c2) (by decide +kernel) rfl rfl rfl (by decide +kernel)
set_option maxRecDepth 65536 in
theorem w_c23 : (Jvm.Cond.code ({ cls := "java/util/Objects", name := "requireNonNull", desc := "(Ljava/lang/Object;)Ljava/lang/Object;" } : Jvm.MethodName) jdk_31_method_10_code (1 : Nat) (Option.some (Jvm.ClassFile.FieldType.object "java/lang/Object"))).before args0 about1 = true := code_word (m := ⟨15, 1⟩) (meth := k15m1) (c := k15c1) (by decide +kernel) rfl rfl rfl (by decide +kernel)
set_option maxRecDepth 65536 in
theorem w_c24 : (Jvm.Cond.code ({ cls := "java/util/Optional", name := "<init>", desc := "(Ljava/lang/Object;)V" } : Jvm.MethodName) jdk_32_method_2_code (2 : Nat) (Option.none : Option Jvm.ClassFile.FieldType)).before args0 about1 = true := code_word (m := ⟨14, 1⟩) (meth := k14m1) (c := k14c1) (by decide +kernel) rfl rfl rfl (by decide +kernel)
set_option maxRecDepth 65536 in
theorem w_c25 : (Jvm.Cond.code ({ cls := "java/util/Optional", name := "get", desc := "()Ljava/lang/Object;" } : Jvm.MethodName) jdk_32_method_5_code (1 : Nat) (Option.some (Jvm.ClassFile.FieldType.object "java/lang/Object"))).before args0 about1 = true := code_word (m := ⟨14, 3⟩) (meth := k14m3) (c := k14c3) (by decide +kernel) rfl rfl rfl (by decide +kernel)
def codes1 : List Jvm.Cond := [Jvm.Cond.code x code maxLocals ret, Jvm.Cond.code ({ cls := "com/example/vestledger/vestledger/number/RoundingNamedPinLaw", name := "pick", desc := "(ILjava/lang/String;IIJ)C" } : Jvm.MethodName) method_3_code (7 : Nat) (Option.some Jvm.ClassFile.FieldType.char), Jvm.Cond.code ({ cls := "java/lang/String", name := "length", desc := "()I" } : Jvm.MethodName) jdk_42_method_54_code (1 : Nat) (Option.some Jvm.ClassFile.FieldType.int), Jvm.Cond.code ({ cls := "java/lang/String", name := "coder", desc := "()B" } : Jvm.MethodName) jdk_42_method_152_code (1 : Nat) (Option.some Jvm.ClassFile.FieldType.byte), Jvm.Cond.code ({ cls := "java/lang/String", name := "charAt", desc := "(I)C" } : Jvm.MethodName) jdk_42_method_56_code (2 : Nat) (Option.some Jvm.ClassFile.FieldType.char), Jvm.Cond.code ({ cls := "java/lang/String", name := "isLatin1", desc := "()Z" } : Jvm.MethodName) jdk_42_method_154_code (1 : Nat) (Option.some Jvm.ClassFile.FieldType.boolean), Jvm.Cond.code ({ cls := "java/lang/StringLatin1", name := "charAt", desc := "([BI)C" } : Jvm.MethodName) jdk_43_method_2_code (2 : Nat) (Option.some Jvm.ClassFile.FieldType.char), Jvm.Cond.code ({ cls := "java/lang/String", name := "checkIndex", desc := "(II)V" } : Jvm.MethodName) jdk_42_method_155_code (2 : Nat) (Option.none : Option Jvm.ClassFile.FieldType), Jvm.Cond.code ({ cls := "jdk/internal/util/Preconditions", name := "checkIndex", desc := "(IILjava/util/function/BiFunction;)I" } : Jvm.MethodName) jdk_41_method_11_code (3 : Nat) (Option.some Jvm.ClassFile.FieldType.int), Jvm.Cond.code ({ cls := "com/example/vestledger/vestledger/number/RoundingNamedPinLaw", name := "str", desc := "([CI)Ljava/lang/String;" } : Jvm.MethodName) method_4_code (2 : Nat) (Option.some (Jvm.ClassFile.FieldType.object "java/lang/String")), Jvm.Cond.code ({ cls := "java/lang/String", name := "<init>", desc := "([C)V" } : Jvm.MethodName) jdk_42_method_3_code (2 : Nat) (Option.none : Option Jvm.ClassFile.FieldType), Jvm.Cond.code ({ cls := "java/lang/String", name := "<init>", desc := "([CIILjava/lang/Void;)V" } : Jvm.MethodName) jdk_42_method_149_code (6 : Nat) (Option.none : Option Jvm.ClassFile.FieldType), Jvm.Cond.code ({ cls := "java/lang/Object", name := "<init>", desc := "()V" } : Jvm.MethodName) object_method_1_code (1 : Nat) (Option.none : Option Jvm.ClassFile.FieldType), Jvm.Cond.code ({ cls := "java/lang/StringUTF16", name := "compress", desc := "([CII)[B" } : Jvm.MethodName) jdk_52_method_16_code (6 : Nat) (Option.some (Jvm.ClassFile.FieldType.array Jvm.ClassFile.FieldType.byte)), Jvm.Cond.code ({ cls := "java/lang/StringUTF16", name := "compress", desc := "([CI[BII)I" } : Jvm.MethodName) jdk_52_method_21_code (7 : Nat) (Option.some Jvm.ClassFile.FieldType.int), Jvm.Cond.code ({ cls := "java/lang/StringUTF16", name := "coderFromArrayLen", desc := "([BI)B" } : Jvm.MethodName) jdk_52_method_15_code (2 : Nat) (Option.some Jvm.ClassFile.FieldType.byte), Jvm.Cond.code ({ cls := "com/example/vestledger/vestledger/number/Rounding", name := "named", desc := "(Ljava/lang/String;)Ljava/util/Optional;" } : Jvm.MethodName) prog_10_method_4_code (5 : Nat) (Option.some (Jvm.ClassFile.FieldType.object "java/util/Optional")), Jvm.Cond.code ({ cls := "com/example/vestledger/vestledger/number/Rounding", name := "values", desc := "()[Lcom/example/vestledger/vestledger/number/Rounding;" } : Jvm.MethodName) prog_10_method_1_code (0 : Nat) (Option.some (Jvm.ClassFile.FieldType.array (Jvm.ClassFile.FieldType.object "com/example/vestledger/vestledger/number/Rounding"))), Jvm.Cond.code ({ cls := "java/lang/String", name := "equals", desc := "(Ljava/lang/Object;)Z" } : Jvm.MethodName) jdk_42_method_66_code (3 : Nat) (Option.some Jvm.ClassFile.FieldType.boolean), Jvm.Cond.code ({ cls := "java/lang/StringLatin1", name := "equals", desc := "([B[B)Z" } : Jvm.MethodName) jdk_43_method_13_code (3 : Nat) (Option.some Jvm.ClassFile.FieldType.boolean), Jvm.Cond.code ({ cls := "java/util/Optional", name := "empty", desc := "()Ljava/util/Optional;" } : Jvm.MethodName) jdk_32_method_1_code (1 : Nat) (Option.some (Jvm.ClassFile.FieldType.object "java/util/Optional")), Jvm.Cond.code ({ cls := "java/util/Optional", name := "isPresent", desc := "()Z" } : Jvm.MethodName) jdk_32_method_6_code (1 : Nat) (Option.some Jvm.ClassFile.FieldType.boolean), Jvm.Cond.code ({ cls := "java/util/Optional", name := "of", desc := "(Ljava/lang/Object;)Ljava/util/Optional;" } : Jvm.MethodName) jdk_32_method_3_code (1 : Nat) (Option.some (Jvm.ClassFile.FieldType.object "java/util/Optional")), Jvm.Cond.code ({ cls := "java/util/Objects", name := "requireNonNull", desc := "(Ljava/lang/Object;)Ljava/lang/Object;" } : Jvm.MethodName) jdk_31_method_10_code (1 : Nat) (Option.some (Jvm.ClassFile.FieldType.object "java/lang/Object")), Jvm.Cond.code ({ cls := "java/util/Optional", name := "<init>", desc := "(Ljava/lang/Object;)V" } : Jvm.MethodName) jdk_32_method_2_code (2 : Nat) (Option.none : Option Jvm.ClassFile.FieldType), Jvm.Cond.code ({ cls := "java/util/Optional", name := "get", desc := "()Ljava/lang/Object;" } : Jvm.MethodName) jdk_32_method_5_code (1 : Nat) (Option.some (Jvm.ClassFile.FieldType.object "java/lang/Object"))]
set_option maxRecDepth 65536 in
theorem codes_eq : words1.filter isCode = codes1 := rfl
theorem w_codes : ∀ c ∈ words1.filter isCode, c.before args0 about1 = true := by
  rw [codes_eq]
  intro c hc
  simp only [codes1, List.mem_cons, List.not_mem_nil, or_false] at hc
  rcases hc with rfl | rfl | rfl | rfl | rfl | rfl | rfl | rfl | rfl | rfl | rfl | rfl | rfl | rfl | rfl | rfl | rfl | rfl | rfl | rfl | rfl | rfl | rfl | rfl | rfl | rfl
  · exact w_c0
  · exact w_c1
  · exact w_c2
  · exact w_c3
  · exact w_c4
  · exact w_c5
  · exact w_c6
  · exact w_c7
  · exact w_c8
  · exact w_c9
  · exact w_c10
  · exact w_c11
  · exact w_c12
  · exact w_c13
  · exact w_c14
  · exact w_c15
  · exact w_c16
  · exact w_c17
  · exact w_c18
  · exact w_c19
  · exact w_c20
  · exact w_c21
  · exact w_c22
  · exact w_c23
  · exact w_c24
  · exact w_c25
set_option maxRecDepth 65536 in
theorem w_t1 : (words1.take 24).all (fun c => isCode c || c.before args0 about1) = true := by decide +kernel
set_option maxRecDepth 65536 in
theorem w_t2 : ((words1.drop 24).take 24).all (fun c => isCode c || c.before args0 about1) = true := by decide +kernel
set_option maxRecDepth 65536 in
theorem w_t3 : (((words1.drop 24).drop 24).take 24).all (fun c => isCode c || c.before args0 about1) = true := by decide +kernel
set_option maxRecDepth 65536 in
theorem w_t4 : ((((words1.drop 24).drop 24).drop 24).take 24).all (fun c => isCode c || c.before args0 about1) = true := by decide +kernel
set_option maxRecDepth 65536 in
theorem w_t5 : (((((words1.drop 24).drop 24).drop 24).drop 24).take 24).all (fun c => isCode c || c.before args0 about1) = true := by decide +kernel
set_option maxRecDepth 65536 in
theorem w_t6 : (((((words1.drop 24).drop 24).drop 24).drop 24).drop 24).all (fun c => isCode c || c.before args0 about1) = true := by decide +kernel
theorem w_tables : (allAtoms (Jvm.Cond.code x code maxLocals ret :: tables_1)).before args0 about1 = true := by
  rw [allAtoms_all]
  show words1.all (fun c => c.before args0 about1) = true
  refine all_split ?_ w_codes
  rw [← List.take_append_drop 24 words1, List.all_append, w_t1, ← List.take_append_drop 24 (words1.drop 24), List.all_append, w_t2, ← List.take_append_drop 24 ((words1.drop 24).drop 24), List.all_append, w_t3, ← List.take_append_drop 24 (((words1.drop 24).drop 24).drop 24), List.all_append, w_t4, ← List.take_append_drop 24 ((((words1.drop 24).drop 24).drop 24).drop 24), List.all_append, w_t5, w_t6]
  rfl
set_option maxRecDepth 65536 in
theorem w_rest : rest_1_c.before args0 about1 = true := by decide +kernel
set_option maxRecDepth 65536 in
theorem w_case : (Jvm.Cond.and given_1 narrow_1).before args0 about1 = true := by decide +kernel
set_option maxRecDepth 65536 in
theorem w_consts : constsHeld consts_1 about1 := Jvm.Lit.constsHeldB_iff.mp (by decide +kernel)
theorem w_applies : (headSpec (Jvm.Cond.code x code maxLocals ret :: tables_1) room_1).applies x e0.platform about1 = true :=
  (Spec.applies_iff w_frames).mpr ⟨w_running, w_runnable, w_alone, w_named, w_hears, w_ripe, w_room, w_tables⟩
theorem atStart : AtStart classFile x code maxLocals ret World_1 tables_1 room_1 Calls_1 rest_1 Pre_1 launch0 p0 e0 about1 theMethod args0 below0 :=
  ⟨lists_1, trivial, launch0.admits_env _ _ _, launch0.least_env, fairChoices_fair.cas, fairChoices_fair.clock, w_frames, w_args, w_heap, w_applies, ⟨w_consts, trivial⟩, w_rest, w_case⟩
end start1
theorem witness_1 : WitnessClaimed_1 := ⟨start1.p0, start1.e0, start1.about1, start1.theMethod, start1.args0, start1.below0, start1.atStart⟩
end Jvm.Pilot.@@N@@
