import JvmDerived
import JvmDerived.Pilot.@@N@@Statement
import JvmDerived.Pilot.@@N@@Code
set_option linter.unusedVariables false
set_option linter.unusedSimpArgs false
namespace Jvm.Own
open Jvm Jvm.ClassFile Sem Op Lib Jvm.Free Jvm.Stand Jvm.LawKit Jvm.RoadKit Bundle
/-! OWN LAYER: one bundle (W) for all that a walk knows of the machine; one goal (Go): from this state the method returns as Q says. Every step is a law 'W.step w .. : Go (behind) → Go (before)'. -/
abbrev Ka : Type := Program × Env × State × MethodId × List Frame × Method × Code × Array Value
abbrev kp (κ : Ka) : Program := κ.1
abbrev ke (κ : Ka) : Env := κ.2.1
abbrev ks (κ : Ka) : State := κ.2.2.1
abbrev km (κ : Ka) : MethodId := κ.2.2.2.1
abbrev kb (κ : Ka) : List Frame := κ.2.2.2.2.1
abbrev kt (κ : Ka) : Method := κ.2.2.2.2.2.1
abbrev kc (κ : Ka) : Code := κ.2.2.2.2.2.2.1
abbrev ka (κ : Ka) : Array Value := κ.2.2.2.2.2.2.2
/-- how a walk ends: the wide frame; under nar the narrow one too -/
def EndOk (nw : Bool) (U : State) (o : Outcome) (U' : State) (L : List Loc) (k n : Nat) : Prop := ReturnedEndW U o U' L k n ∧ (nw = true → FrameEnd U o U' L k n)
/-- the places that the walk may write: made since the law's start, and no String constant's -/
def Mut (Z : State) (EL : List (String × Nat)) (vm : Vm) (h : Heap) (M : List Addr) : Prop := ∀ x ∈ M, Z.heap.size ≤ x ∧ x < h.size ∧ Safe Z EL vm h x
def Ctr (l : Launch) (Z : State) (EL : List (String × Nat)) (nw : Bool) (y : MethodName) (bytes : ByteArray) (ml : Nat) (ret : Option FieldType) (rm : Room) (as : List Value) (h0 : Heap) (M : List Addr) (Q : Option Value → Heap → List Addr → Prop) : Prop :=
  MetFree l y (head1 [Cond.code y bytes ml ret] rm) (fun a U => a = as.toArray ∧ Z.Warmed39 U.vm ∧ U.heap = h0 ∧ CHv Z EL U.vm h0 ∧ Mut Z EL U.vm h0 M) (fun _ _ _ _ _ => True)
    (fun _ U o U' => ∃ v L M', o = .returned v ∧ Q v U'.heap M' ∧ Fr Z.heap.size L ∧ CHr Z EL U.vm U.heap U'.vm U'.heap ∧ Mut Z EL U'.vm U'.heap M' ∧ Old Z Z.heap.size U'.heap ∧ EndOk nw U o U' L rm.cells rm.slots)
def W (l : Launch) (Z : State) (a0 : Array Value) (EL : List (String × Nat)) (nw : Bool) (own : String) (bytes : ByteArray) (ml : Nat) (ret : Option FieldType) (R : Room) (κ : Ka) (T : State) (h : Heap) (M : List Addr) (cells slots : Nat) : Prop :=
  ((kp κ).tables.exec = Jvm.exec ∧ (kc κ).code = bytes ∧ (kc κ).maxLocals = ml ∧ (kt κ).sig.returnType = ret ∧ (kt κ).locks = false ∧ EW Z a0 EL) ∧
  ∃ (vm0 : Vm) (k0 : Nat) (locs : List Loc), Stand (kp κ) l (ke κ) R ((ks κ).setVm vm0) (km κ) (ka κ) (kb κ) (kt κ) (kc κ) T locs cells slots ∧ Fr Z.heap.size locs ∧ Z.Warmed39 vm0 ∧ vm0.findClass own = some (km κ).cls ∧ (ks κ).Since vm0 k0 ∧ k0 ≤ h.size ∧ T.heap = h ∧
    CHr Z EL (ks κ).vm (ks κ).heap vm0 h ∧ Mut Z EL vm0 h M ∧ Old Z Z.heap.size h ∧ (nw = true → (ks κ).WarmedH vm0)
def Go (Z : State) (EL : List (String × Nat)) (nw : Bool) (R : Room) (κ : Ka) (Q : Option Value → Heap → List Addr → Prop) (U : State) : Prop :=
  ∃ s₂ o, Steps (kp κ).tables (ke κ) (kb κ) U s₂ ∧ s₂.status = .running ∧ Ended s₂ (kb κ) o ∧ ∃ v L M', o = .returned v ∧ Q v s₂.heap M' ∧ Fr Z.heap.size L ∧ CHr Z EL (ks κ).vm (ks κ).heap s₂.vm s₂.heap ∧ Mut Z EL s₂.vm s₂.heap M' ∧ Old Z Z.heap.size s₂.heap ∧ EndOk nw (ks κ) o s₂ L R.cells R.slots
section Base
variable {l : Launch} {Z : State} {a0 : Array Value} {EL : List (String × Nat)} {nw : Bool} {own : String} {bytes : ByteArray} {ml : Nat} {ret : Option FieldType} {R : Room} {κ : Ka} {T : State} {h : Heap} {M : List Addr} {cells slots : Nat} {Q : Option Value → Heap → List Addr → Prop} {U U' : State} {G : JFrame}
theorem Go.via (st : ∀ t, Steps (kp κ).tables (ke κ) (kb κ) U' t → Steps (kp κ).tables (ke κ) (kb κ) U t) (g : Go Z EL nw R κ Q U') : Go Z EL nw R κ Q U := by
  obtain ⟨s₂, o, h1, r⟩ := g
  exact ⟨s₂, o, st _ h1, r⟩
theorem Go.tr (st : Steps (kp κ).tables (ke κ) (kb κ) U U') (g : Go Z EL nw R κ Q U') : Go Z EL nw R κ Q U := Go.via (fun _ k => st.trans k) g
theorem Go.mono {Q' : Option Value → Heap → List Addr → Prop} (g : Go Z EL nw R κ Q U) (q : ∀ v h M, Q v h M → Q' v h M) : Go Z EL nw R κ Q' U := by
  obtain ⟨s₂, o, h1, h2, h3, v, L, M', h4, h5, r⟩ := g
  exact ⟨s₂, o, h1, h2, h3, v, L, M', h4, q _ _ _ h5, r⟩
theorem W.old (w : W l Z a0 EL nw own bytes ml ret R κ T h M cells slots) : Old Z Z.heap.size h := by
  obtain ⟨-, vm0, k0, locs, -, -, -, -, -, -, -, -, -, hO, -⟩ := w
  exact hO
theorem W.ew (w : W l Z a0 EL nw own bytes ml ret R κ T h M cells slots) : EW Z a0 EL := w.1.2.2.2.2.2
theorem W.mut (w : W l Z a0 EL nw own bytes ml ret R κ T h M cells slots) {x : Addr} (hx : x ∈ M) : Z.heap.size ≤ x ∧ x < h.size := by
  obtain ⟨-, vm0, k0, locs, -, -, -, -, -, -, -, -, hM, -⟩ := w
  exact ⟨(hM x hx).1, (hM x hx).2.1⟩
theorem W.grow (w : W l Z a0 EL nw own bytes ml ret R κ T h M cells slots) {cells' slots' : Nat} (hc : cells ≤ cells') (hs : slots ≤ slots') : W l Z a0 EL nw own bytes ml ret R κ T h M cells' slots' := by
  obtain ⟨hC, vm0, k0, locs, X, r⟩ := w
  exact ⟨hC, vm0, k0, locs, X.mono hc hs, r⟩
theorem W.less (w : W l Z a0 EL nw own bytes ml ret R κ T h M cells slots) {M' : List Addr} (hM : ∀ x ∈ M', x ∈ M) : W l Z a0 EL nw own bytes ml ret R κ T h M' cells slots := by
  obtain ⟨hC, vm0, k0, locs, X, h1, h2, h3, h4, h5, h6, h7, h8, r⟩ := w
  exact ⟨hC, vm0, k0, locs, X, h1, h2, h3, h4, h5, h6, h7, fun x hx => h8 x (hM x hx), r⟩
/-- a pure step -/
theorem W.pure (w : W l Z a0 EL nw own bytes ml ret R κ T h M cells slots) (st : (kp κ).tables.exec = Jvm.exec → (kc κ).code = bytes → At T (km κ) (kc κ) (kb κ) → ∀ t, Steps (kp κ).tables (ke κ) (kb κ) U' t → Steps (kp κ).tables (ke κ) (kb κ) U t) (g : Go Z EL nw R κ Q U') : Go Z EL nw R κ Q U := by
  obtain ⟨⟨hx, hby, -⟩, vm0, k0, locs, X, -⟩ := w
  exact Go.via (st hx hby X.here) g
/-- the tables have moved by a resolution alone -/
theorem W.noted (w : W l Z a0 EL nw own bytes ml ret R κ T h M cells slots) (st : ∀ (s : State) (locs : List Loc), (kp κ).tables.exec = Jvm.exec → (kc κ).code = bytes → (kc κ).maxLocals = ml → Z.Warmed39 s.vm → s.vm.findClass own = some (km κ).cls → T.heap = h → Stand (kp κ) l (ke κ) R s (km κ) (ka κ) (kb κ) (kt κ) (kc κ) T locs cells slots →
      ∃ T', Stand (kp κ) l (ke κ) R s (km κ) (ka κ) (kb κ) (kt κ) (kc κ) T' locs cells slots ∧ T'.heap = h ∧ ∀ t, Steps (kp κ).tables (ke κ) (kb κ) (T'.setTop G) t → Steps (kp κ).tables (ke κ) (kb κ) U t)
    (g : ∀ T', W l Z a0 EL nw own bytes ml ret R κ T' h M cells slots → Go Z EL nw R κ Q (T'.setTop G)) : Go Z EL nw R κ Q U := by
  obtain ⟨hC, vm0, k0, locs, X, h1, h2, h3, h4, h5, h6, r⟩ := w
  obtain ⟨T', X', e', k⟩ := st ((ks κ).setVm vm0) locs hC.1 hC.2.1 hC.2.2.1 h2 h3 h6 X
  exact Go.via k (g T' ⟨hC, vm0, k0, locs, X', h1, h2, h3, h4, h5, e', r⟩)
theorem mem0 {x : Addr} {L : List Addr} : x ∈ x :: L := List.mem_cons_self ..
theorem memS {x y : Addr} {L : List Addr} (q : x ∈ L) : x ∈ y :: L := List.mem_cons_of_mem _ q
theorem memA {x : Addr} {L K : List Addr} (q : x ∈ K) : x ∈ L ++ K := List.mem_append_right _ q
theorem memB {x : Addr} {L K : List Addr} (q : x ∈ L) : x ∈ L ++ K := List.mem_append_left _ q
theorem keepE {h h' : Heap} (E : Ext h h') : Keep h h' [] := (Keep.refl h []).ext E
theorem neL {x a : Addr} {h : Heap} (q : x < h.size) (r : h.size ≤ a) : x ≠ a := Nat.ne_of_lt (Nat.lt_of_lt_of_le q r)
/-- something was made: an object or an array, as Ext says; its place may be written -/
theorem W.made (w : W l Z a0 EL nw own bytes ml ret R κ T h M cells slots) {k n : Nat} {P : Heap → Prop} (st : ∀ (s : State) (locs : List Loc), (kp κ).tables.exec = Jvm.exec → (kc κ).code = bytes → (kc κ).maxLocals = ml → Z.Warmed39 s.vm → s.vm.findClass own = some (km κ).cls → T.heap = h → Stand (kp κ) l (ke κ) R s (km κ) (ka κ) (kb κ) (kt κ) (kc κ) T locs cells slots →
      ∃ T' h', Stand (kp κ) l (ke κ) R s (km κ) (ka κ) (kb κ) (kt κ) (kc κ) T' locs (cells + k) (slots + n) ∧ T'.heap = h' ∧ Ext h h' ∧ h.size < h'.size ∧ P h' ∧ ∀ t, Steps (kp κ).tables (ke κ) (kb κ) (T'.setTop G) t → Steps (kp κ).tables (ke κ) (kb κ) U t)
    (g : ∀ T' h', W l Z a0 EL nw own bytes ml ret R κ T' h' (h.size :: M) (cells + k) (slots + n) → Keep h h' [] → P h' → Go Z EL nw R κ Q (T'.setTop G)) : Go Z EL nw R κ Q U := by
  obtain ⟨hC, vm0, k0, locs, X, h1, h2, h3, h4, h5, h6, h7, h8, h9, r⟩ := w
  obtain ⟨T', h', X', e', E, hlt, hP, k⟩ := st ((ks κ).setVm vm0) locs hC.1 hC.2.1 hC.2.2.1 h2 h3 h6 X
  refine Go.via k (g T' h' ⟨hC, vm0, k0, locs, X', h1, h2, h3, h4, Nat.le_trans h5 E.1, e', h7.trans (CHr.ext E h7.1), fun x hx => ?_, h9.ext E, r⟩ (keepE E) hP)
  rcases List.mem_cons.mp hx with rfl | hx
  · exact ⟨h9.1 ▸ h9.2.1, hlt, Safe.ext E h7.1 (Safe.new (Nat.le_refl _))⟩
  · obtain ⟨a, b, c⟩ := h8 x hx
    exact ⟨a, Nat.lt_of_lt_of_le b E.1, Safe.ext E h7.1 c⟩
/-- one place was written -/
theorem W.wrote (w : W l Z a0 EL nw own bytes ml ret R κ T h M cells slots) {a : Addr} (ha : a ∈ M) {sl : Nat} {v : Value} (st : ∀ (s : State) (locs : List Loc), (kp κ).tables.exec = Jvm.exec → (kc κ).code = bytes → (kc κ).maxLocals = ml → Z.Warmed39 s.vm → s.vm.findClass own = some (km κ).cls → T.heap = h → Stand (kp κ) l (ke κ) R s (km κ) (ka κ) (kb κ) (kt κ) (kc κ) T locs cells slots →
      ∃ T' h', Stand (kp κ) l (ke κ) R s (km κ) (ka κ) (kb κ) (kt κ) (kc κ) T' (locs ++ [⟨a, sl⟩]) cells slots ∧ T'.heap = h' ∧ Wr h h' a sl v ∧ ∀ t, Steps (kp κ).tables (ke κ) (kb κ) (T'.setTop G) t → Steps (kp κ).tables (ke κ) (kb κ) U t)
    (g : ∀ T' h', W l Z a0 EL nw own bytes ml ret R κ T' h' M cells slots → Wr h h' a sl v → Go Z EL nw R κ Q (T'.setTop G)) : Go Z EL nw R κ Q U := by
  obtain ⟨hC, vm0, k0, locs, X, h1, h2, h3, h4, h5, h6, h7, h8, h9, r⟩ := w
  obtain ⟨T', h', X', e', Wr', k⟩ := st ((ks κ).setVm vm0) locs hC.1 hC.2.1 hC.2.2.1 h2 h3 h6 X
  obtain ⟨a1, a2, a3⟩ := h8 a ha
  refine Go.via k (g T' h' ⟨hC, vm0, k0, _, X', Fr.snoc X' h1 a1, h2, h3, h4, by rw [Wr'.size]; exact h5, e', h7.trans (CHr.wr Wr' a3 h7.1), fun x hx => ?_, h9.wr Wr' a1, r⟩ Wr')
  obtain ⟨a, b, c⟩ := h8 x hx
  exact ⟨a, by rw [Wr'.size]; exact b, Safe.wr Wr' a3 h7.1 c⟩
/-- old places among ws were written, at once -/
theorem W.kept (w : W l Z a0 EL nw own bytes ml ret R κ T h M cells slots) {ws : List Addr} (hws : ∀ x ∈ ws, x ∈ M) {P : Heap → Prop} (st : ∀ (s : State) (locs : List Loc), (kp κ).tables.exec = Jvm.exec → (kc κ).code = bytes → (kc κ).maxLocals = ml → Z.Warmed39 s.vm → s.vm.findClass own = some (km κ).cls → T.heap = h → Fr Z.heap.size locs → Stand (kp κ) l (ke κ) R s (km κ) (ka κ) (kb κ) (kt κ) (kc κ) T locs cells slots →
      ∃ T' h' L, Stand (kp κ) l (ke κ) R s (km κ) (ka κ) (kb κ) (kt κ) (kc κ) T' L cells slots ∧ T'.heap = h' ∧ Fr Z.heap.size L ∧ Keep h h' ws ∧ P h' ∧ ∀ t, Steps (kp κ).tables (ke κ) (kb κ) (T'.setTop G) t → Steps (kp κ).tables (ke κ) (kb κ) U t)
    (g : ∀ T' h', W l Z a0 EL nw own bytes ml ret R κ T' h' M cells slots → Keep h h' ws → P h' → Go Z EL nw R κ Q (T'.setTop G)) : Go Z EL nw R κ Q U := by
  obtain ⟨hC, vm0, k0, locs, X, h1, h2, h3, h4, h5, h6, h7, h8, h9, r⟩ := w
  obtain ⟨T', h', L, X', e', N', K, hP, k⟩ := st ((ks κ).setVm vm0) locs hC.1 hC.2.1 hC.2.2.1 h2 h3 h6 h1 X
  have hs : ∀ x ∈ ws, Safe Z EL vm0 h x := fun x hx => (h8 x (hws x hx)).2.2
  refine Go.via k (g T' h' ⟨hC, vm0, k0, L, X', N', h2, h3, h4, Nat.le_trans h5 K.1, e', h7.trans (CHr.keep K hs h7.1), fun x hx => ?_, h9.keep K (fun x hx => (h8 x (hws x hx)).1), r⟩ K hP)
  obtain ⟨a, b, c⟩ := h8 x hx
  exact ⟨a, Nat.lt_of_lt_of_le b K.1, Safe.keep K hs h7.1 c⟩
/-- the walk leaves -/
theorem W.leave (w : W l Z a0 EL nw own bytes ml ret R κ T h M cells slots) {v : Option Value} (hv : ret = none → v = none) (hc : cells ≤ R.cells) (hs : slots ≤ R.slots) {M' : List Addr} (hM : ∀ x ∈ M', x ∈ M) (hq : Q v h M')
    (st : ∀ (s : State) (locs : List Loc) (fs : List Frame), (kp κ).tables.exec = Jvm.exec → (kc κ).code = bytes → (kt κ).sig.returnType = ret → Stand (kp κ) l (ke κ) R s (km κ) (ka κ) (kb κ) (kt κ) (kc κ) T locs cells slots →
      (∀ (f : JFrame) (acts : List Action), f.method = km κ → f.locked = none → f.entered = [] → (doReturn (ke κ) (T.setTop f) acts v).1 = T.setFrames fs) → Steps (kp κ).tables (ke κ) (kb κ) U (T.setFrames fs)) : Go Z EL nw R κ Q U := by
  obtain ⟨⟨hx, hby, hml, hret, hlk, hEL⟩, vm0, k0, locs, X, h1, h2, h3, h4, h5, h6, h7, h8, h9, h10⟩ := w
  obtain ⟨fs, l1, l2, l3, l4, l5⟩ := X.leave (v := v) (fun q => hv (hret.symm.trans q)) hlk
  have A := CHv.at X h2 hEL h7.1
  obtain ⟨b1, b2, b3⟩ := h4.ended (U := T.setFrames fs) l4 (by show k0 ≤ T.heap.size; rw [h6]; exact h5) l5
  refine ⟨T.setFrames fs, _, st _ locs fs hx hby hret X l1, l2, l3, v, locs, M', rfl, ?_, h1, ?_, ?_, ?_, ⟨⟨⟨_, rfl⟩, b1, b2, b3.mono hc hs⟩, fun q => ⟨⟨_, rfl⟩, State.WarmedH.trans (h10 q) l4, b3.mono hc hs⟩⟩⟩
  · show Q v T.heap M'
    rw [h6]; exact hq
  · show CHr Z EL (ks κ).vm (ks κ).heap T.vm T.heap
    rw [h6]; exact h7.trans A
  · intro x hx
    obtain ⟨a, b, c⟩ := h8 x (hM x hx)
    show Z.heap.size ≤ x ∧ x < T.heap.size ∧ Safe Z EL T.vm T.heap x
    rw [h6]; exact ⟨a, b, A.safe b c⟩
  · show Old Z Z.heap.size T.heap
    rw [h6]; exact h9
/-- entering a body -/
theorem of_body {y : MethodName} {rm : Room} {as : List Value} {h0 : Heap} (hp : plainFor y = true) (hEL : EW Z a0 EL) (hO : Old Z Z.heap.size h0) {Ls : Array Slot} (hent : ∀ m, entryFrame m as.toArray ml = mkF m 0 Ls [])
    (body : ∀ (κ : Ka) (T : State), W l Z a0 EL nw y.cls bytes ml ret rm κ T h0 M 0 0 → (kt κ).name = y.name → Go Z EL nw rm κ Q (T.setTop (mkF (km κ) 0 Ls []))) : Ctr l Z EL nw y bytes ml ret rm as h0 M Q := by
  refine MetFree.of_bodySF hp hisR ?_
  intro p e s m args below meth c s₁ Bd hml0 hP hK
  obtain ⟨rfl, hZ, hh, hCH, hMu⟩ := hP
  have X0 : Stand p l e rm s m as.toArray below meth c s₁ [] 0 0 := Stand.of_body Bd
  have e0 : s₁.heap = h0 := by rw [← hh, Bd.state]; rfl
  have hnm := (name_of_methodNamed Bd.named Bd.method).1
  have w : W l Z a0 EL nw y.cls bytes ml ret rm (p, e, s, m, below, meth, c, as.toArray) s₁ h0 M 0 0 :=
    ⟨⟨Bd.exec, Bd.bytes, hml0, Bd.returns, BodyLoose.notSynchronized Bd, hEL⟩, s.vm, 0, [], X0, Fr.nil _, hZ, findClass_of_methodNamed Bd.named, (State.WarmedH.refl s).since 0, Nat.zero_le _, e0, hh ▸ CHr.refl (hh ▸ hCH), hMu, hO, fun _ => State.WarmedH.refl s⟩
  have g := body _ s₁ w hnm
  rw [← hent] at g
  exact g
end Base
section Calls
variable {l : Launch} {Z : State} {a0 : Array Value} {EL : List (String × Nat)} {nw : Bool} {own : String} {bytes : ByteArray} {ml : Nat} {ret : Option FieldType} {R : Room} {κ : Ka} {T : State} {h : Heap} {M : List Addr} {cells slots : Nat} {Q : Option Value → Heap → List Addr → Prop} {U U' : State} {G : JFrame}
/-- who pays a call of y with the arguments as at the heap h -/
def Pay (l : Launch) (Z : State) (EL : List (String × Nat)) (nw : Bool) (y : MethodName) (len kf kl kn kw : Nat) (as : List Value) (h : Heap) (M : List Addr) (Q : Option Value → Heap → List Addr → Prop) : Prop :=
  ∀ (R : Room) (p : Program) (e : Env) (below : List Frame) (s : State) (vm0 : Vm) (args : Array Value) (Wd : Nat), Z.Warmed39 vm0 → CHv Z EL vm0 h → Mut Z EL vm0 h M → kf ≤ R.frames → Wd + kl ≤ R.locals →
    BackS l R p e below (s.setVm vm0) args y len Wd (fun P a => a = as.toArray ∧ P.U.heap = h ∧ P.cells + kn ≤ R.cells ∧ P.slots + kw ≤ R.slots)
      (fun P _ v B => ∃ L M', Q v B.U.heap M' ∧ Fr Z.heap.size L ∧ B.locs = P.locs ++ L ∧ B.cells = P.cells + kn ∧ B.slots = P.slots + kw ∧ CHr Z EL vm0 h B.U.vm B.U.heap ∧ Mut Z EL B.U.vm B.U.heap M' ∧ Old Z Z.heap.size B.U.heap ∧ (nw = true → (s.setVm vm0).WarmedH B.U.vm))
theorem Mut.at {vm0 vm1 : Vm} {h' : Heap} (C : CHr Z EL vm0 h vm1 h') (m : Mut Z EL vm0 h M) : Mut Z EL vm1 h' M := fun x hx => by
  obtain ⟨a, b, c⟩ := m x hx
  exact ⟨a, Nat.lt_of_lt_of_le b C.2.1, C.safe b c⟩
theorem Ctr.pay {y : MethodName} {rm : Room} {as : List Value} {len : Nat} (hM : Ctr l Z EL nw y bytes ml ret rm as h M Q) (hEL : EW Z a0 EL) (wc : (Cond.code y bytes ml ret).before a0 Z = true) (wz : (Cond.initialized y.cls).before a0 Z = true) {kf kl : Nat} (ekf : rm.frames + 1 ≤ kf) (ekl : ml + 11 + rm.locals ≤ kl) :
    Pay l Z EL nw y len kf kl rm.cells rm.slots as h M Q := by
  intro R p e below s vm0 args Wd hZ H hMu hf hl
  refine BackS.of_freeW (bytes := bytes) (maxL := ml) (ret := ret) (E := fun _ first o t L k n => k = rm.cells ∧ n = rm.slots ∧ ∃ v M', o = .returned v ∧ Q v t.heap M' ∧ Fr Z.heap.size L ∧ CHr Z EL first.vm first.heap t.vm t.heap ∧ Mut Z EL t.vm t.heap M' ∧ Old Z Z.heap.size t.heap ∧ (nw = true → first.WarmedH t.vm)) hM (Nat.le_trans ekf hf) (by show Wd + (ml + 11) + rm.locals ≤ R.locals; omega)
    (fun m meth c A a Y hp => have hU : Z.Warmed39 A.U.vm := wtrans (s := s.setVm vm0) hZ Y.warmed
      ⟨by show (Cond.and _ .tt).before a A.U = true; rw [Cond.before_and, mv hU wc]; rfl, mv hU wc, mv hU wz, hp.2.2.1, hp.2.2.2⟩)
    (fun m meth c A a g mk Y hp => ⟨hp.1, wtrans (s := s.setVm vm0) hZ Y.warmed, hp.2.1, (CHv.at Y hZ hEL H).1, (show Mut Z EL A.U.vm h M from hMu.at (CHv.at Y hZ hEL H))⟩) (fun _ _ _ _ _ _ _ _ _ => trivial)
    (fun _ _ _ _ ⟨v, L, M', h1, h2, h3, h4, h5, h6, h7⟩ => ⟨L, _, _, h7.1, rfl, rfl, v, M', h1, h2, h3, h4, h5, h6, fun q => (h7.2 q).2.1⟩)
    (fun m meth c A a g mk v t L k n Y hp _ _ ⟨e1, e2, v', M', e3, e4, e5, e6, e7, e8, e9⟩ => by
      cases e3; subst e1 e2
      refine ⟨L, M', e4, e5, rfl, rfl, rfl, (CHv.at Y hZ hEL H).trans ?_, e7, e8, fun q => State.WarmedH.trans Y.warmed (e9 q)⟩
      rw [← hp.2.1]; exact e6)
theorem Pay.of_back {y : MethodName} {as : List Value} {len kf kl kn kw : Nat} {Q' : Option Value → Heap → List Loc → Prop} {ws : List Addr} (hEL : EW Z a0 EL) (hO : Old Z Z.heap.size h)
    (hB : ∀ (R : Room) (p : Program) (e : Env) (below : List Frame) (s : State) (args : Array Value) (Wd : Nat), Z.Warmed39 s.vm → kf ≤ R.frames → Wd + kl ≤ R.locals →
      Back l R p e below s args y len Wd (fun P a => a = as.toArray ∧ P.U.heap = h ∧ P.cells + kn ≤ R.cells ∧ P.slots + kw ≤ R.slots) (fun P _ v B => ∃ L, Q' v B.U.heap L ∧ B.locs = P.locs ++ L ∧ B.cells = P.cells + kn ∧ B.slots = P.slots + kw))
    (hws : ∀ x ∈ ws, x ∈ M) (hQ : ∀ v h' L, Q' v h' L → Q v h' [] ∧ Fr Z.heap.size L ∧ Keep h h' ws) : Pay l Z EL nw y len kf kl kn kw as h M Q := by
  intro R p e below s vm0 args Wd hZ H hMu hf hl m meth c A g ig mk a X hg hsize hdg hW hn hp
  obtain ⟨v, B, X', ⟨L, q1, q2, q3, q4⟩, st⟩ := hB R p e below (s.setVm vm0) args Wd hZ hf hl m meth c A g ig mk a X hg hsize hdg hW hn hp
  obtain ⟨r1, r2, K⟩ := hQ _ _ _ q1
  have C1 := CHr.keep K (fun x hx => (hMu x (hws x hx)).2.2) H
  have C2 := C1.trans (CHv.at X' hZ hEL C1.1)
  refine ⟨v, B, X'.retabled X'.warmed.wide, X'.warmed.since _, by rw [hp.2.1]; exact K.1, ⟨L, [], r1, r2, q2, q3, q4, C2, (fun x hx => nomatch hx), hO.keep K (fun x hx => (hMu x (hws x hx)).1), fun _ => X'.warmed⟩, st⟩
/-- a call was made and paid -/
theorem W.called (w : W l Z a0 EL nw own bytes ml ret R κ T h M cells slots) {y : MethodName} {len kf kl kn kw : Nat} {as : List Value} {M0 : List Addr} {Qc : Option Value → Heap → List Addr → Prop} (P : Pay l Z EL nw y len kf kl kn kw as h M0 Qc) (hM0 : ∀ x ∈ M0, x ∈ M) {Wd : Nat} (hf : kf ≤ R.frames) (hlo : Wd + kl ≤ R.locals) (hcl : cells + kn ≤ R.cells) (hsl : slots + kw ≤ R.slots) {F : Option Value → JFrame}
    (st : ∀ (s : State) (locs : List Loc) (Post : Pt → Array Value → Option Value → Pt → Prop), (kp κ).tables.exec = Jvm.exec → (kc κ).code = bytes → (kc κ).maxLocals = ml → Z.Warmed39 s.vm → s.vm.findClass own = some (km κ).cls → T.heap = h → Stand (kp κ) l (ke κ) R s (km κ) (ka κ) (kb κ) (kt κ) (kc κ) T locs cells slots →
      BackS l R (kp κ) (ke κ) (kb κ) s (ka κ) y len Wd (fun P a => a = as.toArray ∧ P.U.heap = h ∧ P.cells + kn ≤ R.cells ∧ P.slots + kw ≤ R.slots) Post →
      ∃ (v : Option Value) (vm₁ : Vm) (B : Pt), s.WarmedH vm₁ ∧ Stand (kp κ) l (ke κ) R (s.setVm B.U.vm) (km κ) (ka κ) (kb κ) (kt κ) (kc κ) B.U B.locs B.cells B.slots ∧ s.Since B.U.vm B.U.heap.size ∧ T.heap.size ≤ B.U.heap.size ∧ Post ⟨T.setVm vm₁, locs, cells, slots⟩ as.toArray v B ∧ Steps (kp κ).tables (ke κ) (kb κ) U (B.U.setTop (F v)))
    (g : ∀ v T' h' M', W l Z a0 EL nw own bytes ml ret R κ T' h' (M' ++ M) (cells + kn) (slots + kw) → Qc v h' M' → Go Z EL nw R κ Q (T'.setTop (F v))) : Go Z EL nw R κ Q U := by
  obtain ⟨hC, vm0, k0, locs, X, h1, h2, h3, h4, h5, h6, h7, h8, h9, h10⟩ := w
  have hK := P R (kp κ) (ke κ) (kb κ) (ks κ) vm0 (ka κ) Wd h2 h7.1 (fun x hx => h8 x (hM0 x hx)) hf hlo
  obtain ⟨v, vm₁, ⟨T', L', c', n'⟩, hW, X', hS, hg, ⟨L, M', q1, q2, q3, q4, q5, q6, q7, q8, q9⟩, k⟩ := st ((ks κ).setVm vm0) locs _ hC.1 hC.2.1 hC.2.2.1 h2 h3 h6 X hK
  dsimp only [Pt.U, Pt.locs, Pt.cells, Pt.slots] at X' hS hg q1 q3 q4 q5 q6 q7 q8 q9 k
  subst q3 q4 q5
  refine Go.tr k (g v T' T'.heap M' ⟨hC, T'.vm, T'.heap.size, _, X', h1.app q2, State.Warmed39.trans (t := (ks κ).setVm vm0) h2 hS.1, ?_, h4.trans hS (by rw [← h6] at h5; exact Nat.le_trans h5 hg), Nat.le_refl _, rfl, h7.trans q6, fun x hx => ?_, q8, fun q => State.WarmedH.trans (h10 q) (q9 q)⟩ q1)
  · rw [hS.1.alike.findClass]; exact h3
  · rcases List.mem_append.mp hx with hx | hx
    · exact q7 x hx
    · exact (h8.at q6) x hx
theorem mr0 (m : MethodId) (pc : Nat) (Ls : Array Slot) (S : List Value) : (mkF m pc Ls S).monitorRoom = 0 := rfl
theorem W.callS (w : W l Z a0 EL nw own bytes ml ret R κ T h M cells slots) {index : Nat} {y : MethodName} {yb : ByteArray} {yl : Nat} {yr : Option FieldType} (w1 : (Cond.methodLink own index y).before a0 Z = true) (w2 : (Cond.static y).before a0 Z = true) (w3 : (Cond.initialized y.cls).before a0 Z = true) (w4 : (Cond.code y yb yl yr).before a0 Z = true)
    (hy : y.cls ≠ "java/lang/invoke/MethodHandle" ∧ y.cls ≠ "java/lang/invoke/VarHandle") {ps : List FieldType} {rt : Option FieldType} (hd : parseMethodDescriptor y.desc = some ⟨ps, rt⟩)
    {kf kl kn kw : Nat} {as : List Value} {M0 : List Addr} {Qc : Option Value → Heap → List Addr → Prop} (P : Pay l Z EL nw y 3 kf kl kn kw as h M0 Qc) (hM0 : ∀ x ∈ M0, x ∈ M) {pc pc' : Nat} {Ls : Array Slot} {S rest : List Value} (hdg : decode bytes pc = .ok (.invokestatic index, 3)) (hp : pc + 3 = pc') (hsz : Ls.size = ml) (hln : as.length = ps.length) (hst : S = as.reverse ++ rest)
    {Wd : Nat} (hwd : (rest.map fun v => v.category).sum = Wd) (hf : kf ≤ R.frames) (hlo : Wd + kl ≤ R.locals) (hcl : cells + kn ≤ R.cells) (hsl : slots + kw ≤ R.slots)
    (g : ∀ v T' h' M', W l Z a0 EL nw own bytes ml ret R κ T' h' (M' ++ M) (cells + kn) (slots + kw) → Qc v h' M' → Go Z EL nw R κ Q (T'.setTop (mkF (km κ) pc' Ls (v.toList ++ rest)))) : Go Z EL nw R κ Q (T.setTop (mkF (km κ) pc Ls S)) := by
  subst hp
  refine w.called P hM0 hf hlo hcl hsl (F := fun v => mkF (km κ) (pc + 3) Ls (v.toList ++ rest)) (fun s locs Post hx hby hml hZ hown eT X hK => ?_) g
  exact callSS X hx hown (mvT hZ w1) (mvT hZ w2) (mvT hZ w3) (mvT hZ w4) hy hK (g := mkF (km κ) pc Ls S) rfl (hsz.trans hml.symm) (lenOf hd hln) hst (by rw [mr0]; omega) (hb hby hdg) (fun vm₁ _ => ⟨rfl, eT, hcl, hsl⟩)
theorem W.callI (w : W l Z a0 EL nw own bytes ml ret R κ T h M cells slots) {index : Nat} {y : MethodName} {yb : ByteArray} {yl : Nat} (w1 : (Cond.methodLink own index y).before a0 Z = true) (w2 : (Cond.instanceMethod y).before a0 Z = true) (w4 : (Cond.code y yb yl none).before a0 Z = true) (hy1 : y.name = "<init>")
    (hy : y.cls ≠ "java/lang/invoke/MethodHandle" ∧ y.cls ≠ "java/lang/invoke/VarHandle") {ps : List FieldType} {rt : Option FieldType} (hd : parseMethodDescriptor y.desc = some ⟨ps, rt⟩)
    {kf kl kn kw : Nat} {a : Addr} {as : List Value} {M0 : List Addr} {Qc : Option Value → Heap → List Addr → Prop} (P : Pay l Z EL nw y 3 kf kl kn kw (.ref a :: as) h M0 Qc) (hM0 : ∀ x ∈ M0, x ∈ M) {pc pc' : Nat} {Ls : Array Slot} {S rest : List Value} (hdg : decode bytes pc = .ok (.invokespecial index, 3)) (hp : pc + 3 = pc') (hsz : Ls.size = ml) (hln : as.length = ps.length) (hst : S = as.reverse ++ .ref a :: rest)
    {Wd : Nat} (hwd : (rest.map fun v => v.category).sum = Wd) (hf : kf ≤ R.frames) (hlo : Wd + kl ≤ R.locals) (hcl : cells + kn ≤ R.cells) (hsl : slots + kw ≤ R.slots)
    (g : ∀ v T' h' M', W l Z a0 EL nw own bytes ml ret R κ T' h' (M' ++ M) (cells + kn) (slots + kw) → Qc v h' M' → Go Z EL nw R κ Q (T'.setTop (mkF (km κ) pc' Ls (v.toList ++ rest)))) : Go Z EL nw R κ Q (T.setTop (mkF (km κ) pc Ls S)) := by
  subst hp
  refine w.called P hM0 hf hlo hcl hsl (F := fun v => mkF (km κ) (pc + 3) Ls (v.toList ++ rest)) (fun s locs Post hx hby hml hZ hown eT X hK => ?_) g
  exact X.specialBackS hx hy1 hown (mvT hZ w1) (mvT hZ w2) (mvT hZ w4) hy hK (g := mkF (km κ) pc Ls S) rfl (hsz.trans hml.symm) (Steps.refl _) (lenOf hd hln) hst (by rw [mr0]; omega) (hb hby hdg) (fun vm₁ _ => ⟨rfl, eT, hcl, hsl⟩)
theorem W.callV (w : W l Z a0 EL nw own bytes ml ret R κ T h M cells slots) {index : Nat} {C : String} {y z : MethodName} (w1 : (Cond.methodLink own index y).before a0 Z = true) (w2 : (Cond.declares y).before a0 Z = true) (nf : ∀ (s : State), Z.Warmed39 s.vm → NotFace s y) (w3 : (Cond.selects C y z).before a0 Z = true) (w4 : (Cond.instanceMethod z).before a0 Z = true)
    (hy : y.cls ≠ "java/lang/invoke/MethodHandle" ∧ y.cls ≠ "java/lang/invoke/VarHandle") {ps : List FieldType} {rt : Option FieldType} (hd : parseMethodDescriptor y.desc = some ⟨ps, rt⟩) {a : Addr} (E : Exa Z h a C)
    {kf kl kn kw : Nat} {as : List Value} {M0 : List Addr} {Qc : Option Value → Heap → List Addr → Prop} (P : Pay l Z EL nw z 3 kf kl kn kw (.ref a :: as) h M0 Qc) (hM0 : ∀ x ∈ M0, x ∈ M) {pc pc' : Nat} {Ls : Array Slot} {S rest : List Value} (hdg : decode bytes pc = .ok (.invokevirtual index, 3)) (hp : pc + 3 = pc') (hsz : Ls.size = ml) (hln : as.length = ps.length) (hst : S = as.reverse ++ .ref a :: rest)
    {Wd : Nat} (hwd : (rest.map fun v => v.category).sum = Wd) (hf : kf ≤ R.frames) (hlo : Wd + kl ≤ R.locals) (hcl : cells + kn ≤ R.cells) (hsl : slots + kw ≤ R.slots)
    (g : ∀ v T' h' M', W l Z a0 EL nw own bytes ml ret R κ T' h' (M' ++ M) (cells + kn) (slots + kw) → Qc v h' M' → Go Z EL nw R κ Q (T'.setTop (mkF (km κ) pc' Ls (v.toList ++ rest)))) : Go Z EL nw R κ Q (T.setTop (mkF (km κ) pc Ls S)) := by
  subst hp
  refine w.called P hM0 hf hlo hcl hsl (F := fun v => mkF (km κ) (pc + 3) Ls (v.toList ++ rest)) (fun s locs Post hx hby hml hZ hown eT X hK => ?_) g
  obtain ⟨cB, kB, q1, q2, q3⟩ := isOf hZ eT E
  exact X.virtualBackS hx hown (mvT hZ w1) (mvT hZ w2) (nf s hZ) (mvT hZ w3) (mvT hZ w4) hy hK q1 q3 (g := mkF (km κ) pc Ls S) rfl (hsz.trans hml.symm) (Steps.refl _) (lenOf hd hln) hst (by rw [mr0]; omega) (hb hby hdg) (fun vm₁ _ => ⟨rfl, eT, hcl, hsl⟩)
theorem W.callU (w : W l Z a0 EL nw own bytes ml ret R κ T h M cells slots) {index : Nat} {K : String} {y : MethodName} {yb : ByteArray} {yl : Nat} {yr : Option FieldType} (w1 : (Cond.methodLink own index y).before a0 Z = true) (w2 : (Cond.sameMethod y.cls y.cls y.name y.desc).before a0 Z = true) (w3 : (Cond.instanceMethod y).before a0 Z = true) (w4 : (Cond.superclass own y.cls).before a0 Z = true) (w5 : (Cond.code y yb yl yr).before a0 Z = true) (hn : y.name ≠ "<init>")
    {ps : List FieldType} {rt : Option FieldType} (hd : parseMethodDescriptor y.desc = some ⟨ps, rt⟩) {a : Addr} (F : Ins Z h a K true)
    {kf kl kn kw : Nat} {as : List Value} {M0 : List Addr} {Qc : Option Value → Heap → List Addr → Prop} (P : Pay l Z EL nw y 3 kf kl kn kw (.ref a :: as) h M0 Qc) (hM0 : ∀ x ∈ M0, x ∈ M) {pc pc' : Nat} {Ls : Array Slot} {S rest : List Value} (hdg : decode bytes pc = .ok (.invokespecial index, 3)) (hp : pc + 3 = pc') (hsz : Ls.size = ml) (hln : as.length = ps.length) (hst : S = as.reverse ++ .ref a :: rest)
    {Wd : Nat} (hwd : (rest.map fun v => v.category).sum = Wd) (hf : kf ≤ R.frames) (hlo : Wd + kl ≤ R.locals) (hcl : cells + kn ≤ R.cells) (hsl : slots + kw ≤ R.slots)
    (g : ∀ v T' h' M', W l Z a0 EL nw own bytes ml ret R κ T' h' (M' ++ M) (cells + kn) (slots + kw) → Qc v h' M' → Go Z EL nw R κ Q (T'.setTop (mkF (km κ) pc' Ls (v.toList ++ rest)))) : Go Z EL nw R κ Q (T.setTop (mkF (km κ) pc Ls S)) := by
  subst hp
  refine w.called P hM0 hf hlo hcl hsl (F := fun v => mkF (km κ) (pc + 3) Ls (v.toList ++ rest)) (fun s locs Post hx hby hml hZ hown eT X hK => ?_) g
  exact superBackS X hx hZ hown w1 w2 w3 w4 hn hK eT F (g := mkF (km κ) pc Ls S) rfl (hsz.trans hml.symm) w5 (lenOf hd hln) hst (by rw [mr0]; omega) (hb hby hdg) (fun vm₁ _ => ⟨rfl, eT, hcl, hsl⟩)
theorem W.callF (w : W l Z a0 EL nw own bytes ml ret R κ T h M cells slots) {index count : Nat} {C : String} {y z : MethodName} (w1 : (Cond.methodLink own index y).before a0 Z = true) (w2 : (Cond.declares y).before a0 Z = true) (w3 : (Cond.interfaceMethod y.cls y.cls y.name y.desc).before a0 Z = true) (w4 : (Cond.selects C y z).before a0 Z = true) (w5 : (Cond.instanceMethod z).before a0 Z = true)
    (w6 : (Cond.publicMethod z).before a0 Z = true) (w7 : (Cond.unhidden C y.name y.desc).before a0 Z = true) (w8 : (Cond.castable C y.cls).before a0 Z = true) (k3 : ((Cond.interfaceMethod y.cls y.cls y.name y.desc).onTables && (Cond.interfaceMethod y.cls y.cls y.name y.desc).keepsFace) = true)
    (hy : y.cls ≠ "java/lang/invoke/MethodHandle" ∧ y.cls ≠ "java/lang/invoke/VarHandle") {ps : List FieldType} {rt : Option FieldType} (hd : parseMethodDescriptor y.desc = some ⟨ps, rt⟩) {a : Addr} (E : Exa Z h a C)
    {kf kl kn kw : Nat} {as : List Value} {M0 : List Addr} {Qc : Option Value → Heap → List Addr → Prop} (P : Pay l Z EL nw z 5 kf kl kn kw (.ref a :: as) h M0 Qc) (hM0 : ∀ x ∈ M0, x ∈ M) {pc pc' : Nat} {Ls : Array Slot} {S rest : List Value} (hdg : decode bytes pc = .ok (.invokeinterface index count, 5)) (hp : pc + 5 = pc') (hsz : Ls.size = ml) (hln : as.length = ps.length) (hst : S = as.reverse ++ .ref a :: rest)
    {Wd : Nat} (hwd : (rest.map fun v => v.category).sum = Wd) (hf : kf ≤ R.frames) (hlo : Wd + kl ≤ R.locals) (hcl : cells + kn ≤ R.cells) (hsl : slots + kw ≤ R.slots)
    (g : ∀ v T' h' M', W l Z a0 EL nw own bytes ml ret R κ T' h' (M' ++ M) (cells + kn) (slots + kw) → Qc v h' M' → Go Z EL nw R κ Q (T'.setTop (mkF (km κ) pc' Ls (v.toList ++ rest)))) : Go Z EL nw R κ Q (T.setTop (mkF (km κ) pc Ls S)) := by
  subst hp
  refine w.called P hM0 hf hlo hcl hsl (F := fun v => mkF (km κ) (pc + 5) Ls (v.toList ++ rest)) (fun s locs Post hx hby hml hZ hown eT X hK => ?_) g
  obtain ⟨cB, kB, q1, q2, q3⟩ := isOf hZ eT E
  exact X.interfaceBackS hx hown (mvT hZ w1) (mvT hZ w2) (mvT hZ w3 k3) (mvT hZ w4) (mvT hZ w5) (mvT hZ w6) (mvT hZ w7) (mvT hZ w8) hy hK q1 q2 q3 (g := mkF (km κ) pc Ls S) rfl (hsz.trans hml.symm) (Steps.refl _) (lenOf hd hln) hst (by rw [mr0]; omega) (hb hby hdg) (fun vm₁ _ => ⟨rfl, eT, hcl, hsl⟩)
/-- a private method is declared too -/
theorem decl_of {y : MethodName} {yb : ByteArray} {yl : Nat} {yr : Option FieldType} (w1 : (Cond.instanceMethod y).before a0 Z = true) (w2 : (Cond.code y yb yl yr).before a0 Z = true) : (Cond.declares y).before a0 Z = true := by
  obtain ⟨m, meth, h1, h2, h3, -⟩ := Cond.instanceMethod_spec w1
  obtain ⟨meth', c, q1, -, -, -, -, -, -, hsig⟩ := Cond.code_spec h1 w2
  cases h2.symm.trans q1
  simp [Cond.before, Cond.holds, Cond.value, h1, h2, h3, hsig]
/-- the lookup from a class finds what the class declares itself -/
theorem sm_of {C : String} {y y' : MethodName} (w1 : (Cond.declares y).before a0 Z = true) (w2 : (Cond.selects C y' y').before a0 Z = true) (hc : y'.cls = y.cls) (hy : y.cls ≠ "java/lang/invoke/MethodHandle" ∧ y.cls ≠ "java/lang/invoke/VarHandle") : (Cond.sameMethod y.cls y.cls y.name y.desc).before a0 Z = true := by
  obtain ⟨m, meth, h1, h2, -, -⟩ := Cond.declares_spec w1
  obtain ⟨c2, r2, m2, q1, q2, q3, q4, kP, hkP, hkPi⟩ := Cond.selects_spec w2
  have hf := State.methodFound?_of_named h1 hy
  have hc1 := findClass_of_methodNamed h1
  have hc2 := findClass_of_methodNamed q3
  rw [hc] at hc2
  have e : m2.cls = m.cls := Option.some.inj (hc2.symm.trans hc1)
  rw [e] at hkP
  have h1' : Z.methodNamed? ⟨y.cls, y.name, y.desc⟩ = some m := h1
  simp [Cond.before, Cond.holds, Cond.value, hc1, hf, h1', hkP, hkPi]
theorem nfSel {C : String} {y : MethodName} (w : (Cond.selects C y y).before a0 Z = true) : ∀ (s : State), Z.Warmed39 s.vm → NotFace s y := fun s hZ => notFace_of_selects (args := #[]) (mvT hZ w)
theorem nfCls {C : String} {y y' : MethodName} (w : (Cond.selects C y' y').before a0 Z = true) (hc : y'.cls = y.cls) : ∀ (s : State), Z.Warmed39 s.vm → NotFace s y := fun s hZ r0 h0 => by
  obtain ⟨c2, r2, m2, q1, q2, q3, q4, kP, hkP, hkPi⟩ := Cond.selects_spec (mvT (args := #[]) hZ w)
  have a := findClass_of_methodNamed h0
  have b := findClass_of_methodNamed q3
  rw [hc] at b
  have e : m2.cls = r0.cls := Option.some.inj (b.symm.trans a)
  rw [e] at hkP
  exact ⟨kP, hkP, hkPi⟩
theorem nfSup {S : String} {y : MethodName} (w : (Cond.superclass y.cls S).before a0 Z = true) : ∀ (s : State), Z.Warmed39 s.vm → NotFace s y := fun s hZ => nf_super (args := #[]) (mvT hZ w)
end Calls
section Heap1
variable {l : Launch} {Z : State} {a0 : Array Value} {EL : List (String × Nat)} {nw : Bool} {own : String} {bytes : ByteArray} {ml : Nat} {ret : Option FieldType} {R : Room} {κ : Ka} {T : State} {h : Heap} {M : List Addr} {cells slots : Nat} {Q : Option Value → Heap → List Addr → Prop} {pc pc' : Nat} {Ls : Array Slot} {S rest : List Value}
theorem W.newO (w : W l Z a0 EL nw own bytes ml ret R κ T h M cells slots) {index n : Nat} {C : String} (w1 : (Cond.classLink own index C).before a0 Z = true) (w2 : (Cond.instantiable C n).before a0 Z = true) (w3 : (Cond.initialized C).before a0 Z = true) (hd : decode bytes pc = .ok (.new index, 3)) (hp : pc + 3 = pc') (hc : cells + 1 ≤ R.cells) (hs : slots + n ≤ R.slots)
    (g : ∀ T' h' a, W l Z a0 EL nw own bytes ml ret R κ T' h' (a :: M) (cells + 1) (slots + n) → Keep h h' [] → h.size ≤ a → Exa Z h' a C → (∀ {O nm d : String} {ty : FieldType}, Laid Z a0 C O nm d → parseFieldDescriptor d = some ty → Fld Z h' a O nm d (defaultValue ty)) → Go Z EL nw R κ Q (T'.setTop (mkF (km κ) pc' Ls (.ref a :: S)))) : Go Z EL nw R κ Q (T.setTop (mkF (km κ) pc Ls S)) := by
  subst hp
  refine w.made (k := 1) (n := n) (P := fun h' => Exa Z h' h.size C ∧ (∀ {O nm d : String} {ty : FieldType}, Laid Z a0 C O nm d → parseFieldDescriptor d = some ty → Fld Z h' h.size O nm d (defaultValue ty))) (G := mkF (km κ) (pc + 3) Ls (.ref h.size :: S)) (fun s locs hx hby hml hZ hown eT X => ?_) (fun T' h' w' K hP => g T' h' _ w' K (Nat.le_refl _) hP.1 hP.2)
  obtain ⟨T', h', X', e', E, A, D, -, st⟩ := RoadKit.newO X hx hZ hown w1 w2 w3 eT (g := mkF (km κ) pc Ls S) rfl (hb hby hd) hc hs
  exact ⟨T', h', X', e', E, A.lt, ⟨A, D⟩, st⟩
theorem W.newP (w : W l Z a0 EL nw own bytes ml ret R κ T h M cells slots) {aty : ArrayType} {ty : FieldType} (hty : newarray.typeOf aty = ty) (w1 : (Cond.arrayClass ty).before a0 Z = true) {n : Int32} (hd : decode bytes pc = .ok (.newarray aty, 2)) (hp : pc + 2 = pc') (hn : ¬ n < 0) {cap : Nat} (hcap : n.toNatClampNeg = cap) (hbig : cap ≤ 67108864) (hc : cells + 1 ≤ R.cells) (hs : slots + cap ≤ R.slots)
    (g : ∀ T' h' a k, W l Z a0 EL nw own bytes ml ret R κ T' h' (a :: M) (cells + 1) (slots + cap) → Keep h h' [] → h.size ≤ a → Arv Z h' a k ty n (List.replicate cap (defaultValue ty)) (defaultValue ty) → Go Z EL nw R κ Q (T'.setTop (mkF (km κ) pc' Ls (.ref a :: S)))) : Go Z EL nw R κ Q (T.setTop (mkF (km κ) pc Ls (.int n :: S))) := by
  subst hp hty
  refine w.made (k := 1) (n := cap) (P := fun h' => ∃ k, Arv Z h' h.size k (newarray.typeOf aty) n (List.replicate cap (defaultValue (newarray.typeOf aty))) (defaultValue (newarray.typeOf aty))) (G := mkF (km κ) (pc + 2) Ls (.ref h.size :: S)) (fun s locs hx hby hml hZ hown eT X => ?_) (fun T' h' w' K hP => g T' h' _ _ w' K (Nat.le_refl _) hP.choose_spec)
  obtain ⟨T', h', k, X', e', E, A, st⟩ := RoadKit.newP X hx hZ w1 eT (g := mkF (km κ) pc Ls (.int n :: S)) rfl (hb hby hd) rfl hn (cap := cap) (Nat.le_of_eq hcap) (by omega) hc hs
  exact ⟨T', h', X', e', E, A.lt, ⟨k, (Arv.new A hn).pad (pad_rep [] (defaultValue (newarray.typeOf aty)) cap)⟩, st⟩
theorem W.newPB (w : W l Z a0 EL nw own bytes ml ret R κ T h M cells slots) {aty : ArrayType} {ty : FieldType} (hty : newarray.typeOf aty = ty) (w1 : (Cond.arrayClass ty).before a0 Z = true) {n : Int32} (hd : decode bytes pc = .ok (.newarray aty, 2)) (hp : pc + 2 = pc') (hn : ¬ n < 0) {len cap : Nat} (hlen : n.toNatClampNeg = len) (hcap : len ≤ cap) (hbig : cap ≤ 67108864) (hc : cells + 1 ≤ R.cells) (hs : slots + cap ≤ R.slots)
    (g : ∀ T' h' a k, W l Z a0 EL nw own bytes ml ret R κ T' h' (a :: M) (cells + 1) (slots + cap) → Keep h h' [] → h.size ≤ a → Arv Z h' a k ty n (List.replicate len (defaultValue ty)) (defaultValue ty) → Go Z EL nw R κ Q (T'.setTop (mkF (km κ) pc' Ls (.ref a :: S)))) : Go Z EL nw R κ Q (T.setTop (mkF (km κ) pc Ls (.int n :: S))) := by
  subst hp hty
  refine w.made (k := 1) (n := cap) (P := fun h' => ∃ k, Arv Z h' h.size k (newarray.typeOf aty) n (List.replicate len (defaultValue (newarray.typeOf aty))) (defaultValue (newarray.typeOf aty))) (G := mkF (km κ) (pc + 2) Ls (.ref h.size :: S)) (fun s locs hx hby hml hZ hown eT X => ?_) (fun T' h' w' K hP => g T' h' _ _ w' K (Nat.le_refl _) hP.choose_spec)
  obtain ⟨T', h', k, X', e', E, A, st⟩ := RoadKit.newP X hx hZ w1 eT (g := mkF (km κ) pc Ls (.int n :: S)) rfl (hb hby hd) rfl hn (cap := cap) (by omega) (by omega) hc hs
  exact ⟨T', h', X', e', E, A.lt, ⟨k, (Arv.new A hn).pad (pad_rep [] (defaultValue (newarray.typeOf aty)) len)⟩, st⟩
theorem W.getF (w : W l Z a0 EL nw own bytes ml ret R κ T h M cells slots) {R0 O n d host : String} {index : Nat} (w1 : (Cond.fieldLink own index R0 n d).before a0 Z = true ∨ (Cond.fieldLinkNest own index R0 n d host).before a0 Z = true) (via : Via Z R0 O n d) {a : Addr} {v : Value} (F : Fld Z h a O n d v) (hd : decode bytes pc = .ok (.getfield index, 3)) (hp : pc + 3 = pc')
    (g : ∀ T', W l Z a0 EL nw own bytes ml ret R κ T' h M cells slots → Go Z EL nw R κ Q (T'.setTop (mkF (km κ) pc' Ls (v :: S)))) : Go Z EL nw R κ Q (T.setTop (mkF (km κ) pc Ls (.ref a :: S))) := by
  subst hp
  exact w.noted (G := mkF (km κ) (pc + 3) Ls (v :: S)) (fun s locs hx hby hml hZ hown eT X => RoadKit.getF X hx hZ hown w1 via eT F (g := mkF (km κ) pc Ls (.ref a :: S)) rfl rfl (hb hby hd)) g
theorem W.getS (w : W l Z a0 EL nw own bytes ml ret R κ T h M cells slots) {R0 O n d : String} {index : Nat} (w1 : (Cond.fieldLink own index R0 n d).before a0 Z = true) (via : Via Z R0 O n d) {v : Value} (F : Sta Z h O n d v) (hd : decode bytes pc = .ok (.getstatic index, 3)) (hp : pc + 3 = pc')
    (g : ∀ T', W l Z a0 EL nw own bytes ml ret R κ T' h M cells slots → Go Z EL nw R κ Q (T'.setTop (mkF (km κ) pc' Ls (v :: S)))) : Go Z EL nw R κ Q (T.setTop (mkF (km κ) pc Ls S)) := by
  subst hp
  exact w.noted (G := mkF (km κ) (pc + 3) Ls (v :: S)) (fun s locs hx hby hml hZ hown eT X => RoadKit.getS (host := "") X hx hZ hown w1 via eT F (g := mkF (km κ) pc Ls S) rfl (hb hby hd)) g
theorem W.putF (w : W l Z a0 EL nw own bytes ml ret R κ T h M cells slots) {R0 O n d host C : String} {index kk : Nat} {ty : FieldType} (w1 : (Cond.fieldLink own index R0 n d).before a0 Z = true ∨ (Cond.fieldLinkNest own index R0 n d host).before a0 Z = true) (via : Via Z R0 O n d) {a : Addr} {v old : Value} (F : Fld Z h a O n d old) (E : Exa Z h a C)
    (L : (Cond.lays C O n d).before a0 Z = true ∨ ((Cond.laysFinal C O n d).before a0 Z = true ∧ own = O ∧ (kt κ).name = "<init>")) (wi : (Cond.instantiable C kk).before a0 Z = true) (hty : parseFieldDescriptor d = some ty) (hn : narrow ty v = v) (hf : fits ty v = true) (ha : a ∈ M) (hd : decode bytes pc = .ok (.putfield index, 3)) (hp : pc + 3 = pc')
    (g : ∀ T' h', W l Z a0 EL nw own bytes ml ret R κ T' h' M cells slots → Wr h h' a (RoadKit.slotOf Z O n d) v → Go Z EL nw R κ Q (T'.setTop (mkF (km κ) pc' Ls S))) : Go Z EL nw R κ Q (T.setTop (mkF (km κ) pc Ls (v :: .ref a :: S))) := by
  subst hp
  exact w.wrote ha (G := mkF (km κ) (pc + 3) Ls S) (fun s locs hx hby hml hZ hown eT X => RoadKit.putF X hx hZ hown w1 via eT F E L wi hty hn hf (g := mkF (km κ) pc Ls (v :: .ref a :: S)) rfl rfl (hb hby hd)) g
theorem W.putFN (w : W l Z a0 EL nw own bytes ml ret R κ T h M cells slots) {R0 O n d C : String} {index kk : Nat} {ty : FieldType} (w1 : (Cond.fieldLink own index R0 n d).before a0 Z = true) (via : Via Z R0 O n d) {a : Addr} {v v' old : Value} (F : Fld Z h a O n d old) (E : Exa Z h a C)
    (L : (Cond.lays C O n d).before a0 Z = true ∨ ((Cond.laysFinal C O n d).before a0 Z = true ∧ own = O ∧ (kt κ).name = "<init>")) (wi : (Cond.instantiable C kk).before a0 Z = true) (hty : parseFieldDescriptor d = some ty) (hn : narrow ty v = v') (hf : fits ty v' = true) (ha : a ∈ M) (hd : decode bytes pc = .ok (.putfield index, 3)) (hp : pc + 3 = pc')
    (g : ∀ T' h', W l Z a0 EL nw own bytes ml ret R κ T' h' M cells slots → Wr h h' a (RoadKit.slotOf Z O n d) v' → Go Z EL nw R κ Q (T'.setTop (mkF (km κ) pc' Ls S))) : Go Z EL nw R κ Q (T.setTop (mkF (km κ) pc Ls (v :: .ref a :: S))) := by
  subst hp
  exact w.wrote ha (G := mkF (km κ) (pc + 3) Ls S) (fun s locs hx hby hml hZ hown eT X => RoadKit.putFN X hx hZ hown w1 via eT F E L wi hty hn hf (g := mkF (km κ) pc Ls (v :: .ref a :: S)) rfl rfl (hb hby hd)) g
theorem W.stC (w : W l Z a0 EL nw own bytes ml ret R κ T h M cells slots) {a : Addr} {k : ClassId} {z j x x' : Int32} (hn : nar .char x = x') {vs : List Value} {dv : Value} (V : Arv Z h a k .char z vs dv) {i : Nat} (hj : j.toNatClampNeg = i) (hj0 : ¬ j < 0 ∧ j < z) (hi : i < vs.length) (ha : a ∈ M) (hd : decode bytes pc = .ok (.castore, 1)) (hp : pc + 1 = pc')
    (g : ∀ T' h', W l Z a0 EL nw own bytes ml ret R κ T' h' M cells slots → Keep h h' [a] → Arv Z h' a k .char z (vs.set i (.int x')) dv → Go Z EL nw R κ Q (T'.setTop (mkF (km κ) pc' Ls S))) : Go Z EL nw R κ Q (T.setTop (mkF (km κ) pc Ls (.int x :: .int j :: .ref a :: S))) := by
  subst hp hn
  obtain ⟨c, A, q, Sz, N, H, Gf⟩ := V
  exact w.wrote ha (G := mkF (km κ) (pc + 1) Ls S) (fun s locs hx hby hml hZ hown eT X => RoadKit.stC X hx hZ eT A (inb_of Sz hj0) (g := mkF (km κ) pc Ls (.int x :: .int j :: .ref a :: S)) rfl rfl (hb hby hd)) (fun T' h' w' W' => g T' h' w' (Keep.of_wr W') (Arv.set A q Sz N H Gf (fits_nar_char _) W' i hj hi))
theorem W.stB (w : W l Z a0 EL nw own bytes ml ret R κ T h M cells slots) {a : Addr} {k : ClassId} {z j x x' : Int32} (hn : nar .byte x = x') {vs : List Value} {dv : Value} (V : Arv Z h a k .byte z vs dv) {i : Nat} (hj : j.toNatClampNeg = i) (hj0 : ¬ j < 0 ∧ j < z) (hi : i < vs.length) (ha : a ∈ M) (hd : decode bytes pc = .ok (.bastore, 1)) (hp : pc + 1 = pc')
    (g : ∀ T' h', W l Z a0 EL nw own bytes ml ret R κ T' h' M cells slots → Keep h h' [a] → Arv Z h' a k .byte z (vs.set i (.int x')) dv → Go Z EL nw R κ Q (T'.setTop (mkF (km κ) pc' Ls S))) : Go Z EL nw R κ Q (T.setTop (mkF (km κ) pc Ls (.int x :: .int j :: .ref a :: S))) := by
  subst hp hn
  obtain ⟨c, A, q, Sz, N, H, Gf⟩ := V
  exact w.wrote ha (G := mkF (km κ) (pc + 1) Ls S) (fun s locs hx hby hml hZ hown eT X => RoadKit.stB X hx hZ eT A (inb_of Sz hj0) (g := mkF (km κ) pc Ls (.int x :: .int j :: .ref a :: S)) rfl rfl (hb hby hd)) (fun T' h' w' W' => g T' h' w' (Keep.of_wr W') (Arv.set A q Sz N H Gf (fits_nar_byte _) W' i hj hi))
theorem W.stI (w : W l Z a0 EL nw own bytes ml ret R κ T h M cells slots) {a : Addr} {k : ClassId} {z j x : Int32} {vs : List Value} {dv : Value} (V : Arv Z h a k .int z vs dv) {i : Nat} (hj : j.toNatClampNeg = i) (hj0 : ¬ j < 0 ∧ j < z) (hi : i < vs.length) (ha : a ∈ M) (hd : decode bytes pc = .ok (.iastore, 1)) (hp : pc + 1 = pc')
    (g : ∀ T' h', W l Z a0 EL nw own bytes ml ret R κ T' h' M cells slots → Keep h h' [a] → Arv Z h' a k .int z (vs.set i (.int x)) dv → Go Z EL nw R κ Q (T'.setTop (mkF (km κ) pc' Ls S))) : Go Z EL nw R κ Q (T.setTop (mkF (km κ) pc Ls (.int x :: .int j :: .ref a :: S))) := by
  subst hp
  obtain ⟨c, A, q, Sz, N, H, Gf⟩ := V
  exact w.wrote ha (G := mkF (km κ) (pc + 1) Ls S) (fun s locs hx hby hml hZ hown eT X => RoadKit.stI X hx hZ eT A (inb_of Sz hj0) (g := mkF (km κ) pc Ls (.int x :: .int j :: .ref a :: S)) rfl rfl (hb hby hd)) (fun T' h' w' W' => g T' h' w' (Keep.of_wr W') (Arv.set A q Sz N H Gf rfl W' i hj hi))
theorem W.stJ (w : W l Z a0 EL nw own bytes ml ret R κ T h M cells slots) {a : Addr} {k : ClassId} {z j : Int32} {x : Int64} {vs : List Value} {dv : Value} (V : Arv Z h a k .long z vs dv) {i : Nat} (hj : j.toNatClampNeg = i) (hj0 : ¬ j < 0 ∧ j < z) (hi : i < vs.length) (ha : a ∈ M) (hd : decode bytes pc = .ok (.lastore, 1)) (hp : pc + 1 = pc')
    (g : ∀ T' h', W l Z a0 EL nw own bytes ml ret R κ T' h' M cells slots → Keep h h' [a] → Arv Z h' a k .long z (vs.set i (.long x)) dv → Go Z EL nw R κ Q (T'.setTop (mkF (km κ) pc' Ls S))) : Go Z EL nw R κ Q (T.setTop (mkF (km κ) pc Ls (.long x :: .int j :: .ref a :: S))) := by
  subst hp
  obtain ⟨c, A, q, Sz, N, H, Gf⟩ := V
  exact w.wrote ha (G := mkF (km κ) (pc + 1) Ls S) (fun s locs hx hby hml hZ hown eT X => RoadKit.stJ X hx hZ eT A (inb_of Sz hj0) (g := mkF (km κ) pc Ls (.long x :: .int j :: .ref a :: S)) rfl rfl (hb hby hd)) (fun T' h' w' W' => g T' h' w' (Keep.of_wr W') (Arv.set A q Sz N H Gf rfl W' i hj hi))
theorem W.alen (w : W l Z a0 EL nw own bytes ml ret R κ T h M cells slots) {a : Addr} {k : ClassId} {ty : FieldType} {z : Int32} {vs : List Value} {dv : Value} (V : Arv Z h a k ty z vs dv) (hd : decode bytes pc = .ok (.arraylength, 1)) (hp : pc + 1 = pc') (g : Go Z EL nw R κ Q (T.setTop (mkF (km κ) pc' Ls (.int z :: S)))) : Go Z EL nw R κ Q (T.setTop (mkF (km κ) pc Ls (.ref a :: S))) := by
  subst hp
  obtain ⟨c, A, q, Sz, N, H, Gf⟩ := V
  obtain ⟨⟨hx, hby, -⟩, vm0, k0, locs, X, -, h2, -, -, -, h6, -⟩ := w
  refine Go.via (X.arraylength hx (by rw [h6]; exact A.1) (State.isArrayOf_alike (T := (ks κ).setVm vm0) h2.alike A.2.1) (g := mkF (km κ) pc Ls (.ref a :: S)) rfl rfl (hb hby hd)) ?_
  rw [len_of Sz N]; exact g
theorem W.ldC (w : W l Z a0 EL nw own bytes ml ret R κ T h M cells slots) {a : Addr} {k : ClassId} {z j : Int32} {vs : List Value} {dv v : Value} (V : Arv Z h a k .char z vs dv) (hj0 : ¬ j < 0 ∧ j < z) (hv : vs.getD j.toNatClampNeg dv = v) (hd : decode bytes pc = .ok (.caload, 1)) (hp : pc + 1 = pc') (g : Go Z EL nw R κ Q (T.setTop (mkF (km κ) pc' Ls (v :: S)))) : Go Z EL nw R κ Q (T.setTop (mkF (km κ) pc Ls (.int j :: .ref a :: S))) := by
  subst hp
  obtain ⟨c, A, q, Sz, N, H, Gf⟩ := V
  obtain ⟨⟨hx, hby, -⟩, vm0, k0, locs, X, -, h2, -, -, -, h6, -⟩ := w
  exact Go.via (X.caload hx (by rw [h6]; exact A.1) (State.isArrayOf_alike (T := (ks κ).setVm vm0) h2.alike A.2.1) A.2.2 (inb_of Sz hj0) (H.at (inb_of Sz hj0) hv) (g := mkF (km κ) pc Ls (.int j :: .ref a :: S)) rfl rfl (hb hby hd)) g
theorem W.ldB (w : W l Z a0 EL nw own bytes ml ret R κ T h M cells slots) {a : Addr} {k : ClassId} {z j : Int32} {vs : List Value} {dv v : Value} (V : Arv Z h a k .byte z vs dv) (hj0 : ¬ j < 0 ∧ j < z) (hv : vs.getD j.toNatClampNeg dv = v) (hd : decode bytes pc = .ok (.baload, 1)) (hp : pc + 1 = pc') (g : Go Z EL nw R κ Q (T.setTop (mkF (km κ) pc' Ls (v :: S)))) : Go Z EL nw R κ Q (T.setTop (mkF (km κ) pc Ls (.int j :: .ref a :: S))) := by
  subst hp
  obtain ⟨c, A, q, Sz, N, H, Gf⟩ := V
  obtain ⟨⟨hx, hby, -⟩, vm0, k0, locs, X, -, h2, -, -, -, h6, -⟩ := w
  exact Go.via (X.baloadBytes hx (by rw [h6]; exact A.1) (State.isArrayOf_alike (T := (ks κ).setVm vm0) h2.alike A.2.1) A.2.2 (inb_of Sz hj0) (H.at (inb_of Sz hj0) hv) (g := mkF (km κ) pc Ls (.int j :: .ref a :: S)) rfl rfl (hb hby hd)) g
theorem W.ldI (w : W l Z a0 EL nw own bytes ml ret R κ T h M cells slots) {a : Addr} {k : ClassId} {z j : Int32} {vs : List Value} {dv v : Value} (V : Arv Z h a k .int z vs dv) (hj0 : ¬ j < 0 ∧ j < z) (hv : vs.getD j.toNatClampNeg dv = v) (hd : decode bytes pc = .ok (.iaload, 1)) (hp : pc + 1 = pc') (g : Go Z EL nw R κ Q (T.setTop (mkF (km κ) pc' Ls (v :: S)))) : Go Z EL nw R κ Q (T.setTop (mkF (km κ) pc Ls (.int j :: .ref a :: S))) := by
  subst hp
  obtain ⟨c, A, q, Sz, N, H, Gf⟩ := V
  obtain ⟨⟨hx, hby, -⟩, vm0, k0, locs, X, -, h2, -, -, -, h6, -⟩ := w
  exact Go.via (X.iaload hx (by rw [h6]; exact A.1) (State.isArrayOf_alike (T := (ks κ).setVm vm0) h2.alike A.2.1) A.2.2 (inb_of Sz hj0) (H.at (inb_of Sz hj0) hv) (g := mkF (km κ) pc Ls (.int j :: .ref a :: S)) rfl rfl (hb hby hd)) g
theorem W.ldJ (w : W l Z a0 EL nw own bytes ml ret R κ T h M cells slots) {a : Addr} {k : ClassId} {z j : Int32} {vs : List Value} {dv v : Value} (V : Arv Z h a k .long z vs dv) (hj0 : ¬ j < 0 ∧ j < z) (hv : vs.getD j.toNatClampNeg dv = v) (hd : decode bytes pc = .ok (.laload, 1)) (hp : pc + 1 = pc') (g : Go Z EL nw R κ Q (T.setTop (mkF (km κ) pc' Ls (v :: S)))) : Go Z EL nw R κ Q (T.setTop (mkF (km κ) pc Ls (.int j :: .ref a :: S))) := by
  subst hp
  obtain ⟨c, A, q, Sz, N, H, Gf⟩ := V
  obtain ⟨⟨hx, hby, -⟩, vm0, k0, locs, X, -, h2, -, -, -, h6, -⟩ := w
  exact Go.via (X.laload hx (by rw [h6]; exact A.1) (State.isArrayOf_alike (T := (ks κ).setVm vm0) h2.alike A.2.1) A.2.2 (inb_of Sz hj0) (H.at (inb_of Sz hj0) hv) (g := mkF (km κ) pc Ls (.int j :: .ref a :: S)) rfl rfl (hb hby hd)) g
theorem W.ldA (w : W l Z a0 EL nw own bytes ml ret R κ T h M cells slots) {a : Addr} {k : ClassId} {ty : FieldType} {z j : Int32} {vs : List Value} {dv v : Value} (V : Arv Z h a k ty z vs dv) (hty : ty.isReference = true) (hj0 : ¬ j < 0 ∧ j < z) (hv : vs.getD j.toNatClampNeg dv = v) (hd : decode bytes pc = .ok (.aaload, 1)) (hp : pc + 1 = pc') (g : Go Z EL nw R κ Q (T.setTop (mkF (km κ) pc' Ls (v :: S)))) : Go Z EL nw R κ Q (T.setTop (mkF (km κ) pc Ls (.int j :: .ref a :: S))) := by
  subst hp
  obtain ⟨c, A, q, Sz, N, H, Gf⟩ := V
  obtain ⟨⟨hx, hby, -⟩, vm0, k0, locs, X, -, h2, -, -, -, h6, -⟩ := w
  exact Go.via (X.aaload hx (by rw [h6]; exact A.1) (State.isArrayOf_alike (T := (ks κ).setVm vm0) h2.alike A.2.1) hty A.2.2 (inb_of Sz hj0) (H.at (inb_of Sz hj0) hv) (g := mkF (km κ) pc Ls (.int j :: .ref a :: S)) rfl rfl (hb hby hd)) g
theorem W.ldcI (w : W l Z a0 EL nw own bytes ml ret R κ T h M cells slots) {index : Nat} {v : Int32} (w1 : (Cond.constant own index v).before a0 Z = true) (hd : decode bytes pc = .ok (.ldc index, 2)) (hp : pc + 2 = pc') (g : Go Z EL nw R κ Q (T.setTop (mkF (km κ) pc' Ls (.int v :: S)))) : Go Z EL nw R κ Q (T.setTop (mkF (km κ) pc Ls S)) := by
  subst hp
  obtain ⟨⟨hx, hby, -⟩, vm0, k0, locs, X, -, h2, h3, -⟩ := w
  exact Go.via (X.ldcInt hx h3 (mvT (s := (ks κ).setVm vm0) h2 w1) (g := mkF (km κ) pc Ls S) rfl (hb hby hd)) g
theorem W.ldcJ (w : W l Z a0 EL nw own bytes ml ret R κ T h M cells slots) {index : Nat} {v : Int64} (w1 : (Cond.constantLong own index v).before a0 Z = true) (hd : decode bytes pc = .ok (.ldc2_w index, 3)) (hp : pc + 3 = pc') (g : Go Z EL nw R κ Q (T.setTop (mkF (km κ) pc' Ls (.long v :: S)))) : Go Z EL nw R κ Q (T.setTop (mkF (km κ) pc Ls S)) := by
  subst hp
  obtain ⟨⟨hx, hby, -⟩, vm0, k0, locs, X, -, h2, h3, -⟩ := w
  exact Go.via (X.ldc2Long hx h3 (mvT (s := (ks κ).setVm vm0) h2 w1) (g := mkF (km κ) pc Ls S) rfl (hb hby hd)) g
theorem W.initO (w : W l Z a0 EL nw own bytes ml ret R κ T h M cells slots) {index : Nat} (w1 : (Cond.methodLink own index Lib.objectInit).before a0 Z = true) (w2 : (Cond.instanceMethod Lib.objectInit).before a0 Z = true) (w3 : (Cond.code Lib.objectInit ⟨#[0xb1]⟩ 1 none).before a0 Z = true) {a : Addr} (hd : decode bytes pc = .ok (.invokespecial index, 3)) (hp : pc + 3 = pc') (hsz : Ls.size = ml) (hf : 1 ≤ R.frames) {Wd : Nat} (hwd : (S.map fun v => v.category).sum = Wd) (hlo : Wd + 12 ≤ R.locals)
    (g : ∀ T', W l Z a0 EL nw own bytes ml ret R κ T' h M cells slots → Go Z EL nw R κ Q (T'.setTop (mkF (km κ) pc' Ls S))) : Go Z EL nw R κ Q (T.setTop (mkF (km κ) pc Ls (.ref a :: S))) := by
  subst hp
  exact w.noted (G := mkF (km κ) (pc + 3) Ls S) (fun s locs hx hby hml hZ hown eT X => RoadKit.initO X hx hZ hown w1 w2 w3 eT (g := mkF (km κ) pc Ls (.ref a :: S)) rfl (hsz.trans hml.symm) rfl (hb hby hd) hf (W := Wd) (by rw [mr0]; omega) hlo) g
theorem W.cast (w : W l Z a0 EL nw own bytes ml ret R κ T h M cells slots) {index : Nat} {K : String} (w1 : (Cond.classLink own index K).before a0 Z = true) {a : Addr} (F : Ins Z h a K true) (hd : decode bytes pc = .ok (.checkcast index, 3)) (hp : pc + 3 = pc')
    (g : ∀ T', W l Z a0 EL nw own bytes ml ret R κ T' h M cells slots → Go Z EL nw R κ Q (T'.setTop (mkF (km κ) pc' Ls (.ref a :: S)))) : Go Z EL nw R κ Q (T.setTop (mkF (km κ) pc Ls (.ref a :: S))) := by
  subst hp
  exact w.noted (G := mkF (km κ) (pc + 3) Ls (.ref a :: S)) (fun s locs hx hby hml hZ hown eT X => RoadKit.castY X hx hZ hown w1 eT F (g := mkF (km κ) pc Ls (.ref a :: S)) rfl rfl (hb hby hd)) g
theorem W.inst (w : W l Z a0 EL nw own bytes ml ret R κ T h M cells slots) {index : Nat} {K : String} (w1 : (Cond.classLink own index K).before a0 Z = true) {a : Addr} (F : Ins Z h a K true) (hd : decode bytes pc = .ok (.instanceof index, 3)) (hp : pc + 3 = pc')
    (g : ∀ T', W l Z a0 EL nw own bytes ml ret R κ T' h M cells slots → Go Z EL nw R κ Q (T'.setTop (mkF (km κ) pc' Ls (.int 1 :: S)))) : Go Z EL nw R κ Q (T.setTop (mkF (km κ) pc Ls (.ref a :: S))) := by
  subst hp
  exact w.noted (G := mkF (km κ) (pc + 3) Ls (.int 1 :: S)) (fun s locs hx hby hml hZ hown eT X => RoadKit.instY X hx hZ hown w1 eT F (g := mkF (km κ) pc Ls (.ref a :: S)) rfl rfl (hb hby hd)) g
theorem W.retI (w : W l Z a0 EL nw own bytes ml ret R κ T h M cells slots) {z : Int32} (hr : ret = some .int) (hd : decode bytes pc = .ok (.ireturn, 1)) {M' : List Addr} (hM : ∀ x ∈ M', x ∈ M) (hc : cells ≤ R.cells) (hs : slots ≤ R.slots) (hq : Q (some (.int z)) h M') : Go Z EL nw R κ Q (T.setTop (mkF (km κ) pc Ls (.int z :: S))) :=
  w.leave (fun q => by rw [hr] at q; cases q) hc hs hM hq (fun s locs fs hx hby hret X hl => retOut X hx (hret.trans hr) rfl (Or.inl ⟨rfl, Or.inl rfl, _, rfl⟩) (hb hby hd) hl)
theorem W.retN (w : W l Z a0 EL nw own bytes ml ret R κ T h M cells slots) {z z' : Int32} {t : FieldType} (hr : ret = some t) (hn : nar t z = z') (ht : t = .boolean ∨ t = .byte ∨ t = .char ∨ t = .short) (hd : decode bytes pc = .ok (.ireturn, 1)) {M' : List Addr} (hM : ∀ x ∈ M', x ∈ M) (hc : cells ≤ R.cells) (hs : slots ≤ R.slots) (hq : Q (some (.int z')) h M') : Go Z EL nw R κ Q (T.setTop (mkF (km κ) pc Ls (.int z :: S))) := by
  subst hn
  exact w.leave (fun q => by rw [hr] at q; cases q) hc hs hM hq (fun s locs fs hx hby hret X hl => RoadKit.retN X hx (hret.trans hr) ht (hb hby hd) hl)
theorem W.retJ (w : W l Z a0 EL nw own bytes ml ret R κ T h M cells slots) {z : Int64} (hr : ret = some .long) (hd : decode bytes pc = .ok (.lreturn, 1)) {M' : List Addr} (hM : ∀ x ∈ M', x ∈ M) (hc : cells ≤ R.cells) (hs : slots ≤ R.slots) (hq : Q (some (.long z)) h M') : Go Z EL nw R κ Q (T.setTop (mkF (km κ) pc Ls (.long z :: S))) :=
  w.leave (fun q => by rw [hr] at q; cases q) hc hs hM hq (fun s locs fs hx hby hret X hl => retOut X hx (hret.trans hr) rfl (Or.inr (Or.inl ⟨rfl, rfl, _, rfl⟩)) (hb hby hd) hl)
theorem nar_ref {t : FieldType} {v : Value} (ht : t.isReference = true) (hv : v.isRef = true) : narrow t v = v := by rcases ref_cases hv with rfl | ⟨a, rfl⟩ <;> cases t <;> first | rfl | (simp [FieldType.isReference] at ht)
theorem W.retR (w : W l Z a0 EL nw own bytes ml ret R κ T h M cells slots) {v : Value} {t : FieldType} (hr : ret = some t) (ht : t.isReference = true) (hv : v.isRef = true) (hd : decode bytes pc = .ok (.areturn, 1)) {M' : List Addr} (hM : ∀ x ∈ M', x ∈ M) (hc : cells ≤ R.cells) (hs : slots ≤ R.slots) (hq : Q (some v) h M') : Go Z EL nw R κ Q (T.setTop (mkF (km κ) pc Ls (v :: S))) :=
  w.leave (fun q => by rw [hr] at q; cases q) hc hs hM hq (fun s locs fs hx hby hret X hl => retOut X hx (hret.trans hr) (nar_ref ht hv) (Or.inr (Or.inr (Or.inr (Or.inr ⟨rfl, ht, hv⟩)))) (hb hby hd) hl)
theorem W.ret0 (w : W l Z a0 EL nw own bytes ml ret R κ T h M cells slots) (hr : ret = none) (hd : decode bytes pc = .ok (.return_, 1)) {M' : List Addr} (hM : ∀ x ∈ M', x ∈ M) (hc : cells ≤ R.cells) (hs : slots ≤ R.slots) (hq : Q none h M') : Go Z EL nw R κ Q (T.setTop (mkF (km κ) pc Ls [])) :=
  w.leave (fun _ => rfl) hc hs hM hq (fun s locs fs hx hby hret X hl => X.returnOut hx (hret.trans hr) (hb hby hd) hl)
theorem W.ldcS (w : W l Z a0 EL nw own bytes ml ret R κ T h M cells slots) (hnw : nw = false) {index : Nat} {text : String} (w1 : (Cond.stringLink own index text).before a0 Z = true) (wS : ∀ a ∈ Bundle.stringAtoms, a.before a0 Z = true) (hmem : (own, index) ∈ EL) {vs : List Value} {z : Int32}
    (ht : (∀ c ∈ text.toList, c.toNat < 256) ∧ text.toList.map (fun c => Value.int (Jvm.Lit.byteI c.toNat.toUInt16)) = vs) (hz : ¬ z < 0) (hl : z.toNatClampNeg = vs.length) (hd : decode bytes pc = .ok (.ldc index, 2)) (hp : pc + 2 = pc') {n : Nat} (hn : 4 * text.toList.length ≤ n) (hbig : n ≤ 536870912) (hc : cells + 2 ≤ R.cells) (hs : slots + (n + 4) ≤ R.slots)
    (g : ∀ T' h' a b k, W l Z a0 EL nw own bytes ml ret R κ T' h' M (cells + 2) (slots + (n + 4)) → Keep h h' [] → Exa Z h' a "java/lang/String" → Fld Z h' a "java/lang/String" "coder" "B" (.int 0) → Fld Z h' a "java/lang/String" "value" "[B" (.ref b) → Arv Z h' b k .byte z vs (.int 0) → (∀ x ∈ M, x ≠ a ∧ x ≠ b) → Go Z EL nw R κ Q (T'.setTop (mkF (km κ) pc' Ls (.ref a :: S)))) : Go Z EL nw R κ Q (T.setTop (mkF (km κ) pc Ls S)) := by
  subst hp
  obtain ⟨hC, vm0, k0, locs, X, h1, h2, h3, h4, h5, h6, h7, h8, h9, h10⟩ := w
  obtain ⟨a, T', h', k1, b, k, X', e', E, hS', hk', hZ', hown', q1, q2, q3, q4, -, -, q7, -, q9, st⟩ := ldcCH X hC.1 h2 h3 w1 wS h6 h4 h5 hC.2.2.2.2.2 hmem h7.1 ht hz hl (g := mkF (km κ) pc Ls S) rfl (hb hC.2.1 hd) hn hbig hc hs
  have hM' := h8.at q7
  exact Go.via st (g T' h' a b k ⟨hC, T'.vm, k1, locs, X', h1, hZ', hown', hS', hk', e', h7.trans q7, hM', h9.ext E, fun q => by rw [hnw] at q; cases q⟩ (keepE E) q1 q2 q3 q4 (fun x hx => q9 x (hM' x hx).2.2))
theorem W.copy (w : W l Z a0 EL nw own bytes ml ret R κ T h M cells slots) {index : Nat} (w1 : (Cond.methodLink own index Jvm.Stand.acN).before a0 Z = true) (w2 : (Cond.native Jvm.Stand.acN).before a0 Z = true) (w3 : (Cond.static Jvm.Stand.acN).before a0 Z = true) (w4 : (Cond.initialized "java/lang/System").before a0 Z = true)
    {a b : Addr} {k k' : ClassId} {ty : FieldType} {z z' sp dp nn : Int32} {vs vd us : List Value} {dv dd : Value} (A : Arv Z h a k ty z vs dv) (B : Arv Z h b k' ty z' vd dd) (hty : refKind ty = false) (h1 : ¬ sp < 0) (h2 : ¬ dp < 0) (h3 : ¬ nn < 0) (h4 : sp.toNatClampNeg + nn.toNatClampNeg ≤ z.toNatClampNeg) (h5 : dp.toNatClampNeg + nn.toNatClampNeg ≤ z'.toNatClampNeg)
    (hus : vd.take dp.toNatClampNeg ++ ((List.range nn.toNatClampNeg).map fun i => vs.getD (sp.toNatClampNeg + i) dv) ++ vd.drop (dp.toNatClampNeg + nn.toNatClampNeg) = us) (hl : dp.toNatClampNeg + nn.toNatClampNeg ≤ vd.length) (hb' : b ∈ M) (hd : decode bytes pc = .ok (.invokestatic index, 3)) (hp : pc + 3 = pc') (hsz : Ls.size = ml) (hf : 1 ≤ R.frames) {Wd : Nat} (hwd : (S.map fun v => v.category).sum = Wd) (hlo : Wd + (nativeFrameWords "java/lang/System" "arraycopy" 5 + 11) ≤ R.locals)
    (g : ∀ T' h', W l Z a0 EL nw own bytes ml ret R κ T' h' M cells slots → Keep h h' [b] → Arv Z h' b k' ty z' us dd → Go Z EL nw R κ Q (T'.setTop (mkF (km κ) pc' Ls S))) : Go Z EL nw R κ Q (T.setTop (mkF (km κ) pc Ls (.int nn :: .int dp :: .ref b :: .int sp :: .ref a :: S))) := by
  subst hp hus
  refine w.kept (ws := [b]) (fun x hx => by rw [List.mem_singleton.mp hx]; exact hb') (G := mkF (km κ) (pc + 3) Ls S) (P := fun h' => Arv Z h' b k' ty z' _ dd) (fun s locs hx hby hml hZ hown eT N X => ?_) g
  obtain ⟨T', h', L, X', e', N', K, A', st⟩ := RoadKit.cpA X hx hZ hown w1 w2 w3 w4 eT A B (Or.inl ⟨rfl, hty⟩) h1 h2 h3 h4 h5 rfl hl N (w.mut hb').1 (g := mkF (km κ) pc Ls (.int nn :: .int dp :: .ref b :: .int sp :: .ref a :: S)) rfl (hsz.trans hml.symm) rfl (hb hby hd) hf (W := Wd) (by rw [mr0]; omega) hlo
  exact ⟨T', h', L, X', e', N', K, A', st⟩
theorem W.copyN (w : W l Z a0 EL nw own bytes ml ret R κ T h M cells slots) {index : Nat} (w1 : (Cond.methodLink own index Jvm.Stand.acN).before a0 Z = true) (w2 : (Cond.native Jvm.Stand.acN).before a0 Z = true) (w3 : (Cond.static Jvm.Stand.acN).before a0 Z = true) (w4 : (Cond.initialized "java/lang/System").before a0 Z = true)
    {a b : Addr} {k k' : ClassId} {ty : FieldType} {z z' sp dp nn : Int32} {vs vd us : List Value} {dv dd : Value} (A : Arv Z h a k ty z vs dv) (B : Arv Z h b k' ty z' vd dd) (hty : refKind ty = false) {a' b' n' L1 L2 : Nat} (h1 : ¬ sp < 0 ∧ sp.toNatClampNeg = a') (h2 : ¬ dp < 0 ∧ dp.toNatClampNeg = b') (h3 : ¬ nn < 0 ∧ nn.toNatClampNeg = n') (hz : z.toNatClampNeg = L1) (hz' : z'.toNatClampNeg = L2) (h4 : a' + n' ≤ L1) (h5 : b' + n' ≤ L2)
    (hus : vd.take b' ++ ((List.range n').map fun i => vs.getD (a' + i) dv) ++ vd.drop (b' + n') = us) (hl : b' + n' ≤ vd.length) (hb' : b ∈ M) (hd : decode bytes pc = .ok (.invokestatic index, 3)) (hp : pc + 3 = pc') (hsz : Ls.size = ml) (hf : 1 ≤ R.frames) {Wd : Nat} (hwd : (S.map fun v => v.category).sum = Wd) (hlo : Wd + 18 ≤ R.locals)
    (g : ∀ T' h', W l Z a0 EL nw own bytes ml ret R κ T' h' M cells slots → Keep h h' [b] → Arv Z h' b k' ty z' us dd → Go Z EL nw R κ Q (T'.setTop (mkF (km κ) pc' Ls S))) : Go Z EL nw R κ Q (T.setTop (mkF (km κ) pc Ls (.int nn :: .int dp :: .ref b :: .int sp :: .ref a :: S))) := by
  obtain ⟨g1, rfl⟩ := h1
  obtain ⟨g2, rfl⟩ := h2
  obtain ⟨g3, rfl⟩ := h3
  subst hz hz'
  exact w.copy w1 w2 w3 w4 A B hty g1 g2 g3 h4 h5 hus hl hb' hd hp hsz hf hwd (by have e : nativeFrameWords "java/lang/System" "arraycopy" 5 = 7 := (by decide); omega) g
theorem W.clone (w : W l Z a0 EL nw own bytes ml ret R κ T h M cells slots) {index : Nat} {ad : String} (w1 : (Cond.methodLink own index ⟨ad, "clone", "()Ljava/lang/Object;"⟩).before a0 Z = true) (w2 : (Cond.sameMethod ad "java/lang/Object" "clone" "()Ljava/lang/Object;").before a0 Z = true) (w3 : (Cond.native ⟨"java/lang/Object", "clone", "()Ljava/lang/Object;"⟩).before a0 Z = true)
    (w4 : (Cond.instanceMethod ⟨"java/lang/Object", "clone", "()Ljava/lang/Object;"⟩).before a0 Z = true) (w5 : (Cond.selects ad ⟨ad, "clone", "()Ljava/lang/Object;"⟩ ⟨"java/lang/Object", "clone", "()Ljava/lang/Object;"⟩).before a0 Z = true) (w6 : (Cond.castable ad "java/lang/Cloneable").before a0 Z = true)
    {a : Addr} {k : ClassId} {ty : FieldType} {z : Int32} {vs : List Value} {dv : Value} (F : Arv Z h a k ty z vs dv) (E : Exa Z h a ad) (hd : decode bytes pc = .ok (.invokevirtual index, 3)) (hp : pc + 3 = pc') (hsz : Ls.size = ml) (hf : 1 ≤ R.frames) {Wd cap : Nat} (hwd : (S.map fun v => v.category).sum = Wd) (hlo : Wd + 14 ≤ R.locals) (hcap : z.toNatClampNeg ≤ cap) (hc : cells + 1 ≤ R.cells) (hs : slots + cap ≤ R.slots)
    (g : ∀ T' h' b, W l Z a0 EL nw own bytes ml ret R κ T' h' (b :: M) (cells + 1) (slots + cap) → Keep h h' [] → h.size ≤ b → Arv Z h' b k ty z vs dv → Exa Z h' b ad → Go Z EL nw R κ Q (T'.setTop (mkF (km κ) pc' Ls (.ref b :: S)))) : Go Z EL nw R κ Q (T.setTop (mkF (km κ) pc Ls (.ref a :: S))) := by
  subst hp
  refine w.made (k := 1) (n := cap) (P := fun h' => Arv Z h' h.size k ty z vs dv ∧ Exa Z h' h.size ad) (G := mkF (km κ) (pc + 3) Ls (.ref h.size :: S)) (fun s locs hx hby hml hZ hown eT X => ?_) (fun T' h' w' K hP => g T' h' _ w' K (Nat.le_refl _) hP.1 hP.2)
  obtain ⟨T', h', X', e', Ex, A, E', st⟩ := cloneH X hx hZ hown w1 w2 w3 w4 w5 w6 eT F.arh E (g := mkF (km κ) pc Ls (.ref a :: S)) rfl (hsz.trans hml.symm) rfl (hb hby hd) hf (W := Wd) (by rw [mr0]; omega) hlo hcap hc hs
  exact ⟨T', h', X', e', Ex, E'.lt, ⟨A, E'⟩, st⟩
theorem mN {M : List Addr} : ∀ x ∈ ([] : List Addr), x ∈ M := fun _ q => nomatch q
theorem mC {a : Addr} {L M : List Addr} (q : a ∈ M) (r : ∀ x ∈ L, x ∈ M) : ∀ x ∈ a :: L, x ∈ M := fun x z => (List.mem_cons.mp z).elim (fun u => u ▸ q) (r x)
end Heap1
section Pure
variable {l : Launch} {Z : State} {a0 : Array Value} {EL : List (String × Nat)} {nw : Bool} {own : String} {bytes : ByteArray} {ml : Nat} {ret : Option FieldType} {R : Room} {κ : Ka} {T : State} {h : Heap} {M : List Addr} {cells slots : Nat} {Q : Option Value → Heap → List Addr → Prop} {pc pc' : Nat} {Ls Ls' : Array Slot} {S : List Value}
theorem W.iloadN (w : W l Z a0 EL nw own bytes ml ret R κ T h M cells slots) {k : Fin 4} {v : Int32} (hd : decode bytes pc = .ok (.iload_n k, 1)) (hp : pc + 1 = pc') (hl : Ls[k.val]? = some (.val (.int v)))
    (g : Go Z EL nw R κ Q (T.setTop (mkF (km κ) pc' Ls (.int v :: S)))) : Go Z EL nw R κ Q (T.setTop (mkF (km κ) pc Ls (S))) := by
  subst hp
  exact w.pure (fun hx hby H t k => XS.iloadN H hx rfl (g := mkF (km κ) pc Ls (S)) (hb hby hd) hl k) g
theorem W.iload (w : W l Z a0 EL nw own bytes ml ret R κ T h M cells slots) {k : Nat} {v : Int32} (hd : decode bytes pc = .ok (.iload k, 2)) (hp : pc + 2 = pc') (hl : Ls[k]? = some (.val (.int v)))
    (g : Go Z EL nw R κ Q (T.setTop (mkF (km κ) pc' Ls (.int v :: S)))) : Go Z EL nw R κ Q (T.setTop (mkF (km κ) pc Ls (S))) := by
  subst hp
  exact w.pure (fun hx hby H t k => XS.iload H hx rfl (g := mkF (km κ) pc Ls (S)) (hb hby hd) hl k) g
theorem W.lloadN (w : W l Z a0 EL nw own bytes ml ret R κ T h M cells slots) {k : Fin 4} {v : Int64} (hd : decode bytes pc = .ok (.lload_n k, 1)) (hp : pc + 1 = pc') (hl : Ls[k.val]? = some (.val (.long v)))
    (g : Go Z EL nw R κ Q (T.setTop (mkF (km κ) pc' Ls (.long v :: S)))) : Go Z EL nw R κ Q (T.setTop (mkF (km κ) pc Ls (S))) := by
  subst hp
  exact w.pure (fun hx hby H t k => XT.lloadN H hx rfl (g := mkF (km κ) pc Ls (S)) (hb hby hd) hl k) g
theorem W.lload (w : W l Z a0 EL nw own bytes ml ret R κ T h M cells slots) {k : Nat} {v : Int64} (hd : decode bytes pc = .ok (.lload k, 2)) (hp : pc + 2 = pc') (hl : Ls[k]? = some (.val (.long v)))
    (g : Go Z EL nw R κ Q (T.setTop (mkF (km κ) pc' Ls (.long v :: S)))) : Go Z EL nw R κ Q (T.setTop (mkF (km κ) pc Ls (S))) := by
  subst hp
  exact w.pure (fun hx hby H t k => XT.lload H hx rfl (g := mkF (km κ) pc Ls (S)) (hb hby hd) hl k) g
theorem W.aloadN (w : W l Z a0 EL nw own bytes ml ret R κ T h M cells slots) {k : Fin 4} {v : Value} (hd : decode bytes pc = .ok (.aload_n k, 1)) (hp : pc + 1 = pc') (hl : Ls[k.val]? = some (.val v)) (hv : v.isRef = true)
    (g : Go Z EL nw R κ Q (T.setTop (mkF (km κ) pc' Ls (v :: S)))) : Go Z EL nw R κ Q (T.setTop (mkF (km κ) pc Ls (S))) := by
  subst hp
  exact w.pure (fun hx hby H t k => XS.aloadN H hx rfl (g := mkF (km κ) pc Ls (S)) (hb hby hd) hl hv k) g
theorem W.aload (w : W l Z a0 EL nw own bytes ml ret R κ T h M cells slots) {k : Nat} {v : Value} (hd : decode bytes pc = .ok (.aload k, 2)) (hp : pc + 2 = pc') (hl : Ls[k]? = some (.val v)) (hv : v.isRef = true)
    (g : Go Z EL nw R κ Q (T.setTop (mkF (km κ) pc' Ls (v :: S)))) : Go Z EL nw R κ Q (T.setTop (mkF (km κ) pc Ls (S))) := by
  subst hp
  exact w.pure (fun hx hby H t k => XS.aload H hx rfl (g := mkF (km κ) pc Ls (S)) (hb hby hd) hl hv k) g
theorem W.istoreN (w : W l Z a0 EL nw own bytes ml ret R κ T h M cells slots) {k : Fin 4} {x : Int32} (hd : decode bytes pc = .ok (.istore_n k, 1)) (hp : pc + 1 = pc') (hl : storeLocals Ls k.val (.int x) = some Ls')
    (g : Go Z EL nw R κ Q (T.setTop (mkF (km κ) pc' Ls' (S)))) : Go Z EL nw R κ Q (T.setTop (mkF (km κ) pc Ls (.int x :: S))) := by
  subst hp
  exact w.pure (fun hx hby H t k => XS.istoreN H hx rfl (g := mkF (km κ) pc Ls (.int x :: S)) (hb hby hd) rfl hl k) g
theorem W.istore (w : W l Z a0 EL nw own bytes ml ret R κ T h M cells slots) {k : Nat} {x : Int32} (hd : decode bytes pc = .ok (.istore k, 2)) (hp : pc + 2 = pc') (hl : storeLocals Ls k (.int x) = some Ls')
    (g : Go Z EL nw R κ Q (T.setTop (mkF (km κ) pc' Ls' (S)))) : Go Z EL nw R κ Q (T.setTop (mkF (km κ) pc Ls (.int x :: S))) := by
  subst hp
  exact w.pure (fun hx hby H t k => XS.istore H hx rfl (g := mkF (km κ) pc Ls (.int x :: S)) (hb hby hd) rfl hl k) g
theorem W.lstoreN (w : W l Z a0 EL nw own bytes ml ret R κ T h M cells slots) {k : Fin 4} {x : Int64} (hd : decode bytes pc = .ok (.lstore_n k, 1)) (hp : pc + 1 = pc') (hl : storeLocals Ls k.val (.long x) = some Ls')
    (g : Go Z EL nw R κ Q (T.setTop (mkF (km κ) pc' Ls' (S)))) : Go Z EL nw R κ Q (T.setTop (mkF (km κ) pc Ls (.long x :: S))) := by
  subst hp
  exact w.pure (fun hx hby H t k => XT.lstoreN H hx rfl (g := mkF (km κ) pc Ls (.long x :: S)) (hb hby hd) rfl hl k) g
theorem W.lstore (w : W l Z a0 EL nw own bytes ml ret R κ T h M cells slots) {k : Nat} {x : Int64} (hd : decode bytes pc = .ok (.lstore k, 2)) (hp : pc + 2 = pc') (hl : storeLocals Ls k (.long x) = some Ls')
    (g : Go Z EL nw R κ Q (T.setTop (mkF (km κ) pc' Ls' (S)))) : Go Z EL nw R κ Q (T.setTop (mkF (km κ) pc Ls (.long x :: S))) := by
  subst hp
  exact w.pure (fun hx hby H t k => XT.lstore H hx rfl (g := mkF (km κ) pc Ls (.long x :: S)) (hb hby hd) rfl hl k) g
theorem W.astoreN (w : W l Z a0 EL nw own bytes ml ret R κ T h M cells slots) {k : Fin 4} {x : Value} (hd : decode bytes pc = .ok (.astore_n k, 1)) (hp : pc + 1 = pc') (hv : x.isRef = true) (hl : storeLocals Ls k.val x = some Ls')
    (g : Go Z EL nw R κ Q (T.setTop (mkF (km κ) pc' Ls' (S)))) : Go Z EL nw R κ Q (T.setTop (mkF (km κ) pc Ls (x :: S))) := by
  subst hp
  exact w.pure (fun hx hby H t k => XS.astoreN H hx rfl (g := mkF (km κ) pc Ls (x :: S)) (hb hby hd) rfl hv hl k) g
theorem W.astore (w : W l Z a0 EL nw own bytes ml ret R κ T h M cells slots) {k : Nat} {x : Value} (hd : decode bytes pc = .ok (.astore k, 2)) (hp : pc + 2 = pc') (hv : x.isRef = true) (hl : storeLocals Ls k x = some Ls')
    (g : Go Z EL nw R κ Q (T.setTop (mkF (km κ) pc' Ls' (S)))) : Go Z EL nw R κ Q (T.setTop (mkF (km κ) pc Ls (x :: S))) := by
  subst hp
  exact w.pure (fun hx hby H t k => XS.astore H hx rfl (g := mkF (km κ) pc Ls (x :: S)) (hb hby hd) rfl hv hl k) g
theorem W.iinc (w : W l Z a0 EL nw own bytes ml ret R κ T h M cells slots) {k : Nat} {cst : Int} {x : Int32} (hd : decode bytes pc = .ok (.iinc k cst, 3)) (hp : pc + 3 = pc') {z : Int32} (hz : x + Int32.ofInt cst = z) (hl : Ls[k]? = some (.val (.int x))) (hl' : storeLocals Ls k (.int z) = some Ls')
    (g : Go Z EL nw R κ Q (T.setTop (mkF (km κ) pc' Ls' (S)))) : Go Z EL nw R κ Q (T.setTop (mkF (km κ) pc Ls (S))) := by
  subst hp hz
  exact w.pure (fun hx hby H t k => XS.iinc H hx rfl (g := mkF (km κ) pc Ls (S)) (hb hby hd) hl hl' k) g
theorem W.iconst (w : W l Z a0 EL nw own bytes ml ret R κ T h M cells slots) {i : Int} (hd : decode bytes pc = .ok (.iconst i, 1)) (hp : pc + 1 = pc') {z : Int32} (hz : Int32.ofInt i = z)
    (g : Go Z EL nw R κ Q (T.setTop (mkF (km κ) pc' Ls (.int z :: S)))) : Go Z EL nw R κ Q (T.setTop (mkF (km κ) pc Ls (S))) := by
  subst hp hz
  exact w.pure (fun hx hby H t k => XS.iconst H hx rfl (g := mkF (km κ) pc Ls (S)) (hb hby hd)  k) g
theorem W.bipush (w : W l Z a0 EL nw own bytes ml ret R κ T h M cells slots) {i : Int} (hd : decode bytes pc = .ok (.bipush i, 2)) (hp : pc + 2 = pc') {z : Int32} (hz : (Int8.ofInt i).toInt32 = z)
    (g : Go Z EL nw R κ Q (T.setTop (mkF (km κ) pc' Ls (.int z :: S)))) : Go Z EL nw R κ Q (T.setTop (mkF (km κ) pc Ls (S))) := by
  subst hp hz
  exact w.pure (fun hx hby H t k => XS.bipush H hx rfl (g := mkF (km κ) pc Ls (S)) (hb hby hd)  k) g
theorem W.sipush (w : W l Z a0 EL nw own bytes ml ret R κ T h M cells slots) {i : Int} (hd : decode bytes pc = .ok (.sipush i, 3)) (hp : pc + 3 = pc') {z : Int32} (hz : (Int16.ofInt i).toInt32 = z)
    (g : Go Z EL nw R κ Q (T.setTop (mkF (km κ) pc' Ls (.int z :: S)))) : Go Z EL nw R κ Q (T.setTop (mkF (km κ) pc Ls (S))) := by
  subst hp hz
  exact w.pure (fun hx hby H t k => XS.sipush H hx rfl (g := mkF (km κ) pc Ls (S)) (hb hby hd)  k) g
theorem W.lconst (w : W l Z a0 EL nw own bytes ml ret R κ T h M cells slots) {k : Fin 2} (hd : decode bytes pc = .ok (.lconst k, 1)) (hp : pc + 1 = pc') {z : Int64} (hz : Int64.ofNat k = z)
    (g : Go Z EL nw R κ Q (T.setTop (mkF (km κ) pc' Ls (.long z :: S)))) : Go Z EL nw R κ Q (T.setTop (mkF (km κ) pc Ls (S))) := by
  subst hp hz
  exact w.pure (fun hx hby H t k => XT.lconst H hx rfl (g := mkF (km κ) pc Ls (S)) (hb hby hd)  k) g
theorem W.aconstNull (w : W l Z a0 EL nw own bytes ml ret R κ T h M cells slots)  (hd : decode bytes pc = .ok (.aconst_null, 1)) (hp : pc + 1 = pc')
    (g : Go Z EL nw R κ Q (T.setTop (mkF (km κ) pc' Ls (.null :: S)))) : Go Z EL nw R κ Q (T.setTop (mkF (km κ) pc Ls (S))) := by
  subst hp
  exact w.pure (fun hx hby H t k => XS.aconstNull H hx rfl (g := mkF (km κ) pc Ls (S)) (hb hby hd)  k) g
theorem W.iadd (w : W l Z a0 EL nw own bytes ml ret R κ T h M cells slots) {x y : Int32} (hd : decode bytes pc = .ok (.iadd, 1)) (hp : pc + 1 = pc') {z : Int32} (hz : x + y = z)
    (g : Go Z EL nw R κ Q (T.setTop (mkF (km κ) pc' Ls (.int z :: S)))) : Go Z EL nw R κ Q (T.setTop (mkF (km κ) pc Ls (.int y :: .int x :: S))) := by
  subst hp hz
  exact w.pure (fun hx hby H t k => XS.iadd H hx rfl (g := mkF (km κ) pc Ls (.int y :: .int x :: S)) (hb hby hd) rfl k) g
theorem W.isub (w : W l Z a0 EL nw own bytes ml ret R κ T h M cells slots) {x y : Int32} (hd : decode bytes pc = .ok (.isub, 1)) (hp : pc + 1 = pc') {z : Int32} (hz : x - y = z)
    (g : Go Z EL nw R κ Q (T.setTop (mkF (km κ) pc' Ls (.int z :: S)))) : Go Z EL nw R κ Q (T.setTop (mkF (km κ) pc Ls (.int y :: .int x :: S))) := by
  subst hp hz
  exact w.pure (fun hx hby H t k => XS.isub H hx rfl (g := mkF (km κ) pc Ls (.int y :: .int x :: S)) (hb hby hd) rfl k) g
theorem W.imul (w : W l Z a0 EL nw own bytes ml ret R κ T h M cells slots) {x y : Int32} (hd : decode bytes pc = .ok (.imul, 1)) (hp : pc + 1 = pc') {z : Int32} (hz : x * y = z)
    (g : Go Z EL nw R κ Q (T.setTop (mkF (km κ) pc' Ls (.int z :: S)))) : Go Z EL nw R κ Q (T.setTop (mkF (km κ) pc Ls (.int y :: .int x :: S))) := by
  subst hp hz
  exact w.pure (fun hx hby H t k => XS.imul H hx rfl (g := mkF (km κ) pc Ls (.int y :: .int x :: S)) (hb hby hd) rfl k) g
theorem W.iand (w : W l Z a0 EL nw own bytes ml ret R κ T h M cells slots) {x y : Int32} (hd : decode bytes pc = .ok (.iand, 1)) (hp : pc + 1 = pc') {z : Int32} (hz : x &&& y = z)
    (g : Go Z EL nw R κ Q (T.setTop (mkF (km κ) pc' Ls (.int z :: S)))) : Go Z EL nw R κ Q (T.setTop (mkF (km κ) pc Ls (.int y :: .int x :: S))) := by
  subst hp hz
  exact w.pure (fun hx hby H t k => XS.iand H hx rfl (g := mkF (km κ) pc Ls (.int y :: .int x :: S)) (hb hby hd) rfl k) g
theorem W.ior (w : W l Z a0 EL nw own bytes ml ret R κ T h M cells slots) {x y : Int32} (hd : decode bytes pc = .ok (.ior, 1)) (hp : pc + 1 = pc') {z : Int32} (hz : x ||| y = z)
    (g : Go Z EL nw R κ Q (T.setTop (mkF (km κ) pc' Ls (.int z :: S)))) : Go Z EL nw R κ Q (T.setTop (mkF (km κ) pc Ls (.int y :: .int x :: S))) := by
  subst hp hz
  exact w.pure (fun hx hby H t k => XT.ior H hx rfl (g := mkF (km κ) pc Ls (.int y :: .int x :: S)) (hb hby hd) rfl k) g
theorem W.ixor (w : W l Z a0 EL nw own bytes ml ret R κ T h M cells slots) {x y : Int32} (hd : decode bytes pc = .ok (.ixor, 1)) (hp : pc + 1 = pc') {z : Int32} (hz : x ^^^ y = z)
    (g : Go Z EL nw R κ Q (T.setTop (mkF (km κ) pc' Ls (.int z :: S)))) : Go Z EL nw R κ Q (T.setTop (mkF (km κ) pc Ls (.int y :: .int x :: S))) := by
  subst hp hz
  exact w.pure (fun hx hby H t k => XT.ixor H hx rfl (g := mkF (km κ) pc Ls (.int y :: .int x :: S)) (hb hby hd) rfl k) g
theorem W.ishl (w : W l Z a0 EL nw own bytes ml ret R κ T h M cells slots) {x y : Int32} (hd : decode bytes pc = .ok (.ishl, 1)) (hp : pc + 1 = pc') {z : Int32} (hz : x <<< (y &&& 31) = z)
    (g : Go Z EL nw R κ Q (T.setTop (mkF (km κ) pc' Ls (.int z :: S)))) : Go Z EL nw R κ Q (T.setTop (mkF (km κ) pc Ls (.int y :: .int x :: S))) := by
  subst hp hz
  exact w.pure (fun hx hby H t k => XT.ishl H hx rfl (g := mkF (km κ) pc Ls (.int y :: .int x :: S)) (hb hby hd) rfl k) g
theorem W.ishr (w : W l Z a0 EL nw own bytes ml ret R κ T h M cells slots) {x y : Int32} (hd : decode bytes pc = .ok (.ishr, 1)) (hp : pc + 1 = pc') {z : Int32} (hz : x >>> (y &&& 31) = z)
    (g : Go Z EL nw R κ Q (T.setTop (mkF (km κ) pc' Ls (.int z :: S)))) : Go Z EL nw R κ Q (T.setTop (mkF (km κ) pc Ls (.int y :: .int x :: S))) := by
  subst hp hz
  exact w.pure (fun hx hby H t k => XT.ishr H hx rfl (g := mkF (km κ) pc Ls (.int y :: .int x :: S)) (hb hby hd) rfl k) g
theorem W.iushr (w : W l Z a0 EL nw own bytes ml ret R κ T h M cells slots) {x y : Int32} (hd : decode bytes pc = .ok (.iushr, 1)) (hp : pc + 1 = pc') {z : Int32} (hz : XT.ushr x y = z)
    (g : Go Z EL nw R κ Q (T.setTop (mkF (km κ) pc' Ls (.int z :: S)))) : Go Z EL nw R κ Q (T.setTop (mkF (km κ) pc Ls (.int y :: .int x :: S))) := by
  subst hp hz
  exact w.pure (fun hx hby H t k => XT.iushr H hx rfl (g := mkF (km κ) pc Ls (.int y :: .int x :: S)) (hb hby hd) rfl k) g
theorem W.ladd (w : W l Z a0 EL nw own bytes ml ret R κ T h M cells slots) {x y : Int64} (hd : decode bytes pc = .ok (.ladd, 1)) (hp : pc + 1 = pc') {z : Int64} (hz : x + y = z)
    (g : Go Z EL nw R κ Q (T.setTop (mkF (km κ) pc' Ls (.long z :: S)))) : Go Z EL nw R κ Q (T.setTop (mkF (km κ) pc Ls (.long y :: .long x :: S))) := by
  subst hp hz
  exact w.pure (fun hx hby H t k => XT.ladd H hx rfl (g := mkF (km κ) pc Ls (.long y :: .long x :: S)) (hb hby hd) rfl k) g
theorem W.lsub (w : W l Z a0 EL nw own bytes ml ret R κ T h M cells slots) {x y : Int64} (hd : decode bytes pc = .ok (.lsub, 1)) (hp : pc + 1 = pc') {z : Int64} (hz : x - y = z)
    (g : Go Z EL nw R κ Q (T.setTop (mkF (km κ) pc' Ls (.long z :: S)))) : Go Z EL nw R κ Q (T.setTop (mkF (km κ) pc Ls (.long y :: .long x :: S))) := by
  subst hp hz
  exact w.pure (fun hx hby H t k => XT.lsub H hx rfl (g := mkF (km κ) pc Ls (.long y :: .long x :: S)) (hb hby hd) rfl k) g
theorem W.lmul (w : W l Z a0 EL nw own bytes ml ret R κ T h M cells slots) {x y : Int64} (hd : decode bytes pc = .ok (.lmul, 1)) (hp : pc + 1 = pc') {z : Int64} (hz : x * y = z)
    (g : Go Z EL nw R κ Q (T.setTop (mkF (km κ) pc' Ls (.long z :: S)))) : Go Z EL nw R κ Q (T.setTop (mkF (km κ) pc Ls (.long y :: .long x :: S))) := by
  subst hp hz
  exact w.pure (fun hx hby H t k => XT.lmul H hx rfl (g := mkF (km κ) pc Ls (.long y :: .long x :: S)) (hb hby hd) rfl k) g
theorem W.land (w : W l Z a0 EL nw own bytes ml ret R κ T h M cells slots) {x y : Int64} (hd : decode bytes pc = .ok (.land, 1)) (hp : pc + 1 = pc') {z : Int64} (hz : x &&& y = z)
    (g : Go Z EL nw R κ Q (T.setTop (mkF (km κ) pc' Ls (.long z :: S)))) : Go Z EL nw R κ Q (T.setTop (mkF (km κ) pc Ls (.long y :: .long x :: S))) := by
  subst hp hz
  exact w.pure (fun hx hby H t k => XT.land H hx rfl (g := mkF (km κ) pc Ls (.long y :: .long x :: S)) (hb hby hd) rfl k) g
theorem W.lor (w : W l Z a0 EL nw own bytes ml ret R κ T h M cells slots) {x y : Int64} (hd : decode bytes pc = .ok (.lor, 1)) (hp : pc + 1 = pc') {z : Int64} (hz : x ||| y = z)
    (g : Go Z EL nw R κ Q (T.setTop (mkF (km κ) pc' Ls (.long z :: S)))) : Go Z EL nw R κ Q (T.setTop (mkF (km κ) pc Ls (.long y :: .long x :: S))) := by
  subst hp hz
  exact w.pure (fun hx hby H t k => XT.lor H hx rfl (g := mkF (km κ) pc Ls (.long y :: .long x :: S)) (hb hby hd) rfl k) g
theorem W.lxor (w : W l Z a0 EL nw own bytes ml ret R κ T h M cells slots) {x y : Int64} (hd : decode bytes pc = .ok (.lxor, 1)) (hp : pc + 1 = pc') {z : Int64} (hz : x ^^^ y = z)
    (g : Go Z EL nw R κ Q (T.setTop (mkF (km κ) pc' Ls (.long z :: S)))) : Go Z EL nw R κ Q (T.setTop (mkF (km κ) pc Ls (.long y :: .long x :: S))) := by
  subst hp hz
  exact w.pure (fun hx hby H t k => XT.lxor H hx rfl (g := mkF (km κ) pc Ls (.long y :: .long x :: S)) (hb hby hd) rfl k) g
theorem W.lshl (w : W l Z a0 EL nw own bytes ml ret R κ T h M cells slots) {x : Int64} {y : Int32} (hd : decode bytes pc = .ok (.lshl, 1)) (hp : pc + 1 = pc') {z : Int64} (hz : x <<< (y.toInt64 &&& 63) = z)
    (g : Go Z EL nw R κ Q (T.setTop (mkF (km κ) pc' Ls (.long z :: S)))) : Go Z EL nw R κ Q (T.setTop (mkF (km κ) pc Ls (.int y :: .long x :: S))) := by
  subst hp hz
  exact w.pure (fun hx hby H t k => XT.lshl H hx rfl (g := mkF (km κ) pc Ls (.int y :: .long x :: S)) (hb hby hd) rfl k) g
theorem W.lshr (w : W l Z a0 EL nw own bytes ml ret R κ T h M cells slots) {x : Int64} {y : Int32} (hd : decode bytes pc = .ok (.lshr, 1)) (hp : pc + 1 = pc') {z : Int64} (hz : x >>> (y.toInt64 &&& 63) = z)
    (g : Go Z EL nw R κ Q (T.setTop (mkF (km κ) pc' Ls (.long z :: S)))) : Go Z EL nw R κ Q (T.setTop (mkF (km κ) pc Ls (.int y :: .long x :: S))) := by
  subst hp hz
  exact w.pure (fun hx hby H t k => XT.lshr H hx rfl (g := mkF (km κ) pc Ls (.int y :: .long x :: S)) (hb hby hd) rfl k) g
theorem W.lushr (w : W l Z a0 EL nw own bytes ml ret R κ T h M cells slots) {x : Int64} {y : Int32} (hd : decode bytes pc = .ok (.lushr, 1)) (hp : pc + 1 = pc') {z : Int64} (hz : XT.ushrL x y = z)
    (g : Go Z EL nw R κ Q (T.setTop (mkF (km κ) pc' Ls (.long z :: S)))) : Go Z EL nw R κ Q (T.setTop (mkF (km κ) pc Ls (.int y :: .long x :: S))) := by
  subst hp hz
  exact w.pure (fun hx hby H t k => XT.lushr H hx rfl (g := mkF (km κ) pc Ls (.int y :: .long x :: S)) (hb hby hd) rfl k) g
theorem W.idiv (w : W l Z a0 EL nw own bytes ml ret R κ T h M cells slots) {x y : Int32} (hd : decode bytes pc = .ok (.idiv, 1)) (hp : pc + 1 = pc') {z : Int32} (hz : x / y = z) (hy : y ≠ 0)
    (g : Go Z EL nw R κ Q (T.setTop (mkF (km κ) pc' Ls (.int z :: S)))) : Go Z EL nw R κ Q (T.setTop (mkF (km κ) pc Ls (.int y :: .int x :: S))) := by
  subst hp hz
  exact w.pure (fun hx hby H t k => XS.idiv H hx rfl (g := mkF (km κ) pc Ls (.int y :: .int x :: S)) (hb hby hd) rfl hy k) g
theorem W.irem (w : W l Z a0 EL nw own bytes ml ret R κ T h M cells slots) {x y : Int32} (hd : decode bytes pc = .ok (.irem, 1)) (hp : pc + 1 = pc') {z : Int32} (hz : x - (x / y) * y = z) (hy : y ≠ 0)
    (g : Go Z EL nw R κ Q (T.setTop (mkF (km κ) pc' Ls (.int z :: S)))) : Go Z EL nw R κ Q (T.setTop (mkF (km κ) pc Ls (.int y :: .int x :: S))) := by
  subst hp hz
  exact w.pure (fun hx hby H t k => XS.irem H hx rfl (g := mkF (km κ) pc Ls (.int y :: .int x :: S)) (hb hby hd) rfl hy k) g
theorem W.ldiv (w : W l Z a0 EL nw own bytes ml ret R κ T h M cells slots) {x y : Int64} (hd : decode bytes pc = .ok (.ldiv, 1)) (hp : pc + 1 = pc') {z : Int64} (hz : x / y = z) (hy : y ≠ 0)
    (g : Go Z EL nw R κ Q (T.setTop (mkF (km κ) pc' Ls (.long z :: S)))) : Go Z EL nw R κ Q (T.setTop (mkF (km κ) pc Ls (.long y :: .long x :: S))) := by
  subst hp hz
  exact w.pure (fun hx hby H t k => XT.ldiv H hx rfl (g := mkF (km κ) pc Ls (.long y :: .long x :: S)) (hb hby hd) rfl hy k) g
theorem W.lrem (w : W l Z a0 EL nw own bytes ml ret R κ T h M cells slots) {x y : Int64} (hd : decode bytes pc = .ok (.lrem, 1)) (hp : pc + 1 = pc') {z : Int64} (hz : x - (x / y) * y = z) (hy : y ≠ 0)
    (g : Go Z EL nw R κ Q (T.setTop (mkF (km κ) pc' Ls (.long z :: S)))) : Go Z EL nw R κ Q (T.setTop (mkF (km κ) pc Ls (.long y :: .long x :: S))) := by
  subst hp hz
  exact w.pure (fun hx hby H t k => XT.lrem H hx rfl (g := mkF (km κ) pc Ls (.long y :: .long x :: S)) (hb hby hd) rfl hy k) g
theorem W.ineg (w : W l Z a0 EL nw own bytes ml ret R κ T h M cells slots) {x : Int32} (hd : decode bytes pc = .ok (.ineg, 1)) (hp : pc + 1 = pc') {z : Int32} (hz : -x = z)
    (g : Go Z EL nw R κ Q (T.setTop (mkF (km κ) pc' Ls (.int z :: S)))) : Go Z EL nw R κ Q (T.setTop (mkF (km κ) pc Ls (.int x :: S))) := by
  subst hp hz
  exact w.pure (fun hx hby H t k => XS.ineg H hx rfl (g := mkF (km κ) pc Ls (.int x :: S)) (hb hby hd) rfl k) g
theorem W.lneg (w : W l Z a0 EL nw own bytes ml ret R κ T h M cells slots) {x : Int64} (hd : decode bytes pc = .ok (.lneg, 1)) (hp : pc + 1 = pc') {z : Int64} (hz : -x = z)
    (g : Go Z EL nw R κ Q (T.setTop (mkF (km κ) pc' Ls (.long z :: S)))) : Go Z EL nw R κ Q (T.setTop (mkF (km κ) pc Ls (.long x :: S))) := by
  subst hp hz
  exact w.pure (fun hx hby H t k => XT.lneg H hx rfl (g := mkF (km κ) pc Ls (.long x :: S)) (hb hby hd) rfl k) g
theorem W.i2l (w : W l Z a0 EL nw own bytes ml ret R κ T h M cells slots) {x : Int32} (hd : decode bytes pc = .ok (.i2l, 1)) (hp : pc + 1 = pc') {z : Int64} (hz : x.toInt64 = z)
    (g : Go Z EL nw R κ Q (T.setTop (mkF (km κ) pc' Ls (.long z :: S)))) : Go Z EL nw R κ Q (T.setTop (mkF (km κ) pc Ls (.int x :: S))) := by
  subst hp hz
  exact w.pure (fun hx hby H t k => XT.i2l H hx rfl (g := mkF (km κ) pc Ls (.int x :: S)) (hb hby hd) rfl k) g
theorem W.l2i (w : W l Z a0 EL nw own bytes ml ret R κ T h M cells slots) {x : Int64} (hd : decode bytes pc = .ok (.l2i, 1)) (hp : pc + 1 = pc') {z : Int32} (hz : x.toInt32 = z)
    (g : Go Z EL nw R κ Q (T.setTop (mkF (km κ) pc' Ls (.int z :: S)))) : Go Z EL nw R κ Q (T.setTop (mkF (km κ) pc Ls (.long x :: S))) := by
  subst hp hz
  exact w.pure (fun hx hby H t k => XT.l2i H hx rfl (g := mkF (km κ) pc Ls (.long x :: S)) (hb hby hd) rfl k) g
theorem W.i2b (w : W l Z a0 EL nw own bytes ml ret R κ T h M cells slots) {x : Int32} (hd : decode bytes pc = .ok (.i2b, 1)) (hp : pc + 1 = pc') {z : Int32} (hz : x.toInt8.toInt32 = z)
    (g : Go Z EL nw R κ Q (T.setTop (mkF (km κ) pc' Ls (.int z :: S)))) : Go Z EL nw R κ Q (T.setTop (mkF (km κ) pc Ls (.int x :: S))) := by
  subst hp hz
  exact w.pure (fun hx hby H t k => XT.i2b H hx rfl (g := mkF (km κ) pc Ls (.int x :: S)) (hb hby hd) rfl k) g
theorem W.i2c (w : W l Z a0 EL nw own bytes ml ret R κ T h M cells slots) {x : Int32} (hd : decode bytes pc = .ok (.i2c, 1)) (hp : pc + 1 = pc') {z : Int32} (hz : x.toUInt32.toUInt16.toUInt32.toInt32 = z)
    (g : Go Z EL nw R κ Q (T.setTop (mkF (km κ) pc' Ls (.int z :: S)))) : Go Z EL nw R κ Q (T.setTop (mkF (km κ) pc Ls (.int x :: S))) := by
  subst hp hz
  exact w.pure (fun hx hby H t k => XT.i2c H hx rfl (g := mkF (km κ) pc Ls (.int x :: S)) (hb hby hd) rfl k) g
theorem W.i2s (w : W l Z a0 EL nw own bytes ml ret R κ T h M cells slots) {x : Int32} (hd : decode bytes pc = .ok (.i2s, 1)) (hp : pc + 1 = pc') {z : Int32} (hz : x.toInt16.toInt32 = z)
    (g : Go Z EL nw R κ Q (T.setTop (mkF (km κ) pc' Ls (.int z :: S)))) : Go Z EL nw R κ Q (T.setTop (mkF (km κ) pc Ls (.int x :: S))) := by
  subst hp hz
  exact w.pure (fun hx hby H t k => XT.i2s H hx rfl (g := mkF (km κ) pc Ls (.int x :: S)) (hb hby hd) rfl k) g
theorem W.lcmp (w : W l Z a0 EL nw own bytes ml ret R κ T h M cells slots) {x y : Int64} (hd : decode bytes pc = .ok (.lcmp, 1)) (hp : pc + 1 = pc') {z : Int32} (hz : XT.cmpL x y = z)
    (g : Go Z EL nw R κ Q (T.setTop (mkF (km κ) pc' Ls (.int z :: S)))) : Go Z EL nw R κ Q (T.setTop (mkF (km κ) pc Ls (.long y :: .long x :: S))) := by
  subst hp hz
  exact w.pure (fun hx hby H t k => XT.lcmp H hx rfl (g := mkF (km κ) pc Ls (.long y :: .long x :: S)) (hb hby hd) rfl k) g
theorem W.dup (w : W l Z a0 EL nw own bytes ml ret R κ T h M cells slots) {x : Value} (hd : decode bytes pc = .ok (.dup, 1)) (hp : pc + 1 = pc') (hc : x.category = 1)
    (g : Go Z EL nw R κ Q (T.setTop (mkF (km κ) pc' Ls (x :: x :: S)))) : Go Z EL nw R κ Q (T.setTop (mkF (km κ) pc Ls (x :: S))) := by
  subst hp
  exact w.pure (fun hx hby H t k => XS.dup H hx rfl (g := mkF (km κ) pc Ls (x :: S)) (hb hby hd) rfl hc k) g
theorem W.pop (w : W l Z a0 EL nw own bytes ml ret R κ T h M cells slots) {x : Value} (hd : decode bytes pc = .ok (.pop, 1)) (hp : pc + 1 = pc') (hc : x.category = 1)
    (g : Go Z EL nw R κ Q (T.setTop (mkF (km κ) pc' Ls (S)))) : Go Z EL nw R κ Q (T.setTop (mkF (km κ) pc Ls (x :: S))) := by
  subst hp
  exact w.pure (fun hx hby H t k => XT.pop H hx rfl (g := mkF (km κ) pc Ls (x :: S)) (hb hby hd) rfl hc k) g
theorem W.dupX1 (w : W l Z a0 EL nw own bytes ml ret R κ T h M cells slots) {x y : Value} (hd : decode bytes pc = .ok (.dup_x1, 1)) (hp : pc + 1 = pc') (hc : x.category = 1) (hc' : y.category = 1)
    (g : Go Z EL nw R κ Q (T.setTop (mkF (km κ) pc' Ls (x :: y :: x :: S)))) : Go Z EL nw R κ Q (T.setTop (mkF (km κ) pc Ls (x :: y :: S))) := by
  subst hp
  exact w.pure (fun hx hby H t k => XT.dupX1 H hx rfl (g := mkF (km κ) pc Ls (x :: y :: S)) (hb hby hd) rfl hc hc' k) g
theorem W.dup2 (w : W l Z a0 EL nw own bytes ml ret R κ T h M cells slots) {x y : Value} (hd : decode bytes pc = .ok (.dup2, 1)) (hp : pc + 1 = pc') (hc : x.category = 1) (hc' : y.category = 1)
    (g : Go Z EL nw R κ Q (T.setTop (mkF (km κ) pc' Ls (x :: y :: x :: y :: S)))) : Go Z EL nw R κ Q (T.setTop (mkF (km κ) pc Ls (x :: y :: S))) := by
  subst hp
  exact w.pure (fun hx hby H t k => XT.dup2 H hx rfl (g := mkF (km κ) pc Ls (x :: y :: S)) (hb hby hd) rfl hc hc' k) g
theorem W.dup2L (w : W l Z a0 EL nw own bytes ml ret R κ T h M cells slots) {x : Int64} (hd : decode bytes pc = .ok (.dup2, 1)) (hp : pc + 1 = pc')
    (g : Go Z EL nw R κ Q (T.setTop (mkF (km κ) pc' Ls (.long x :: .long x :: S)))) : Go Z EL nw R κ Q (T.setTop (mkF (km κ) pc Ls (.long x :: S))) := by
  subst hp
  exact w.pure (fun hx hby H t k => XT.dup2L H hx rfl (g := mkF (km κ) pc Ls (.long x :: S)) (hb hby hd) rfl k) g
theorem W.goto (w : W l Z a0 EL nw own bytes ml ret R κ T h M cells slots) {o : Int} (hd : decode bytes pc = .ok (.goto o, 3)) (ho : 0 ≤ (pc : Int) + o) (hp : ((pc : Int) + o).toNat = pc')
    (g : Go Z EL nw R κ Q (T.setTop (mkF (km κ) pc' Ls (S)))) : Go Z EL nw R κ Q (T.setTop (mkF (km κ) pc Ls (S))) := by
  subst hp
  exact w.pure (fun hx hby H t k => XS.goto H hx rfl (g := mkF (km κ) pc Ls (S)) (pc0 := pc) rfl (hb hby hd) ho rfl k) g
theorem W.ifYes (w : W l Z a0 EL nw own bytes ml ret R κ T h M cells slots) {cd : ClassFile.Cond} {x : Int32} {o : Int} (hd : decode bytes pc = .ok (.ifCond cd o, 3)) (ho : 0 ≤ (pc : Int) + o) (hp : ((pc : Int) + o).toNat = pc') (hc : ifCond.holds cd x = true)
    (g : Go Z EL nw R κ Q (T.setTop (mkF (km κ) pc' Ls (S)))) : Go Z EL nw R κ Q (T.setTop (mkF (km κ) pc Ls (.int x :: S))) := by
  subst hp
  exact w.pure (fun hx hby H t k => XS.ifYes H hx rfl (g := mkF (km κ) pc Ls (.int x :: S)) (pc0 := pc) rfl (hb hby hd) rfl hc ho rfl k) g
theorem W.ifNo (w : W l Z a0 EL nw own bytes ml ret R κ T h M cells slots) {cd : ClassFile.Cond} {x : Int32} {o : Int} (hd : decode bytes pc = .ok (.ifCond cd o, 3)) (hp : pc + 3 = pc') (hc : ifCond.holds cd x = false)
    (g : Go Z EL nw R κ Q (T.setTop (mkF (km κ) pc' Ls (S)))) : Go Z EL nw R κ Q (T.setTop (mkF (km κ) pc Ls (.int x :: S))) := by
  subst hp
  exact w.pure (fun hx hby H t k => XS.ifNo H hx rfl (g := mkF (km κ) pc Ls (.int x :: S)) (hb hby hd) rfl hc k) g
theorem W.icmpYes (w : W l Z a0 EL nw own bytes ml ret R κ T h M cells slots) {cd : ClassFile.Cond} {x y : Int32} {o : Int} (hd : decode bytes pc = .ok (.if_icmp cd o, 3)) (ho : 0 ≤ (pc : Int) + o) (hp : ((pc : Int) + o).toNat = pc') (hc : if_icmp.holds cd x y = true)
    (g : Go Z EL nw R κ Q (T.setTop (mkF (km κ) pc' Ls (S)))) : Go Z EL nw R κ Q (T.setTop (mkF (km κ) pc Ls (.int y :: .int x :: S))) := by
  subst hp
  exact w.pure (fun hx hby H t k => XS.icmpYes H hx rfl (g := mkF (km κ) pc Ls (.int y :: .int x :: S)) (pc0 := pc) rfl (hb hby hd) rfl hc ho rfl k) g
theorem W.icmpNo (w : W l Z a0 EL nw own bytes ml ret R κ T h M cells slots) {cd : ClassFile.Cond} {x y : Int32} {o : Int} (hd : decode bytes pc = .ok (.if_icmp cd o, 3)) (hp : pc + 3 = pc') (hc : if_icmp.holds cd x y = false)
    (g : Go Z EL nw R κ Q (T.setTop (mkF (km κ) pc' Ls (S)))) : Go Z EL nw R κ Q (T.setTop (mkF (km κ) pc Ls (.int y :: .int x :: S))) := by
  subst hp
  exact w.pure (fun hx hby H t k => XS.icmpNo H hx rfl (g := mkF (km κ) pc Ls (.int y :: .int x :: S)) (hb hby hd) rfl hc k) g
theorem W.ifnullYes (w : W l Z a0 EL nw own bytes ml ret R κ T h M cells slots) {o : Int} (hd : decode bytes pc = .ok (.ifnull o, 3)) (ho : 0 ≤ (pc : Int) + o) (hp : ((pc : Int) + o).toNat = pc')
    (g : Go Z EL nw R κ Q (T.setTop (mkF (km κ) pc' Ls (S)))) : Go Z EL nw R κ Q (T.setTop (mkF (km κ) pc Ls (.null :: S))) := by
  subst hp
  exact w.pure (fun hx hby H t k => XS.ifnullYes H hx rfl (g := mkF (km κ) pc Ls (.null :: S)) (pc0 := pc) rfl (hb hby hd) rfl ho rfl k) g
theorem W.ifnullNo (w : W l Z a0 EL nw own bytes ml ret R κ T h M cells slots) {o : Int} {b : Addr} (hd : decode bytes pc = .ok (.ifnull o, 3)) (hp : pc + 3 = pc')
    (g : Go Z EL nw R κ Q (T.setTop (mkF (km κ) pc' Ls (S)))) : Go Z EL nw R κ Q (T.setTop (mkF (km κ) pc Ls (.ref b :: S))) := by
  subst hp
  exact w.pure (fun hx hby H t k => XS.ifnullNo H hx rfl (g := mkF (km κ) pc Ls (.ref b :: S)) (hb hby hd) rfl k) g
theorem W.ifnonnullYes (w : W l Z a0 EL nw own bytes ml ret R κ T h M cells slots) {o : Int} {b : Addr} (hd : decode bytes pc = .ok (.ifnonnull o, 3)) (ho : 0 ≤ (pc : Int) + o) (hp : ((pc : Int) + o).toNat = pc')
    (g : Go Z EL nw R κ Q (T.setTop (mkF (km κ) pc' Ls (S)))) : Go Z EL nw R κ Q (T.setTop (mkF (km κ) pc Ls (.ref b :: S))) := by
  subst hp
  exact w.pure (fun hx hby H t k => XT.ifnonnullYes H hx rfl (g := mkF (km κ) pc Ls (.ref b :: S)) (pc0 := pc) rfl (hb hby hd) rfl ho rfl k) g
theorem W.ifnonnullNo (w : W l Z a0 EL nw own bytes ml ret R κ T h M cells slots) {o : Int} (hd : decode bytes pc = .ok (.ifnonnull o, 3)) (hp : pc + 3 = pc')
    (g : Go Z EL nw R κ Q (T.setTop (mkF (km κ) pc' Ls (S)))) : Go Z EL nw R κ Q (T.setTop (mkF (km κ) pc Ls (.null :: S))) := by
  subst hp
  exact w.pure (fun hx hby H t k => XT.ifnonnullNo H hx rfl (g := mkF (km κ) pc Ls (.null :: S)) (hb hby hd) rfl k) g
theorem W.acmpYes (w : W l Z a0 EL nw own bytes ml ret R κ T h M cells slots) {cd : ClassFile.ACond} {x y : Value} {o : Int} (hd : decode bytes pc = .ok (.if_acmp cd o, 3)) (ho : 0 ≤ (pc : Int) + o) (hp : ((pc : Int) + o).toNat = pc') (hx' : x.isRef = true) (hy' : y.isRef = true) (hc : XT.acmp cd x y = true)
    (g : Go Z EL nw R κ Q (T.setTop (mkF (km κ) pc' Ls (S)))) : Go Z EL nw R κ Q (T.setTop (mkF (km κ) pc Ls (y :: x :: S))) := by
  subst hp
  exact w.pure (fun hx hby H t k => XT.acmpYes H hx rfl (g := mkF (km κ) pc Ls (y :: x :: S)) (pc0 := pc) rfl (hb hby hd) rfl hx' hy' hc ho rfl k) g
theorem W.acmpNo (w : W l Z a0 EL nw own bytes ml ret R κ T h M cells slots) {cd : ClassFile.ACond} {x y : Value} {o : Int} (hd : decode bytes pc = .ok (.if_acmp cd o, 3)) (hp : pc + 3 = pc') (hx' : x.isRef = true) (hy' : y.isRef = true) (hc : XT.acmp cd x y = false)
    (g : Go Z EL nw R κ Q (T.setTop (mkF (km κ) pc' Ls (S)))) : Go Z EL nw R κ Q (T.setTop (mkF (km κ) pc Ls (y :: x :: S))) := by
  subst hp
  exact w.pure (fun hx hby H t k => XT.acmpNo H hx rfl (g := mkF (km κ) pc Ls (y :: x :: S)) (hb hby hd) rfl hx' hy' hc k) g
end Pure
end Jvm.Own
/- laws to paste: Road.backV (cut by pick.py; bodies as the Statement names them) -/
namespace Jvm.Pilot.@@N@@
namespace StrChars
open Jvm Sem ClassFile Op Lib Jvm.Stand Jvm.Free.XT Jvm.Free.ALB Jvm.Free.JM Jvm.Free
open Jvm.Lib.Cold (StaticIs)
/-- a char array whose places are chars -/
def Ch (a : Addr) (A : Cell) (U : State) : Prop := Arr .char a A U ∧ Typed .char A
theorem Ch.mv {a : Addr} {A : Cell} {U U' : State} (h : Ch a A U) (hal : U.vm.Alike U'.vm) (hh : U'.heap = U.heap) : Ch a A U' := ⟨h.1.mv hal hh, h.2⟩
theorem Ch.keep {a : Addr} {A : Cell} {U U' : State} (h : Ch a A U) (hal : U.vm.Alike U'.vm) (hk : U'.heap[a]? = some A) : Ch a A U' := ⟨h.1.keep hal hk, h.2⟩
/-- what place i of a char[]'s cell holds -/
def cv (A : Cell) (i : Nat) : Int32 := match A.slots[i]? with | some (.int x) => x | _ => 0
theorem Ch.get {a : Addr} {A : Cell} {U : State} (h : Ch a A U) {i : Nat} (hi : i < A.slots.size) : A.slots[i]? = some (.int (cv A i)) := by
  have e := Array.getElem?_eq_getElem hi
  have f := h.2 i _ e
  unfold cv; rw [e]
  generalize A.slots[i] = v at f
  cases v <;> simp [fits] at f ⊢
/-- the byte that i2b leaves of a char -/
def lo8 (x : Int32) : Int32 := x.toInt8.toInt32
theorem fits_lo8 (y : Int32) : fits .byte (.int (lo8 y)) = true := by
  have h1 := y.toInt8.le_toInt
  have h2 := y.toInt8.toInt_lt
  simp only [lo8, fits, Bool.and_eq_true, decide_eq_true_eq, Int32.le_iff_toInt_le, Int8.toInt_toInt32, show (-128 : Int32).toInt = -128 from by decide, show (127 : Int32).toInt = 127 from by decide]
  omega
/-- A' is A but that each place j of lo .. hi - 1 holds f j -/
def Laid (A A' : Cell) (lo hi : Nat) (f : Nat → Value) : Prop := A'.cls = A.cls ∧ A'.vm = A.vm ∧ A'.slots.size = A.slots.size ∧ ∀ i, A'.slots[i]? = if lo ≤ i ∧ i < hi then some (f i) else A.slots[i]?
theorem Laid.zero (A : Cell) (lo : Nat) (f : Nat → Value) : Laid A A lo (lo + 0) f := ⟨rfl, rfl, rfl, fun i => by rw [if_neg (by omega)]⟩
theorem Laid.step {A Ak : Cell} {lo k : Nat} {f : Nat → Value} {v : Value} (h : Laid A Ak lo k f) (hlo : lo ≤ k) (hk : k < Ak.slots.size) (hv : v = f k) : Laid A (Ak.setSlot k v) lo (k + 1) f := by
  refine ⟨h.1, h.2.1, by simpa [Cell.setSlot] using h.2.2.1, fun i => ?_⟩
  by_cases e : k = i
  · subst e; rw [Cell.slots_setSlot_self v hk, if_pos (by omega), hv]
  · rw [Cell.slots_setSlot_ne v e, h.2.2.2 i]
    by_cases q : lo ≤ i ∧ i < k
    · rw [if_pos q, if_pos (by omega)]
    · rw [if_neg q, if_neg (by omega)]
def U16 : String := "java/lang/StringUTF16"
namespace Cmp5
def yN : MethodName := ⟨"java/lang/StringUTF16", "compress", "([CI[BII)I"⟩
abbrev yB : ByteArray := jdk_52_method_21_code
theorem d0 : decode yB 0 = .ok (.iconst 0, 1) := by decide +kernel
theorem d1 : decode yB 1 = .ok (.istore 5, 2) := by decide +kernel
theorem d3 : decode yB 3 = .ok (.iload 5, 2) := by decide +kernel
theorem d5 : decode yB 5 = .ok (.iload 4, 2) := by decide +kernel
theorem d7 : decode yB 7 = .ok (.if_icmp (.ge) 37, 3) := by decide +kernel
theorem d10 : decode yB 10 = .ok (.aload_n 0, 1) := by decide +kernel
theorem d11 : decode yB 11 = .ok (.iload_n 1, 1) := by decide +kernel
theorem d12 : decode yB 12 = .ok (.caload, 1) := by decide +kernel
theorem d13 : decode yB 13 = .ok (.istore 6, 2) := by decide +kernel
theorem d15 : decode yB 15 = .ok (.iload 6, 2) := by decide +kernel
theorem d17 : decode yB 17 = .ok (.sipush 255, 3) := by decide +kernel
theorem d20 : decode yB 20 = .ok (.if_icmp (.le) 6, 3) := by decide +kernel
theorem d26 : decode yB 26 = .ok (.aload_n 2, 1) := by decide +kernel
theorem d27 : decode yB 27 = .ok (.iload_n 3, 1) := by decide +kernel
theorem d28 : decode yB 28 = .ok (.iload 6, 2) := by decide +kernel
theorem d30 : decode yB 30 = .ok (.i2b, 1) := by decide +kernel
theorem d31 : decode yB 31 = .ok (.bastore, 1) := by decide +kernel
theorem d32 : decode yB 32 = .ok (.iinc 1 1, 3) := by decide +kernel
theorem d35 : decode yB 35 = .ok (.iinc 3 1, 3) := by decide +kernel
theorem d38 : decode yB 38 = .ok (.iinc 5 1, 3) := by decide +kernel
theorem d41 : decode yB 41 = .ok (.goto (-38), 3) := by decide +kernel
theorem d44 : decode yB 44 = .ok (.iload 4, 2) := by decide +kernel
theorem d46 : decode yB 46 = .ok (.ireturn, 1) := by decide +kernel
def site : List Cond := []
def tab : Cond := tabOf yN yB 7 (some .int) site
def P (b : Addr) (A : Cell) (d : Addr) (B : Cell) (o q len : Nat) (args : Array Value) (s : State) : Prop := args = #[.ref b, .int (Int32.ofNat o), .ref d, .int (Int32.ofNat q), .int (Int32.ofNat len)] ∧ Ch b A s ∧ Arr .byte d B s ∧ b ≠ d ∧ o + len ≤ A.slots.size ∧ q + len ≤ B.slots.size ∧ ∀ i, i < len → ¬ 255 < cv A (o + i)
def E (b : Addr) (A : Cell) (d : Addr) (B : Cell) (o q len : Nat) (r : Option Value) (s u : State) : Prop := r = some (.int (Int32.ofNat len)) ∧ ∃ B', Put d B' s u ∧ Laid B B' q (q + len) (fun j => Value.int (lo8 (cv A (o + (j - q)))))
/-- no char of the range above 255: len; the places written hold each char's low byte -/
theorem law (l : Launch) (b : Addr) (A : Cell) (d : Addr) (B : Cell) (o q len : Nat) : Law l yN 5 5 0 0 yB 7 (some .int) site (P b A d B o q len) (E b A d B o q len) (copyLocs d q len) 0 0 := by
  refine Law.of_walk (plainFor_of_name (by decide +kernel)) (by decide +kernel) (by decide +kernel) (by decide) (fun _ _ h => by rw [h.1]; rfl) (fun _ U U' hal hh h => ⟨h.1, h.2.1.mv hal hh, h.2.2.1.mv hal hh, h.2.2.2⟩) (fun r U U' V V' h1 hal h2 h => ⟨h.1, h.2.elim fun B' q => ⟨B', q.1.mv h1 h2, q.2⟩⟩) ?_
  intro p e s m args below meth c s₁ X0 hexec hbytes hml hret hlk hnm hown hh0 W hP
  obtain ⟨rfl, hA, hB, hne, l1, l2, hp⟩ := hP
  have c1 : Steps p.tables e below (s₁.setTop (entryFrame m #[.ref b, .int (Int32.ofNat o), .ref d, .int (Int32.ofNat q), .int (Int32.ofNat len)] 7)) (s₁.setTop (mkF m 0 #[.val (.ref b), .val (.int (Int32.ofNat o)), .val (.ref d), .val (.int (Int32.ofNat q)), .val (.int (Int32.ofNat len)), .unset, .unset] [])) := entry rfl
  have hA0 := hA.1.mv X0.warmed.alike hh0
  have hB0 := hB.mv X0.warmed.alike hh0
  have a31 := hA.1.2.2.2
  have c2 : Steps p.tables e below (s₁.setTop (entryFrame m #[.ref b, .int (Int32.ofNat o), .ref d, .int (Int32.ofNat q), .int (Int32.ofNat len)] 7)) (s₁.setTop (mkF m 3 #[.val (.ref b), .val (.int (Int32.ofNat o)), .val (.ref d), .val (.int (Int32.ofNat q)), .val (.int (Int32.ofNat len)), .val (.int 0), .unset] [])) := c1.trans (by
    refine iconstV X0.here hexec rfl 0 (hb hbytes d0) (by decide) ?_
    refine XS.istore X0.here hexec rfl (hb hbytes d1) rfl rfl ?_
    exact Steps.refl _)
  have loop : ∀ (r i : Nat), i + r = len → ∀ (z : Slot), (z = .unset ∨ ∃ w, z = .val w ∧ w.category = 1) → ∀ (Tl : State) (Bk : Cell), Stand p l e { frames := 0, locals := 0, cells := 0, slots := 0 } s m #[.ref b, .int (Int32.ofNat o), .ref d, .int (Int32.ofNat q), .int (Int32.ofNat len)] below meth c Tl ([] ++ copyLocs d q i) 0 0 → Put d Bk s₁ Tl → Laid B Bk q (q + i) (fun j => Value.int (lo8 (cv A (o + (j - q))))) →
      Steps p.tables e below (s₁.setTop (entryFrame m #[.ref b, .int (Int32.ofNat o), .ref d, .int (Int32.ofNat q), .int (Int32.ofNat len)] 7)) (Tl.setTop (mkF m 3 #[.val (.ref b), .val (.int (Int32.ofNat (o + i))), .val (.ref d), .val (.int (Int32.ofNat (q + i))), .val (.int (Int32.ofNat len)), .val (.int (Int32.ofNat i)), z] [])) → ∃ (T' : State) (B' : Cell) (z' : Slot), Stand p l e { frames := 0, locals := 0, cells := 0, slots := 0 } s m #[.ref b, .int (Int32.ofNat o), .ref d, .int (Int32.ofNat q), .int (Int32.ofNat len)] below meth c T' ([] ++ copyLocs d q len) 0 0 ∧ Put d B' s₁ T' ∧ Laid B B' q (q + len) (fun j => Value.int (lo8 (cv A (o + (j - q))))) ∧
      Steps p.tables e below (s₁.setTop (entryFrame m #[.ref b, .int (Int32.ofNat o), .ref d, .int (Int32.ofNat q), .int (Int32.ofNat len)] 7)) (T'.setTop (mkF m 3 #[.val (.ref b), .val (.int (Int32.ofNat (o + len))), .val (.ref d), .val (.int (Int32.ofNat (q + len))), .val (.int (Int32.ofNat len)), .val (.int (Int32.ofNat len)), z'] [])) := by
    intro r
    induction r with
    | zero =>
      intro i hi z hz Tl Bk Xl pl fl cl
      have hil : i = len := by omega
      rw [hil] at Xl fl cl
      exact ⟨Tl, Bk, z, Xl, pl, fl, cl⟩
    | succ r ih =>
      intro i hi z hz Tl Bk Xl pl fl cl
      have all := X0.warmed.alike.symm.trans Xl.warmed.alike
      have hAl := hA0.keep all (pl.other hne hA0.1)
      have hBk := hB0.like all pl.1 fl.1 fl.2.1 fl.2.2.1
      have hlt : q + i < Bk.slots.size := by rw [fl.2.2.1]; omega
      have c3 : Steps p.tables e below (s₁.setTop (entryFrame m #[.ref b, .int (Int32.ofNat o), .ref d, .int (Int32.ofNat q), .int (Int32.ofNat len)] 7)) (Tl.setTop (mkF m 12 #[.val (.ref b), .val (.int (Int32.ofNat (o + i))), .val (.ref d), .val (.int (Int32.ofNat (q + i))), .val (.int (Int32.ofNat len)), .val (.int (Int32.ofNat i)), z] [.int (Int32.ofNat (o + i)), .ref b])) := cl.trans (by
        refine XS.iload Xl.here hexec rfl (hb hbytes d3) rfl ?_
        refine XS.iload Xl.here hexec rfl (hb hbytes d5) rfl ?_
        refine XS.icmpNo Xl.here hexec rfl (hb hbytes d7) rfl (ii_ge_f (lt32 (by omega) (by omega))) ?_
        refine XS.aloadN Xl.here hexec rfl (hb hbytes d10) rfl rfl ?_
        refine XS.iloadN Xl.here hexec rfl (hb hbytes d11) rfl ?_
        exact Steps.refl _)
      have c4 : Steps p.tables e below (s₁.setTop (entryFrame m #[.ref b, .int (Int32.ofNat o), .ref d, .int (Int32.ofNat q), .int (Int32.ofNat len)] 7)) (Tl.setTop (mkF m 13 #[.val (.ref b), .val (.int (Int32.ofNat (o + i))), .val (.ref d), .val (.int (Int32.ofNat (q + i))), .val (.int (Int32.ofNat len)), .val (.int (Int32.ofNat i)), z] [.int (cv A (o + i))])) := c3.trans (by
        refine Xl.aget hexec hAl rfl (hA.get (i := o + i) (by omega)) rfl rfl (hb hbytes d12) ?_
        exact Steps.refl _)
      have c5 : Steps p.tables e below (s₁.setTop (entryFrame m #[.ref b, .int (Int32.ofNat o), .ref d, .int (Int32.ofNat q), .int (Int32.ofNat len)] 7)) (Tl.setTop (mkF m 15 #[.val (.ref b), .val (.int (Int32.ofNat (o + i))), .val (.ref d), .val (.int (Int32.ofNat (q + i))), .val (.int (Int32.ofNat len)), .val (.int (Int32.ofNat i)), .val (.int (cv A (o + i)))] [])) := c4.trans (by
        refine XS.istoreS Xl.here hexec rfl (hb hbytes d13) rfl rfl hz ?_
        exact Steps.refl _)
      have c6 : Steps p.tables e below (s₁.setTop (entryFrame m #[.ref b, .int (Int32.ofNat o), .ref d, .int (Int32.ofNat q), .int (Int32.ofNat len)] 7)) (Tl.setTop (mkF m 31 #[.val (.ref b), .val (.int (Int32.ofNat (o + i))), .val (.ref d), .val (.int (Int32.ofNat (q + i))), .val (.int (Int32.ofNat len)), .val (.int (Int32.ofNat i)), .val (.int (cv A (o + i)))] [.int (lo8 (cv A (o + i))), .int (Int32.ofNat (q + i)), .ref d])) := c5.trans (by
        refine XS.iload Xl.here hexec rfl (hb hbytes d15) rfl ?_
        refine sipushV Xl.here hexec rfl 255 (hb hbytes d17) (by decide) ?_
        refine XS.icmpYes Xl.here hexec rfl (pc0 := 20) rfl (hb hbytes d20) rfl (ii_le_t (hp i (by omega))) (by decide) rfl ?_
        refine XS.aloadN Xl.here hexec rfl (hb hbytes d26) rfl rfl ?_
        refine XS.iloadN Xl.here hexec rfl (hb hbytes d27) rfl ?_
        refine XS.iload Xl.here hexec rfl (hb hbytes d28) rfl ?_
        refine i2b Xl.here hexec rfl (hb hbytes d30) rfl ?_
        exact Steps.refl _)
      obtain ⟨T7, X7, p7, st7⟩ := Xl.aput hexec hBk rfl hlt rfl (fits_lo8 (cv A (o + i))) (g := (mkF m 31 #[.val (.ref b), .val (.int (Int32.ofNat (o + i))), .val (.ref d), .val (.int (Int32.ofNat (q + i))), .val (.int (Int32.ofNat len)), .val (.int (Int32.ofNat i)), .val (.int (cv A (o + i)))] [.int (lo8 (cv A (o + i))), .int (Int32.ofNat (q + i)), .ref d])) rfl (rest := []) rfl (hb hbytes d31)
      have c8 : Steps p.tables e below (s₁.setTop (entryFrame m #[.ref b, .int (Int32.ofNat o), .ref d, .int (Int32.ofNat q), .int (Int32.ofNat len)] 7)) (T7.setTop (mkF m 32 #[.val (.ref b), .val (.int (Int32.ofNat (o + i))), .val (.ref d), .val (.int (Int32.ofNat (q + i))), .val (.int (Int32.ofNat len)), .val (.int (Int32.ofNat i)), .val (.int (cv A (o + i)))] [])) := c6.trans (st7 _ (Steps.refl _))
      have c9 : Steps p.tables e below (s₁.setTop (entryFrame m #[.ref b, .int (Int32.ofNat o), .ref d, .int (Int32.ofNat q), .int (Int32.ofNat len)] 7)) (T7.setTop (mkF m 3 #[.val (.ref b), .val (.int (Int32.ofNat (o + i) + 1)), .val (.ref d), .val (.int (Int32.ofNat (q + i) + 1)), .val (.int (Int32.ofNat len)), .val (.int (Int32.ofNat i + 1)), .val (.int (cv A (o + i)))] [])) := c8.trans (by
        refine iincV X7.here hexec rfl 1 (hb hbytes d32) (by decide) rfl rfl ?_
        refine iincV X7.here hexec rfl 1 (hb hbytes d35) (by decide) rfl rfl ?_
        refine iincV X7.here hexec rfl 1 (hb hbytes d38) (by decide) rfl rfl ?_
        refine XS.goto X7.here hexec rfl (pc0 := 41) rfl (hb hbytes d41) (by decide) rfl ?_
        exact Steps.refl _)
      have c10 : Steps p.tables e below (s₁.setTop (entryFrame m #[.ref b, .int (Int32.ofNat o), .ref d, .int (Int32.ofNat q), .int (Int32.ofNat len)] 7)) (T7.setTop (mkF m 3 #[.val (.ref b), .val (.int (Int32.ofNat (o + (i + 1)))), .val (.ref d), .val (.int (Int32.ofNat (q + (i + 1)))), .val (.int (Int32.ofNat len)), .val (.int (Int32.ofNat (i + 1))), .val (.int (cv A (o + i)))] [])) := by
        have := c9
        rw [succ32, succ32, succ32] at this
        exact this
      exact ih (i + 1) (by omega) _ (Or.inr ⟨_, rfl, rfl⟩) T7 _ (by rw [copyLocs_step, ← List.append_assoc]; exact X7) (pl.trans p7) (fl.step (by omega) hlt (by simp)) c10
  obtain ⟨T9, B9, z9, X9, p9, f9, g9⟩ := loop len 0 (by omega) .unset (Or.inl rfl) s₁ B (by simpa [copyLocs] using X0) ⟨hB0.1, fun _ _ => rfl, rfl⟩ (Laid.zero _ _ _) c2
  have c11 : Steps p.tables e below (s₁.setTop (entryFrame m #[.ref b, .int (Int32.ofNat o), .ref d, .int (Int32.ofNat q), .int (Int32.ofNat len)] 7)) (T9.setTop (mkF m 46 #[.val (.ref b), .val (.int (Int32.ofNat (o + len))), .val (.ref d), .val (.int (Int32.ofNat (q + len))), .val (.int (Int32.ofNat len)), .val (.int (Int32.ofNat len)), z9] [.int (Int32.ofNat len)])) := g9.trans (by
    refine XS.iload X9.here hexec rfl (hb hbytes d3) rfl ?_
    refine XS.iload X9.here hexec rfl (hb hbytes d5) rfl ?_
    refine XS.icmpYes X9.here hexec rfl (pc0 := 7) rfl (hb hbytes d7) rfl (ii_ge_t (nlt32 (by omega) (Nat.le_refl _))) (by decide) rfl ?_
    refine XS.iload X9.here hexec rfl (hb hbytes d44) rfl ?_
    exact Steps.refl _)
  exact ⟨T9, some (.int (Int32.ofNat len)), _, _, _, X9, by simp, rfl, rfl, (fun h => by cases h), ⟨rfl, B9, p9.from hh0, f9⟩, fun fs hl => c11.trans (X9.ireturnOut hexec hret rfl (Or.inl rfl) (hb hbytes d46) hl)⟩
end Cmp5
namespace Cmp3
def yN : MethodName := ⟨"java/lang/StringUTF16", "compress", "([CII)[B"⟩
abbrev yB : ByteArray := jdk_52_method_16_code
theorem d0 : decode yB 0 = .ok (.iload_n 2, 1) := by decide +kernel
theorem d1 : decode yB 1 = .ok (.newarray .byte, 2) := by decide +kernel
theorem d3 : decode yB 3 = .ok (.astore_n 3, 1) := by decide +kernel
theorem d4 : decode yB 4 = .ok (.aload_n 0, 1) := by decide +kernel
theorem d5 : decode yB 5 = .ok (.iload_n 1, 1) := by decide +kernel
theorem d6 : decode yB 6 = .ok (.aload_n 3, 1) := by decide +kernel
theorem d7 : decode yB 7 = .ok (.iconst 0, 1) := by decide +kernel
theorem d8 : decode yB 8 = .ok (.iload_n 2, 1) := by decide +kernel
theorem d9 : decode yB 9 = .ok (.invokestatic 115, 3) := by decide +kernel
theorem d12 : decode yB 12 = .ok (.istore 4, 2) := by decide +kernel
theorem d14 : decode yB 14 = .ok (.iload 4, 2) := by decide +kernel
theorem d16 : decode yB 16 = .ok (.iload_n 2, 1) := by decide +kernel
theorem d17 : decode yB 17 = .ok (.if_icmp (.eq) 40, 3) := by decide +kernel
theorem d57 : decode yB 57 = .ok (.aload_n 3, 1) := by decide +kernel
theorem d58 : decode yB 58 = .ok (.areturn, 1) := by decide +kernel
def site : List Cond := [.arrayClass .byte, Cmp5.tab] ++ staticW U16 115 Cmp5.yN
def tab : Cond := tabOf yN yB 6 (some (.array .byte)) site
def P (b : Addr) (A : Cell) (o len : Nat) (args : Array Value) (s : State) : Prop := args = #[.ref b, .int (Int32.ofNat o), .int (Int32.ofNat len)] ∧ Ch b A s ∧ o + len ≤ A.slots.size ∧ len ≤ 536870912 ∧ ∀ i, i < len → ¬ 255 < cv A (o + i)
def E (b : Addr) (A : Cell) (o len : Nat) (r : Option Value) (s u : State) : Prop := NewArr .byte "[B" len (fun j => .int (lo8 (cv A (o + j)))) r s u ∧ u.heap.size = s.heap.size + 1
/-- no char of the range above 255: a new byte[] of their low bytes -/
theorem law (l : Launch) (b : Addr) (A : Cell) (o len : Nat) : Law l yN 3 3 1 18 yB 6 (some (.array .byte)) site (P b A o len) (E b A o len) [] 1 len := by
  refine Law.of_walk (plainFor_of_name (by decide +kernel)) (by decide +kernel) (by decide +kernel) (by decide) (fun _ _ h => by rw [h.1]; rfl) (fun _ U U' hal hh h => ⟨h.1, h.2.1.mv hal hh, h.2.2⟩) (fun r U U' V V' h1 hal h2 h => ⟨NewArr.mv r U U' V V' h1 hal h2 h.1, by rw [h1, h2]; exact h.2⟩) ?_
  intro p e s m args below meth c s₁ X0 hexec hbytes hml hret hlk hnm hown hh0 W hP
  obtain ⟨rfl, hA, l1, l2, hp⟩ := hP
  have a31 := hA.1.2.2.2
  have c1 : Steps p.tables e below (s₁.setTop (entryFrame m #[.ref b, .int (Int32.ofNat o), .int (Int32.ofNat len)] 6)) (s₁.setTop (mkF m 0 #[.val (.ref b), .val (.int (Int32.ofNat o)), .val (.int (Int32.ofNat len)), .unset, .unset, .unset] [])) := entry rfl
  have c2 : Steps p.tables e below (s₁.setTop (entryFrame m #[.ref b, .int (Int32.ofNat o), .int (Int32.ofNat len)] 6)) (s₁.setTop (mkF m 1 #[.val (.ref b), .val (.int (Int32.ofNat o)), .val (.int (Int32.ofNat len)), .unset, .unset, .unset] [.int (Int32.ofNat len)])) := c1.trans (by
    refine XS.iloadN X0.here hexec rfl (hb hbytes d0) rfl ?_
    exact Steps.refl _)
  obtain ⟨T3, B3, X3, ba3, bs3, bv3, bh3, bf3, st3⟩ := X0.anew hexec (atype := .byte) (wk W (.arrayClass .byte)) rfl (by show len * 1 ≤ _; omega) (by omega) (g := (mkF m 1 #[.val (.ref b), .val (.int (Int32.ofNat o)), .val (.int (Int32.ofNat len)), .unset, .unset, .unset] [.int (Int32.ofNat len)])) rfl (hb hbytes d1) (rest := []) rfl (Nat.le_refl _) (by show 0 + len ≤ len; omega)
  rw [hh0] at ba3 st3
  have kp3 : XT.Kept s T3 := (XT.Kept.of_eq hh0).push bh3
  have hA3 := hA.keep X3.warmed.alike (kp3 _ _ hA.1.1)
  have hne : b ≠ s.heap.size := hA.1.ne
  have c4 : Steps p.tables e below (s₁.setTop (entryFrame m #[.ref b, .int (Int32.ofNat o), .int (Int32.ofNat len)] 6)) (T3.setTop (mkF m 3 #[.val (.ref b), .val (.int (Int32.ofNat o)), .val (.int (Int32.ofNat len)), .unset, .unset, .unset] [.ref s.heap.size])) := c2.trans (st3 _ (Steps.refl _))
  have c5 : Steps p.tables e below (s₁.setTop (entryFrame m #[.ref b, .int (Int32.ofNat o), .int (Int32.ofNat len)] 6)) (T3.setTop (mkF m 9 #[.val (.ref b), .val (.int (Int32.ofNat o)), .val (.int (Int32.ofNat len)), .val (.ref s.heap.size), .unset, .unset] [.int (Int32.ofNat len), .int 0, .ref s.heap.size, .int (Int32.ofNat o), .ref b])) := c4.trans (by
    refine XS.astoreN X3.here hexec rfl (hb hbytes d3) rfl rfl rfl ?_
    refine XS.aloadN X3.here hexec rfl (hb hbytes d4) rfl rfl ?_
    refine XS.iloadN X3.here hexec rfl (hb hbytes d5) rfl ?_
    refine XS.aloadN X3.here hexec rfl (hb hbytes d6) rfl rfl ?_
    refine iconstV X3.here hexec rfl 0 (hb hbytes d7) (by decide) ?_
    refine XS.iloadN X3.here hexec rfl (hb hbytes d8) rfl ?_
    exact Steps.refl _)
  obtain ⟨v6, T6, X6, E6, g6⟩ := X3.callS hexec (Cmp5.law l b A s.heap.size B3 o 0 len) hown (wks W (staticW U16 115 Cmp5.yN)) (wk W Cmp5.tab) (W := 0) (Nat.le_of_ble_eq_true rfl) (Nat.le_of_ble_eq_true rfl) (Nat.le_refl _) (by show 0 + len + 0 ≤ len; omega) (g := (mkF m 9 #[.val (.ref b), .val (.int (Int32.ofNat o)), .val (.int (Int32.ofNat len)), .val (.ref s.heap.size), .unset, .unset] [.int (Int32.ofNat len), .int (Int32.ofNat 0), .ref s.heap.size, .int (Int32.ofNat o), .ref b])) rfl (by rw [hml]; rfl) c5 (argsL := [.ref b, .int (Int32.ofNat o), .ref s.heap.size, .int (Int32.ofNat 0), .int (Int32.ofNat len)]) (rest := []) rfl rfl (by show 2 * 0 + 0 ≤ _; decide) (hb hbytes d9) (⟨rfl, hA3, ba3, hne, l1, by rw [bs3]; simp, hp⟩)
  obtain ⟨rfl, B6, p6, f6⟩ := E6
  have c7 : Steps p.tables e below (s₁.setTop (entryFrame m #[.ref b, .int (Int32.ofNat o), .int (Int32.ofNat len)] 6)) (T6.setTop (mkF m 12 #[.val (.ref b), .val (.int (Int32.ofNat o)), .val (.int (Int32.ofNat len)), .val (.ref s.heap.size), .unset, .unset] [.int (Int32.ofNat len)])) := g6
  have c8 : Steps p.tables e below (s₁.setTop (entryFrame m #[.ref b, .int (Int32.ofNat o), .int (Int32.ofNat len)] 6)) (T6.setTop (mkF m 58 #[.val (.ref b), .val (.int (Int32.ofNat o)), .val (.int (Int32.ofNat len)), .val (.ref s.heap.size), .val (.int (Int32.ofNat len)), .unset] [.ref s.heap.size])) := c7.trans (by
    refine XS.istore X6.here hexec rfl (hb hbytes d12) rfl rfl ?_
    refine XS.iload X6.here hexec rfl (hb hbytes d14) rfl ?_
    refine XS.iloadN X6.here hexec rfl (hb hbytes d16) rfl ?_
    refine XS.icmpYes X6.here hexec rfl (pc0 := 17) rfl (hb hbytes d17) rfl (ii_eq_t rfl) (by decide) rfl ?_
    refine XS.aloadN X6.here hexec rfl (hb hbytes d57) rfl rfl ?_
    exact Steps.refl _)
  have X8 := X6.wide (L' := []) (cells' := 1) (slots' := len) (fun x hx hlt => by
    simp only [List.nil_append, copyLocs, List.mem_map, List.mem_range] at hx
    obtain ⟨i, -, rfl⟩ := hx
    exact absurd hlt (Nat.lt_irrefl _)) (Nat.le_refl _) (by omega)
  exact ⟨T6, some (.ref s.heap.size), _, _, _, X8, rfl, rfl, rfl, (fun h => by cases h), ⟨⟨rfl, B6, ba3.like (X3.warmed.alike.symm.trans X6.warmed.alike) p6.1 f6.1 f6.2.1 f6.2.2.1, f6.2.1.trans bv3, by rw [X6.warmed.alike.findClass, f6.1]; exact bf3, by rw [f6.2.2.1, bs3]; simp, fun j hj => by rw [f6.2.2.2 j, if_pos (by omega)]; rfl, kp3.put p6 (Nat.le_refl _)⟩, by rw [p6.2.2, bh3, hh0]; simp⟩, fun fs hl => c8.trans (X8.areturnOut hexec rfl hret rfl (hb hbytes d58) hl)⟩
end Cmp3
namespace CodL
def yN : MethodName := ⟨"java/lang/StringUTF16", "coderFromArrayLen", "([BI)B"⟩
abbrev yB : ByteArray := jdk_52_method_15_code
theorem d0 : decode yB 0 = .ok (.iload_n 1, 1) := by decide +kernel
theorem d1 : decode yB 1 = .ok (.aload_n 0, 1) := by decide +kernel
theorem d2 : decode yB 2 = .ok (.arraylength, 1) := by decide +kernel
theorem d3 : decode yB 3 = .ok (.isub, 1) := by decide +kernel
theorem d4 : decode yB 4 = .ok (.bipush 31, 2) := by decide +kernel
theorem d6 : decode yB 6 = .ok (.iushr, 1) := by decide +kernel
theorem d7 : decode yB 7 = .ok (.i2b, 1) := by decide +kernel
theorem d8 : decode yB 8 = .ok (.ireturn, 1) := by decide +kernel
def site : List Cond := []
def tab : Cond := tabOf yN yB 2 (some .byte) site
def P (d : Addr) (B : Cell) (args : Array Value) (s : State) : Prop := args = #[.ref d, .int (Int32.ofNat B.slots.size)] ∧ Arr .byte d B s
def E (r : Option Value) (s u : State) : Prop := XT.PureE (some (.int 0)) r s u
/-- an array as long as the number of chars: LATIN1 -/
theorem law (l : Launch) (d : Addr) (B : Cell) : Law l yN 2 2 0 0 yB 2 (some .byte) site (P d B) E [] 0 0 := by
  refine Law.of_walk (plainFor_of_name (by decide +kernel)) (by decide +kernel) (by decide +kernel) (by decide) (fun _ _ h => by rw [h.1]; rfl) (fun _ U U' hal hh h => ⟨h.1, h.2.mv hal hh⟩) (fun r U U' V V' h1 hal h2 h => XT.PureE.mv r U U' V V' h1 hal h2 h) ?_
  intro p e s m args below meth c s₁ X0 hexec hbytes hml hret hlk hnm hown hh0 W hP
  obtain ⟨rfl, hB⟩ := hP
  have hB0 := hB.mv X0.warmed.alike hh0
  have c1 : Steps p.tables e below (s₁.setTop (entryFrame m #[.ref d, .int (Int32.ofNat B.slots.size)] 2)) (s₁.setTop (mkF m 0 #[.val (.ref d), .val (.int (Int32.ofNat B.slots.size))] [])) := entry rfl
  have c2 : Steps p.tables e below (s₁.setTop (entryFrame m #[.ref d, .int (Int32.ofNat B.slots.size)] 2)) (s₁.setTop (mkF m 2 #[.val (.ref d), .val (.int (Int32.ofNat B.slots.size))] [.ref d, .int (Int32.ofNat B.slots.size)])) := c1.trans (by
    refine XS.iloadN X0.here hexec rfl (hb hbytes d0) rfl ?_
    refine XS.aloadN X0.here hexec rfl (hb hbytes d1) rfl rfl ?_
    exact Steps.refl _)
  have c3 : Steps p.tables e below (s₁.setTop (entryFrame m #[.ref d, .int (Int32.ofNat B.slots.size)] 2)) (s₁.setTop (mkF m 8 #[.val (.ref d), .val (.int (Int32.ofNat B.slots.size))] [.int (lo8 (ushr (Int32.ofNat B.slots.size - Int32.ofNat B.slots.size) 31))])) := c2.trans (by
    refine X0.alen hexec hB0 rfl rfl (hb hbytes d2) ?_
    refine XS.isub X0.here hexec rfl (hb hbytes d3) rfl ?_
    refine bipushV X0.here hexec rfl 31 (hb hbytes d4) (by decide) ?_
    refine iushr X0.here hexec rfl (hb hbytes d6) rfl ?_
    refine i2b X0.here hexec rfl (hb hbytes d7) rfl ?_
    exact Steps.refl _)
  have e0 : lo8 (ushr (Int32.ofNat B.slots.size - Int32.ofNat B.slots.size) 31) = 0 := by rw [Int32.sub_self]; decide
  rw [e0] at c3
  exact ⟨s₁, some (.int 0), _, _, _, X0, rfl, rfl, rfl, (fun h => by cases h), ⟨rfl, hh0⟩, fun fs hl => c3.trans (X0.ireturnOut hexec hret rfl (Or.inr (Or.inr (Or.inl rfl))) (hb hbytes d8) hl)⟩
end CodL
/-- the String at a is Latin-1 over a new byte[] (the heap's one new cell): the low bytes of the len chars of A from o on; every cell but a is kept -/
def Got (a : Addr) (D : Cell) (fV fC : Field) (A : Cell) (o len : Nat) (r : Option Value) (s u : State) : Prop := r = none ∧ ∃ D' V : Cell, Blank "java/lang/String" a D' u ∧ Same D D' [fV.slot, fC.slot] ∧ D'.slots[fV.slot]? = some (.ref s.heap.size) ∧ D'.slots[fC.slot]? = some (.int 0) ∧ Arr .byte s.heap.size V u ∧ V.vm = .none ∧ u.vm.findClass "[B" = some V.cls ∧ V.slots.size = len ∧ (∀ j, j < len → V.slots[j]? = some (.int (lo8 (cv A (o + j))))) ∧ (∀ (y : Addr) (c : Cell), y ≠ a → s.heap[y]? = some c → u.heap[y]? = some c) ∧ u.heap.size = s.heap.size + 1
theorem Got.mv {a : Addr} {D A : Cell} {fV fC : Field} {o len : Nat} : ∀ r (U U' V V' : State), U'.heap = U.heap → V.vm.Alike V'.vm → V'.heap = V.heap → Got a D fV fC A o len r U V → Got a D fV fC A o len r U' V' :=
  fun r U U' V V' h1 hal h2 ⟨e0, D', X, a1, a2, a3, a4, a5, a6, a7, a8, a9, a10, a11⟩ => ⟨e0, D', X, a1.mv hal h2, a2, by rw [h1]; exact a3, a4, by rw [h1]; exact a5.mv hal h2, a6, by rw [hal.findClass]; exact a7, a8, a9, by rw [h1, h2]; exact a10, by rw [h1, h2]; exact a11⟩
namespace New4
def yN : MethodName := ⟨"java/lang/String", "<init>", "([CIILjava/lang/Void;)V"⟩
abbrev yB : ByteArray := jdk_42_method_149_code
theorem d0 : decode yB 0 = .ok (.aload_n 0, 1) := by decide +kernel
theorem d1 : decode yB 1 = .ok (.invokespecial 1, 3) := by decide +kernel
theorem d4 : decode yB 4 = .ok (.iload_n 3, 1) := by decide +kernel
theorem d5 : decode yB 5 = .ok (.ifCond (.ne) 22, 3) := by decide +kernel
theorem d27 : decode yB 27 = .ok (.getstatic 38, 3) := by decide +kernel
theorem d30 : decode yB 30 = .ok (.ifCond (.eq) 28, 3) := by decide +kernel
theorem d33 : decode yB 33 = .ok (.aload_n 1, 1) := by decide +kernel
theorem d34 : decode yB 34 = .ok (.iload_n 2, 1) := by decide +kernel
theorem d35 : decode yB 35 = .ok (.iload_n 3, 1) := by decide +kernel
theorem d36 : decode yB 36 = .ok (.invokestatic 177, 3) := by decide +kernel
theorem d39 : decode yB 39 = .ok (.astore 5, 2) := by decide +kernel
theorem d41 : decode yB 41 = .ok (.aload_n 0, 1) := by decide +kernel
theorem d42 : decode yB 42 = .ok (.aload 5, 2) := by decide +kernel
theorem d44 : decode yB 44 = .ok (.iload_n 3, 1) := by decide +kernel
theorem d45 : decode yB 45 = .ok (.invokestatic 47, 3) := by decide +kernel
theorem d48 : decode yB 48 = .ok (.putfield 15, 3) := by decide +kernel
theorem d51 : decode yB 51 = .ok (.aload_n 0, 1) := by decide +kernel
theorem d52 : decode yB 52 = .ok (.aload 5, 2) := by decide +kernel
theorem d54 : decode yB 54 = .ok (.putfield 9, 3) := by decide +kernel
theorem d57 : decode yB 57 = .ok (.return_, 1) := by decide +kernel
def site : List Cond := [.fieldLink "java/lang/String" 38 "java/lang/String" "COMPACT_STRINGS" "Z", Cmp3.tab, CodL.tab, .laysFinal "java/lang/String" "java/lang/String" "value" "[B", .fieldLink "java/lang/String" 9 "java/lang/String" "value" "[B", .laysFinal "java/lang/String" "java/lang/String" "coder" "B", .fieldLink "java/lang/String" 15 "java/lang/String" "coder" "B"] ++ objW "java/lang/String" 1 ++ staticW "java/lang/String" 177 Cmp3.yN ++ staticW "java/lang/String" 47 CodL.yN
def tab : Cond := tabOf yN yB 6 none site
def P (a : Addr) (D : Cell) (fV fC : Field) (b : Addr) (A : Cell) (z : Int32) (o len : Nat) (args : Array Value) (s : State) : Prop := args = #[.ref a, .ref b, .int (Int32.ofNat o), .int (Int32.ofNat len), .null] ∧ Blank "java/lang/String" a D s ∧ Found "java/lang/String" "value" "[B" fV s ∧ Found "java/lang/String" "coder" "B" fC s ∧ Ch b A s ∧ StaticIs s "java/lang/String" "COMPACT_STRINGS" "Z" (.int z) ∧ ¬ z = 0 ∧ 0 < len ∧ o + len ≤ A.slots.size ∧ len ≤ 536870912 ∧ ∀ i, i < len → ¬ 255 < cv A (o + i)
def E (a : Addr) (D : Cell) (fV fC : Field) (A : Cell) (o len : Nat) (r : Option Value) (s u : State) : Prop := Got a D fV fC A o len r s u
/-- len > 0, no char of the range above 255: a Latin-1 String of their low bytes -/
theorem law (l : Launch) (a : Addr) (D : Cell) (fV fC : Field) (b : Addr) (A : Cell) (z : Int32) (o len : Nat) : Law l yN 5 4 2 35 yB 6 none site (P a D fV fC b A z o len) (E a D fV fC A o len) [⟨a, fC.slot⟩, ⟨a, fV.slot⟩] 1 len := by
  refine Law.of_walk (plainFor_of_name (by decide +kernel)) (by decide +kernel) (by decide +kernel) (by decide) (fun _ _ h => by rw [h.1]; rfl) (fun _ U U' hal hh h => ⟨h.1, h.2.1.mv hal hh, h.2.2.1.al hal, h.2.2.2.1.al hal, h.2.2.2.2.1.mv hal hh, h.2.2.2.2.2.1.there hal hh, h.2.2.2.2.2.2⟩) (fun r U U' V V' h1 hal h2 h => Got.mv r U U' V V' h1 hal h2 h) ?_
  intro p e s m args below meth c s₁ X0 hexec hbytes hml hret hlk hnm hown hh0 W hP
  obtain ⟨rfl, hB, f1, f2, hA, s1, hz, l0, l1, l2, hp⟩ := hP
  have a31 := hA.1.2.2.2
  have c1 : Steps p.tables e below (s₁.setTop (entryFrame m #[.ref a, .ref b, .int (Int32.ofNat o), .int (Int32.ofNat len), .null] 6)) (s₁.setTop (mkF m 0 #[.val (.ref a), .val (.ref b), .val (.int (Int32.ofNat o)), .val (.int (Int32.ofNat len)), .val .null, .unset] [])) := entry rfl
  have c2 : Steps p.tables e below (s₁.setTop (entryFrame m #[.ref a, .ref b, .int (Int32.ofNat o), .int (Int32.ofNat len), .null] 6)) (s₁.setTop (mkF m 1 #[.val (.ref a), .val (.ref b), .val (.int (Int32.ofNat o)), .val (.int (Int32.ofNat len)), .val .null, .unset] [.ref a])) := c1.trans (by
    refine XS.aloadN X0.here hexec rfl (hb hbytes d0) rfl rfl ?_
    exact Steps.refl _)
  obtain ⟨T3, X3, q3, st3⟩ := X0.oinit hexec hown (wks W (objW "java/lang/String" 1)) (g := (mkF m 1 #[.val (.ref a), .val (.ref b), .val (.int (Int32.ofNat o)), .val (.int (Int32.ofNat len)), .val .null, .unset] [.ref a])) rfl (by rw [hml]; rfl) (rest := []) rfl (hb hbytes d1) (W := 0) (by show 2 * 0 + 0 ≤ _; decide) (Nat.le_of_ble_eq_true rfl) (Nat.le_of_ble_eq_true rfl)
  have hh3 := q3.trans hh0
  have c4 : Steps p.tables e below (s₁.setTop (entryFrame m #[.ref a, .ref b, .int (Int32.ofNat o), .int (Int32.ofNat len), .null] 6)) (T3.setTop (mkF m 27 #[.val (.ref a), .val (.ref b), .val (.int (Int32.ofNat o)), .val (.int (Int32.ofNat len)), .val .null, .unset] [])) := (c2.trans (st3 _ (Steps.refl _))).trans (by
    refine XS.iloadN X3.here hexec rfl (hb hbytes d4) rfl ?_
    refine XS.ifYes X3.here hexec rfl (pc0 := 5) rfl (hb hbytes d5) rfl (i0_ne_t (nz32 (by omega) l0)) (by decide) rfl ?_
    exact Steps.refl _)
  obtain ⟨T5, X5, q5, st5⟩ := X3.sget hexec hown (wk W (.fieldLink "java/lang/String" 38 "java/lang/String" "COMPACT_STRINGS" "Z")) s1 (fun _ _ h => by rw [hh3]; exact h) (g := (mkF m 27 #[.val (.ref a), .val (.ref b), .val (.int (Int32.ofNat o)), .val (.int (Int32.ofNat len)), .val .null, .unset] [])) rfl (hb hbytes d27)
  have hh5 := q5.trans hh3
  have c6 : Steps p.tables e below (s₁.setTop (entryFrame m #[.ref a, .ref b, .int (Int32.ofNat o), .int (Int32.ofNat len), .null] 6)) (T5.setTop (mkF m 30 #[.val (.ref a), .val (.ref b), .val (.int (Int32.ofNat o)), .val (.int (Int32.ofNat len)), .val .null, .unset] [.int z])) := c4.trans (st5 _ (Steps.refl _))
  have c7 : Steps p.tables e below (s₁.setTop (entryFrame m #[.ref a, .ref b, .int (Int32.ofNat o), .int (Int32.ofNat len), .null] 6)) (T5.setTop (mkF m 36 #[.val (.ref a), .val (.ref b), .val (.int (Int32.ofNat o)), .val (.int (Int32.ofNat len)), .val .null, .unset] [.int (Int32.ofNat len), .int (Int32.ofNat o), .ref b])) := c6.trans (by
    refine XS.ifNo X5.here hexec rfl (hb hbytes d30) rfl (i0_eq_f hz) ?_
    refine XS.aloadN X5.here hexec rfl (hb hbytes d33) rfl rfl ?_
    refine XS.iloadN X5.here hexec rfl (hb hbytes d34) rfl ?_
    refine XS.iloadN X5.here hexec rfl (hb hbytes d35) rfl ?_
    exact Steps.refl _)
  obtain ⟨v8, T8, X8, E8, g8⟩ := X5.callS hexec (Cmp3.law l b A o len) hown (wks W (staticW "java/lang/String" 177 Cmp3.yN)) (wk W Cmp3.tab) (W := 0) (Nat.le_of_ble_eq_true rfl) (Nat.le_of_ble_eq_true rfl) (Nat.le_refl _) (by show 0 + len ≤ len; omega) (g := (mkF m 36 #[.val (.ref a), .val (.ref b), .val (.int (Int32.ofNat o)), .val (.int (Int32.ofNat len)), .val .null, .unset] [.int (Int32.ofNat len), .int (Int32.ofNat o), .ref b])) rfl (by rw [hml]; rfl) c7 (argsL := [.ref b, .int (Int32.ofNat o), .int (Int32.ofNat len)]) (rest := []) rfl rfl (by show 2 * 0 + 0 ≤ _; decide) (hb hbytes d36) (⟨rfl, hA.mv X5.warmed.alike hh5, l1, l2, hp⟩)
  obtain ⟨e8, z8⟩ := E8
  obtain ⟨rfl, N, n1, n2, n3, n4, n5, n6⟩ := NewArr.mv _ T5 s _ _ hh5.symm (Vm.Alike.refl _) rfl e8
  rw [hh5] at z8
  have hB1 := hB.keep X8.warmed.alike (n6 _ _ hB.1)
  have hne : s.heap.size ≠ a := (Nat.ne_of_lt (Array.getElem?_eq_some_iff.mp hB.1).1).symm
  have c9 : Steps p.tables e below (s₁.setTop (entryFrame m #[.ref a, .ref b, .int (Int32.ofNat o), .int (Int32.ofNat len), .null] 6)) (T8.setTop (mkF m 39 #[.val (.ref a), .val (.ref b), .val (.int (Int32.ofNat o)), .val (.int (Int32.ofNat len)), .val .null, .unset] [.ref s.heap.size])) := g8
  have c10 : Steps p.tables e below (s₁.setTop (entryFrame m #[.ref a, .ref b, .int (Int32.ofNat o), .int (Int32.ofNat len), .null] 6)) (T8.setTop (mkF m 45 #[.val (.ref a), .val (.ref b), .val (.int (Int32.ofNat o)), .val (.int (Int32.ofNat len)), .val .null, .val (.ref s.heap.size)] [.int (Int32.ofNat N.slots.size), .ref s.heap.size, .ref a])) := by
    have hc : Steps p.tables e below (s₁.setTop (entryFrame m #[.ref a, .ref b, .int (Int32.ofNat o), .int (Int32.ofNat len), .null] 6)) (T8.setTop (mkF m 45 #[.val (.ref a), .val (.ref b), .val (.int (Int32.ofNat o)), .val (.int (Int32.ofNat len)), .val .null, .val (.ref s.heap.size)] [.int (Int32.ofNat len), .ref s.heap.size, .ref a])) := c9.trans (by
      refine XS.astore X8.here hexec rfl (hb hbytes d39) rfl rfl rfl ?_
      refine XS.aloadN X8.here hexec rfl (hb hbytes d41) rfl rfl ?_
      refine XS.aload X8.here hexec rfl (hb hbytes d42) rfl rfl ?_
      refine XS.iloadN X8.here hexec rfl (hb hbytes d44) rfl ?_
      exact Steps.refl _)
    rw [n4]; exact hc
  obtain ⟨v11, T11, X11, E11, g11⟩ := X8.callS hexec (CodL.law l s.heap.size N) hown (wks W (staticW "java/lang/String" 47 CodL.yN)) (wk W CodL.tab) (W := 1) (Nat.le_of_ble_eq_true rfl) (Nat.le_of_ble_eq_true rfl) (Nat.le_refl _) (by show 0 + len + 0 ≤ len; omega) (g := (mkF m 45 #[.val (.ref a), .val (.ref b), .val (.int (Int32.ofNat o)), .val (.int (Int32.ofNat len)), .val .null, .val (.ref s.heap.size)] [.int (Int32.ofNat N.slots.size), .ref s.heap.size, .ref a])) rfl (by rw [hml]; rfl) c10 (argsL := [.ref s.heap.size, .int (Int32.ofNat N.slots.size)]) (rest := [.ref a]) rfl rfl (by show 2 * 0 + (1 + 0) ≤ _; decide) (hb hbytes d45) (⟨rfl, n1⟩)
  obtain ⟨rfl, q11⟩ := E11
  have hB11 := hB1.mv (X8.warmed.alike.symm.trans X11.warmed.alike) q11
  have c12 : Steps p.tables e below (s₁.setTop (entryFrame m #[.ref a, .ref b, .int (Int32.ofNat o), .int (Int32.ofNat len), .null] 6)) (T11.setTop (mkF m 48 #[.val (.ref a), .val (.ref b), .val (.int (Int32.ofNat o)), .val (.int (Int32.ofNat len)), .val .null, .val (.ref s.heap.size)] [.int 0, .ref a])) := g11
  obtain ⟨T13, X13, p13, bl13, sl13, st13⟩ := X11.finit hexec hown (wk W (.fieldLink "java/lang/String" 15 "java/lang/String" "coder" "B")) (Or.inr ⟨_, (wk W (.laysFinal "java/lang/String" "java/lang/String" "coder" "B"))⟩) (Or.inl ⟨rfl, hnm⟩) f2 (Or.inl rfl) hB11 (t := .byte) (by decide +kernel) rfl (g := (mkF m 48 #[.val (.ref a), .val (.ref b), .val (.int (Int32.ofNat o)), .val (.int (Int32.ofNat len)), .val .null, .val (.ref s.heap.size)] [.int 0, .ref a])) rfl (rest := []) rfl (hb hbytes d48)
  have c14 : Steps p.tables e below (s₁.setTop (entryFrame m #[.ref a, .ref b, .int (Int32.ofNat o), .int (Int32.ofNat len), .null] 6)) (T13.setTop (mkF m 54 #[.val (.ref a), .val (.ref b), .val (.int (Int32.ofNat o)), .val (.int (Int32.ofNat len)), .val .null, .val (.ref s.heap.size)] [.ref s.heap.size, .ref a])) := (c12.trans (st13 _ (Steps.refl _))).trans (by
    refine XS.aloadN X13.here hexec rfl (hb hbytes d51) rfl rfl ?_
    refine XS.aload X13.here hexec rfl (hb hbytes d52) rfl rfl ?_
    exact Steps.refl _)
  obtain ⟨T15, X15, p15, bl15, sl15, st15⟩ := X13.finit hexec hown (wk W (.fieldLink "java/lang/String" 9 "java/lang/String" "value" "[B")) (Or.inr ⟨_, (wk W (.laysFinal "java/lang/String" "java/lang/String" "value" "[B"))⟩) (Or.inl ⟨rfl, hnm⟩) f1 (Or.inl rfl) bl13 (t := (.array .byte)) (by decide +kernel) rfl (g := (mkF m 54 #[.val (.ref a), .val (.ref b), .val (.int (Int32.ofNat o)), .val (.int (Int32.ofNat len)), .val .null, .val (.ref s.heap.size)] [.ref s.heap.size, .ref a])) rfl (rest := []) rfl (hb hbytes d54)
  have c16 : Steps p.tables e below (s₁.setTop (entryFrame m #[.ref a, .ref b, .int (Int32.ofNat o), .int (Int32.ofNat len), .null] 6)) (T15.setTop (mkF m 57 #[.val (.ref a), .val (.ref b), .val (.int (Int32.ofNat o)), .val (.int (Int32.ofNat len)), .val .null, .val (.ref s.heap.size)] [])) := c14.trans (st15 _ (Steps.refl _))
  have ap := apart (Or.inr ⟨_, (wk W (.laysFinal "java/lang/String" "java/lang/String" "value" "[B"))⟩) (Or.inr ⟨_, (wk W (.laysFinal "java/lang/String" "java/lang/String" "coder" "B"))⟩) f1 f2 (t₁ := .array .byte) (t₂ := .byte) (by decide +kernel) (by decide +kernel) (by decide)
  have al := X8.warmed.alike.symm.trans X15.warmed.alike
  have n7 : T11.heap[s.heap.size]? = some N := by rw [q11]; exact n1.1
  exact ⟨T15, none, _, _, _, X15, by simp, rfl, by omega, (fun _ => rfl), ⟨rfl, _, N, bl15, ((Same.refl D _).set _ (by simp)).set _ (by simp), sl15, (Cell.slots_setSlot_ne _ ap).trans sl13, n1.keep al (p15.other hne (p13.other hne n7)), n2, by rw [al.findClass]; exact n3, n4, n5, fun y c h1 h2 => p15.other h1 (p13.other h1 (by rw [q11]; exact n6 y c h2)), by rw [p15.2.2, p13.2.2, q11]; exact z8⟩, fun fs hl => c16.trans (X15.returnOut hexec hret (hb hbytes d57) hl)⟩
end New4
namespace New1
def yN : MethodName := ⟨"java/lang/String", "<init>", "([C)V"⟩
abbrev yB : ByteArray := jdk_42_method_3_code
theorem d0 : decode yB 0 = .ok (.aload_n 0, 1) := by decide +kernel
theorem d1 : decode yB 1 = .ok (.aload_n 1, 1) := by decide +kernel
theorem d2 : decode yB 2 = .ok (.iconst 0, 1) := by decide +kernel
theorem d3 : decode yB 3 = .ok (.aload_n 1, 1) := by decide +kernel
theorem d4 : decode yB 4 = .ok (.arraylength, 1) := by decide +kernel
theorem d5 : decode yB 5 = .ok (.aconst_null, 1) := by decide +kernel
theorem d6 : decode yB 6 = .ok (.invokespecial 27, 3) := by decide +kernel
theorem d9 : decode yB 9 = .ok (.return_, 1) := by decide +kernel
def site : List Cond := [New4.tab] ++ initW "java/lang/String" 27 New4.yN
def tab : Cond := tabOf yN yB 2 none site
def P (a : Addr) (D : Cell) (fV fC : Field) (b : Addr) (A : Cell) (z : Int32) (args : Array Value) (s : State) : Prop := args = #[.ref a, .ref b] ∧ Blank "java/lang/String" a D s ∧ Found "java/lang/String" "value" "[B" fV s ∧ Found "java/lang/String" "coder" "B" fC s ∧ Ch b A s ∧ StaticIs s "java/lang/String" "COMPACT_STRINGS" "Z" (.int z) ∧ ¬ z = 0 ∧ 0 < A.slots.size ∧ A.slots.size ≤ 536870912 ∧ ∀ i, i < A.slots.size → ¬ 255 < cv A i
def E (a : Addr) (D : Cell) (fV fC : Field) (A : Cell) (r : Option Value) (s u : State) : Prop := Got a D fV fC A 0 A.slots.size r s u
/-- new String(chars), not empty, no char above 255: a Latin-1 String of their low bytes -/
theorem law (l : Launch) (a : Addr) (D : Cell) (fV fC : Field) (b : Addr) (A : Cell) (z : Int32) : Law l yN 2 1 3 52 yB 2 none site (P a D fV fC b A z) (E a D fV fC A) [⟨a, fC.slot⟩, ⟨a, fV.slot⟩] 1 A.slots.size := by
  refine Law.of_walk (plainFor_of_name (by decide +kernel)) (by decide +kernel) (by decide +kernel) (by decide) (fun _ _ h => by rw [h.1]; rfl) (fun _ U U' hal hh h => ⟨h.1, h.2.1.mv hal hh, h.2.2.1.al hal, h.2.2.2.1.al hal, h.2.2.2.2.1.mv hal hh, h.2.2.2.2.2.1.there hal hh, h.2.2.2.2.2.2⟩) (fun r U U' V V' h1 hal h2 h => Got.mv r U U' V V' h1 hal h2 h) ?_
  intro p e s m args below meth c s₁ X0 hexec hbytes hml hret hlk hnm hown hh0 W hP
  obtain ⟨rfl, hB, f1, f2, hA, s1, hz, l0, l2, hp⟩ := hP
  have c1 : Steps p.tables e below (s₁.setTop (entryFrame m #[.ref a, .ref b] 2)) (s₁.setTop (mkF m 0 #[.val (.ref a), .val (.ref b)] [])) := entry rfl
  have c2 : Steps p.tables e below (s₁.setTop (entryFrame m #[.ref a, .ref b] 2)) (s₁.setTop (mkF m 6 #[.val (.ref a), .val (.ref b)] [.null, .int (Int32.ofNat A.slots.size), .int 0, .ref b, .ref a])) := c1.trans (by
    refine XS.aloadN X0.here hexec rfl (hb hbytes d0) rfl rfl ?_
    refine XS.aloadN X0.here hexec rfl (hb hbytes d1) rfl rfl ?_
    refine iconstV X0.here hexec rfl 0 (hb hbytes d2) (by decide) ?_
    refine XS.aloadN X0.here hexec rfl (hb hbytes d3) rfl rfl ?_
    refine X0.alen hexec (hA.1.mv X0.warmed.alike hh0) rfl rfl (hb hbytes d4) ?_
    refine XS.aconstNull X0.here hexec rfl (hb hbytes d5) ?_
    exact Steps.refl _)
  obtain ⟨v3, T3, X3, E3, g3⟩ := X0.callN hexec (New4.law l a D fV fC b A z 0 A.slots.size) rfl hown (wks W (initW "java/lang/String" 27 New4.yN)) (W New4.tab (by simp only [site, List.mem_cons, List.mem_append, true_or, or_true])) (W := 0) (Nat.le_of_ble_eq_true rfl) (Nat.le_of_ble_eq_true rfl) (Nat.le_refl _) (by show 0 + A.slots.size ≤ A.slots.size; omega) (g := (mkF m 6 #[.val (.ref a), .val (.ref b)] [.null, .int (Int32.ofNat A.slots.size), .int (Int32.ofNat 0), .ref b, .ref a])) rfl (by rw [hml]; rfl) c2 (argsL := [.ref b, .int (Int32.ofNat 0), .int (Int32.ofNat A.slots.size), .null]) (rest := []) rfl rfl (by show 2 * 0 + 0 ≤ _; decide) (hb hbytes d6) (⟨rfl, hB.mv X0.warmed.alike hh0, f1.al X0.warmed.alike, f2.al X0.warmed.alike, hA.mv X0.warmed.alike hh0, s1.there X0.warmed.alike hh0, hz, l0, by omega, l2, fun i hi => by rw [Nat.zero_add]; exact hp i hi⟩)
  have e0 := Got.mv _ s₁ s _ _ hh0.symm (Vm.Alike.refl _) rfl E3
  obtain rfl := e0.1
  have c4 : Steps p.tables e below (s₁.setTop (entryFrame m #[.ref a, .ref b] 2)) (T3.setTop (mkF m 9 #[.val (.ref a), .val (.ref b)] [])) := g3
  exact ⟨T3, none, _, _, _, X3, by simp, rfl, by omega, (fun _ => rfl), e0, fun fs hl => c4.trans (X3.returnOut hexec hret (hb hbytes d9) hl)⟩
theorem pays {l : Launch} {R : Room} {p : Program} {e : Env} {below : List Frame} {s : State} {sargs : Array Value} {len W : Nat} (a : Addr) (D : Cell) (fV fC : Field) (b : Addr) (A : Cell) (z : Int32) (htab : tab.before sargs s = true) (hfr : 4 ≤ R.frames) (hlo : W + 65 ≤ R.locals) :
    Back l R p e below s sargs yN len W (fun A₁ a₁ => A₁.cells + 1 ≤ R.cells ∧ A₁.slots + A.slots.size ≤ R.slots ∧ P a D fV fC b A z a₁ A₁.U) (fun A₁ _ v₁ B₁ => E a D fV fC A v₁ A₁.U B₁.U ∧ B₁.locs = A₁.locs ++ [⟨a, fC.slot⟩, ⟨a, fV.slot⟩] ∧ B₁.cells = A₁.cells + 1 ∧ B₁.slots = A₁.slots + A.slots.size) :=
  (law l a D fV fC b A z).pays htab hfr (by omega)
end New1
end StrChars
namespace StrChars.Road
open Jvm Sem ClassFile Op Lib Jvm.Stand Jvm.Free Jvm.Free.XT
open Jvm.Lib.Cold (StaticIs)
abbrev ST : String := "java/lang/String"
/-- every table word that New1's law asks, flat -/
abbrev words : List Jvm.Cond := [.code New1.yN New1.yB 2 none, .initialized ST, .methodLink ST 27 New4.yN, .instanceMethod New4.yN,
  .code New4.yN New4.yB 6 none, .fieldLink ST 38 ST "COMPACT_STRINGS" "Z", .laysFinal ST ST "value" "[B", .fieldLink ST 9 ST "value" "[B", .laysFinal ST ST "coder" "B", .fieldLink ST 15 ST "coder" "B",
  .methodLink ST 1 Lib.objectInit, .instanceMethod Lib.objectInit, .code Lib.objectInit ⟨#[0xb1]⟩ 1 none, .methodLink ST 177 Cmp3.yN, .static Cmp3.yN, .methodLink ST 47 CodL.yN, .static CodL.yN,
  .code Cmp3.yN Cmp3.yB 6 (some (.array .byte)), .initialized U16, .arrayClass .byte, .methodLink U16 115 Cmp5.yN, .static Cmp5.yN, .code Cmp5.yN Cmp5.yB 7 (some .int), .code CodL.yN CodL.yB 2 (some .byte)]
theorem tab_of {a : Array Value} {s : State} (h : ∀ w ∈ words, w.before a s = true) : New1.tab.before a s = true := by
  have h5 : Cmp5.tab.before a s = true := unparts (wk h (.code Cmp5.yN Cmp5.yB 7 (some .int))) (wks h (.initialized Cmp5.yN.cls :: Cmp5.site))
  have hc : CodL.tab.before a s = true := unparts (wk h (.code CodL.yN CodL.yB 2 (some .byte))) (wks h (.initialized CodL.yN.cls :: CodL.site))
  have q5 : ∀ w ∈ Cmp5.tab :: words, w.before a s = true := fun w hw => (List.mem_cons.mp hw).elim (fun e => e ▸ h5) (h w)
  have h3 : Cmp3.tab.before a s = true := unparts (wk q5 (.code Cmp3.yN Cmp3.yB 6 (some (.array .byte)))) (wks q5 (.initialized Cmp3.yN.cls :: Cmp3.site))
  have q3 : ∀ w ∈ Cmp3.tab :: CodL.tab :: words, w.before a s = true := fun w hw => (List.mem_cons.mp hw).elim (fun e => e ▸ h3) fun hw => (List.mem_cons.mp hw).elim (fun e => e ▸ hc) (h w)
  have h4 : New4.tab.before a s = true := unparts (wk q3 (.code New4.yN New4.yB 6 none)) (wks q3 (.initialized New4.yN.cls :: New4.site))
  have q4 : ∀ w ∈ New4.tab :: words, w.before a s = true := fun w hw => (List.mem_cons.mp hw).elim (fun e => e ▸ h4) (h w)
  exact unparts (wk q4 (.code New1.yN New1.yB 2 none)) (wks q4 (.initialized New1.yN.cls :: New1.site))
/-- the words ride from the start Z to the walk's own state -/
theorem moved {Z s : State} {a0 args : Array Value} (hZ : Z.Warmed39 s.vm) (hw : ∀ d ∈ words, d.before a0 Z = true) : ∀ d ∈ words, d.before args s = true := fun d hd => by
  have q := hw d hd
  have t : ∀ d ∈ words, d = .arrayClass .byte ∨ (d.onTables && d.keepsFace) = true := by decide +kernel
  rcases t d hd with rfl | t
  · exact RoadKit.mvA hZ q
  · exact RoadKit.mv hZ q t
/-- WHAT COMES BACK, over the tables of the start Z: h the heap at the call, h' behind it -/
def Q (Z : State) (x : Addr) (A : Cell) (h : Heap) (v : Option Value) (h' : Heap) (L : List Loc) : Prop := v = none ∧ (∀ y ∈ L, y.base = x) ∧ RoadKit.Keep h h' [x] ∧ h'.size = h.size + 1 ∧ RoadKit.Exa Z h' x ST ∧ RoadKit.Fld Z h' x ST "value" "[B" (.ref h.size) ∧ RoadKit.Fld Z h' x ST "coder" "B" (.int 0) ∧
  (∃ V : Cell, RoadKit.Arr Z h' h.size V .byte ∧ V.vm = .none ∧ Z.vm.findClass "[B" = some V.cls ∧ V.slots.size = A.slots.size ∧ ∀ j, j < A.slots.size → V.slots[j]? = some (.int (lo8 (cv A j)))) ∧
  ∀ (O n d : String) (w : Value), RoadKit.Fld Z h x O n d w → RoadKit.slotOf Z O n d ≠ RoadKit.slotOf Z ST "value" "[B" → RoadKit.slotOf Z O n d ≠ RoadKit.slotOf Z ST "coder" "B" → RoadKit.Fld Z h' x O n d w
/-- **new String(chars) AT A CALL, IN THE ROAD'S FORM**: for specialBack behind newO: x the fresh String, b the char[] with the cell A -/
theorem back {p : Program} {l : Launch} {e : Env} {R : Room} {s : State} {args : Array Value} {below : List Frame} {len W : Nat} {Z : State} {a0 : Array Value} {h : Heap} (hZ : Z.Warmed39 s.vm) (hw : ∀ d ∈ words, d.before a0 Z = true) {kI : Nat} (wi : (Jvm.Cond.instantiable ST kI).before a0 Z = true)
    {x b : Addr} {A : Cell} {z : Int32} {v0 c0 : Value} (E : RoadKit.Exa Z h x ST) (V : RoadKit.Fld Z h x ST "value" "[B" v0) (C : RoadKit.Fld Z h x ST "coder" "B" c0) (K : RoadKit.Arr Z h b A .char) (hty : Typed .char A) (S : RoadKit.Sta Z h ST "COMPACT_STRINGS" "Z" (.int z)) (hz : ¬ z = 0)
    (l0 : 0 < A.slots.size) (l2 : A.slots.size ≤ 536870912) (hp : ∀ i, i < A.slots.size → ¬ 255 < cv A i) (hfr : 4 ≤ R.frames) (hlo : W + 65 ≤ R.locals) :
    Back l R p e below s args New1.yN len W (fun P a => a = #[.ref x, .ref b] ∧ P.U.heap = h ∧ P.cells + 1 ≤ R.cells ∧ P.slots + A.slots.size ≤ R.slots)
      (fun P _ v B => ∃ L, Q Z x A h v B.U.heap L ∧ B.locs = P.locs ++ L ∧ B.cells = P.cells + 1 ∧ B.slots = P.slots + A.slots.size) := by
  intro m meth c P g ig mk a X hg hsize hdg hW hn hp'
  obtain ⟨rfl, rfl, r1, r2⟩ := hp'
  have al : Z.vm.Alike P.U.vm := hZ.alike.trans X.warmed.alike
  obtain ⟨D, cfV, kV, iV, fV, hD, gV, stV, knV, obV, asV, slV⟩ := id V
  obtain ⟨D', cfC, kC, iC, fC, hD', gC, stC, -, -, asC, slC⟩ := id C
  cases hD.symm.trans hD'
  obtain ⟨D2, kD, e1, e2, e3, e4, e5⟩ := id E
  cases hD.symm.trans e1
  obtain ⟨c2, k2, i1, i2, i3, -⟩ := Cond.instantiable_spec wi
  cases e2.symm.trans i1
  cases e3.symm.trans i2
  obtain ⟨kU, u1, u2⟩ := al.2.2 _ _ e3
  have hB : Blank ST x D P.U := ⟨hD, ⟨knV, fun q hq => by rw [hq] at obV; cases obV⟩, by rw [al.findClass]; exact e2, kU, u1, by rw [u2]; exact i3, by rw [u2]; exact e5 i3⟩
  have F1 : Found ST "value" "[B" fV P.U := ⟨SBG.found_only al ⟨cfV, kV, iV, gV⟩, stV⟩
  have F2 : Found ST "coder" "B" fC P.U := ⟨SBG.found_only al ⟨cfC, kC, iC, gC⟩, stC⟩
  have hA : Ch b A P.U := ⟨⟨K.1, State.isArrayOf_alike al K.2.1, K.2.2, by omega⟩, hty⟩
  have hS : StaticIs P.U ST "COMPACT_STRINGS" "Z" (.int z) := by
    obtain ⟨cfS, iS, kS, fS, st, cS, t1, t2, t3, t4, t5, t6, t7⟩ := S
    exact StaticIs.there (s := { Z with heap := P.U.heap }) ⟨cfS, iS, kS, fS, st, cS, t1, t2, t3, t4, t5, (fun q => by rw [q] at t6; cases t6), t7⟩ al rfl
  obtain ⟨v, B, X', ⟨⟨hv, E', V', q1, q2, q3, q4, q5, q6, q7, q8, q9, q10, q11⟩, hl, hc, hs⟩, st⟩ := New1.pays x D fV fC b A z (tab_of (moved hZ hw)) hfr hlo m meth c P g ig mk _ X hg hsize hdg hW hn ⟨r1, r2, rfl, hB, F1, F2, hA, hS, hz, l0, l2, hp⟩
  have al' : Z.vm.Alike B.U.vm := hZ.alike.trans X'.warmed.alike
  have hsz : E'.slots.size = D.slots.size := by
    obtain ⟨-, -, -, kB, w1, w2, w3⟩ := q1
    obtain ⟨kB', y1, y2⟩ := al'.2.2 _ _ e3
    rw [q2.2.1] at w1
    cases w1.symm.trans y1
    rw [w3, e5 i3, y2]
  refine ⟨v, B, X', ⟨_, ⟨hv, ?_, ⟨by omega, fun y cy hy hn' => q10 y cy (by simpa using hn') hy, fun y cy hy => ?_⟩, q11, ⟨E', _, q1.1, by rw [q2.2.1]; exact e2, by rw [q2.2.1]; exact e3, by rw [q2.1]; exact obV, fun _ => by rw [hsz]; exact e5 i3⟩,
    ⟨E', cfV, kV, iV, fV, q1.1, gV, stV, by rw [q2.1]; exact knV, by rw [q2.1]; exact obV, by rw [q2.2.1]; exact asV, q3⟩, ⟨E', cfC, kC, iC, fC, q1.1, gC, stC, by rw [q2.1]; exact knV, by rw [q2.1]; exact obV, by rw [q2.2.1]; exact asC, q4⟩,
    ⟨V', ⟨q5.1, State.isArrayOf_alike al'.symm q5.2.1, q5.2.2.1⟩, q6, by rw [← al'.findClass]; exact q7, q8, fun j hj => by have := q9 j hj; rwa [Nat.zero_add] at this⟩, fun O n d w F n1 n2 => ?_⟩, hl, hc, hs⟩, st⟩
  · intro y hy
    simp only [List.mem_cons, List.not_mem_nil, or_false] at hy
    rcases hy with rfl | rfl <;> rfl
  · by_cases q : y = x
    · subst q
      cases hD.symm.trans hy
      exact ⟨E', q1.1, q2.2.1, q2.1, hsz⟩
    · exact ⟨cy, q10 y cy q hy, rfl, rfl, rfl⟩
  · obtain ⟨D3, cf, k, i, f, g1, g2, g3, g4, g5, g6, g7⟩ := F
    cases hD.symm.trans g1
    simp only [RoadKit.slotOf, g2, gV, gC, Option.map_some, Option.getD_some] at n1 n2
    exact ⟨E', cf, k, i, f, q1.1, g2, g3, by rw [q2.1]; exact g4, by rw [q2.1]; exact g5, by rw [q2.2.1]; exact g6, by rw [q2.2.2 f.slot (by simp [n1, n2])]; exact g7⟩
end StrChars.Road
namespace StrChars.Road
open Jvm Sem ClassFile Op Lib Jvm.Stand Jvm.Free Jvm.Free.XT
/-- WHAT COMES BACK, the byte[] as a list of values -/
def QA (Z : State) (x : Addr) (zn : Int32) (cs : List Int32) (h : Heap) (v : Option Value) (h' : Heap) (L : List Loc) : Prop := v = none ∧ (∀ y ∈ L, y.base = x) ∧ RoadKit.Keep h h' [x] ∧ h'.size = h.size + 1 ∧ RoadKit.Exa Z h' x ST ∧ RoadKit.Fld Z h' x ST "value" "[B" (.ref h.size) ∧ RoadKit.Fld Z h' x ST "coder" "B" (.int 0) ∧
  (∃ kb, Z.vm.findClass "[B" = some kb ∧ RoadKit.Arv Z h' h.size kb .byte zn (cs.map fun c => .int (lo8 c)) (.int 0)) ∧
  ∀ (O n d : String) (w : Value), RoadKit.Fld Z h x O n d w → RoadKit.slotOf Z O n d ≠ RoadKit.slotOf Z ST "value" "[B" → RoadKit.slotOf Z O n d ≠ RoadKit.slotOf Z ST "coder" "B" → RoadKit.Fld Z h' x O n d w
/-- **new String(chars) AT A CALL, THE ARRAYS AS LISTS**: the char[] at b holds cs, not empty, no char above 255 -/
theorem backArv {p : Program} {l : Launch} {e : Env} {R : Room} {s : State} {args : Array Value} {below : List Frame} {len W : Nat} {Z : State} {a0 : Array Value} {h : Heap} (hZ : Z.Warmed39 s.vm) (hw : ∀ d ∈ words, d.before a0 Z = true) {kI : Nat} (wi : (Jvm.Cond.instantiable ST kI).before a0 Z = true)
    {x b : Addr} {k : ClassId} {zn z : Int32} {cs : List Int32} {dv v0 c0 : Value} (E : RoadKit.Exa Z h x ST) (V : RoadKit.Fld Z h x ST "value" "[B" v0) (C : RoadKit.Fld Z h x ST "coder" "B" c0) (K : RoadKit.Arv Z h b k .char zn (cs.map Value.int) dv) (S : RoadKit.Sta Z h ST "COMPACT_STRINGS" "Z" (.int z)) (hz : ¬ z = 0)
    (hlen : zn.toNatClampNeg = cs.length) (h0 : 0 < cs.length) (hbig : cs.length ≤ 536870912) (hall : ∀ c ∈ cs, ¬ 255 < c) (hfr : 4 ≤ R.frames) (hlo : W + 65 ≤ R.locals) :
    Back l R p e below s args New1.yN len W (fun P a => a = #[.ref x, .ref b] ∧ P.U.heap = h ∧ P.cells + 1 ≤ R.cells ∧ P.slots + cs.length ≤ R.slots)
      (fun P _ v B => ∃ L, QA Z x zn cs h v B.U.heap L ∧ B.locs = P.locs ++ L ∧ B.cells = P.cells + 1 ∧ B.slots = P.slots + cs.length) := by
  obtain ⟨A, K1, K2, K3, K4, K5, K6⟩ := K
  have e : A.slots.size = cs.length := K3.trans hlen
  have hat : ∀ (i : Nat) (hi : i < cs.length), A.slots[i]? = some (.int cs[i]) := fun i hi => by rw [K5 i (by omega)]; simp [List.getD_eq_getElem?_getD, hi]
  have hcv : ∀ (i : Nat) (hi : i < cs.length), cv A i = cs[i] := fun i hi => by unfold cv; rw [hat i hi]
  have hty : Typed .char A := fun i v hv => by
    have hi : i < A.slots.size := (Array.getElem?_eq_some_iff.mp hv).1
    have q := K5 i hi
    rw [hv] at q
    rw [Option.some.inj q]
    exact K6 i hi
  refine Back.mono (back hZ hw wi E V C K1 hty S hz (by omega) (by omega) (fun i hi => by rw [hcv i (by omega)]; exact hall _ (List.getElem_mem _)) hfr hlo) (fun P a hp => ⟨hp.1, hp.2.1, hp.2.2.1, by rw [e]; exact hp.2.2.2⟩) (fun P a v B hp hq => ?_)
  obtain ⟨L, ⟨q1, q2, q3, q4, q5, q6, q7, ⟨V', v1, v2, v3, v4, v5⟩, q9⟩, hl, hc, hs⟩ := hq
  refine ⟨L, ⟨q1, q2, q3, q4, q5, q6, q7, ⟨V'.cls, v3, V', v1, rfl, by rw [v4, e, hlen], K4, fun i hi => ?_, fun i hi => ?_⟩, q9⟩, hl, hc, by rw [hs, e]⟩
  · have hi' : i < cs.length := by omega
    rw [v5 i (by omega), hcv i hi']; simp [List.getD_eq_getElem?_getD, hi']
  · have hi' : i < cs.length := by omega
    simp only [List.getD_eq_getElem?_getD, List.getElem?_map, List.getElem?_eq_getElem hi', Option.map_some, Option.getD_some]
    exact fits_lo8 _
end StrChars.Road
namespace StrChars.Road
open Jvm Sem ClassFile Op Lib Jvm.Stand Jvm.Free Jvm.Free.XT
/-- WHAT COMES BACK, in the writer's own shape -/
def QV (Z : State) (x : Addr) (N : Int32) (bs : List Int32) (h : Heap) (n0 : Nat) (v : Option Value) (h' : Heap) (L : List Loc) : Prop := v = none ∧ RoadKit.Fr n0 L ∧ RoadKit.Keep h h' [x] ∧ RoadKit.Exa Z h' x ST ∧ RoadKit.Fld Z h' x ST "coder" "B" (.int 0) ∧
  ∃ (t : Addr) (kb : ClassId), n0 ≤ t ∧ h.size ≤ t ∧ ¬ t = x ∧ RoadKit.Fld Z h' x ST "value" "[B" (.ref t) ∧ RoadKit.Arv Z h' t kb .byte N (bs.map Value.int) (.int 0)
/-- **new String(chars) AT A CALL, FOR THE WRITER**: a char[] of n known ints, each 0 to 255 -/
theorem backV {p : Program} {l : Launch} {e : Env} {R : Room} {s : State} {args : Array Value} {below : List Frame} {len W : Nat} {Z : State} {a0 : Array Value} {h : Heap} (hZ : Z.Warmed39 s.vm) (hw : ∀ d ∈ words, d.before a0 Z = true) {kI : Nat} (wi : (Jvm.Cond.instantiable ST kI).before a0 Z = true)
    {x b : Addr} {kC : ClassId} {cs bs : List Int32} {d v0 c0 : Value} {z N : Int32} {n n0 : Nat} (hx0 : n0 ≤ x) (hh0 : n0 ≤ h.size) (E : RoadKit.Exa Z h x ST) (V : RoadKit.Fld Z h x ST "value" "[B" v0) (C : RoadKit.Fld Z h x ST "coder" "B" c0) (K : RoadKit.Arv Z h b kC .char N (cs.map Value.int) d) (S : RoadKit.Sta Z h ST "COMPACT_STRINGS" "Z" (.int z)) (hz : ¬ z = 0)
    (hn : cs.length = n) (hN : N = Int32.ofNat n) (l0 : 0 < n) (l2 : n ≤ 4000) (hp : ∀ c ∈ cs, ¬ c < 0 ∧ ¬ (255 : Int32) < c) (hb : bs = cs.map (fun c => c.toInt8.toInt32)) (hfr : 4 ≤ R.frames) (hlo : W + 65 ≤ R.locals) :
    Back l R p e below s args (⟨"java/lang/String", "<init>", "([C)V"⟩ : MethodName) len W (fun P a => a = #[.ref x, .ref b] ∧ P.U.heap = h ∧ P.cells + 1 ≤ R.cells ∧ P.slots + n ≤ R.slots)
      (fun P _ v B => ∃ L, QV Z x N bs h n0 v B.U.heap L ∧ B.locs = P.locs ++ L ∧ B.cells = P.cells + 1 ∧ B.slots = P.slots + n) := by
  subst hn hN hb
  refine Back.mono (backArv hZ hw wi E V C K S hz (n32 (by omega)) l0 (by omega) (fun c hc => (hp c hc).2) hfr hlo) (fun P a hp => hp) (fun P a v B hp hq => ?_)
  obtain ⟨L, ⟨q1, q2, q3, q4, q5, q6, q7, ⟨kb, v1, v2⟩, q9⟩, hl, hc, hs⟩ := hq
  exact ⟨L, ⟨q1, fun y hy => by rw [q2 y hy]; exact hx0, q3, q5, q7, h.size, kb, hh0, Nat.le_refl _, Nat.ne_of_gt E.lt, q6, by rw [List.map_map]; exact v2⟩, hl, hc, hs⟩
end StrChars.Road
end Jvm.Pilot.@@N@@
namespace Jvm.Pilot.@@N@@
open Jvm Jvm.ClassFile Sem Op Lib Jvm.Free Jvm.Stand Jvm.LawKit Jvm.RoadKit Bundle Jvm.Own Jvm.Pilot.@@N@@.Jvm.D
/-- what the two statics of the JDK's set hold -/
def Cst (Z : State) : Prop := (∃ z : Int32, Sta Z Z.heap "java/lang/String" "COMPACT_STRINGS" "Z" (.int z) ∧ ¬ z = 0) ∧ ∃ f : Value, Sta Z Z.heap "jdk/internal/util/Preconditions" "SIOOBE_FORMATTER" "Ljava/util/function/BiFunction;" f ∧ f.isRef = true
def XS0 (Z : State) : Prop := True
def HW (Z : State) (a0 : Array Value) : Prop := (∀ d ∈ tables_1, d.before a0 Z = true) ∧ Cst Z ∧ XS0 Z
theorem ow_0 {Z : State} {a0 : Array Value} (hw : HW Z a0) : (Jvm.Cond.methodLink "com/example/untill/untill/delivery/OutcomeFailedPinLaw" (12 : Nat) ({ cls := "com/example/untill/untill/delivery/OutcomeFailedPinLaw", name := "draw", desc := "(IIII)Ljava/lang/String;" } : Jvm.MethodName)).before a0 Z = true := hw.1 _ (List.mem_of_getElem? (i := 0) rfl)
theorem ow_1 {Z : State} {a0 : Array Value} (hw : HW Z a0) : (Jvm.Cond.static ({ cls := "com/example/untill/untill/delivery/OutcomeFailedPinLaw", name := "draw", desc := "(IIII)Ljava/lang/String;" } : Jvm.MethodName)).before a0 Z = true := hw.1 _ (List.mem_of_getElem? (i := 1) rfl)
theorem ow_2 {Z : State} {a0 : Array Value} (hw : HW Z a0) : (Jvm.Cond.initialized "com/example/untill/untill/delivery/OutcomeFailedPinLaw").before a0 Z = true := hw.1 _ (List.mem_of_getElem? (i := 2) rfl)
theorem ow_3 {Z : State} {a0 : Array Value} (hw : HW Z a0) : (Jvm.Cond.code ({ cls := "com/example/untill/untill/delivery/OutcomeFailedPinLaw", name := "draw", desc := "(IIII)Ljava/lang/String;" } : Jvm.MethodName) method_2_code (8 : Nat) (Option.some (Jvm.ClassFile.FieldType.object "java/lang/String"))).before a0 Z = true := hw.1 _ (List.mem_of_getElem? (i := 3) rfl)
theorem ow_4 {Z : State} {a0 : Array Value} (hw : HW Z a0) : (Jvm.Cond.classLink "com/example/untill/untill/delivery/OutcomeFailedPinLaw" (7 : Nat) "java/lang/String").before a0 Z = true := hw.1 _ (List.mem_of_getElem? (i := 4) rfl)
theorem ow_5 {Z : State} {a0 : Array Value} (hw : HW Z a0) : (Jvm.Cond.instantiable "java/lang/String" (4 : Nat)).before a0 Z = true := hw.1 _ (List.mem_of_getElem? (i := 5) rfl)
theorem ow_6 {Z : State} {a0 : Array Value} (hw : HW Z a0) : (Jvm.Cond.initialized "java/lang/String").before a0 Z = true := hw.1 _ (List.mem_of_getElem? (i := 6) rfl)
theorem ow_7 {Z : State} {a0 : Array Value} (hw : HW Z a0) : (Jvm.Cond.arrayClass Jvm.ClassFile.FieldType.char).before a0 Z = true := hw.1 _ (List.mem_of_getElem? (i := 7) rfl)
theorem ow_8 {Z : State} {a0 : Array Value} (hw : HW Z a0) : (Jvm.Cond.methodLink "com/example/untill/untill/delivery/OutcomeFailedPinLaw" (9 : Nat) ({ cls := "java/lang/String", name := "<init>", desc := "([C)V" } : Jvm.MethodName)).before a0 Z = true := hw.1 _ (List.mem_of_getElem? (i := 8) rfl)
theorem ow_9 {Z : State} {a0 : Array Value} (hw : HW Z a0) : (Jvm.Cond.instanceMethod ({ cls := "java/lang/String", name := "<init>", desc := "([C)V" } : Jvm.MethodName)).before a0 Z = true := hw.1 _ (List.mem_of_getElem? (i := 9) rfl)
theorem ow_10 {Z : State} {a0 : Array Value} (hw : HW Z a0) : (Jvm.Cond.code ({ cls := "java/lang/String", name := "<init>", desc := "([C)V" } : Jvm.MethodName) jdk_42_method_3_code (2 : Nat) (Option.none : Option Jvm.ClassFile.FieldType)).before a0 Z = true := hw.1 _ (List.mem_of_getElem? (i := 10) rfl)
theorem ow_11 {Z : State} {a0 : Array Value} (hw : HW Z a0) : (Jvm.Cond.methodLink "java/lang/String" (27 : Nat) ({ cls := "java/lang/String", name := "<init>", desc := "([CIILjava/lang/Void;)V" } : Jvm.MethodName)).before a0 Z = true := hw.1 _ (List.mem_of_getElem? (i := 11) rfl)
theorem ow_12 {Z : State} {a0 : Array Value} (hw : HW Z a0) : (Jvm.Cond.instanceMethod ({ cls := "java/lang/String", name := "<init>", desc := "([CIILjava/lang/Void;)V" } : Jvm.MethodName)).before a0 Z = true := hw.1 _ (List.mem_of_getElem? (i := 12) rfl)
theorem ow_14 {Z : State} {a0 : Array Value} (hw : HW Z a0) : (Jvm.Cond.code ({ cls := "java/lang/String", name := "<init>", desc := "([CIILjava/lang/Void;)V" } : Jvm.MethodName) jdk_42_method_149_code (6 : Nat) (Option.none : Option Jvm.ClassFile.FieldType)).before a0 Z = true := hw.1 _ (List.mem_of_getElem? (i := 14) rfl)
theorem ow_15 {Z : State} {a0 : Array Value} (hw : HW Z a0) : (Jvm.Cond.methodLink "java/lang/String" (1 : Nat) ({ cls := "java/lang/Object", name := "<init>", desc := "()V" } : Jvm.MethodName)).before a0 Z = true := hw.1 _ (List.mem_of_getElem? (i := 15) rfl)
theorem ow_16 {Z : State} {a0 : Array Value} (hw : HW Z a0) : (Jvm.Cond.instanceMethod ({ cls := "java/lang/Object", name := "<init>", desc := "()V" } : Jvm.MethodName)).before a0 Z = true := hw.1 _ (List.mem_of_getElem? (i := 16) rfl)
theorem ow_17 {Z : State} {a0 : Array Value} (hw : HW Z a0) : (Jvm.Cond.code ({ cls := "java/lang/Object", name := "<init>", desc := "()V" } : Jvm.MethodName) object_method_1_code (1 : Nat) (Option.none : Option Jvm.ClassFile.FieldType)).before a0 Z = true := hw.1 _ (List.mem_of_getElem? (i := 17) rfl)
theorem ow_18 {Z : State} {a0 : Array Value} (hw : HW Z a0) : (Jvm.Cond.stringLink "java/lang/String" (7 : Nat) "").before a0 Z = true := hw.1 _ (List.mem_of_getElem? (i := 18) rfl)
theorem ow_19 {Z : State} {a0 : Array Value} (hw : HW Z a0) : (Jvm.Cond.arrayClass Jvm.ClassFile.FieldType.byte).before a0 Z = true := hw.1 _ (List.mem_of_getElem? (i := 19) rfl)
theorem ow_20 {Z : State} {a0 : Array Value} (hw : HW Z a0) : (Jvm.Cond.laysFinal "java/lang/String" "java/lang/String" "value" "[B").before a0 Z = true := hw.1 _ (List.mem_of_getElem? (i := 20) rfl)
theorem ow_21 {Z : State} {a0 : Array Value} (hw : HW Z a0) : (Jvm.Cond.laysFinal "java/lang/String" "java/lang/String" "coder" "B").before a0 Z = true := hw.1 _ (List.mem_of_getElem? (i := 21) rfl)
theorem ow_24 {Z : State} {a0 : Array Value} (hw : HW Z a0) : (Jvm.Cond.fieldLink "java/lang/String" (9 : Nat) "java/lang/String" "value" "[B").before a0 Z = true := hw.1 _ (List.mem_of_getElem? (i := 24) rfl)
theorem ow_25 {Z : State} {a0 : Array Value} (hw : HW Z a0) : (Jvm.Cond.fieldLink "java/lang/String" (15 : Nat) "java/lang/String" "coder" "B").before a0 Z = true := hw.1 _ (List.mem_of_getElem? (i := 25) rfl)
theorem ow_26 {Z : State} {a0 : Array Value} (hw : HW Z a0) : (Jvm.Cond.methodLink "com/example/untill/untill/delivery/OutcomeFailedPinLaw" (18 : Nat) ({ cls := "com/example/untill/untill/delivery/Outcome", name := "failed", desc := "(Ljava/lang/String;)Lcom/example/untill/untill/delivery/Outcome;" } : Jvm.MethodName)).before a0 Z = true := hw.1 _ (List.mem_of_getElem? (i := 26) rfl)
theorem ow_27 {Z : State} {a0 : Array Value} (hw : HW Z a0) : (Jvm.Cond.static ({ cls := "com/example/untill/untill/delivery/Outcome", name := "failed", desc := "(Ljava/lang/String;)Lcom/example/untill/untill/delivery/Outcome;" } : Jvm.MethodName)).before a0 Z = true := hw.1 _ (List.mem_of_getElem? (i := 27) rfl)
theorem ow_28 {Z : State} {a0 : Array Value} (hw : HW Z a0) : (Jvm.Cond.initialized "com/example/untill/untill/delivery/Outcome").before a0 Z = true := hw.1 _ (List.mem_of_getElem? (i := 28) rfl)
theorem ow_29 {Z : State} {a0 : Array Value} (hw : HW Z a0) : (Jvm.Cond.code ({ cls := "com/example/untill/untill/delivery/Outcome", name := "failed", desc := "(Ljava/lang/String;)Lcom/example/untill/untill/delivery/Outcome;" } : Jvm.MethodName) prog_43_method_3_code (1 : Nat) (Option.some (Jvm.ClassFile.FieldType.object "com/example/untill/untill/delivery/Outcome"))).before a0 Z = true := hw.1 _ (List.mem_of_getElem? (i := 29) rfl)
theorem ow_30 {Z : State} {a0 : Array Value} (hw : HW Z a0) : (Jvm.Cond.classLink "com/example/untill/untill/delivery/Outcome" (8 : Nat) "com/example/untill/untill/delivery/Outcome").before a0 Z = true := hw.1 _ (List.mem_of_getElem? (i := 30) rfl)
theorem ow_31 {Z : State} {a0 : Array Value} (hw : HW Z a0) : (Jvm.Cond.instantiable "com/example/untill/untill/delivery/Outcome" (2 : Nat)).before a0 Z = true := hw.1 _ (List.mem_of_getElem? (i := 31) rfl)
theorem ow_32 {Z : State} {a0 : Array Value} (hw : HW Z a0) : (Jvm.Cond.stringLink "com/example/untill/untill/delivery/Outcome" (21 : Nat) "error").before a0 Z = true := hw.1 _ (List.mem_of_getElem? (i := 32) rfl)
theorem ow_33 {Z : State} {a0 : Array Value} (hw : HW Z a0) : (Jvm.Cond.methodLink "com/example/untill/untill/delivery/Outcome" (22 : Nat) ({ cls := "java/util/Objects", name := "requireNonNull", desc := "(Ljava/lang/Object;Ljava/lang/String;)Ljava/lang/Object;" } : Jvm.MethodName)).before a0 Z = true := hw.1 _ (List.mem_of_getElem? (i := 33) rfl)
theorem ow_34 {Z : State} {a0 : Array Value} (hw : HW Z a0) : (Jvm.Cond.static ({ cls := "java/util/Objects", name := "requireNonNull", desc := "(Ljava/lang/Object;Ljava/lang/String;)Ljava/lang/Object;" } : Jvm.MethodName)).before a0 Z = true := hw.1 _ (List.mem_of_getElem? (i := 34) rfl)
theorem ow_35 {Z : State} {a0 : Array Value} (hw : HW Z a0) : (Jvm.Cond.initialized "java/util/Objects").before a0 Z = true := hw.1 _ (List.mem_of_getElem? (i := 35) rfl)
theorem ow_36 {Z : State} {a0 : Array Value} (hw : HW Z a0) : (Jvm.Cond.code ({ cls := "java/util/Objects", name := "requireNonNull", desc := "(Ljava/lang/Object;Ljava/lang/String;)Ljava/lang/Object;" } : Jvm.MethodName) jdk_31_method_11_code (2 : Nat) (Option.some (Jvm.ClassFile.FieldType.object "java/lang/Object"))).before a0 Z = true := hw.1 _ (List.mem_of_getElem? (i := 36) rfl)
theorem ow_37 {Z : State} {a0 : Array Value} (hw : HW Z a0) : (Jvm.Cond.classLink "com/example/untill/untill/delivery/Outcome" (28 : Nat) "java/lang/String").before a0 Z = true := hw.1 _ (List.mem_of_getElem? (i := 37) rfl)
theorem ow_38 {Z : State} {a0 : Array Value} (hw : HW Z a0) : (Jvm.Cond.methodLink "com/example/untill/untill/delivery/Outcome" (30 : Nat) ({ cls := "com/example/untill/untill/delivery/Outcome", name := "<init>", desc := "(Ljava/lang/String;Z)V" } : Jvm.MethodName)).before a0 Z = true := hw.1 _ (List.mem_of_getElem? (i := 38) rfl)
theorem ow_39 {Z : State} {a0 : Array Value} (hw : HW Z a0) : (Jvm.Cond.instanceMethod ({ cls := "com/example/untill/untill/delivery/Outcome", name := "<init>", desc := "(Ljava/lang/String;Z)V" } : Jvm.MethodName)).before a0 Z = true := hw.1 _ (List.mem_of_getElem? (i := 39) rfl)
theorem ow_40 {Z : State} {a0 : Array Value} (hw : HW Z a0) : (Jvm.Cond.code ({ cls := "com/example/untill/untill/delivery/Outcome", name := "<init>", desc := "(Ljava/lang/String;Z)V" } : Jvm.MethodName) prog_43_method_1_code (3 : Nat) (Option.none : Option Jvm.ClassFile.FieldType)).before a0 Z = true := hw.1 _ (List.mem_of_getElem? (i := 40) rfl)
theorem ow_41 {Z : State} {a0 : Array Value} (hw : HW Z a0) : (Jvm.Cond.methodLink "com/example/untill/untill/delivery/Outcome" (1 : Nat) ({ cls := "java/lang/Object", name := "<init>", desc := "()V" } : Jvm.MethodName)).before a0 Z = true := hw.1 _ (List.mem_of_getElem? (i := 41) rfl)
theorem ow_42 {Z : State} {a0 : Array Value} (hw : HW Z a0) : (Jvm.Cond.fieldLink "com/example/untill/untill/delivery/Outcome" (7 : Nat) "com/example/untill/untill/delivery/Outcome" "error" "Ljava/lang/String;").before a0 Z = true := hw.1 _ (List.mem_of_getElem? (i := 42) rfl)
theorem ow_43 {Z : State} {a0 : Array Value} (hw : HW Z a0) : (Jvm.Cond.laysFinal "com/example/untill/untill/delivery/Outcome" "com/example/untill/untill/delivery/Outcome" "error" "Ljava/lang/String;").before a0 Z = true := hw.1 _ (List.mem_of_getElem? (i := 43) rfl)
theorem ow_44 {Z : State} {a0 : Array Value} (hw : HW Z a0) : (Jvm.Cond.fieldLink "com/example/untill/untill/delivery/Outcome" (13 : Nat) "com/example/untill/untill/delivery/Outcome" "forGood" "Z").before a0 Z = true := hw.1 _ (List.mem_of_getElem? (i := 44) rfl)
theorem ow_45 {Z : State} {a0 : Array Value} (hw : HW Z a0) : (Jvm.Cond.laysFinal "com/example/untill/untill/delivery/Outcome" "com/example/untill/untill/delivery/Outcome" "forGood" "Z").before a0 Z = true := hw.1 _ (List.mem_of_getElem? (i := 45) rfl)
theorem ow_46 {Z : State} {a0 : Array Value} (hw : HW Z a0) : (Jvm.Cond.methodLink "com/example/untill/untill/delivery/OutcomeFailedPinLaw" (24 : Nat) ({ cls := "com/example/untill/untill/delivery/Outcome", name := "isDelivered", desc := "()Z" } : Jvm.MethodName)).before a0 Z = true := hw.1 _ (List.mem_of_getElem? (i := 46) rfl)
theorem ow_47 {Z : State} {a0 : Array Value} (hw : HW Z a0) : (Jvm.Cond.declares ({ cls := "com/example/untill/untill/delivery/Outcome", name := "isDelivered", desc := "()Z" } : Jvm.MethodName)).before a0 Z = true := hw.1 _ (List.mem_of_getElem? (i := 47) rfl)
theorem ow_48 {Z : State} {a0 : Array Value} (hw : HW Z a0) : (Jvm.Cond.instanceMethod ({ cls := "com/example/untill/untill/delivery/Outcome", name := "isDelivered", desc := "()Z" } : Jvm.MethodName)).before a0 Z = true := hw.1 _ (List.mem_of_getElem? (i := 48) rfl)
theorem ow_49 {Z : State} {a0 : Array Value} (hw : HW Z a0) : (Jvm.Cond.selects "com/example/untill/untill/delivery/Outcome" ({ cls := "com/example/untill/untill/delivery/Outcome", name := "isDelivered", desc := "()Z" } : Jvm.MethodName) ({ cls := "com/example/untill/untill/delivery/Outcome", name := "isDelivered", desc := "()Z" } : Jvm.MethodName)).before a0 Z = true := hw.1 _ (List.mem_of_getElem? (i := 49) rfl)
theorem ow_50 {Z : State} {a0 : Array Value} (hw : HW Z a0) : (Jvm.Cond.code ({ cls := "com/example/untill/untill/delivery/Outcome", name := "isDelivered", desc := "()Z" } : Jvm.MethodName) prog_43_method_5_code (1 : Nat) (Option.some Jvm.ClassFile.FieldType.boolean)).before a0 Z = true := hw.1 _ (List.mem_of_getElem? (i := 50) rfl)
theorem ow_51 {Z : State} {a0 : Array Value} (hw : HW Z a0) : (Jvm.Cond.methodLink "com/example/untill/untill/delivery/OutcomeFailedPinLaw" (28 : Nat) ({ cls := "com/example/untill/untill/delivery/Outcome", name := "isFailedForGood", desc := "()Z" } : Jvm.MethodName)).before a0 Z = true := hw.1 _ (List.mem_of_getElem? (i := 51) rfl)
theorem ow_52 {Z : State} {a0 : Array Value} (hw : HW Z a0) : (Jvm.Cond.declares ({ cls := "com/example/untill/untill/delivery/Outcome", name := "isFailedForGood", desc := "()Z" } : Jvm.MethodName)).before a0 Z = true := hw.1 _ (List.mem_of_getElem? (i := 52) rfl)
theorem ow_53 {Z : State} {a0 : Array Value} (hw : HW Z a0) : (Jvm.Cond.instanceMethod ({ cls := "com/example/untill/untill/delivery/Outcome", name := "isFailedForGood", desc := "()Z" } : Jvm.MethodName)).before a0 Z = true := hw.1 _ (List.mem_of_getElem? (i := 53) rfl)
theorem ow_54 {Z : State} {a0 : Array Value} (hw : HW Z a0) : (Jvm.Cond.selects "com/example/untill/untill/delivery/Outcome" ({ cls := "com/example/untill/untill/delivery/Outcome", name := "isFailedForGood", desc := "()Z" } : Jvm.MethodName) ({ cls := "com/example/untill/untill/delivery/Outcome", name := "isFailedForGood", desc := "()Z" } : Jvm.MethodName)).before a0 Z = true := hw.1 _ (List.mem_of_getElem? (i := 54) rfl)
theorem ow_55 {Z : State} {a0 : Array Value} (hw : HW Z a0) : (Jvm.Cond.code ({ cls := "com/example/untill/untill/delivery/Outcome", name := "isFailedForGood", desc := "()Z" } : Jvm.MethodName) prog_43_method_6_code (1 : Nat) (Option.some Jvm.ClassFile.FieldType.boolean)).before a0 Z = true := hw.1 _ (List.mem_of_getElem? (i := 55) rfl)
theorem ow_56 {Z : State} {a0 : Array Value} (hw : HW Z a0) : (Jvm.Cond.methodLink "com/example/untill/untill/delivery/OutcomeFailedPinLaw" (31 : Nat) ({ cls := "com/example/untill/untill/delivery/Outcome", name := "error", desc := "()Ljava/lang/String;" } : Jvm.MethodName)).before a0 Z = true := hw.1 _ (List.mem_of_getElem? (i := 56) rfl)
theorem ow_57 {Z : State} {a0 : Array Value} (hw : HW Z a0) : (Jvm.Cond.declares ({ cls := "com/example/untill/untill/delivery/Outcome", name := "error", desc := "()Ljava/lang/String;" } : Jvm.MethodName)).before a0 Z = true := hw.1 _ (List.mem_of_getElem? (i := 57) rfl)
theorem ow_58 {Z : State} {a0 : Array Value} (hw : HW Z a0) : (Jvm.Cond.instanceMethod ({ cls := "com/example/untill/untill/delivery/Outcome", name := "error", desc := "()Ljava/lang/String;" } : Jvm.MethodName)).before a0 Z = true := hw.1 _ (List.mem_of_getElem? (i := 58) rfl)
theorem ow_59 {Z : State} {a0 : Array Value} (hw : HW Z a0) : (Jvm.Cond.selects "com/example/untill/untill/delivery/Outcome" ({ cls := "com/example/untill/untill/delivery/Outcome", name := "error", desc := "()Ljava/lang/String;" } : Jvm.MethodName) ({ cls := "com/example/untill/untill/delivery/Outcome", name := "error", desc := "()Ljava/lang/String;" } : Jvm.MethodName)).before a0 Z = true := hw.1 _ (List.mem_of_getElem? (i := 59) rfl)
theorem ow_60 {Z : State} {a0 : Array Value} (hw : HW Z a0) : (Jvm.Cond.code ({ cls := "com/example/untill/untill/delivery/Outcome", name := "error", desc := "()Ljava/lang/String;" } : Jvm.MethodName) prog_43_method_7_code (1 : Nat) (Option.some (Jvm.ClassFile.FieldType.object "java/lang/String"))).before a0 Z = true := hw.1 _ (List.mem_of_getElem? (i := 60) rfl)
theorem ow_61 {Z : State} {a0 : Array Value} (hw : HW Z a0) : (Jvm.Cond.methodLink "com/example/untill/untill/delivery/OutcomeFailedPinLaw" (35 : Nat) ({ cls := "java/lang/String", name := "equals", desc := "(Ljava/lang/Object;)Z" } : Jvm.MethodName)).before a0 Z = true := hw.1 _ (List.mem_of_getElem? (i := 61) rfl)
theorem ow_62 {Z : State} {a0 : Array Value} (hw : HW Z a0) : (Jvm.Cond.declares ({ cls := "java/lang/String", name := "equals", desc := "(Ljava/lang/Object;)Z" } : Jvm.MethodName)).before a0 Z = true := hw.1 _ (List.mem_of_getElem? (i := 62) rfl)
theorem ow_63 {Z : State} {a0 : Array Value} (hw : HW Z a0) : (Jvm.Cond.instanceMethod ({ cls := "java/lang/String", name := "equals", desc := "(Ljava/lang/Object;)Z" } : Jvm.MethodName)).before a0 Z = true := hw.1 _ (List.mem_of_getElem? (i := 63) rfl)
theorem ow_64 {Z : State} {a0 : Array Value} (hw : HW Z a0) : (Jvm.Cond.selects "java/lang/String" ({ cls := "java/lang/String", name := "equals", desc := "(Ljava/lang/Object;)Z" } : Jvm.MethodName) ({ cls := "java/lang/String", name := "equals", desc := "(Ljava/lang/Object;)Z" } : Jvm.MethodName)).before a0 Z = true := hw.1 _ (List.mem_of_getElem? (i := 64) rfl)
theorem ow_65 {Z : State} {a0 : Array Value} (hw : HW Z a0) : (Jvm.Cond.code ({ cls := "java/lang/String", name := "equals", desc := "(Ljava/lang/Object;)Z" } : Jvm.MethodName) jdk_42_method_66_code (3 : Nat) (Option.some Jvm.ClassFile.FieldType.boolean)).before a0 Z = true := hw.1 _ (List.mem_of_getElem? (i := 65) rfl)
theorem own_wS {Z : State} {a0 : Array Value} (hw : HW Z a0) : (Jvm.Cond.instantiable "java/lang/String" (4 : Nat)).before a0 Z = true := (ow_5 hw)
abbrev EL0 : List (String × Nat) := consts_1
abbrev nw0 : Bool := false
theorem own_ew {Z : State} {a0 : Array Value} (hw : HW Z a0) : EW Z a0 EL0 := (EW.cons (ow_32 hw) (by decide) (EW.cons (ow_18 hw) (by decide) EW.nil))
theorem own_sA {Z : State} {a0 : Array Value} (hw : HW Z a0) : ∀ a ∈ Bundle.stringAtoms, a.before a0 Z = true := fun d hd => hw.1 d ((by decide +kernel : ∀ d ∈ Bundle.stringAtoms, d ∈ tables_1) d hd)
theorem od_3_0 : decode jdk_42_method_149_code 0 = .ok (.aload_n 0, 1) := by decide +kernel
theorem od_3_1 : decode jdk_42_method_149_code 1 = .ok (.invokespecial 1, 3) := by decide +kernel
theorem od_3_4 : decode jdk_42_method_149_code 4 = .ok (.iload_n 3, 1) := by decide +kernel
theorem od_3_5 : decode jdk_42_method_149_code 5 = .ok (.ifCond .ne 22, 3) := by decide +kernel
theorem od_3_8 : decode jdk_42_method_149_code 8 = .ok (.aload_n 0, 1) := by decide +kernel
theorem od_3_9 : decode jdk_42_method_149_code 9 = .ok (.ldc 7, 2) := by decide +kernel
theorem od_3_11 : decode jdk_42_method_149_code 11 = .ok (.getfield 9, 3) := by decide +kernel
theorem od_3_14 : decode jdk_42_method_149_code 14 = .ok (.putfield 9, 3) := by decide +kernel
theorem od_3_17 : decode jdk_42_method_149_code 17 = .ok (.aload_n 0, 1) := by decide +kernel
theorem od_3_18 : decode jdk_42_method_149_code 18 = .ok (.ldc 7, 2) := by decide +kernel
theorem od_3_20 : decode jdk_42_method_149_code 20 = .ok (.getfield 15, 3) := by decide +kernel
theorem od_3_23 : decode jdk_42_method_149_code 23 = .ok (.putfield 15, 3) := by decide +kernel
theorem od_3_26 : decode jdk_42_method_149_code 26 = .ok (.return_, 1) := by decide +kernel
theorem od_2_0 : decode jdk_42_method_3_code 0 = .ok (.aload_n 0, 1) := by decide +kernel
theorem od_2_1 : decode jdk_42_method_3_code 1 = .ok (.aload_n 1, 1) := by decide +kernel
theorem od_2_2 : decode jdk_42_method_3_code 2 = .ok (.iconst 0, 1) := by decide +kernel
theorem od_2_3 : decode jdk_42_method_3_code 3 = .ok (.aload_n 1, 1) := by decide +kernel
theorem od_2_4 : decode jdk_42_method_3_code 4 = .ok (.arraylength, 1) := by decide +kernel
theorem od_2_5 : decode jdk_42_method_3_code 5 = .ok (.aconst_null, 1) := by decide +kernel
theorem od_2_6 : decode jdk_42_method_3_code 6 = .ok (.invokespecial 27, 3) := by decide +kernel
theorem od_2_9 : decode jdk_42_method_3_code 9 = .ok (.return_, 1) := by decide +kernel
theorem od_6_0 : decode jdk_31_method_11_code 0 = .ok (.aload_n 0, 1) := by decide +kernel
theorem od_6_1 : decode jdk_31_method_11_code 1 = .ok (.ifnonnull 12, 3) := by decide +kernel
theorem od_6_13 : decode jdk_31_method_11_code 13 = .ok (.aload_n 0, 1) := by decide +kernel
theorem od_6_14 : decode jdk_31_method_11_code 14 = .ok (.areturn, 1) := by decide +kernel
theorem od_7_0 : decode prog_43_method_1_code 0 = .ok (.aload_n 0, 1) := by decide +kernel
theorem od_7_1 : decode prog_43_method_1_code 1 = .ok (.invokespecial 1, 3) := by decide +kernel
theorem od_7_4 : decode prog_43_method_1_code 4 = .ok (.aload_n 0, 1) := by decide +kernel
theorem od_7_5 : decode prog_43_method_1_code 5 = .ok (.aload_n 1, 1) := by decide +kernel
theorem od_7_6 : decode prog_43_method_1_code 6 = .ok (.putfield 7, 3) := by decide +kernel
theorem od_7_9 : decode prog_43_method_1_code 9 = .ok (.aload_n 0, 1) := by decide +kernel
theorem od_7_10 : decode prog_43_method_1_code 10 = .ok (.iload_n 2, 1) := by decide +kernel
theorem od_7_11 : decode prog_43_method_1_code 11 = .ok (.putfield 13, 3) := by decide +kernel
theorem od_7_14 : decode prog_43_method_1_code 14 = .ok (.return_, 1) := by decide +kernel
theorem od_5_0 : decode prog_43_method_3_code 0 = .ok (.new 8, 3) := by decide +kernel
theorem od_5_3 : decode prog_43_method_3_code 3 = .ok (.dup, 1) := by decide +kernel
theorem od_5_4 : decode prog_43_method_3_code 4 = .ok (.aload_n 0, 1) := by decide +kernel
theorem od_5_5 : decode prog_43_method_3_code 5 = .ok (.ldc 21, 2) := by decide +kernel
theorem od_5_7 : decode prog_43_method_3_code 7 = .ok (.invokestatic 22, 3) := by decide +kernel
theorem od_5_10 : decode prog_43_method_3_code 10 = .ok (.checkcast 28, 3) := by decide +kernel
theorem od_5_13 : decode prog_43_method_3_code 13 = .ok (.iconst 0, 1) := by decide +kernel
theorem od_5_14 : decode prog_43_method_3_code 14 = .ok (.invokespecial 30, 3) := by decide +kernel
theorem od_5_17 : decode prog_43_method_3_code 17 = .ok (.areturn, 1) := by decide +kernel
theorem od_8_0 : decode prog_43_method_5_code 0 = .ok (.aload_n 0, 1) := by decide +kernel
theorem od_8_1 : decode prog_43_method_5_code 1 = .ok (.getfield 7, 3) := by decide +kernel
theorem od_8_4 : decode prog_43_method_5_code 4 = .ok (.ifnonnull 7, 3) := by decide +kernel
theorem od_8_11 : decode prog_43_method_5_code 11 = .ok (.iconst 0, 1) := by decide +kernel
theorem od_8_12 : decode prog_43_method_5_code 12 = .ok (.ireturn, 1) := by decide +kernel
theorem od_9_0 : decode prog_43_method_6_code 0 = .ok (.aload_n 0, 1) := by decide +kernel
theorem od_9_1 : decode prog_43_method_6_code 1 = .ok (.getfield 13, 3) := by decide +kernel
theorem od_9_4 : decode prog_43_method_6_code 4 = .ok (.ireturn, 1) := by decide +kernel
theorem od_10_0 : decode prog_43_method_7_code 0 = .ok (.aload_n 0, 1) := by decide +kernel
theorem od_10_1 : decode prog_43_method_7_code 1 = .ok (.getfield 7, 3) := by decide +kernel
theorem od_10_4 : decode prog_43_method_7_code 4 = .ok (.areturn, 1) := by decide +kernel
theorem od_11_0 : decode jdk_42_method_66_code 0 = .ok (.aload_n 0, 1) := by decide +kernel
theorem od_11_1 : decode jdk_42_method_66_code 1 = .ok (.aload_n 1, 1) := by decide +kernel
theorem od_11_2 : decode jdk_42_method_66_code 2 = .ok (.if_acmp .ne 5, 3) := by decide +kernel
theorem od_11_5 : decode jdk_42_method_66_code 5 = .ok (.iconst 1, 1) := by decide +kernel
theorem od_11_6 : decode jdk_42_method_66_code 6 = .ok (.ireturn, 1) := by decide +kernel
theorem od_1_0 : decode method_2_code 0 = .ok (.iload_n 1, 1) := by decide +kernel
theorem od_1_1 : decode method_2_code 1 = .ok (.sipush 255, 3) := by decide +kernel
theorem od_1_4 : decode method_2_code 4 = .ok (.iand, 1) := by decide +kernel
theorem od_1_5 : decode method_2_code 5 = .ok (.i2c, 1) := by decide +kernel
theorem od_1_6 : decode method_2_code 6 = .ok (.istore 4, 2) := by decide +kernel
theorem od_1_8 : decode method_2_code 8 = .ok (.iload_n 2, 1) := by decide +kernel
theorem od_1_9 : decode method_2_code 9 = .ok (.sipush 255, 3) := by decide +kernel
theorem od_1_12 : decode method_2_code 12 = .ok (.iand, 1) := by decide +kernel
theorem od_1_13 : decode method_2_code 13 = .ok (.i2c, 1) := by decide +kernel
theorem od_1_14 : decode method_2_code 14 = .ok (.istore 5, 2) := by decide +kernel
theorem od_1_16 : decode method_2_code 16 = .ok (.iload_n 3, 1) := by decide +kernel
theorem od_1_17 : decode method_2_code 17 = .ok (.sipush 255, 3) := by decide +kernel
theorem od_1_20 : decode method_2_code 20 = .ok (.iand, 1) := by decide +kernel
theorem od_1_21 : decode method_2_code 21 = .ok (.i2c, 1) := by decide +kernel
theorem od_1_22 : decode method_2_code 22 = .ok (.istore 6, 2) := by decide +kernel
theorem od_1_24 : decode method_2_code 24 = .ok (.iload_n 0, 1) := by decide +kernel
theorem od_1_25 : decode method_2_code 25 = .ok (.iconst 3, 1) := by decide +kernel
theorem od_1_26 : decode method_2_code 26 = .ok (.iand, 1) := by decide +kernel
theorem od_1_27 : decode method_2_code 27 = .ok (.istore 7, 2) := by decide +kernel
theorem od_1_29 : decode method_2_code 29 = .ok (.iload 7, 2) := by decide +kernel
theorem od_1_31 : decode method_2_code 31 = .ok (.ifCond .ne 14, 3) := by decide +kernel
theorem od_1_34 : decode method_2_code 34 = .ok (.new 7, 3) := by decide +kernel
theorem od_1_37 : decode method_2_code 37 = .ok (.dup, 1) := by decide +kernel
theorem od_1_38 : decode method_2_code 38 = .ok (.iconst 0, 1) := by decide +kernel
theorem od_1_39 : decode method_2_code 39 = .ok (.newarray .char, 2) := by decide +kernel
theorem od_1_41 : decode method_2_code 41 = .ok (.invokespecial 9, 3) := by decide +kernel
theorem od_1_44 : decode method_2_code 44 = .ok (.areturn, 1) := by decide +kernel
theorem od_1_45 : decode method_2_code 45 = .ok (.iload 7, 2) := by decide +kernel
theorem od_1_47 : decode method_2_code 47 = .ok (.iconst 1, 1) := by decide +kernel
theorem od_1_48 : decode method_2_code 48 = .ok (.if_icmp .ne 19, 3) := by decide +kernel
theorem od_1_51 : decode method_2_code 51 = .ok (.new 7, 3) := by decide +kernel
theorem od_1_54 : decode method_2_code 54 = .ok (.dup, 1) := by decide +kernel
theorem od_1_55 : decode method_2_code 55 = .ok (.iconst 1, 1) := by decide +kernel
theorem od_1_56 : decode method_2_code 56 = .ok (.newarray .char, 2) := by decide +kernel
theorem od_1_58 : decode method_2_code 58 = .ok (.dup, 1) := by decide +kernel
theorem od_1_59 : decode method_2_code 59 = .ok (.iconst 0, 1) := by decide +kernel
theorem od_1_60 : decode method_2_code 60 = .ok (.iload 4, 2) := by decide +kernel
theorem od_1_62 : decode method_2_code 62 = .ok (.castore, 1) := by decide +kernel
theorem od_1_63 : decode method_2_code 63 = .ok (.invokespecial 9, 3) := by decide +kernel
theorem od_1_66 : decode method_2_code 66 = .ok (.areturn, 1) := by decide +kernel
theorem od_1_67 : decode method_2_code 67 = .ok (.iload 7, 2) := by decide +kernel
theorem od_1_69 : decode method_2_code 69 = .ok (.iconst 2, 1) := by decide +kernel
theorem od_1_70 : decode method_2_code 70 = .ok (.if_icmp .ne 24, 3) := by decide +kernel
theorem od_1_73 : decode method_2_code 73 = .ok (.new 7, 3) := by decide +kernel
theorem od_1_76 : decode method_2_code 76 = .ok (.dup, 1) := by decide +kernel
theorem od_1_77 : decode method_2_code 77 = .ok (.iconst 2, 1) := by decide +kernel
theorem od_1_78 : decode method_2_code 78 = .ok (.newarray .char, 2) := by decide +kernel
theorem od_1_80 : decode method_2_code 80 = .ok (.dup, 1) := by decide +kernel
theorem od_1_81 : decode method_2_code 81 = .ok (.iconst 0, 1) := by decide +kernel
theorem od_1_82 : decode method_2_code 82 = .ok (.iload 4, 2) := by decide +kernel
theorem od_1_84 : decode method_2_code 84 = .ok (.castore, 1) := by decide +kernel
theorem od_1_85 : decode method_2_code 85 = .ok (.dup, 1) := by decide +kernel
theorem od_1_86 : decode method_2_code 86 = .ok (.iconst 1, 1) := by decide +kernel
theorem od_1_87 : decode method_2_code 87 = .ok (.iload 5, 2) := by decide +kernel
theorem od_1_89 : decode method_2_code 89 = .ok (.castore, 1) := by decide +kernel
theorem od_1_90 : decode method_2_code 90 = .ok (.invokespecial 9, 3) := by decide +kernel
theorem od_1_93 : decode method_2_code 93 = .ok (.areturn, 1) := by decide +kernel
theorem od_1_94 : decode method_2_code 94 = .ok (.new 7, 3) := by decide +kernel
theorem od_1_97 : decode method_2_code 97 = .ok (.dup, 1) := by decide +kernel
theorem od_1_98 : decode method_2_code 98 = .ok (.iconst 3, 1) := by decide +kernel
theorem od_1_99 : decode method_2_code 99 = .ok (.newarray .char, 2) := by decide +kernel
theorem od_1_101 : decode method_2_code 101 = .ok (.dup, 1) := by decide +kernel
theorem od_1_102 : decode method_2_code 102 = .ok (.iconst 0, 1) := by decide +kernel
theorem od_1_103 : decode method_2_code 103 = .ok (.iload 4, 2) := by decide +kernel
theorem od_1_105 : decode method_2_code 105 = .ok (.castore, 1) := by decide +kernel
theorem od_1_106 : decode method_2_code 106 = .ok (.dup, 1) := by decide +kernel
theorem od_1_107 : decode method_2_code 107 = .ok (.iconst 1, 1) := by decide +kernel
theorem od_1_108 : decode method_2_code 108 = .ok (.iload 5, 2) := by decide +kernel
theorem od_1_110 : decode method_2_code 110 = .ok (.castore, 1) := by decide +kernel
theorem od_1_111 : decode method_2_code 111 = .ok (.dup, 1) := by decide +kernel
theorem od_1_112 : decode method_2_code 112 = .ok (.iconst 2, 1) := by decide +kernel
theorem od_1_113 : decode method_2_code 113 = .ok (.iload 6, 2) := by decide +kernel
theorem od_1_115 : decode method_2_code 115 = .ok (.castore, 1) := by decide +kernel
theorem od_1_116 : decode method_2_code 116 = .ok (.invokespecial 9, 3) := by decide +kernel
theorem od_1_119 : decode method_2_code 119 = .ok (.areturn, 1) := by decide +kernel
theorem od_0_0 : decode code 0 = .ok (.iload_n 0, 1) := by decide +kernel
theorem od_0_1 : decode code 1 = .ok (.iload_n 1, 1) := by decide +kernel
theorem od_0_2 : decode code 2 = .ok (.iload_n 2, 1) := by decide +kernel
theorem od_0_3 : decode code 3 = .ok (.iload_n 3, 1) := by decide +kernel
theorem od_0_4 : decode code 4 = .ok (.invokestatic 12, 3) := by decide +kernel
theorem od_0_7 : decode code 7 = .ok (.astore 4, 2) := by decide +kernel
theorem od_0_9 : decode code 9 = .ok (.aload 4, 2) := by decide +kernel
theorem od_0_11 : decode code 11 = .ok (.invokestatic 18, 3) := by decide +kernel
theorem od_0_14 : decode code 14 = .ok (.astore 5, 2) := by decide +kernel
theorem od_0_16 : decode code 16 = .ok (.aload 5, 2) := by decide +kernel
theorem od_0_18 : decode code 18 = .ok (.ifnonnull 5, 3) := by decide +kernel
theorem od_0_23 : decode code 23 = .ok (.aload 5, 2) := by decide +kernel
theorem od_0_25 : decode code 25 = .ok (.invokevirtual 24, 3) := by decide +kernel
theorem od_0_28 : decode code 28 = .ok (.istore 6, 2) := by decide +kernel
theorem od_0_30 : decode code 30 = .ok (.aload 5, 2) := by decide +kernel
theorem od_0_32 : decode code 32 = .ok (.invokevirtual 28, 3) := by decide +kernel
theorem od_0_35 : decode code 35 = .ok (.istore 7, 2) := by decide +kernel
theorem od_0_37 : decode code 37 = .ok (.aload 5, 2) := by decide +kernel
theorem od_0_39 : decode code 39 = .ok (.invokevirtual 31, 3) := by decide +kernel
theorem od_0_42 : decode code 42 = .ok (.astore 8, 2) := by decide +kernel
theorem od_0_44 : decode code 44 = .ok (.iload 6, 2) := by decide +kernel
theorem od_0_46 : decode code 46 = .ok (.ifCond .ne 29, 3) := by decide +kernel
theorem od_0_49 : decode code 49 = .ok (.iload 7, 2) := by decide +kernel
theorem od_0_51 : decode code 51 = .ok (.ifCond .ne 24, 3) := by decide +kernel
theorem od_0_54 : decode code 54 = .ok (.aload 8, 2) := by decide +kernel
theorem od_0_56 : decode code 56 = .ok (.aload 4, 2) := by decide +kernel
theorem od_0_58 : decode code 58 = .ok (.if_acmp .ne 17, 3) := by decide +kernel
theorem od_0_61 : decode code 61 = .ok (.aload 8, 2) := by decide +kernel
theorem od_0_63 : decode code 63 = .ok (.aload 4, 2) := by decide +kernel
theorem od_0_65 : decode code 65 = .ok (.invokevirtual 35, 3) := by decide +kernel
theorem od_0_68 : decode code 68 = .ok (.ifCond .eq 7, 3) := by decide +kernel
theorem od_0_71 : decode code 71 = .ok (.iconst 1, 1) := by decide +kernel
theorem od_0_72 : decode code 72 = .ok (.goto 4, 3) := by decide +kernel
theorem od_0_76 : decode code 76 = .ok (.ireturn, 1) := by decide +kernel
theorem opd_0 : parseMethodDescriptor "([CIILjava/lang/Void;)V" = some ⟨[(.array .char), .int, .int, (.object "java/lang/Void")], none⟩ := by decide +kernel
theorem opd_1 : parseMethodDescriptor "(Ljava/lang/Object;Ljava/lang/String;)Ljava/lang/Object;" = some ⟨[(.object "java/lang/Object"), (.object "java/lang/String")], some (.object "java/lang/Object")⟩ := by decide +kernel
theorem opd_2 : parseMethodDescriptor "(Ljava/lang/String;Z)V" = some ⟨[(.object "java/lang/String"), .boolean], none⟩ := by decide +kernel
theorem opd_3 : parseMethodDescriptor "([C)V" = some ⟨[(.array .char)], none⟩ := by decide +kernel
theorem opd_4 : parseMethodDescriptor "(IIII)Ljava/lang/String;" = some ⟨[.int, .int, .int, .int], some (.object "java/lang/String")⟩ := by decide +kernel
theorem opd_5 : parseMethodDescriptor "(Ljava/lang/String;)Lcom/example/untill/untill/delivery/Outcome;" = some ⟨[(.object "java/lang/String")], some (.object "com/example/untill/untill/delivery/Outcome")⟩ := by decide +kernel
theorem opd_6 : parseMethodDescriptor "()Z" = some ⟨[], some .boolean⟩ := by decide +kernel
theorem opd_7 : parseMethodDescriptor "()Ljava/lang/String;" = some ⟨[], some (.object "java/lang/String")⟩ := by decide +kernel
theorem opd_8 : parseMethodDescriptor "(Ljava/lang/Object;)Z" = some ⟨[(.object "java/lang/Object")], some .boolean⟩ := by decide +kernel
theorem opn_0 : plainFor ({ cls := "java/lang/String", name := "<init>", desc := "([CIILjava/lang/Void;)V" } : Jvm.MethodName) = true := by decide +kernel
theorem opn_1 : plainFor ({ cls := "java/lang/String", name := "<init>", desc := "([C)V" } : Jvm.MethodName) = true := by decide +kernel
theorem opn_2 : plainFor ({ cls := "java/util/Objects", name := "requireNonNull", desc := "(Ljava/lang/Object;Ljava/lang/String;)Ljava/lang/Object;" } : Jvm.MethodName) = true := by decide +kernel
theorem opn_3 : plainFor ({ cls := "com/example/untill/untill/delivery/Outcome", name := "<init>", desc := "(Ljava/lang/String;Z)V" } : Jvm.MethodName) = true := by decide +kernel
theorem opn_4 : plainFor ({ cls := "com/example/untill/untill/delivery/Outcome", name := "failed", desc := "(Ljava/lang/String;)Lcom/example/untill/untill/delivery/Outcome;" } : Jvm.MethodName) = true := by decide +kernel
theorem opn_5 : plainFor ({ cls := "com/example/untill/untill/delivery/Outcome", name := "isDelivered", desc := "()Z" } : Jvm.MethodName) = true := by decide +kernel
theorem opn_6 : plainFor ({ cls := "com/example/untill/untill/delivery/Outcome", name := "isFailedForGood", desc := "()Z" } : Jvm.MethodName) = true := by decide +kernel
theorem opn_7 : plainFor ({ cls := "com/example/untill/untill/delivery/Outcome", name := "error", desc := "()Ljava/lang/String;" } : Jvm.MethodName) = true := by decide +kernel
theorem opn_8 : plainFor ({ cls := "java/lang/String", name := "equals", desc := "(Ljava/lang/Object;)Z" } : Jvm.MethodName) = true := by decide +kernel
theorem opn_9 : plainFor ({ cls := "com/example/untill/untill/delivery/OutcomeFailedPinLaw", name := "draw", desc := "(IIII)Ljava/lang/String;" } : Jvm.MethodName) = true := by decide +kernel
theorem opn_10 : plainFor ({ cls := "com/example/untill/untill/delivery/OutcomeFailedPinLaw", name := "law", desc := "(IIII)Z" } : Jvm.MethodName) = true := by decide +kernel
abbrev ST0 : String := "java/lang/String"
/-- at x lies a String of the chars cs, each 0 to 255; its bytes lie at t -/
def Str8 (Z : State) (h : Heap) (x t : Addr) (cs : List Int32) : Prop := Exa Z h x "java/lang/String" ∧ Fld Z h x "java/lang/String" "coder" "B" (.int 0) ∧ Fld Z h x "java/lang/String" "value" "[B" (.ref t) ∧
  (∃ kb, Arv Z h t kb .byte (Int32.ofNat cs.length) ((cs.map fun c => c.toInt8.toInt32).map Value.int) (.int 0)) ∧ (∀ c ∈ cs, ¬ c < 0 ∧ ¬ (255 : Int32) < c) ∧ cs.length ≤ 4000
theorem Str8.keep {Z : State} {h h' : Heap} {x t : Addr} {cs : List Int32} {ws : List Addr} (F : Str8 Z h x t cs) (K : Keep h h' ws) (q : x ∉ ws) (r : t ∉ ws) : Str8 Z h' x t cs := by
  obtain ⟨a, b, c, ⟨kb, d⟩, e⟩ := F
  exact ⟨a.keep K, b.keep K q, c.keep K q, ⟨kb, d.keep K r⟩, e⟩
theorem Str8.lt {Z : State} {h : Heap} {x t : Addr} {cs : List Int32} (F : Str8 Z h x t cs) : x < h.size := F.1.lt
theorem Str8.lt2 {Z : State} {h : Heap} {x t : Addr} {cs : List Int32} (F : Str8 Z h x t cs) : t < h.size := by obtain ⟨-, -, -, ⟨kb, d⟩, -⟩ := F; exact d.lt
theorem up16 (cs : List Int32) (h : ∀ c ∈ cs, ¬ c < 0 ∧ ¬ (255 : Int32) < c) : ∀ c ∈ cs, ¬ c < 0 ∧ ¬ (65535 : Int32) < c := fun c hc => ⟨(h c hc).1, fun q => (h c hc).2 (by rw [Int32.lt_iff_toInt_lt] at q ⊢; have e1 : (65535 : Int32).toInt = 65535 := rfl; have e2 : (255 : Int32).toInt = 255 := rfl; omega)⟩
theorem and255 (x : Int32) : ¬ (x &&& 255) < 0 ∧ ¬ (255 : Int32) < (x &&& 255) := by
  have h := c_and x 255 (by decide)
  have e2 : (255 : Int32).toInt = 255 := rfl
  have e0 : (0 : Int32).toInt = 0 := rfl
  rw [Int32.lt_iff_toInt_lt, Int32.lt_iff_toInt_lt, e0, e2]
  rw [e2] at h
  omega
theorem nar255 (x : Int32) : nar .char (x &&& 255) = x &&& 255 := i2c_mask x
theorem fa0 {P : Int32 → Prop} : ∀ c ∈ ([] : List Int32), P c := fun _ q => nomatch q
theorem faS {P : Int32 → Prop} {a : Int32} {L : List Int32} (q : P a) (r : ∀ c ∈ L, P c) : ∀ c ∈ a :: L, P c := fun x z => (List.mem_cons.mp z).elim (fun u => u ▸ q) (r x)
theorem own_init {l : Launch} {Z : State} {a0 : Array Value} (hw : HW Z a0) {h : Heap} (hO : Old Z Z.heap.size h) {x b : Addr} {kC : ClassId} {cs : List Int32} {d v0 c0 : Value} {N : Int32} {n : Nat} (hx0 : Z.heap.size ≤ x) (E : Exa Z h x "java/lang/String") (Vf : Fld Z h x "java/lang/String" "value" "[B" v0) (C : Fld Z h x "java/lang/String" "coder" "B" c0)
    (K : Arv Z h b kC .char N (cs.map Value.int) d) (hn : cs.length = n) (hN : N = Int32.ofNat n) (l0 : 0 < n) (l2 : n ≤ 4000) (hp : ∀ c ∈ cs, ¬ c < 0 ∧ ¬ (255 : Int32) < c) :
    Pay l Z EL0 nw0 ⟨"java/lang/String", "<init>", "([C)V"⟩ 3 4 65 1 n [.ref x, .ref b] h [x] (fun v h' M' => v = none ∧ M' = [] ∧ Keep h h' [x] ∧ ∃ t, h.size ≤ t ∧ Str8 Z h' x t cs) := by
  obtain ⟨z, S, hz⟩ := hw.2.1.1
  refine Pay.of_back (a0 := a0) (own_ew hw) hO (fun R p e below s args Wd hZ hfr hlo => StrChars.Road.backV hZ (fun q hq => hw.1 q ((by decide +kernel : ∀ d ∈ StrChars.Road.words, d ∈ tables_1) q hq)) (kI := 4) (own_wS hw) (n0 := Z.heap.size) hx0 hO.2.1 E Vf C K (S.ext hO.2) hz hn hN l0 l2 hp rfl hfr hlo) (ws := [x]) (mC mem0 mN) (fun v h' L q => ?_)
  obtain ⟨rfl, N1, K1, E1, C1, t, kb, -, b2, -, V1, A1⟩ := q
  subst hN hn
  exact ⟨⟨rfl, rfl, K1, t, b2, E1, C1, V1, ⟨kb, A1⟩, hp, l2⟩, N1, K1⟩
set_option maxRecDepth 65536 in
set_option maxHeartbeats 40000000 in
theorem c_init4 {l : Launch} {Z : State} {a0 : Array Value} (hw : HW Z a0) {h0 : Heap} {x0 b1 : Addr} {v0 c0 : Value} (E_x0 : Exa Z h0 x0 "java/lang/String") (F_v : Fld Z h0 x0 "java/lang/String" "value" "[B" v0) (F_c : Fld Z h0 x0 "java/lang/String" "coder" "B" c0) (hO : Old Z Z.heap.size h0) : Ctr l Z EL0 nw0 ({ cls := "java/lang/String", name := "<init>", desc := "([CIILjava/lang/Void;)V" } : Jvm.MethodName) jdk_42_method_149_code 6 none ({ frames := 1, cells := 4, slots := 8, locals := 12 } : Room) [.ref x0, .ref b1, .int 0, .int 0, .null] h0 [x0] (fun v h M' => v = none ∧ M' = [] ∧ Keep h0 h [x0] ∧ ∃ t, Str8 Z h x0 t [] ∧ ∀ x ∈ [x0], x ≠ t) := by
  refine of_body (a0 := a0) opn_0 (own_ew hw) hO (Ls := #[.val (.ref x0), .val (.ref b1), .val (.int (0 : Int32)), .val (.int (0 : Int32)), .val .null, .unset]) (fun m => by first | rfl | (simp [entryFrame, mkF, argsToLocals, Value.category]; done)) (fun κ T0 w0 hnm => ?_)
  refine W.aloadN w0 od_3_0 rfl rfl rfl ?_
  refine W.initO w0 (ow_15 hw) (ow_16 hw) (ow_17 hw) od_3_1 rfl rfl (by decide) (Wd := 0) rfl (by decide) fun T1 w2 => ?_
  refine W.iloadN w2 od_3_4 rfl rfl ?_
  refine W.ifNo w2 od_3_5 rfl ((if0 _ _).trans (teq (by decide : (0 : Int32) = (0 : Int32))).2) ?_
  refine W.aloadN w2 od_3_8 rfl rfl rfl ?_
  refine W.ldcS w2 rfl (ow_18 hw) (own_sA hw) (List.mem_of_getElem? (i := 1) rfl) (vs := []) (z := (0 : Int32)) ⟨by decide, by decide⟩ (by decide) (by decide) od_3_9 rfl (n := 0) (by decide) (by decide) (by decide) (by decide) fun T3 h4 a5 a6 k7 w8 K9 E10 F11 F12 V13 Q14 => ?_
  have ne15 : x0 ≠ a5 := (Q14 x0 mem0).1
  have ne16 : x0 ≠ a6 := (Q14 x0 mem0).2
  have F17 : Str8 Z h4 a5 a6 [] := ⟨E10, F11, F12, ⟨_, V13⟩, by decide, by decide⟩
  refine W.getF w8 (host := "") (Or.inl (ow_24 hw)) Via.refl F12 od_3_11 rfl fun T18 w19 => ?_
  have f20 := (F_v.keep K9 nin0)
  have f21 := (E_x0.keep K9)
  refine W.putF w19 (host := "") (Or.inl (ow_24 hw)) Via.refl f20 f21 (Or.inr ⟨(ow_20 hw), rfl, hnm⟩) (ow_5 hw) (ty := (.array .byte)) (by decide) rfl rfl mem0 od_3_14 rfl fun T22 h23 w24 W25 => ?_
  have f26 := (F_c.keep K9 nin0)
  have F27 := f26.other W25 (Or.inr (slot_ne (Or.inr (ow_21 hw)) (Or.inr (ow_20 hw)) (by decide) (t := .byte) (t' := (.array .byte)) (by decide) (by decide)))
  have F28 := f20.same W25
  have K29 := Keep.of_wr W25
  refine W.aloadN w24 od_3_17 rfl rfl rfl ?_
  refine W.ldcS w24 rfl (ow_18 hw) (own_sA hw) (List.mem_of_getElem? (i := 1) rfl) (vs := []) (z := (0 : Int32)) ⟨by decide, by decide⟩ (by decide) (by decide) od_3_18 rfl (n := 0) (by decide) (by decide) (by decide) (by decide) fun T30 h31 a32 a33 k34 w35 K36 E37 F38 F39 V40 Q41 => ?_
  have ne42 : x0 ≠ a32 := (Q41 x0 mem0).1
  have ne43 : x0 ≠ a33 := (Q41 x0 mem0).2
  have F44 : Str8 Z h31 a32 a33 [] := ⟨E37, F38, F39, ⟨_, V40⟩, by decide, by decide⟩
  refine W.getF w35 (host := "") (Or.inl (ow_25 hw)) Via.refl F38 od_3_20 rfl fun T45 w46 => ?_
  have f47 := (F27.keep K36 nin0)
  have f48 := ((f21.keep K29).keep K36)
  refine W.putFN w46 (ow_25 hw) Via.refl f47 f48 (Or.inr ⟨(ow_21 hw), rfl, hnm⟩) (ow_5 hw) (ty := .byte) (v' := (.int (0 : Int32))) (by decide) rfl rfl mem0 od_3_23 rfl fun T49 h50 w51 W52 => ?_
  have f53 := (F28.keep K36 nin0)
  have F54 := f53.other W52 (Or.inr (slot_ne (Or.inr (ow_20 hw)) (Or.inr (ow_21 hw)) (by decide) (t := (.array .byte)) (t' := .byte) (by decide) (by decide)))
  have F55 := f47.same W52
  have K56 := Keep.of_wr W52
  have C57 := Keep.refl h0 [x0]
  have C58 := C57.trans K9 RoadKit.all0
  have C59 := C58.trans K29 (allS (Or.inl mem0) RoadKit.all0)
  have C60 := C59.trans K36 RoadKit.all0
  have C61 := C60.trans K56 (allS (Or.inl mem0) RoadKit.all0)
  have f62 := (((V13.keep K29 (ninS (Ne.symm ne16) nin0)).keep K36 nin0).keep K56 (ninS (Ne.symm ne16) nin0))
  have f63 := (f48.keep K56)
  exact W.ret0 w51 rfl od_3_26 (M' := []) mN (by decide) (by decide) ⟨rfl, rfl, C61, a6, ⟨f63, F55, F54, ⟨_, f62⟩, by decide, by decide⟩, allS ne16 RoadKit.all0⟩
set_option maxRecDepth 65536 in
set_option maxHeartbeats 40000000 in
theorem c_init0 {l : Launch} {Z : State} {a0 : Array Value} (hw : HW Z a0) {h0 : Heap} {x0 b1 : Addr} {v0 c0 : Value} (E_x0 : Exa Z h0 x0 "java/lang/String") (F_v : Fld Z h0 x0 "java/lang/String" "value" "[B" v0) (F_c : Fld Z h0 x0 "java/lang/String" "coder" "B" c0) {k1 : ClassId} (V_b : Arv Z h0 b1 k1 .char (0 : Int32) [] (.int (0 : Int32))) (hO : Old Z Z.heap.size h0) : Ctr l Z EL0 nw0 ({ cls := "java/lang/String", name := "<init>", desc := "([C)V" } : Jvm.MethodName) jdk_42_method_3_code 2 none ({ frames := 2, cells := 4, slots := 8, locals := 29 } : Room) [.ref x0, .ref b1] h0 [x0] (fun v h M' => v = none ∧ M' = [] ∧ Keep h0 h [x0] ∧ ∃ t, Str8 Z h x0 t [] ∧ ∀ x ∈ [x0], x ≠ t) := by
  refine of_body (a0 := a0) opn_1 (own_ew hw) hO (Ls := #[.val (.ref x0), .val (.ref b1)]) (fun m => by first | rfl | (simp [entryFrame, mkF, argsToLocals, Value.category]; done)) (fun κ T0 w0 hnm => ?_)
  refine W.aloadN w0 od_2_0 rfl rfl rfl ?_
  refine W.aloadN w0 od_2_1 rfl rfl rfl ?_
  refine W.iconst w0 od_2_2 rfl (z := (0 : Int32)) rfl ?_
  refine W.aloadN w0 od_2_3 rfl rfl rfl ?_
  refine W.alen w0 V_b od_2_4 rfl ?_
  refine W.aconstNull w0 od_2_5 rfl ?_
  refine W.callI w0 (ow_11 hw) (ow_12 hw) (ow_14 hw) rfl (by decide) opd_0 (Ctr.pay (c_init4 hw E_x0 F_v F_c w0.old) (own_ew hw) (ow_14 hw) (ow_6 hw) (kf := 2) (kl := 29) (by decide) (by decide)) (mC mem0 mN) od_2_6 rfl rfl rfl (rest := []) rfl (Wd := 0) rfl (by decide) (by decide) (by decide) (by decide) fun v3 T1 h2 M4 w5 q6 => ?_
  obtain ⟨rfl, rfl, K7, t8, F9, N10⟩ := q6
  show Go Z _ _ _ κ _ (T1.setTop (mkF (km κ) 9 #[.val (.ref x0), .val (.ref b1)] []))
  have C11 := Keep.refl h0 [x0]
  have C12 := C11.trans K7 (allS (Or.inl mem0) RoadKit.all0)
  exact W.ret0 w5 rfl od_2_9 (M' := []) mN (by decide) (by decide) ⟨rfl, rfl, C12, t8, F9, N10⟩
set_option maxRecDepth 65536 in
set_option maxHeartbeats 40000000 in
theorem c_rnn {l : Launch} {Z : State} {a0 : Array Value} (hw : HW Z a0) {h0 : Heap} {x1 x2 : Addr} (hO : Old Z Z.heap.size h0) : Ctr l Z EL0 nw0 ({ cls := "java/util/Objects", name := "requireNonNull", desc := "(Ljava/lang/Object;Ljava/lang/String;)Ljava/lang/Object;" } : Jvm.MethodName) jdk_31_method_11_code 2 (some (.object "java/lang/Object")) ({ frames := 0, cells := 0, slots := 0, locals := 0 } : Room) [.ref x1, .ref x2] h0 [] (fun v h M' => v = some (.ref x1) ∧ M' = [] ∧ h = h0) := by
  refine of_body (a0 := a0) opn_2 (own_ew hw) hO (Ls := #[.val (.ref x1), .val (.ref x2)]) (fun m => by first | rfl | (simp [entryFrame, mkF, argsToLocals, Value.category]; done)) (fun κ T0 w0 hnm => ?_)
  refine W.aloadN w0 od_6_0 rfl rfl rfl ?_
  refine W.ifnonnullYes w0 od_6_1 (pc' := 13) (by decide) (by decide) ?_
  refine W.aloadN w0 od_6_13 rfl rfl rfl ?_
  exact W.retR w0 rfl rfl rfl od_6_14 (M' := []) mN (by decide) (by decide) ⟨rfl, rfl, rfl⟩
set_option maxRecDepth 65536 in
set_option maxHeartbeats 40000000 in
theorem c_oinit {l : Launch} {Z : State} {a0 : Array Value} (hw : HW Z a0) {h0 : Heap} {x0 x1 : Addr} (E_x0 : Exa Z h0 x0 "com/example/untill/untill/delivery/Outcome")(F_e : Fld Z h0 x0 "com/example/untill/untill/delivery/Outcome" "error" "Ljava/lang/String;" .null)(F_g : Fld Z h0 x0 "com/example/untill/untill/delivery/Outcome" "forGood" "Z" (.int (0 : Int32))) (hO : Old Z Z.heap.size h0) : Ctr l Z EL0 nw0 ({ cls := "com/example/untill/untill/delivery/Outcome", name := "<init>", desc := "(Ljava/lang/String;Z)V" } : Jvm.MethodName) prog_43_method_1_code 3 none ({ frames := 1, cells := 0, slots := 0, locals := 12 } : Room) [.ref x0, .ref x1, .int (0 : Int32)] h0 [x0] (fun v h M' => v = none ∧ M' = [] ∧ Keep h0 h [x0] ∧ Exa Z h x0 "com/example/untill/untill/delivery/Outcome" ∧ Fld Z h x0 "com/example/untill/untill/delivery/Outcome" "error" "Ljava/lang/String;" (.ref x1) ∧ Fld Z h x0 "com/example/untill/untill/delivery/Outcome" "forGood" "Z" (.int (0 : Int32))) := by
  refine of_body (a0 := a0) opn_3 (own_ew hw) hO (Ls := #[.val (.ref x0), .val (.ref x1), .val (.int (0 : Int32))]) (fun m => by first | rfl | (simp [entryFrame, mkF, argsToLocals, Value.category]; done)) (fun κ T0 w0 hnm => ?_)
  refine W.aloadN w0 od_7_0 rfl rfl rfl ?_
  refine W.initO w0 (ow_41 hw) (ow_16 hw) (ow_17 hw) od_7_1 rfl rfl (by decide) (Wd := 0) rfl (by decide) fun T1 w2 => ?_
  refine W.aloadN w2 od_7_4 rfl rfl rfl ?_
  refine W.aloadN w2 od_7_5 rfl rfl rfl ?_
  refine W.putF w2 (host := "") (Or.inl (ow_42 hw)) Via.refl F_e E_x0 (Or.inr ⟨(ow_43 hw), rfl, hnm⟩) (ow_31 hw) (ty := (.object "java/lang/String")) (by decide) rfl rfl mem0 od_7_6 rfl fun T3 h4 w5 W6 => ?_
  have F7 := F_g.other W6 (Or.inr (slot_ne (Or.inr (ow_45 hw)) (Or.inr (ow_43 hw)) (by decide) (t := .boolean) (t' := (.object "java/lang/String")) (by decide) (by decide)))
  have F8 := F_e.same W6
  have K9 := Keep.of_wr W6
  refine W.aloadN w5 od_7_9 rfl rfl rfl ?_
  refine W.iloadN w5 od_7_10 rfl rfl ?_
  have f10 := (E_x0.keep K9)
  refine W.putFN w5 (ow_44 hw) Via.refl F7 f10 (Or.inr ⟨(ow_45 hw), rfl, hnm⟩) (ow_31 hw) (ty := .boolean) (v' := (.int (0 : Int32))) (by decide) rfl rfl mem0 od_7_11 rfl fun T11 h12 w13 W14 => ?_
  have F15 := F8.other W14 (Or.inr (slot_ne (Or.inr (ow_43 hw)) (Or.inr (ow_45 hw)) (by decide) (t := (.object "java/lang/String")) (t' := .boolean) (by decide) (by decide)))
  have F16 := F7.same W14
  have K17 := Keep.of_wr W14
  have C18 := Keep.refl h0 [x0]
  have C19 := C18.trans K9 (allS (Or.inl mem0) RoadKit.all0)
  have C20 := C19.trans K17 (allS (Or.inl mem0) RoadKit.all0)
  have f21 := (f10.keep K17)
  exact W.ret0 w13 rfl od_7_14 (M' := []) mN (by decide) (by decide) ⟨rfl, rfl, C20, f21, F15, F16⟩
set_option maxRecDepth 65536 in
set_option maxHeartbeats 40000000 in
theorem c_failed {l : Launch} {Z : State} {a0 : Array Value} (hw : HW Z a0) {h0 : Heap} {x1 : Addr} (E_x1 : Exa Z h0 x1 "java/lang/String") (hO : Old Z Z.heap.size h0) : Ctr l Z EL0 nw0 ({ cls := "com/example/untill/untill/delivery/Outcome", name := "failed", desc := "(Ljava/lang/String;)Lcom/example/untill/untill/delivery/Outcome;" } : Jvm.MethodName) prog_43_method_3_code 1 (some (.object "com/example/untill/untill/delivery/Outcome")) ({ frames := 2, cells := 3, slots := 26, locals := 27 } : Room) [.ref x1] h0 [] (fun v h M' => ∃ o, v = some (.ref o) ∧ M' = [] ∧ Keep h0 h [] ∧ h0.size ≤ o ∧ Exa Z h o "com/example/untill/untill/delivery/Outcome" ∧ Fld Z h o "com/example/untill/untill/delivery/Outcome" "error" "Ljava/lang/String;" (.ref x1) ∧ Fld Z h o "com/example/untill/untill/delivery/Outcome" "forGood" "Z" (.int (0 : Int32))) := by
  refine of_body (a0 := a0) opn_4 (own_ew hw) hO (Ls := #[.val (.ref x1)]) (fun m => by first | rfl | (simp [entryFrame, mkF, argsToLocals, Value.category]; done)) (fun κ T0 w0 hnm => ?_)
  refine W.newO w0 (ow_30 hw) (ow_31 hw) (ow_28 hw) od_5_0 rfl (by decide) (by decide) fun T1 h2 a3 w4 K5 B6 E7 D8 => ?_
  have ne9 : x1 ≠ a3 := neL E_x1.lt B6
  have F10 : Fld Z h2 a3 "com/example/untill/untill/delivery/Outcome" "error" "Ljava/lang/String;" .null := D8 (Or.inr (ow_43 hw)) (ty := (.object "java/lang/String")) (by decide)
  have F11 : Fld Z h2 a3 "com/example/untill/untill/delivery/Outcome" "forGood" "Z" (.int (0 : Int32)) := D8 (Or.inr (ow_45 hw)) (ty := .boolean) (by decide)
  refine W.dup w4 od_5_3 rfl rfl ?_
  refine W.aloadN w4 od_5_4 rfl rfl rfl ?_
  refine W.ldcS w4 rfl (ow_32 hw) (own_sA hw) (List.mem_of_getElem? (i := 0) rfl) (vs := [(.int (101 : Int32)), (.int (114 : Int32)), (.int (114 : Int32)), (.int (111 : Int32)), (.int (114 : Int32))]) (z := (5 : Int32)) ⟨by decide, by decide⟩ (by decide) (by decide) od_5_5 rfl (n := 20) (by decide) (by decide) (by decide) (by decide) fun T12 h13 a14 a15 k16 w17 K18 E19 F20 F21 V22 Q23 => ?_
  have ne24 : a3 ≠ a14 := (Q23 a3 mem0).1
  have ne25 : a3 ≠ a15 := (Q23 a3 mem0).2
  have F26 : Str8 Z h13 a14 a15 [(101 : Int32), (114 : Int32), (114 : Int32), (111 : Int32), (114 : Int32)] := ⟨E19, F20, F21, ⟨_, V22⟩, by decide, by decide⟩
  refine W.callS w17 (ow_33 hw) (ow_34 hw) (ow_35 hw) (ow_36 hw) (by decide) opd_1 (Ctr.pay (c_rnn hw w17.old) (own_ew hw) (ow_36 hw) (ow_35 hw) (kf := 1) (kl := 13) (by decide) (by decide)) mN od_5_7 rfl rfl rfl (rest := [(.ref a3), (.ref a3)]) rfl (Wd := 2) rfl (by decide) (by decide) (by decide) (by decide) fun v29 T27 h28 M30 w31 q32 => ?_
  obtain ⟨rfl, rfl, rfl⟩ := q32
  show Go Z _ _ _ κ _ (T27.setTop (mkF (km κ) 10 #[.val (.ref x1)] [(.ref x1), (.ref a3), (.ref a3)]))
  have f33 := ((E_x1.keep K5).keep K18)
  refine W.cast w31 (ow_37 hw) (Ins.self f33) od_5_10 rfl fun T34 w35 => ?_
  refine W.iconst w35 od_5_13 rfl (z := (0 : Int32)) rfl ?_
  have f36 := (E7.keep K18)
  have f37 := (F10.keep K18 nin0)
  have f38 := (F11.keep K18 nin0)
  refine W.callI w35 (ow_38 hw) (ow_39 hw) (ow_40 hw) rfl (by decide) opd_2 (Ctr.pay (c_oinit hw f36 f37 f38 w35.old) (own_ew hw) (ow_40 hw) (ow_28 hw) (kf := 2) (kl := 26) (by decide) (by decide)) (mC (memA mem0) mN) od_5_14 rfl rfl rfl (rest := [(.ref a3)]) rfl (Wd := 1) rfl (by decide) (by decide) (by decide) (by decide) fun v41 T39 h40 M42 w43 q44 => ?_
  obtain ⟨rfl, rfl, K45, E46, F47, F48⟩ := q44
  show Go Z _ _ _ κ _ (T39.setTop (mkF (km κ) 17 #[.val (.ref x1)] [(.ref a3)]))
  have C49 := Keep.refl h0 []
  have C50 := C49.trans K5 RoadKit.all0
  have C51 := C50.trans K18 RoadKit.all0
  have C52 := C51.trans K45 (allS (Or.inr B6) RoadKit.all0)
  exact W.retR w43 rfl rfl rfl od_5_17 (M' := []) mN (by decide) (by decide) ⟨a3, rfl, rfl, C52, B6, E46, F47, F48⟩
set_option maxRecDepth 65536 in
set_option maxHeartbeats 40000000 in
theorem c_isDelivered {l : Launch} {Z : State} {a0 : Array Value} (hw : HW Z a0) {h0 : Heap} {x0 x1 : Addr} (F_e : Fld Z h0 x0 "com/example/untill/untill/delivery/Outcome" "error" "Ljava/lang/String;" (.ref x1)) (hO : Old Z Z.heap.size h0) : Ctr l Z EL0 nw0 ({ cls := "com/example/untill/untill/delivery/Outcome", name := "isDelivered", desc := "()Z" } : Jvm.MethodName) prog_43_method_5_code 1 (some .boolean) ({ frames := 0, cells := 0, slots := 0, locals := 0 } : Room) [.ref x0] h0 [] (fun v h M' => v = some (.int (0 : Int32)) ∧ M' = [] ∧ h = h0) := by
  refine of_body (a0 := a0) opn_5 (own_ew hw) hO (Ls := #[.val (.ref x0)]) (fun m => by first | rfl | (simp [entryFrame, mkF, argsToLocals, Value.category]; done)) (fun κ T0 w0 hnm => ?_)
  refine W.aloadN w0 od_8_0 rfl rfl rfl ?_
  refine W.getF w0 (host := "") (Or.inl (ow_42 hw)) Via.refl F_e od_8_1 rfl fun T1 w2 => ?_
  refine W.ifnonnullYes w2 od_8_4 (pc' := 11) (by decide) (by decide) ?_
  refine W.iconst w2 od_8_11 rfl (z := (0 : Int32)) rfl ?_
  exact W.retN w2 (t := .boolean) (z' := (0 : Int32)) rfl rfl (by simp) od_8_12 (M' := []) mN (by decide) (by decide) ⟨rfl, rfl, rfl⟩
set_option maxRecDepth 65536 in
set_option maxHeartbeats 40000000 in
theorem c_isFailedForGood {l : Launch} {Z : State} {a0 : Array Value} (hw : HW Z a0) {h0 : Heap} {x0 x1 : Addr} (F_g : Fld Z h0 x0 "com/example/untill/untill/delivery/Outcome" "forGood" "Z" (.int (0 : Int32))) (hO : Old Z Z.heap.size h0) : Ctr l Z EL0 nw0 ({ cls := "com/example/untill/untill/delivery/Outcome", name := "isFailedForGood", desc := "()Z" } : Jvm.MethodName) prog_43_method_6_code 1 (some .boolean) ({ frames := 0, cells := 0, slots := 0, locals := 0 } : Room) [.ref x0] h0 [] (fun v h M' => v = some (.int (0 : Int32)) ∧ M' = [] ∧ h = h0) := by
  refine of_body (a0 := a0) opn_6 (own_ew hw) hO (Ls := #[.val (.ref x0)]) (fun m => by first | rfl | (simp [entryFrame, mkF, argsToLocals, Value.category]; done)) (fun κ T0 w0 hnm => ?_)
  refine W.aloadN w0 od_9_0 rfl rfl rfl ?_
  refine W.getF w0 (host := "") (Or.inl (ow_44 hw)) Via.refl F_g od_9_1 rfl fun T1 w2 => ?_
  exact W.retN w2 (t := .boolean) (z' := (0 : Int32)) rfl rfl (by simp) od_9_4 (M' := []) mN (by decide) (by decide) ⟨rfl, rfl, rfl⟩
set_option maxRecDepth 65536 in
set_option maxHeartbeats 40000000 in
theorem c_error {l : Launch} {Z : State} {a0 : Array Value} (hw : HW Z a0) {h0 : Heap} {x0 x1 : Addr} (F_e : Fld Z h0 x0 "com/example/untill/untill/delivery/Outcome" "error" "Ljava/lang/String;" (.ref x1)) (hO : Old Z Z.heap.size h0) : Ctr l Z EL0 nw0 ({ cls := "com/example/untill/untill/delivery/Outcome", name := "error", desc := "()Ljava/lang/String;" } : Jvm.MethodName) prog_43_method_7_code 1 (some (.object "java/lang/String")) ({ frames := 0, cells := 0, slots := 0, locals := 0 } : Room) [.ref x0] h0 [] (fun v h M' => v = some (.ref x1) ∧ M' = [] ∧ h = h0) := by
  refine of_body (a0 := a0) opn_7 (own_ew hw) hO (Ls := #[.val (.ref x0)]) (fun m => by first | rfl | (simp [entryFrame, mkF, argsToLocals, Value.category]; done)) (fun κ T0 w0 hnm => ?_)
  refine W.aloadN w0 od_10_0 rfl rfl rfl ?_
  refine W.getF w0 (host := "") (Or.inl (ow_42 hw)) Via.refl F_e od_10_1 rfl fun T1 w2 => ?_
  exact W.retR w2 rfl rfl rfl od_10_4 (M' := []) mN (by decide) (by decide) ⟨rfl, rfl, rfl⟩
set_option maxRecDepth 65536 in
set_option maxHeartbeats 40000000 in
theorem c_eqs {l : Launch} {Z : State} {a0 : Array Value} (hw : HW Z a0) {h0 : Heap} {x0 : Addr} (hO : Old Z Z.heap.size h0) : Ctr l Z EL0 nw0 ({ cls := "java/lang/String", name := "equals", desc := "(Ljava/lang/Object;)Z" } : Jvm.MethodName) jdk_42_method_66_code 3 (some .boolean) ({ frames := 0, cells := 0, slots := 0, locals := 0 } : Room) [.ref x0, .ref x0] h0 [] (fun v h M' => v = some (.int 1) ∧ M' = [] ∧ h = h0) := by
  refine of_body (a0 := a0) opn_8 (own_ew hw) hO (Ls := #[.val (.ref x0), .val (.ref x0), .unset]) (fun m => by first | rfl | (simp [entryFrame, mkF, argsToLocals, Value.category]; done)) (fun κ T0 w0 hnm => ?_)
  refine W.aloadN w0 od_11_0 rfl rfl rfl ?_
  refine W.aloadN w0 od_11_1 rfl rfl rfl ?_
  refine W.acmpNo w0 od_11_2 rfl rfl rfl (by simp [XT.acmp]) ?_
  refine W.iconst w0 od_11_5 rfl (z := (1 : Int32)) rfl ?_
  exact W.retN w0 (t := .boolean) (z' := (1 : Int32)) rfl rfl (by simp) od_11_6 (M' := []) mN (by decide) (by decide) ⟨rfl, rfl, rfl⟩
set_option maxRecDepth 65536 in
set_option maxHeartbeats 40000000 in
theorem c_draw {l : Launch} {Z : State} {a0 : Array Value} (hw : HW Z a0) {h0 : Heap} {p0 p1 p2 p3 : Int32} (hO : Old Z Z.heap.size h0) : Ctr l Z EL0 nw0 ({ cls := "com/example/untill/untill/delivery/OutcomeFailedPinLaw", name := "draw", desc := "(IIII)Ljava/lang/String;" } : Jvm.MethodName) method_2_code 8 (some (.object "java/lang/String")) ({ frames := 4, cells := 6, slots := 12, locals := 66 } : Room) [.int p0, .int p1, .int p2, .int p3] h0 [] (fun v h M' => ∃ x, v = some (.ref x) ∧ M' = [] ∧ Keep h0 h [] ∧ h0.size ≤ x ∧ Exa Z h x "java/lang/String") := by
  refine of_body (a0 := a0) opn_9 (own_ew hw) hO (Ls := #[.val (.int p0), .val (.int p1), .val (.int p2), .val (.int p3), .unset, .unset, .unset, .unset]) (fun m => by first | rfl | (simp [entryFrame, mkF, argsToLocals, Value.category]; done)) (fun κ T0 w0 hnm => ?_)
  refine W.iloadN w0 od_1_0 rfl rfl ?_
  refine W.sipush w0 od_1_1 rfl (z := (255 : Int32)) rfl ?_
  refine W.iand w0 od_1_4 rfl (z := (p1 &&& (255 : Int32))) rfl ?_
  refine W.i2c w0 od_1_5 rfl (z := (p1 &&& (255 : Int32))) (i2c_mask p1) ?_
  refine W.istore w0 od_1_6 rfl (Ls' := #[.val (.int p0), .val (.int p1), .val (.int p2), .val (.int p3), .val (.int (p1 &&& (255 : Int32))), .unset, .unset, .unset]) rfl ?_
  refine W.iloadN w0 od_1_8 rfl rfl ?_
  refine W.sipush w0 od_1_9 rfl (z := (255 : Int32)) rfl ?_
  refine W.iand w0 od_1_12 rfl (z := (p2 &&& (255 : Int32))) rfl ?_
  refine W.i2c w0 od_1_13 rfl (z := (p2 &&& (255 : Int32))) (i2c_mask p2) ?_
  refine W.istore w0 od_1_14 rfl (Ls' := #[.val (.int p0), .val (.int p1), .val (.int p2), .val (.int p3), .val (.int (p1 &&& (255 : Int32))), .val (.int (p2 &&& (255 : Int32))), .unset, .unset]) rfl ?_
  refine W.iloadN w0 od_1_16 rfl rfl ?_
  refine W.sipush w0 od_1_17 rfl (z := (255 : Int32)) rfl ?_
  refine W.iand w0 od_1_20 rfl (z := (p3 &&& (255 : Int32))) rfl ?_
  refine W.i2c w0 od_1_21 rfl (z := (p3 &&& (255 : Int32))) (i2c_mask p3) ?_
  refine W.istore w0 od_1_22 rfl (Ls' := #[.val (.int p0), .val (.int p1), .val (.int p2), .val (.int p3), .val (.int (p1 &&& (255 : Int32))), .val (.int (p2 &&& (255 : Int32))), .val (.int (p3 &&& (255 : Int32))), .unset]) rfl ?_
  refine W.iloadN w0 od_1_24 rfl rfl ?_
  refine W.iconst w0 od_1_25 rfl (z := (3 : Int32)) rfl ?_
  refine W.iand w0 od_1_26 rfl (z := (p0 &&& (3 : Int32))) rfl ?_
  refine W.istore w0 od_1_27 rfl (Ls' := #[.val (.int p0), .val (.int p1), .val (.int p2), .val (.int p3), .val (.int (p1 &&& (255 : Int32))), .val (.int (p2 &&& (255 : Int32))), .val (.int (p3 &&& (255 : Int32))), .val (.int (p0 &&& (3 : Int32)))]) rfl ?_
  refine W.iload w0 od_1_29 rfl rfl ?_
  rcases Decidable.em ((p0 &&& (3 : Int32)) = (0 : Int32)) with hc1 | hc1
  · refine W.ifNo w0 od_1_31 rfl ((if0 _ _).trans (teq hc1).2) ?_
    refine W.newO w0 (ow_4 hw) (ow_5 hw) (ow_6 hw) od_1_34 rfl (by decide) (by decide) fun T2 h3 a4 w5 K6 B7 E8 D9 => ?_
    have F10 : Fld Z h3 a4 "java/lang/String" "value" "[B" .null := D9 (Or.inr (ow_20 hw)) (ty := (.array .byte)) (by decide)
    have F11 : Fld Z h3 a4 "java/lang/String" "coder" "B" (.int (0 : Int32)) := D9 (Or.inr (ow_21 hw)) (ty := .byte) (by decide)
    refine W.dup w5 od_1_37 rfl rfl ?_
    refine W.iconst w5 od_1_38 rfl (z := (0 : Int32)) rfl ?_
    refine W.newP w5 (ty := .char) rfl (ow_7 hw) od_1_39 rfl (by decide) (cap := 0) (by decide) (by decide) (by decide) (by decide) fun T12 h13 a14 k15 w16 K17 B18 V19 => ?_
    have ne20 : a4 ≠ a14 := neL E8.lt B18
    have V21 : Arv Z h13 a14 k15 .char (0 : Int32) [] (.int (0 : Int32)) := V19
    have f22 := (E8.keep K17)
    have f23 := (F10.keep K17 nin0)
    have f24 := (F11.keep K17 nin0)
    refine W.callI w16 (ow_8 hw) (ow_9 hw) (ow_10 hw) rfl (by decide) opd_3 (Ctr.pay (c_init0 hw f22 f23 f24 V21 w16.old) (own_ew hw) (ow_10 hw) (ow_6 hw) (kf := 3) (kl := 42) (by decide) (by decide)) (mC (memS mem0) mN) od_1_41 rfl rfl rfl (rest := [(.ref a4)]) rfl (Wd := 1) rfl (by decide) (by decide) (by decide) (by decide) fun v27 T25 h26 M28 w29 q30 => ?_
    obtain ⟨rfl, rfl, K31, t32, F33, N34⟩ := q30
    have ne35 : a4 ≠ t32 := N34 _ mem0
    show Go Z _ _ _ κ _ (T25.setTop (mkF (km κ) 44 #[.val (.int p0), .val (.int p1), .val (.int p2), .val (.int p3), .val (.int (p1 &&& (255 : Int32))), .val (.int (p2 &&& (255 : Int32))), .val (.int (p3 &&& (255 : Int32))), .val (.int (p0 &&& (3 : Int32)))] [(.ref a4)]))
    have C36 := Keep.refl h0 []
    have C37 := C36.trans K6 RoadKit.all0
    have C38 := C37.trans K17 RoadKit.all0
    have C39 := C38.trans K31 (allS (Or.inr B7) RoadKit.all0)
    have f40 := (f22.keep K31)
    have eX := f40
    exact W.retR w29 rfl rfl rfl od_1_44 (M' := []) mN (by decide) (by decide) ⟨a4, rfl, rfl, C39, B7, eX⟩
  · refine W.ifYes w0 od_1_31 (pc' := 45) (by decide) (by decide) ((if0 _ _).trans (feq hc1).2) ?_
    refine W.iload w0 od_1_45 rfl rfl ?_
    refine W.iconst w0 od_1_47 rfl (z := (1 : Int32)) rfl ?_
    rcases Decidable.em ((p0 &&& (3 : Int32)) = (1 : Int32)) with hc41 | hc41
    · refine W.icmpNo w0 od_1_48 rfl (teq hc41).2 ?_
      refine W.newO w0 (ow_4 hw) (ow_5 hw) (ow_6 hw) od_1_51 rfl (by decide) (by decide) fun T42 h43 a44 w45 K46 B47 E48 D49 => ?_
      have F50 : Fld Z h43 a44 "java/lang/String" "value" "[B" .null := D49 (Or.inr (ow_20 hw)) (ty := (.array .byte)) (by decide)
      have F51 : Fld Z h43 a44 "java/lang/String" "coder" "B" (.int (0 : Int32)) := D49 (Or.inr (ow_21 hw)) (ty := .byte) (by decide)
      refine W.dup w45 od_1_54 rfl rfl ?_
      refine W.iconst w45 od_1_55 rfl (z := (1 : Int32)) rfl ?_
      refine W.newP w45 (ty := .char) rfl (ow_7 hw) od_1_56 rfl (by decide) (cap := 1) (by decide) (by decide) (by decide) (by decide) fun T52 h53 a54 k55 w56 K57 B58 V59 => ?_
      have ne60 : a44 ≠ a54 := neL E48.lt B58
      have V61 : Arv Z h53 a54 k55 .char (1 : Int32) [(.int (0 : Int32))] (.int (0 : Int32)) := V59
      refine W.dup w56 od_1_58 rfl rfl ?_
      refine W.iconst w56 od_1_59 rfl (z := (0 : Int32)) rfl ?_
      refine W.iload w56 od_1_60 rfl rfl ?_
      refine W.stC w56 (x' := (p1 &&& (255 : Int32))) (nar255 p1) V61 (i := 0) (by decide) ⟨by decide, by decide⟩ (Nat.le_of_ble_eq_true rfl) mem0 od_1_62 rfl fun T62 h63 w64 K65 V66 => ?_
      have V67 : Arv Z h63 a54 k55 .char (1 : Int32) [(.int (p1 &&& (255 : Int32)))] (.int (0 : Int32)) := V66
      have f68 := ((E48.keep K57).keep K65)
      have f69 := ((F50.keep K57 nin0).keep K65 (ninS ne60 nin0))
      have f70 := ((F51.keep K57 nin0).keep K65 (ninS ne60 nin0))
      refine W.callI w64 (ow_8 hw) (ow_9 hw) (ow_10 hw) rfl (by decide) opd_3 (own_init hw w64.old (w64.mut (memS mem0)).1 f68 f69 f70 (cs := [(p1 &&& (255 : Int32))]) V67 (n := 1) rfl rfl (by decide) (by decide) (faS (and255 p1) fa0)) (mC (memS mem0) mN) od_1_63 rfl rfl rfl (rest := [(.ref a44)]) rfl (Wd := 1) rfl (by decide) (by decide) (by decide) (by decide) fun v73 T71 h72 M74 w75 q76 => ?_
      obtain ⟨rfl, rfl, K77, t78, B79, F80⟩ := q76
      have ne81 : a44 ≠ t78 := neL f68.lt B79
      have ne82 : a54 ≠ t78 := neL V67.lt B79
      show Go Z _ _ _ κ _ (T71.setTop (mkF (km κ) 66 #[.val (.int p0), .val (.int p1), .val (.int p2), .val (.int p3), .val (.int (p1 &&& (255 : Int32))), .val (.int (p2 &&& (255 : Int32))), .val (.int (p3 &&& (255 : Int32))), .val (.int (p0 &&& (3 : Int32)))] [(.ref a44)]))
      have C83 := Keep.refl h0 []
      have C84 := C83.trans K46 RoadKit.all0
      have C85 := C84.trans K57 RoadKit.all0
      have C86 := C85.trans K65 (allS (Or.inr (Nat.le_trans K46.1 B58)) RoadKit.all0)
      have C87 := C86.trans K77 (allS (Or.inr B47) RoadKit.all0)
      have f88 := (f68.keep K77)
      have eX := f88
      exact W.retR w75 rfl rfl rfl od_1_66 (M' := []) mN (by decide) (by decide) ⟨a44, rfl, rfl, C87, B47, eX⟩
    · refine W.icmpYes w0 od_1_48 (pc' := 67) (by decide) (by decide) (feq hc41).2 ?_
      refine W.iload w0 od_1_67 rfl rfl ?_
      refine W.iconst w0 od_1_69 rfl (z := (2 : Int32)) rfl ?_
      rcases Decidable.em ((p0 &&& (3 : Int32)) = (2 : Int32)) with hc89 | hc89
      · refine W.icmpNo w0 od_1_70 rfl (teq hc89).2 ?_
        refine W.newO w0 (ow_4 hw) (ow_5 hw) (ow_6 hw) od_1_73 rfl (by decide) (by decide) fun T90 h91 a92 w93 K94 B95 E96 D97 => ?_
        have F98 : Fld Z h91 a92 "java/lang/String" "value" "[B" .null := D97 (Or.inr (ow_20 hw)) (ty := (.array .byte)) (by decide)
        have F99 : Fld Z h91 a92 "java/lang/String" "coder" "B" (.int (0 : Int32)) := D97 (Or.inr (ow_21 hw)) (ty := .byte) (by decide)
        refine W.dup w93 od_1_76 rfl rfl ?_
        refine W.iconst w93 od_1_77 rfl (z := (2 : Int32)) rfl ?_
        refine W.newP w93 (ty := .char) rfl (ow_7 hw) od_1_78 rfl (by decide) (cap := 2) (by decide) (by decide) (by decide) (by decide) fun T100 h101 a102 k103 w104 K105 B106 V107 => ?_
        have ne108 : a92 ≠ a102 := neL E96.lt B106
        have V109 : Arv Z h101 a102 k103 .char (2 : Int32) [(.int (0 : Int32)), (.int (0 : Int32))] (.int (0 : Int32)) := V107
        refine W.dup w104 od_1_80 rfl rfl ?_
        refine W.iconst w104 od_1_81 rfl (z := (0 : Int32)) rfl ?_
        refine W.iload w104 od_1_82 rfl rfl ?_
        refine W.stC w104 (x' := (p1 &&& (255 : Int32))) (nar255 p1) V109 (i := 0) (by decide) ⟨by decide, by decide⟩ (Nat.le_of_ble_eq_true rfl) mem0 od_1_84 rfl fun T110 h111 w112 K113 V114 => ?_
        have V115 : Arv Z h111 a102 k103 .char (2 : Int32) [(.int (p1 &&& (255 : Int32))), (.int (0 : Int32))] (.int (0 : Int32)) := V114
        refine W.dup w112 od_1_85 rfl rfl ?_
        refine W.iconst w112 od_1_86 rfl (z := (1 : Int32)) rfl ?_
        refine W.iload w112 od_1_87 rfl rfl ?_
        refine W.stC w112 (x' := (p2 &&& (255 : Int32))) (nar255 p2) V115 (i := 1) (by decide) ⟨by decide, by decide⟩ (Nat.le_of_ble_eq_true rfl) mem0 od_1_89 rfl fun T116 h117 w118 K119 V120 => ?_
        have V121 : Arv Z h117 a102 k103 .char (2 : Int32) [(.int (p1 &&& (255 : Int32))), (.int (p2 &&& (255 : Int32)))] (.int (0 : Int32)) := V120
        have f122 := (((E96.keep K105).keep K113).keep K119)
        have f123 := (((F98.keep K105 nin0).keep K113 (ninS ne108 nin0)).keep K119 (ninS ne108 nin0))
        have f124 := (((F99.keep K105 nin0).keep K113 (ninS ne108 nin0)).keep K119 (ninS ne108 nin0))
        refine W.callI w118 (ow_8 hw) (ow_9 hw) (ow_10 hw) rfl (by decide) opd_3 (own_init hw w118.old (w118.mut (memS mem0)).1 f122 f123 f124 (cs := [(p1 &&& (255 : Int32)), (p2 &&& (255 : Int32))]) V121 (n := 2) rfl rfl (by decide) (by decide) (faS (and255 p1) (faS (and255 p2) fa0))) (mC (memS mem0) mN) od_1_90 rfl rfl rfl (rest := [(.ref a92)]) rfl (Wd := 1) rfl (by decide) (by decide) (by decide) (by decide) fun v127 T125 h126 M128 w129 q130 => ?_
        obtain ⟨rfl, rfl, K131, t132, B133, F134⟩ := q130
        have ne135 : a92 ≠ t132 := neL f122.lt B133
        have ne136 : a102 ≠ t132 := neL V121.lt B133
        show Go Z _ _ _ κ _ (T125.setTop (mkF (km κ) 93 #[.val (.int p0), .val (.int p1), .val (.int p2), .val (.int p3), .val (.int (p1 &&& (255 : Int32))), .val (.int (p2 &&& (255 : Int32))), .val (.int (p3 &&& (255 : Int32))), .val (.int (p0 &&& (3 : Int32)))] [(.ref a92)]))
        have C137 := Keep.refl h0 []
        have C138 := C137.trans K94 RoadKit.all0
        have C139 := C138.trans K105 RoadKit.all0
        have C140 := C139.trans K113 (allS (Or.inr (Nat.le_trans K94.1 B106)) RoadKit.all0)
        have C141 := C140.trans K119 (allS (Or.inr (Nat.le_trans K94.1 B106)) RoadKit.all0)
        have C142 := C141.trans K131 (allS (Or.inr B95) RoadKit.all0)
        have f143 := (f122.keep K131)
        have eX := f143
        exact W.retR w129 rfl rfl rfl od_1_93 (M' := []) mN (by decide) (by decide) ⟨a92, rfl, rfl, C142, B95, eX⟩
      · refine W.icmpYes w0 od_1_70 (pc' := 94) (by decide) (by decide) (feq hc89).2 ?_
        refine W.newO w0 (ow_4 hw) (ow_5 hw) (ow_6 hw) od_1_94 rfl (by decide) (by decide) fun T144 h145 a146 w147 K148 B149 E150 D151 => ?_
        have F152 : Fld Z h145 a146 "java/lang/String" "value" "[B" .null := D151 (Or.inr (ow_20 hw)) (ty := (.array .byte)) (by decide)
        have F153 : Fld Z h145 a146 "java/lang/String" "coder" "B" (.int (0 : Int32)) := D151 (Or.inr (ow_21 hw)) (ty := .byte) (by decide)
        refine W.dup w147 od_1_97 rfl rfl ?_
        refine W.iconst w147 od_1_98 rfl (z := (3 : Int32)) rfl ?_
        refine W.newP w147 (ty := .char) rfl (ow_7 hw) od_1_99 rfl (by decide) (cap := 3) (by decide) (by decide) (by decide) (by decide) fun T154 h155 a156 k157 w158 K159 B160 V161 => ?_
        have ne162 : a146 ≠ a156 := neL E150.lt B160
        have V163 : Arv Z h155 a156 k157 .char (3 : Int32) [(.int (0 : Int32)), (.int (0 : Int32)), (.int (0 : Int32))] (.int (0 : Int32)) := V161
        refine W.dup w158 od_1_101 rfl rfl ?_
        refine W.iconst w158 od_1_102 rfl (z := (0 : Int32)) rfl ?_
        refine W.iload w158 od_1_103 rfl rfl ?_
        refine W.stC w158 (x' := (p1 &&& (255 : Int32))) (nar255 p1) V163 (i := 0) (by decide) ⟨by decide, by decide⟩ (Nat.le_of_ble_eq_true rfl) mem0 od_1_105 rfl fun T164 h165 w166 K167 V168 => ?_
        have V169 : Arv Z h165 a156 k157 .char (3 : Int32) [(.int (p1 &&& (255 : Int32))), (.int (0 : Int32)), (.int (0 : Int32))] (.int (0 : Int32)) := V168
        refine W.dup w166 od_1_106 rfl rfl ?_
        refine W.iconst w166 od_1_107 rfl (z := (1 : Int32)) rfl ?_
        refine W.iload w166 od_1_108 rfl rfl ?_
        refine W.stC w166 (x' := (p2 &&& (255 : Int32))) (nar255 p2) V169 (i := 1) (by decide) ⟨by decide, by decide⟩ (Nat.le_of_ble_eq_true rfl) mem0 od_1_110 rfl fun T170 h171 w172 K173 V174 => ?_
        have V175 : Arv Z h171 a156 k157 .char (3 : Int32) [(.int (p1 &&& (255 : Int32))), (.int (p2 &&& (255 : Int32))), (.int (0 : Int32))] (.int (0 : Int32)) := V174
        refine W.dup w172 od_1_111 rfl rfl ?_
        refine W.iconst w172 od_1_112 rfl (z := (2 : Int32)) rfl ?_
        refine W.iload w172 od_1_113 rfl rfl ?_
        refine W.stC w172 (x' := (p3 &&& (255 : Int32))) (nar255 p3) V175 (i := 2) (by decide) ⟨by decide, by decide⟩ (Nat.le_of_ble_eq_true rfl) mem0 od_1_115 rfl fun T176 h177 w178 K179 V180 => ?_
        have V181 : Arv Z h177 a156 k157 .char (3 : Int32) [(.int (p1 &&& (255 : Int32))), (.int (p2 &&& (255 : Int32))), (.int (p3 &&& (255 : Int32)))] (.int (0 : Int32)) := V180
        have f182 := ((((E150.keep K159).keep K167).keep K173).keep K179)
        have f183 := ((((F152.keep K159 nin0).keep K167 (ninS ne162 nin0)).keep K173 (ninS ne162 nin0)).keep K179 (ninS ne162 nin0))
        have f184 := ((((F153.keep K159 nin0).keep K167 (ninS ne162 nin0)).keep K173 (ninS ne162 nin0)).keep K179 (ninS ne162 nin0))
        refine W.callI w178 (ow_8 hw) (ow_9 hw) (ow_10 hw) rfl (by decide) opd_3 (own_init hw w178.old (w178.mut (memS mem0)).1 f182 f183 f184 (cs := [(p1 &&& (255 : Int32)), (p2 &&& (255 : Int32)), (p3 &&& (255 : Int32))]) V181 (n := 3) rfl rfl (by decide) (by decide) (faS (and255 p1) (faS (and255 p2) (faS (and255 p3) fa0)))) (mC (memS mem0) mN) od_1_116 rfl rfl rfl (rest := [(.ref a146)]) rfl (Wd := 1) rfl (by decide) (by decide) (by decide) (by decide) fun v187 T185 h186 M188 w189 q190 => ?_
        obtain ⟨rfl, rfl, K191, t192, B193, F194⟩ := q190
        have ne195 : a146 ≠ t192 := neL f182.lt B193
        have ne196 : a156 ≠ t192 := neL V181.lt B193
        show Go Z _ _ _ κ _ (T185.setTop (mkF (km κ) 119 #[.val (.int p0), .val (.int p1), .val (.int p2), .val (.int p3), .val (.int (p1 &&& (255 : Int32))), .val (.int (p2 &&& (255 : Int32))), .val (.int (p3 &&& (255 : Int32))), .val (.int (p0 &&& (3 : Int32)))] [(.ref a146)]))
        have C197 := Keep.refl h0 []
        have C198 := C197.trans K148 RoadKit.all0
        have C199 := C198.trans K159 RoadKit.all0
        have C200 := C199.trans K167 (allS (Or.inr (Nat.le_trans K148.1 B160)) RoadKit.all0)
        have C201 := C200.trans K173 (allS (Or.inr (Nat.le_trans K148.1 B160)) RoadKit.all0)
        have C202 := C201.trans K179 (allS (Or.inr (Nat.le_trans K148.1 B160)) RoadKit.all0)
        have C203 := C202.trans K191 (allS (Or.inr B149) RoadKit.all0)
        have f204 := (f182.keep K191)
        have eX := f204
        exact W.retR w189 rfl rfl rfl od_1_119 (M' := []) mN (by decide) (by decide) ⟨a146, rfl, rfl, C203, B149, eX⟩
set_option maxRecDepth 65536 in
set_option maxHeartbeats 40000000 in
theorem c_law {l : Launch} {Z : State} {a0 : Array Value} (hw : HW Z a0) {h0 : Heap} {p0 p1 p2 p3 : Int32} (hO : Old Z Z.heap.size h0) : Ctr l Z EL0 nw0 x code maxLocals ret room_1 [.int p0, .int p1, .int p2, .int p3] h0 [] (fun v h M' => v = some (.int 1)) := by
  refine of_body (a0 := a0) opn_10 (own_ew hw) hO (Ls := #[.val (.int p0), .val (.int p1), .val (.int p2), .val (.int p3), .unset, .unset, .unset, .unset, .unset]) (fun m => by first | rfl | (simp [entryFrame, mkF, argsToLocals, Value.category, maxLocals]; done)) (fun κ T0 w0 hnm => ?_)
  refine W.iloadN w0 od_0_0 rfl rfl ?_
  refine W.iloadN w0 od_0_1 rfl rfl ?_
  refine W.iloadN w0 od_0_2 rfl rfl ?_
  refine W.iloadN w0 od_0_3 rfl rfl ?_
  refine W.callS w0 (ow_0 hw) (ow_1 hw) (ow_2 hw) (ow_3 hw) (by decide) opd_4 (Ctr.pay (c_draw hw w0.old) (own_ew hw) (ow_3 hw) (ow_2 hw) (kf := 5) (kl := 85) (by decide) (by decide)) mN od_0_4 rfl rfl rfl (rest := []) rfl (Wd := 0) rfl (by decide) (by decide) (by decide) (by decide) fun v3 T1 h2 M4 w5 q6 => ?_
  obtain ⟨a7, rfl, rfl, K8, B9, E10⟩ := q6
  show Go Z _ _ _ κ _ (T1.setTop (mkF (km κ) 7 #[.val (.int p0), .val (.int p1), .val (.int p2), .val (.int p3), .unset, .unset, .unset, .unset, .unset] [(.ref a7)]))
  refine W.astore w5 od_0_7 rfl (Ls' := #[.val (.int p0), .val (.int p1), .val (.int p2), .val (.int p3), .val (.ref a7), .unset, .unset, .unset, .unset]) rfl rfl ?_
  refine W.aload w5 od_0_9 rfl rfl rfl ?_
  refine W.callS w5 (ow_26 hw) (ow_27 hw) (ow_28 hw) (ow_29 hw) (by decide) opd_5 (Ctr.pay (c_failed hw E10 w5.old) (own_ew hw) (ow_29 hw) (ow_28 hw) (kf := 3) (kl := 39) (by decide) (by decide)) mN od_0_11 rfl rfl rfl (rest := []) rfl (Wd := 0) rfl (by decide) (by decide) (by decide) (by decide) fun v13 T11 h12 M14 w15 q16 => ?_
  obtain ⟨a17, rfl, rfl, K18, B19, E20, F21, F22⟩ := q16
  have ne23 : a7 ≠ a17 := neL E10.lt B19
  show Go Z _ _ _ κ _ (T11.setTop (mkF (km κ) 14 #[.val (.int p0), .val (.int p1), .val (.int p2), .val (.int p3), .val (.ref a7), .unset, .unset, .unset, .unset] [(.ref a17)]))
  refine W.astore w15 od_0_14 rfl (Ls' := #[.val (.int p0), .val (.int p1), .val (.int p2), .val (.int p3), .val (.ref a7), .val (.ref a17), .unset, .unset, .unset]) rfl rfl ?_
  refine W.aload w15 od_0_16 rfl rfl rfl ?_
  refine W.ifnonnullYes w15 od_0_18 (pc' := 23) (by decide) (by decide) ?_
  refine W.aload w15 od_0_23 rfl rfl rfl ?_
  refine W.callV w15 (ow_46 hw) (ow_47 hw) (nfSel (ow_49 hw)) (ow_49 hw) (ow_48 hw) (by decide) opd_6 E20 (Ctr.pay (c_isDelivered hw F21 w15.old) (own_ew hw) (ow_50 hw) (ow_28 hw) (kf := 1) (kl := 12) (by decide) (by decide)) mN od_0_25 rfl rfl rfl (rest := []) rfl (Wd := 0) rfl (by decide) (by decide) (by decide) (by decide) fun v26 T24 h25 M27 w28 q29 => ?_
  obtain ⟨rfl, rfl, rfl⟩ := q29
  show Go Z _ _ _ κ _ (T24.setTop (mkF (km κ) 28 #[.val (.int p0), .val (.int p1), .val (.int p2), .val (.int p3), .val (.ref a7), .val (.ref a17), .unset, .unset, .unset] [(.int (0 : Int32))]))
  refine W.istore w28 od_0_28 rfl (Ls' := #[.val (.int p0), .val (.int p1), .val (.int p2), .val (.int p3), .val (.ref a7), .val (.ref a17), .val (.int (0 : Int32)), .unset, .unset]) rfl ?_
  refine W.aload w28 od_0_30 rfl rfl rfl ?_
  refine W.callV w28 (ow_51 hw) (ow_52 hw) (nfSel (ow_54 hw)) (ow_54 hw) (ow_53 hw) (by decide) opd_6 E20 (Ctr.pay (c_isFailedForGood hw (x1 := 0) F22 w28.old) (own_ew hw) (ow_55 hw) (ow_28 hw) (kf := 1) (kl := 12) (by decide) (by decide)) mN od_0_32 rfl rfl rfl (rest := []) rfl (Wd := 0) rfl (by decide) (by decide) (by decide) (by decide) fun v32 T30 h31 M33 w34 q35 => ?_
  obtain ⟨rfl, rfl, rfl⟩ := q35
  show Go Z _ _ _ κ _ (T30.setTop (mkF (km κ) 35 #[.val (.int p0), .val (.int p1), .val (.int p2), .val (.int p3), .val (.ref a7), .val (.ref a17), .val (.int (0 : Int32)), .unset, .unset] [(.int (0 : Int32))]))
  refine W.istore w34 od_0_35 rfl (Ls' := #[.val (.int p0), .val (.int p1), .val (.int p2), .val (.int p3), .val (.ref a7), .val (.ref a17), .val (.int (0 : Int32)), .val (.int (0 : Int32)), .unset]) rfl ?_
  refine W.aload w34 od_0_37 rfl rfl rfl ?_
  refine W.callV w34 (ow_56 hw) (ow_57 hw) (nfSel (ow_59 hw)) (ow_59 hw) (ow_58 hw) (by decide) opd_7 E20 (Ctr.pay (c_error hw F21 w34.old) (own_ew hw) (ow_60 hw) (ow_28 hw) (kf := 1) (kl := 12) (by decide) (by decide)) mN od_0_39 rfl rfl rfl (rest := []) rfl (Wd := 0) rfl (by decide) (by decide) (by decide) (by decide) fun v38 T36 h37 M39 w40 q41 => ?_
  obtain ⟨rfl, rfl, rfl⟩ := q41
  show Go Z _ _ _ κ _ (T36.setTop (mkF (km κ) 42 #[.val (.int p0), .val (.int p1), .val (.int p2), .val (.int p3), .val (.ref a7), .val (.ref a17), .val (.int (0 : Int32)), .val (.int (0 : Int32)), .unset] [(.ref a7)]))
  refine W.astore w40 od_0_42 rfl (Ls' := #[.val (.int p0), .val (.int p1), .val (.int p2), .val (.int p3), .val (.ref a7), .val (.ref a17), .val (.int (0 : Int32)), .val (.int (0 : Int32)), .val (.ref a7)]) rfl rfl ?_
  refine W.iload w40 od_0_44 rfl rfl ?_
  refine W.ifNo w40 od_0_46 rfl ((if0 _ _).trans (teq (by decide : (0 : Int32) = (0 : Int32))).2) ?_
  refine W.iload w40 od_0_49 rfl rfl ?_
  refine W.ifNo w40 od_0_51 rfl ((if0 _ _).trans (teq (by decide : (0 : Int32) = (0 : Int32))).2) ?_
  refine W.aload w40 od_0_54 rfl rfl rfl ?_
  refine W.aload w40 od_0_56 rfl rfl rfl ?_
  refine W.acmpNo w40 od_0_58 rfl rfl rfl (by simp [XT.acmp]) ?_
  refine W.aload w40 od_0_61 rfl rfl rfl ?_
  refine W.aload w40 od_0_63 rfl rfl rfl ?_
  have f48 := (E10.keep K18)
  refine W.callV w40 (ow_61 hw) (ow_62 hw) (nfSel (ow_64 hw)) (ow_64 hw) (ow_63 hw) (by decide) opd_8 f48 (Ctr.pay (c_eqs hw w40.old) (own_ew hw) (ow_65 hw) (ow_6 hw) (kf := 1) (kl := 14) (by decide) (by decide)) mN od_0_65 rfl rfl rfl (rest := []) rfl (Wd := 0) rfl (by decide) (by decide) (by decide) (by decide) fun v44 T42 h43 M45 w46 q47 => ?_
  obtain ⟨rfl, rfl, rfl⟩ := q47
  show Go Z _ _ _ κ _ (T42.setTop (mkF (km κ) 68 #[.val (.int p0), .val (.int p1), .val (.int p2), .val (.int p3), .val (.ref a7), .val (.ref a17), .val (.int (0 : Int32)), .val (.int (0 : Int32)), .val (.ref a7)] [(.int (1 : Int32))]))
  refine W.ifNo w46 od_0_68 rfl ((if0 _ _).trans (feq (by decide : ¬ ((1 : Int32) = (0 : Int32)))).1) ?_
  refine W.iconst w46 od_0_71 rfl (z := (1 : Int32)) rfl ?_
  refine W.goto w46 od_0_72 (pc' := 76) (by decide) (by decide) ?_
  exact W.retN w46 (t := .boolean) (z' := (1 : Int32)) rfl rfl (by simp) od_0_76 (M' := []) mN (by decide) (by decide) rfl
set_option maxRecDepth 65536 in
set_option maxHeartbeats 40000000 in
theorem comes_1 {Post : Tables → Env → Array Value → State → Outcome → State → Prop} (hpost : ∀ tb e args s v u, (limb_1_1.after args s (.returned v) u = true ∧ limb_1_2.after args s (.returned v) u = true ∧ True) → ReturnedEndW s (.returned v) u (Jvm.fieldLocs frame_1_writes args s ++ Jvm.arrayLocs frame_1_arrays args s ++ Jvm.staticLocs frame_1_statics s) 24 2176 → Post tb e args s (.returned v) u) :
    ArmFor flags0 classFile x code maxLocals ret World_1 tables_1 room_1 Calls_1 rest_1 Pre_1 Post := by
  intro l hfl _ _ p e ha hc hk s m args below hf hA hF happ hP
  obtain ⟨hcalls, hrest, hpre⟩ := hP
  obtain ⟨-, -, -, hnamed, -, -, -, hat⟩ := (Spec.applies_iff hf).mp happ
  obtain ⟨hg, hn⟩ := and_e (Cond.before_iff.mp (show (Jvm.Cond.and given_1 narrow_1).before args s = true from hpre))
  obtain ⟨hcnt, hg0⟩ := and_e hg
  obtain ⟨hv0, hg1⟩ := and_e hg0
  obtain ⟨hv1, hg2⟩ := and_e hg1
  obtain ⟨hv2, hg3⟩ := and_e hg2
  obtain ⟨w0, w1, w2, w3, rfl⟩ : ∃ w0 w1 w2 w3 : Value, args = #[w0, w1, w2, w3] := by
    have hs : args.size = 4 := by simpa [Cond.value, given_1] using hcnt
    obtain ⟨L⟩ := args
    match L, hs with
    | [w0, w1, w2, w3], _ => exact ⟨w0, w1, w2, w3, rfl⟩
  have hw0 := fun d (hd : d ∈ tables_1) => atoms_spec (ws := Jvm.Cond.code x code maxLocals ret :: tables_1) hat d (List.mem_cons_of_mem _ hd)
  have hw1 := atoms_spec (ws := Jvm.Cond.code x code maxLocals ret :: tables_1) hat _ (List.mem_cons_self ..)
  have hfit : Fit s := fun {y c} hc i hi => by
    obtain ⟨ha, rfl⟩ := Array.getElem?_eq_some_iff.mp hc
    have q := List.all_eq_true.mp ((Array.all_eq_true_iff_forall_mem.mp hF) _ (Array.getElem_mem ha)) i (List.mem_range.mpr hi)
    simpa [Array.getElem?_eq_getElem hi] using q
  obtain ⟨hsets, hown0⟩ := atoms_of _ (rest_1_c_eq ▸ (show rest_1_c.before _ s = true from hrest))
  have hr0 := Cond.before_iff.mp hown0
  obtain ⟨i0, ei0⟩ := is_v hv0
  obtain rfl : w0 = (.int i0) := Option.some.inj ei0
  obtain ⟨i1, ei1⟩ := is_v hv1
  obtain rfl : w1 = (.int i1) := Option.some.inj ei1
  obtain ⟨i2, ei2⟩ := is_v hv2
  obtain rfl : w2 = (.int i2) := Option.some.inj ei2
  obtain ⟨i3, ei3⟩ := is_v hg3
  obtain rfl : w3 = (.int i3) := Option.some.inj ei3
  have cst : Cst s := by
    obtain ⟨z, ez⟩ := is_v (Cond.before_iff.mp (hsets _ (List.mem_of_getElem? (i := 1) rfl)))
    obtain ⟨f, ef, rf⟩ := isR_v (Cond.before_iff.mp (hsets _ (List.mem_of_getElem? (i := 8) rfl)))
    exact ⟨⟨z, Sta.start ez (Or.inl (hsets _ (List.mem_of_getElem? (i := 0) rfl))), gotF (Cond.eq_ints ez (Term.int_eval (0))) (not_v (Cond.before_iff.mp (hsets _ (List.mem_of_getElem? (i := 2) rfl))))⟩, f, Sta.start ef (Or.inl (hsets _ (List.mem_of_getElem? (i := 7) rfl))), rf⟩
  have xs0 : XS0 s := trivial
  have hw : HW s _ := ⟨hw0, cst, xs0⟩
  have hch : CHv s EL0 s.vm s.heap := CHv.start (own_ew hw) (fun p hp => hcalls.1 p hp) (by have q := (hsets _ (List.mem_of_getElem? (i := 2) rfl)); exact q) (ow_19 hw) (own_wS hw)
  obtain ⟨a1, a2, a3, a4, a5, a6, a7, -⟩ := (Spec.appliesLoose_iff hf).mp ((Spec.applies_iff_loose hf).mp happ).1
  obtain ⟨n, o, h1, h2, h3, v, L, M', rfl, hq, N, -, -, -, hE⟩ := c_law (l := l) hw (h0 := s.heap) (p0 := i0) (p1 := i1) (p2 := i2) (p3 := i3) (Old.start s) p e ha hc hk s m _ below hf ((Spec.appliesLoose_iff hf).mpr ⟨a1, a2, a3, a4, a5, a6, a7, by show (Cond.and _ .tt).before _ s = true; rw [Cond.before_and, hw1]; rfl⟩) ⟨rfl, State.Warmed39.refl s, rfl, hch, fun x hx => nomatch hx⟩ trivial
  subst hq
  obtain ⟨e1, e2, e2', e3⟩ := hE.1
  refine ⟨n, _, h1, h2, h3, hpost _ _ _ _ _ _ ⟨Cond.after_iff.mpr rfl, Cond.after_iff.mpr (eq_i res_at (Term.int_eval (1)) rfl), trivial⟩ ⟨e1, e2, e2', (e3.sift fun y hy => Or.inr (N y hy)).mono (by decide) (by decide)⟩⟩
theorem main_1_1 : Claimed_1_1 := comes_1 fun _ _ _ _ _ _ h hF => ⟨h.1, hF⟩
theorem main_1_2 : Claimed_1_2 := comes_1 fun _ _ _ _ _ _ h hF => ⟨h.2.1, hF⟩
end Jvm.Pilot.@@N@@
namespace Jvm.Pilot.@@N@@
open Jvm Jvm.ClassFile Sem Op Lib Jvm.Free Jvm.Stand Jvm.Pilot.@@N@@.Jvm.D
/-! MADE BY PROGRAM (witnessworld.py) out of the Statement's table words and the real class files: 21 classes; the members and pool entries that the words name. The judged class is class 1, her method 2. -/
namespace start1
open Jvm.ClassFile
def u (s : String) : CpInfo := .utf8 (stringToUtf16 s)
/-- a pool by its gaps: so many unusable entries, then the entry; so many at the end -/
def gap : Nat → List CpInfo → List CpInfo
  | 0, r => r
  | n + 1, r => .unusable :: gap n r
def poolList (es : List (Nat × CpInfo)) (last : Nat) : List CpInfo := es.foldr (fun e r => gap e.1 (e.2 :: r)) (gap last [])
def pool (es : List (Nat × CpInfo)) (last : Nat) : Array CpInfo := ⟨poolList es last⟩
def fileOf (pool : Array CpInfo) (this : Nat) (attrs : Array Attribute := #[]) (ms : Array MethodInfo := #[]) (fl : Nat := 33) (sup : Nat := 0) (ifs : Array Nat := #[]) (fds : Array FieldInfo := #[]) : ClassFile where
  minorVersion := 0
  majorVersion := 65
  constantPool := pool
  accessFlags := fl
  thisClass := this
  superClass := sup
  interfaces := ifs
  fields := fds
  methods := ms
  attributes := attrs
def plain (name : String) (sup : Option ClassId) : Class where
  name := name
  kind := .ordinary
  loader := none
  accessFlags := 33
  super := sup
  interfaces := #[]
  cf := none
  fields := #[]
  methods := #[]
  instanceTypes := #[]
  staticTypes := #[]
  resolved := #[]
  callSites := []
  init := .initialized
  statics := none
  mirror := none

def pool0 : Array CpInfo := pool [(5, u "<init>"), (0, u "()V"), (1, .class_ 10), (1, u "java/lang/Object")] 113

def k0c0 : Code := { maxStack := 0, maxLocals := 1, code := object_method_1_code, exceptionTable := #[], attributes := #[] }
def k0m0 : Method := { name := "<init>", desc := "()V", sig := { parameters := [], returnType := none }, accessFlags := 1, code := some k0c0 }
/-- java/lang/Object -/
def k0 : Class := { plain "java/lang/Object" none with
  accessFlags := 33
  interfaces := #[]
  cf := some (fileOf pool0 8 #[] #[{ accessFlags := 1, nameIndex := 5, descriptorIndex := 6, attributes := #[] }] 33 0 #[] #[])
  fields := #[]
  methods := #[k0m0]
  instanceTypes := #[]
  staticTypes := #[]
  resolved := Array.replicate 124 none
  statics := none }

def pool1 : Array CpInfo := pool [(2, .class_ 4), (1, u "java/lang/Object"), (0, u "<init>"), (0, u "()V"), (0, .class_ 8), (0, u "java/lang/String"), (0, .methodref 7 10), (0, .nameAndType 5 11), (0, u "([C)V"), (0, .methodref 13 14), (0, .class_ 15), (0, .nameAndType 16 17), (0, u "com/example/untill/untill/delivery/OutcomeFailedPinLaw"), (0, u "draw"), (0, u "(IIII)Ljava/lang/String;"), (0, .methodref 19 20), (0, .class_ 21), (0, .nameAndType 22 23), (0, u "com/example/untill/untill/delivery/Outcome"), (0, u "failed"), (0, u "(Ljava/lang/String;)Lcom/example/untill/untill/delivery/Outcome;"), (0, .methodref 19 25), (0, .nameAndType 26 27), (0, u "isDelivered"), (0, u "()Z"), (0, .methodref 19 29), (0, .nameAndType 30 27), (0, u "isFailedForGood"), (0, .methodref 19 32), (0, .nameAndType 33 34), (0, u "error"), (0, u "()Ljava/lang/String;"), (0, .methodref 7 36), (0, .nameAndType 37 38), (0, u "equals"), (0, u "(Ljava/lang/Object;)Z"), (3, u "law"), (0, u "(IIII)Z")] 2

def k1m0 : Method := { name := "<init>", desc := "()V", sig := { parameters := [], returnType := none }, accessFlags := 1, code := none }
def k1c1 : Code := { maxStack := 6, maxLocals := 8, code := method_2_code, exceptionTable := #[], attributes := #[] }
def k1m1 : Method := { name := "draw", desc := "(IIII)Ljava/lang/String;", sig := { parameters := [.int, .int, .int, .int], returnType := some (.object "java/lang/String") }, accessFlags := 10, code := some k1c1 }
def k1c2 : Code := { maxStack := 4, maxLocals := 9, code := code, exceptionTable := #[], attributes := #[] }
def k1m2 : Method := { name := "law", desc := "(IIII)Z", sig := { parameters := [.int, .int, .int, .int], returnType := some .boolean }, accessFlags := 9, code := some k1c2 }
/-- com/example/untill/untill/delivery/OutcomeFailedPinLaw -/
def k1 : Class := { plain "com/example/untill/untill/delivery/OutcomeFailedPinLaw" (some 0) with
  accessFlags := 49
  interfaces := #[]
  cf := some (fileOf pool1 13 #[] #[{ accessFlags := 1, nameIndex := 5, descriptorIndex := 6, attributes := #[] }, { accessFlags := 10, nameIndex := 16, descriptorIndex := 17, attributes := #[] }, { accessFlags := 9, nameIndex := 42, descriptorIndex := 43, attributes := #[] }] 49 2 #[] #[])
  fields := #[]
  methods := #[k1m0, k1m1, k1m2]
  instanceTypes := #[]
  staticTypes := #[]
  resolved := Array.replicate 46 none
  statics := none }

def pool2 : Array CpInfo := pool [(1, .class_ 2), (0, u "java/io/Serializable"), (0, .class_ 4), (0, u "java/lang/Object")] 2

/-- java/io/Serializable -/
def k2 : Class := { plain "java/io/Serializable" (some 0) with
  accessFlags := 1537
  interfaces := #[]
  cf := some (fileOf pool2 1 #[] #[] 1537 3 #[] #[])
  fields := #[]
  methods := #[]
  instanceTypes := #[]
  staticTypes := #[]
  resolved := Array.replicate 7 none
  statics := none }

def pool3 : Array CpInfo := pool [(1, .class_ 2), (0, u "java/lang/Comparable"), (0, .class_ 4), (0, u "java/lang/Object")] 7

/-- java/lang/Comparable -/
def k3 : Class := { plain "java/lang/Comparable" (some 0) with
  accessFlags := 1537
  interfaces := #[]
  cf := some (fileOf pool3 1 #[] #[] 1537 3 #[] #[])
  fields := #[]
  methods := #[]
  instanceTypes := #[]
  staticTypes := #[]
  resolved := Array.replicate 12 none
  statics := none }

def pool4 : Array CpInfo := pool [(2, .class_ 4), (1, u "java/lang/CharSequence"), (42, .class_ 48), (0, u "java/lang/CharSequence$1CodePointIterator"), (10, .class_ 60), (0, u "java/lang/CharSequence$1CharIterator"), (5, .class_ 67), (0, u "java/lang/Object")] 63

/-- java/lang/CharSequence -/
def k4 : Class := { plain "java/lang/CharSequence" (some 0) with
  accessFlags := 1537
  interfaces := #[]
  cf := some (fileOf pool4 2 #[.nestMembers #[47, 59]] #[] 1537 66 #[] #[])
  fields := #[]
  methods := #[]
  instanceTypes := #[]
  staticTypes := #[]
  resolved := Array.replicate 131 none
  statics := none }

def pool5 : Array CpInfo := pool [(1, .class_ 2), (0, u "java/lang/constant/Constable"), (0, .class_ 4), (0, u "java/lang/Object")] 6

/-- java/lang/constant/Constable -/
def k5 : Class := { plain "java/lang/constant/Constable" (some 0) with
  accessFlags := 1537
  interfaces := #[]
  cf := some (fileOf pool5 1 #[] #[] 1537 3 #[] #[])
  fields := #[]
  methods := #[]
  instanceTypes := #[]
  staticTypes := #[]
  resolved := Array.replicate 11 none
  statics := none }

def pool6 : Array CpInfo := pool [(1, .class_ 2), (0, u "java/lang/constant/ConstantDesc"), (0, .class_ 4), (0, u "java/lang/Object")] 32

/-- java/lang/constant/ConstantDesc -/
def k6 : Class := { plain "java/lang/constant/ConstantDesc" (some 0) with
  accessFlags := 1537
  interfaces := #[]
  cf := some (fileOf pool6 1 #[] #[] 1537 3 #[] #[])
  fields := #[]
  methods := #[]
  instanceTypes := #[]
  staticTypes := #[]
  resolved := Array.replicate 37 none
  statics := none }

def pool7 : Array CpInfo := pool [(1, .methodref 2 3), (0, .class_ 4), (0, .nameAndType 5 6), (0, u "java/lang/Object"), (0, u "<init>"), (0, u "()V"), (0, .string 8), (0, u ""), (0, .fieldref 10 11), (0, .class_ 12), (0, .nameAndType 13 14), (0, u "java/lang/String"), (0, u "value"), (0, u "[B"), (0, .fieldref 10 16), (0, .nameAndType 17 18), (0, u "coder"), (0, u "B"), (2, u "hash"), (0, u "I"), (2, u "hashIsZero"), (0, u "Z"), (0, .methodref 10 28), (0, .nameAndType 5 29), (0, u "([CIILjava/lang/Void;)V"), (8, .fieldref 10 39), (0, .nameAndType 40 26), (0, u "COMPACT_STRINGS"), (1, .class_ 44), (1, u "java/lang/StringUTF16"), (0, u "compress"), (1, .methodref 42 48), (0, .nameAndType 49 50), (0, u "coderFromArrayLen"), (0, u "([BI)B"), (126, .methodref 42 178), (0, .nameAndType 45 179), (0, u "([CII)[B"), (363, u "equals"), (29, u "(Ljava/lang/Object;)Z"), (1, .class_ 576), (0, u "java/lang/CharSequence"), (22, u "CASE_INSENSITIVE_ORDER"), (0, u "Ljava/util/Comparator;"), (409, u "([C)V"), (90, u "serialPersistentFields"), (0, u "[Ljava/io/ObjectStreamField;"), (0, .class_ 1104), (0, u "java/lang/String$CaseInsensitiveComparator"), (1, .class_ 1107), (0, u "java/io/Serializable"), (0, .class_ 1109), (0, u "java/lang/Comparable"), (0, .class_ 1111), (0, u "java/lang/constant/Constable"), (0, .class_ 1113), (0, u "java/lang/constant/ConstantDesc"), (2, u "serialVersionUID"), (0, u "J"), (3, u "REPL"), (0, u "C"), (2, u "LATIN1"), (1, u "UTF16")] 323

def k7m0 : Method := { name := "<init>", desc := "()V", sig := { parameters := [], returnType := none }, accessFlags := 1, code := none }
def k7c1 : Code := { maxStack := 5, maxLocals := 2, code := jdk_42_method_3_code, exceptionTable := #[], attributes := #[] }
def k7m1 : Method := { name := "<init>", desc := "([C)V", sig := { parameters := [(.array .char)], returnType := none }, accessFlags := 1, code := some k7c1 }
def k7c2 : Code := { maxStack := 2, maxLocals := 3, code := jdk_42_method_66_code, exceptionTable := #[], attributes := #[] }
def k7m2 : Method := { name := "equals", desc := "(Ljava/lang/Object;)Z", sig := { parameters := [(.object "java/lang/Object")], returnType := some .boolean }, accessFlags := 1, code := some k7c2 }
def k7c3 : Code := { maxStack := 4, maxLocals := 6, code := jdk_42_method_149_code, exceptionTable := #[], attributes := #[] }
def k7m3 : Method := { name := "<init>", desc := "([CIILjava/lang/Void;)V", sig := { parameters := [(.array .char), .int, .int, (.object "java/lang/Void")], returnType := none }, accessFlags := 2, code := some k7c3 }
/-- java/lang/String -/
def k7 : Class := { plain "java/lang/String" (some 0) with
  accessFlags := 49
  interfaces := #[2, 3, 4, 5, 6]
  cf := some (fileOf pool7 10 #[.nestMembers #[1103]] #[{ accessFlags := 1, nameIndex := 5, descriptorIndex := 6, attributes := #[] }, { accessFlags := 1, nameIndex := 5, descriptorIndex := 1010, attributes := #[] }, { accessFlags := 1, nameIndex := 543, descriptorIndex := 573, attributes := #[] }, { accessFlags := 2, nameIndex := 5, descriptorIndex := 29, attributes := #[] }] 49 2 #[1106, 1108, 575, 1110, 1112] #[{ accessFlags := 18, nameIndex := 13, descriptorIndex := 14, attributes := #[] }, { accessFlags := 18, nameIndex := 17, descriptorIndex := 18, attributes := #[] }, { accessFlags := 2, nameIndex := 21, descriptorIndex := 22, attributes := #[] }, { accessFlags := 2, nameIndex := 25, descriptorIndex := 26, attributes := #[] }, { accessFlags := 26, nameIndex := 1116, descriptorIndex := 1117, attributes := #[] }, { accessFlags := 24, nameIndex := 40, descriptorIndex := 26, attributes := #[] }, { accessFlags := 26, nameIndex := 1101, descriptorIndex := 1102, attributes := #[] }, { accessFlags := 26, nameIndex := 1121, descriptorIndex := 1122, attributes := #[] }, { accessFlags := 25, nameIndex := 599, descriptorIndex := 600, attributes := #[] }, { accessFlags := 24, nameIndex := 1125, descriptorIndex := 18, attributes := #[] }, { accessFlags := 24, nameIndex := 1127, descriptorIndex := 18, attributes := #[] }])
  fields := #[{ name := "value", type := (.array .byte), accessFlags := 18, slot := 0, constantValue := 0 }, { name := "coder", type := .byte, accessFlags := 18, slot := 1, constantValue := 0 }, { name := "hash", type := .int, accessFlags := 2, slot := 2, constantValue := 0 }, { name := "hashIsZero", type := .boolean, accessFlags := 2, slot := 3, constantValue := 0 }, { name := "serialVersionUID", type := .long, accessFlags := 26, slot := 0, constantValue := 0 }, { name := "COMPACT_STRINGS", type := .boolean, accessFlags := 24, slot := 1, constantValue := 0 }, { name := "serialPersistentFields", type := (.array (.object "java/io/ObjectStreamField")), accessFlags := 26, slot := 2, constantValue := 0 }, { name := "REPL", type := .char, accessFlags := 26, slot := 3, constantValue := 0 }, { name := "CASE_INSENSITIVE_ORDER", type := (.object "java/util/Comparator"), accessFlags := 25, slot := 4, constantValue := 0 }, { name := "LATIN1", type := .byte, accessFlags := 24, slot := 5, constantValue := 0 }, { name := "UTF16", type := .byte, accessFlags := 24, slot := 6, constantValue := 0 }]
  methods := #[k7m0, k7m1, k7m2, k7m3]
  instanceTypes := #[(.array .byte), .byte, .int, .boolean]
  staticTypes := #[.long, .boolean, (.array (.object "java/io/ObjectStreamField")), .char, (.object "java/util/Comparator"), .byte, .byte]
  resolved := Array.replicate 1451 none
  statics := some 0 }

def pool8 : Array CpInfo := pool [(1, .methodref 2 3), (0, .class_ 4), (0, .nameAndType 5 6), (0, u "java/lang/Object"), (0, u "<init>"), (0, u "()V"), (0, .fieldref 8 9), (0, .class_ 10), (0, .nameAndType 11 12), (0, u "com/example/untill/untill/delivery/Outcome"), (0, u "error"), (0, u "Ljava/lang/String;"), (0, .fieldref 8 14), (0, .nameAndType 15 16), (0, u "forGood"), (0, u "Z"), (2, u "DELIVERED"), (0, u "Lcom/example/untill/untill/delivery/Outcome;"), (0, .string 11), (0, .methodref 23 24), (0, .class_ 25), (0, .nameAndType 26 27), (0, u "java/util/Objects"), (0, u "requireNonNull"), (0, u "(Ljava/lang/Object;Ljava/lang/String;)Ljava/lang/Object;"), (0, .class_ 29), (0, u "java/lang/String"), (0, .methodref 8 31), (0, .nameAndType 5 32), (0, u "(Ljava/lang/String;Z)V"), (4, u "failed"), (0, u "(Ljava/lang/String;)Lcom/example/untill/untill/delivery/Outcome;"), (1, u "isDelivered"), (0, u "()Z"), (1, u "isFailedForGood"), (0, u "()Ljava/lang/String;")] 3

def k8c0 : Code := { maxStack := 2, maxLocals := 3, code := prog_43_method_1_code, exceptionTable := #[], attributes := #[] }
def k8m0 : Method := { name := "<init>", desc := "(Ljava/lang/String;Z)V", sig := { parameters := [(.object "java/lang/String"), .boolean], returnType := none }, accessFlags := 2, code := some k8c0 }
def k8c1 : Code := { maxStack := 4, maxLocals := 1, code := prog_43_method_3_code, exceptionTable := #[], attributes := #[] }
def k8m1 : Method := { name := "failed", desc := "(Ljava/lang/String;)Lcom/example/untill/untill/delivery/Outcome;", sig := { parameters := [(.object "java/lang/String")], returnType := some (.object "com/example/untill/untill/delivery/Outcome") }, accessFlags := 9, code := some k8c1 }
def k8c2 : Code := { maxStack := 1, maxLocals := 1, code := prog_43_method_5_code, exceptionTable := #[], attributes := #[] }
def k8m2 : Method := { name := "isDelivered", desc := "()Z", sig := { parameters := [], returnType := some .boolean }, accessFlags := 1, code := some k8c2 }
def k8c3 : Code := { maxStack := 1, maxLocals := 1, code := prog_43_method_6_code, exceptionTable := #[], attributes := #[] }
def k8m3 : Method := { name := "isFailedForGood", desc := "()Z", sig := { parameters := [], returnType := some .boolean }, accessFlags := 1, code := some k8c3 }
def k8c4 : Code := { maxStack := 1, maxLocals := 1, code := prog_43_method_7_code, exceptionTable := #[], attributes := #[] }
def k8m4 : Method := { name := "error", desc := "()Ljava/lang/String;", sig := { parameters := [], returnType := some (.object "java/lang/String") }, accessFlags := 1, code := some k8c4 }
/-- com/example/untill/untill/delivery/Outcome -/
def k8 : Class := { plain "com/example/untill/untill/delivery/Outcome" (some 0) with
  accessFlags := 33
  interfaces := #[]
  cf := some (fileOf pool8 8 #[] #[{ accessFlags := 2, nameIndex := 5, descriptorIndex := 32, attributes := #[] }, { accessFlags := 9, nameIndex := 37, descriptorIndex := 38, attributes := #[] }, { accessFlags := 1, nameIndex := 40, descriptorIndex := 41, attributes := #[] }, { accessFlags := 1, nameIndex := 43, descriptorIndex := 41, attributes := #[] }, { accessFlags := 1, nameIndex := 11, descriptorIndex := 44, attributes := #[] }] 33 2 #[] #[{ accessFlags := 26, nameIndex := 19, descriptorIndex := 20, attributes := #[] }, { accessFlags := 18, nameIndex := 11, descriptorIndex := 12, attributes := #[] }, { accessFlags := 18, nameIndex := 15, descriptorIndex := 16, attributes := #[] }])
  fields := #[{ name := "DELIVERED", type := (.object "com/example/untill/untill/delivery/Outcome"), accessFlags := 26, slot := 0, constantValue := 0 }, { name := "error", type := (.object "java/lang/String"), accessFlags := 18, slot := 0, constantValue := 0 }, { name := "forGood", type := .boolean, accessFlags := 18, slot := 1, constantValue := 0 }]
  methods := #[k8m0, k8m1, k8m2, k8m3, k8m4]
  instanceTypes := #[(.object "java/lang/String"), .boolean]
  staticTypes := #[(.object "com/example/untill/untill/delivery/Outcome")]
  resolved := Array.replicate 48 none
  statics := none }

def pool9 : Array CpInfo := pool [(2, .class_ 4), (1, u "java/lang/Object"), (0, u "<init>"), (0, u "()V"), (35, .class_ 44), (1, u "java/util/Objects"), (0, u "requireNonNull"), (48, u "(Ljava/lang/Object;Ljava/lang/String;)Ljava/lang/Object;")] 89

def k9m0 : Method := { name := "<init>", desc := "()V", sig := { parameters := [], returnType := none }, accessFlags := 2, code := none }
def k9c1 : Code := { maxStack := 3, maxLocals := 2, code := jdk_31_method_11_code, exceptionTable := #[], attributes := #[] }
def k9m1 : Method := { name := "requireNonNull", desc := "(Ljava/lang/Object;Ljava/lang/String;)Ljava/lang/Object;", sig := { parameters := [(.object "java/lang/Object"), (.object "java/lang/String")], returnType := some (.object "java/lang/Object") }, accessFlags := 9, code := some k9c1 }
/-- java/util/Objects -/
def k9 : Class := { plain "java/util/Objects" (some 0) with
  accessFlags := 49
  interfaces := #[]
  cf := some (fileOf pool9 42 #[] #[{ accessFlags := 2, nameIndex := 5, descriptorIndex := 6, attributes := #[] }, { accessFlags := 9, nameIndex := 45, descriptorIndex := 94, attributes := #[] }] 49 2 #[] #[])
  fields := #[]
  methods := #[k9m0, k9m1]
  instanceTypes := #[]
  staticTypes := #[]
  resolved := Array.replicate 184 none
  statics := none }

def pool10 : Array CpInfo := pool [(6, .class_ 8), (1, u "java/lang/Object"), (0, u "<init>"), (0, u "()V"), (1, .class_ 14), (1, u "java/lang/StringUTF16"), (31, u "$assertionsDisabled"), (0, u "Z"), (13, u "HI_BYTE_SHIFT"), (0, u "I"), (2, u "LO_BYTE_SHIFT"), (49, .methodref 12 116), (0, .nameAndType 117 118), (0, u "compress"), (0, u "([CI[BII)I"), (3, u "([CII)[B"), (138, u "coderFromArrayLen"), (0, u "([BI)B"), (106, .class_ 371), (1, u "java/lang/StringUTF16$LinesSpliterator"), (58, u "MAX_LENGTH"), (196, .class_ 628), (0, u "java/lang/StringUTF16$CodePointsSpliterator"), (0, .class_ 630), (0, u "java/lang/StringUTF16$CharsSpliterator")] 4

def k10m0 : Method := { name := "<init>", desc := "()V", sig := { parameters := [], returnType := none }, accessFlags := 0, code := none }
def k10c1 : Code := { maxStack := 2, maxLocals := 2, code := jdk_52_method_15_code, exceptionTable := #[], attributes := #[] }
def k10m1 : Method := { name := "coderFromArrayLen", desc := "([BI)B", sig := { parameters := [(.array .byte), .int], returnType := some .byte }, accessFlags := 8, code := some k10c1 }
def k10c2 : Code := { maxStack := 5, maxLocals := 6, code := jdk_52_method_16_code, exceptionTable := #[], attributes := #[] }
def k10m2 : Method := { name := "compress", desc := "([CII)[B", sig := { parameters := [(.array .char), .int, .int], returnType := some (.array .byte) }, accessFlags := 9, code := some k10c2 }
def k10c3 : Code := { maxStack := 3, maxLocals := 7, code := jdk_52_method_21_code, exceptionTable := #[], attributes := #[] }
def k10m3 : Method := { name := "compress", desc := "([CI[BII)I", sig := { parameters := [(.array .char), .int, (.array .byte), .int, .int], returnType := some .int }, accessFlags := 9, code := some k10c3 }
/-- java/lang/StringUTF16 -/
def k10 : Class := { plain "java/lang/StringUTF16" (some 0) with
  accessFlags := 48
  interfaces := #[]
  cf := some (fileOf pool10 12 #[.nestMembers #[627, 629, 369]] #[{ accessFlags := 0, nameIndex := 9, descriptorIndex := 10, attributes := #[] }, { accessFlags := 8, nameIndex := 261, descriptorIndex := 262, attributes := #[] }, { accessFlags := 9, nameIndex := 117, descriptorIndex := 122, attributes := #[] }, { accessFlags := 9, nameIndex := 117, descriptorIndex := 118, attributes := #[] }] 48 6 #[] #[{ accessFlags := 26, nameIndex := 61, descriptorIndex := 62, attributes := #[] }, { accessFlags := 26, nameIndex := 65, descriptorIndex := 62, attributes := #[] }, { accessFlags := 24, nameIndex := 430, descriptorIndex := 62, attributes := #[] }, { accessFlags := 4120, nameIndex := 46, descriptorIndex := 47, attributes := #[] }])
  fields := #[{ name := "HI_BYTE_SHIFT", type := .int, accessFlags := 26, slot := 0, constantValue := 0 }, { name := "LO_BYTE_SHIFT", type := .int, accessFlags := 26, slot := 1, constantValue := 0 }, { name := "MAX_LENGTH", type := .int, accessFlags := 24, slot := 2, constantValue := 0 }, { name := "$assertionsDisabled", type := .boolean, accessFlags := 4120, slot := 3, constantValue := 0 }]
  methods := #[k10m0, k10m1, k10m2, k10m3]
  instanceTypes := #[]
  staticTypes := #[.int, .int, .int, .boolean]
  resolved := Array.replicate 635 none
  statics := none }

def pool11 : Array CpInfo := pool [(4, .class_ 6), (1, u "java/lang/Object"), (0, u "<init>"), (0, u "()V"), (5, .class_ 16), (1, u "java/lang/StringLatin1"), (104, u "$assertionsDisabled"), (0, u "Z"), (98, .class_ 223), (1, u "java/lang/StringLatin1$LinesSpliterator"), (166, .class_ 391), (0, u "java/lang/StringLatin1$CharsSpliterator")] 3

def k11m0 : Method := { name := "<init>", desc := "()V", sig := { parameters := [], returnType := none }, accessFlags := 0, code := none }
/-- java/lang/StringLatin1 -/
def k11 : Class := { plain "java/lang/StringLatin1" (some 0) with
  accessFlags := 48
  interfaces := #[]
  cf := some (fileOf pool11 14 #[.nestMembers #[390, 221]] #[{ accessFlags := 0, nameIndex := 7, descriptorIndex := 8, attributes := #[] }] 48 4 #[] #[{ accessFlags := 4120, nameIndex := 121, descriptorIndex := 122, attributes := #[] }])
  fields := #[{ name := "$assertionsDisabled", type := .boolean, accessFlags := 4120, slot := 0, constantValue := 0 }]
  methods := #[k11m0]
  instanceTypes := #[]
  staticTypes := #[.boolean]
  resolved := Array.replicate 395 none
  statics := none }

def pool12 : Array CpInfo := pool [(2, .class_ 4), (1, u "java/lang/Object"), (0, u "<init>"), (0, u "()V"), (17, .class_ 26), (1, u "jdk/internal/util/Preconditions"), (28, .class_ 56), (0, u "jdk/internal/util/Preconditions$4"), (57, .class_ 115), (0, u "jdk/internal/util/Preconditions$1"), (7, u "SIOOBE_FORMATTER"), (0, u "Ljava/util/function/BiFunction;"), (0, .class_ 126), (0, u "jdk/internal/util/Preconditions$2"), (3, u "AIOOBE_FORMATTER"), (0, .class_ 132), (0, u "jdk/internal/util/Preconditions$3"), (3, u "IOOBE_FORMATTER")] 57

def k12m0 : Method := { name := "<init>", desc := "()V", sig := { parameters := [], returnType := none }, accessFlags := 1, code := none }
/-- jdk/internal/util/Preconditions -/
def k12 : Class := { plain "jdk/internal/util/Preconditions" (some 0) with
  accessFlags := 33
  interfaces := #[]
  cf := some (fileOf pool12 24 #[.nestMembers #[55, 131, 125, 114]] #[{ accessFlags := 1, nameIndex := 5, descriptorIndex := 6, attributes := #[] }] 33 2 #[] #[{ accessFlags := 25, nameIndex := 123, descriptorIndex := 124, attributes := #[] }, { accessFlags := 25, nameIndex := 130, descriptorIndex := 124, attributes := #[] }, { accessFlags := 25, nameIndex := 136, descriptorIndex := 124, attributes := #[] }])
  fields := #[{ name := "SIOOBE_FORMATTER", type := (.object "java/util/function/BiFunction"), accessFlags := 25, slot := 0, constantValue := 0 }, { name := "AIOOBE_FORMATTER", type := (.object "java/util/function/BiFunction"), accessFlags := 25, slot := 1, constantValue := 0 }, { name := "IOOBE_FORMATTER", type := (.object "java/util/function/BiFunction"), accessFlags := 25, slot := 2, constantValue := 0 }]
  methods := #[k12m0]
  instanceTypes := #[]
  staticTypes := #[(.object "java/util/function/BiFunction"), (.object "java/util/function/BiFunction"), (.object "java/util/function/BiFunction")]
  resolved := Array.replicate 194 none
  statics := some 1 }

def pool13 : Array CpInfo := pool [(9, u "<init>"), (6, .class_ 18), (1, u "java/lang/Object"), (0, u "()V"), (1, .class_ 23), (1, u "jdk/internal/util/ArraysSupport"), (0, u "LOG2_ARRAY_LONG_INDEX_SCALE"), (0, u "I"), (2, u "U"), (0, u "Ljdk/internal/misc/Unsafe;"), (8, u "BIG_ENDIAN"), (0, u "Z"), (8, u "LOG2_BYTE_BIT_SIZE"), (4, u "LOG2_ARRAY_INT_INDEX_SCALE"), (54, u "JLA"), (0, u "Ljdk/internal/access/JavaLangAccess;"), (11, u "LOG2_ARRAY_BOOLEAN_INDEX_SCALE"), (9, u "LOG2_ARRAY_BYTE_INDEX_SCALE"), (5, u "LOG2_ARRAY_CHAR_INDEX_SCALE"), (5, u "LOG2_ARRAY_SHORT_INDEX_SCALE"), (18, u "LOG2_ARRAY_FLOAT_INDEX_SCALE"), (24, u "LOG2_ARRAY_DOUBLE_INDEX_SCALE"), (89, u "T_BOOLEAN"), (2, u "T_CHAR"), (1, u "T_FLOAT"), (1, u "T_DOUBLE"), (1, u "T_BYTE"), (1, u "T_SHORT"), (1, u "T_INT"), (1, u "T_LONG"), (1, u "SOFT_MAX_ARRAY_LENGTH")] 83

def k13m0 : Method := { name := "<init>", desc := "()V", sig := { parameters := [], returnType := none }, accessFlags := 2, code := none }
/-- jdk/internal/util/ArraysSupport -/
def k13 : Class := { plain "jdk/internal/util/ArraysSupport" (some 0) with
  accessFlags := 33
  interfaces := #[]
  cf := some (fileOf pool13 21 #[] #[{ accessFlags := 2, nameIndex := 9, descriptorIndex := 19, attributes := #[] }] 33 16 #[] #[{ accessFlags := 24, nameIndex := 28, descriptorIndex := 29, attributes := #[] }, { accessFlags := 26, nameIndex := 38, descriptorIndex := 39, attributes := #[] }, { accessFlags := 25, nameIndex := 121, descriptorIndex := 25, attributes := #[] }, { accessFlags := 25, nameIndex := 131, descriptorIndex := 25, attributes := #[] }, { accessFlags := 25, nameIndex := 137, descriptorIndex := 25, attributes := #[] }, { accessFlags := 25, nameIndex := 143, descriptorIndex := 25, attributes := #[] }, { accessFlags := 25, nameIndex := 53, descriptorIndex := 25, attributes := #[] }, { accessFlags := 25, nameIndex := 24, descriptorIndex := 25, attributes := #[] }, { accessFlags := 25, nameIndex := 162, descriptorIndex := 25, attributes := #[] }, { accessFlags := 25, nameIndex := 187, descriptorIndex := 25, attributes := #[] }, { accessFlags := 26, nameIndex := 48, descriptorIndex := 25, attributes := #[] }, { accessFlags := 25, nameIndex := 277, descriptorIndex := 25, attributes := #[] }, { accessFlags := 25, nameIndex := 280, descriptorIndex := 25, attributes := #[] }, { accessFlags := 25, nameIndex := 282, descriptorIndex := 25, attributes := #[] }, { accessFlags := 25, nameIndex := 284, descriptorIndex := 25, attributes := #[] }, { accessFlags := 25, nameIndex := 286, descriptorIndex := 25, attributes := #[] }, { accessFlags := 25, nameIndex := 288, descriptorIndex := 25, attributes := #[] }, { accessFlags := 25, nameIndex := 290, descriptorIndex := 25, attributes := #[] }, { accessFlags := 25, nameIndex := 292, descriptorIndex := 25, attributes := #[] }, { accessFlags := 26, nameIndex := 108, descriptorIndex := 109, attributes := #[] }, { accessFlags := 25, nameIndex := 294, descriptorIndex := 25, attributes := #[] }])
  fields := #[{ name := "U", type := (.object "jdk/internal/misc/Unsafe"), accessFlags := 24, slot := 0, constantValue := 0 }, { name := "BIG_ENDIAN", type := .boolean, accessFlags := 26, slot := 1, constantValue := 0 }, { name := "LOG2_ARRAY_BOOLEAN_INDEX_SCALE", type := .int, accessFlags := 25, slot := 2, constantValue := 0 }, { name := "LOG2_ARRAY_BYTE_INDEX_SCALE", type := .int, accessFlags := 25, slot := 3, constantValue := 0 }, { name := "LOG2_ARRAY_CHAR_INDEX_SCALE", type := .int, accessFlags := 25, slot := 4, constantValue := 0 }, { name := "LOG2_ARRAY_SHORT_INDEX_SCALE", type := .int, accessFlags := 25, slot := 5, constantValue := 0 }, { name := "LOG2_ARRAY_INT_INDEX_SCALE", type := .int, accessFlags := 25, slot := 6, constantValue := 0 }, { name := "LOG2_ARRAY_LONG_INDEX_SCALE", type := .int, accessFlags := 25, slot := 7, constantValue := 0 }, { name := "LOG2_ARRAY_FLOAT_INDEX_SCALE", type := .int, accessFlags := 25, slot := 8, constantValue := 0 }, { name := "LOG2_ARRAY_DOUBLE_INDEX_SCALE", type := .int, accessFlags := 25, slot := 9, constantValue := 0 }, { name := "LOG2_BYTE_BIT_SIZE", type := .int, accessFlags := 26, slot := 10, constantValue := 0 }, { name := "T_BOOLEAN", type := .int, accessFlags := 25, slot := 11, constantValue := 0 }, { name := "T_CHAR", type := .int, accessFlags := 25, slot := 12, constantValue := 0 }, { name := "T_FLOAT", type := .int, accessFlags := 25, slot := 13, constantValue := 0 }, { name := "T_DOUBLE", type := .int, accessFlags := 25, slot := 14, constantValue := 0 }, { name := "T_BYTE", type := .int, accessFlags := 25, slot := 15, constantValue := 0 }, { name := "T_SHORT", type := .int, accessFlags := 25, slot := 16, constantValue := 0 }, { name := "T_INT", type := .int, accessFlags := 25, slot := 17, constantValue := 0 }, { name := "T_LONG", type := .int, accessFlags := 25, slot := 18, constantValue := 0 }, { name := "JLA", type := (.object "jdk/internal/access/JavaLangAccess"), accessFlags := 26, slot := 19, constantValue := 0 }, { name := "SOFT_MAX_ARRAY_LENGTH", type := .int, accessFlags := 25, slot := 20, constantValue := 0 }]
  methods := #[k13m0]
  instanceTypes := #[]
  staticTypes := #[(.object "jdk/internal/misc/Unsafe"), .boolean, .int, .int, .int, .int, .int, .int, .int, .int, .int, .int, .int, .int, .int, .int, .int, .int, .int, (.object "jdk/internal/access/JavaLangAccess"), .int]
  resolved := Array.replicate 378 none
  statics := none }

def pool14 : Array CpInfo := pool [(1, u "java/lang/Cloneable"), (0, .class_ 1), (0, u "java/lang/Object"), (0, .class_ 3)] 3

/-- java/lang/Cloneable -/
def k14 : Class := { plain "java/lang/Cloneable" (some 0) with
  accessFlags := 1537
  interfaces := #[]
  cf := some (fileOf pool14 2 #[] #[] 1537 4 #[] #[])
  fields := #[]
  methods := #[]
  instanceTypes := #[]
  staticTypes := #[]
  resolved := Array.replicate 8 none
  statics := none }

/-- the primitive byte -/
def k15 : Class := { plain "byte" none with kind := .primitive 'B', accessFlags := 0x411 }
/-- [B -/
def k16 : Class := { plain "[B" (some 0) with kind := .array 15 .byte, interfaces := #[14, 2], accessFlags := 1041 }

/-- the primitive char -/
def k17 : Class := { plain "char" none with kind := .primitive 'C', accessFlags := 0x411 }
/-- [C -/
def k18 : Class := { plain "[C" (some 0) with kind := .array 17 .char, interfaces := #[14, 2], accessFlags := 1041 }

/-- the primitive int -/
def k19 : Class := { plain "int" none with kind := .primitive 'I', accessFlags := 0x411 }
/-- [I -/
def k20 : Class := { plain "[I" (some 0) with kind := .array 19 .int, interfaces := #[14, 2], accessFlags := 1041 }

def heap : Heap := #[{ cls := 7, slots := #[.long 0, .int 1, .null, .int 0, .null, .int 0, .int 0], vm := .statics 7 },
  { cls := 12, slots := #[.null, .null, .null], vm := .statics 12 }]
def classes : Array Class := #[k0, k1, k2, k3, k4, k5, k6, k7, k8, k9, k10, k11, k12, k13, k14, k15, k16, k17, k18, k19, k20]
def interned : List (Array UInt16 × Addr) := []
def slotsUsed : Nat := 10
def theMethod : MethodId := ⟨1, 2⟩
def args0 : Array Value := #[.int 2, .int 65, .int 66, .int 67]
def aboutOver (below : List Frame) : State where
  vm := { classes := classes, interned := interned.toArray }
  heap := heap
  slotsUsed := slotsUsed
  threads := #[{ frames := .invoking theMethod args0 :: below }]
def below0 : List Frame := [.native { method := ⟨0, 0⟩, args := #[] }]
def about1 : State := aboutOver below0
def p0 : Program := .bare "" "" ""
def e0 : Env := launch0.env 0 0 0
theorem w_frames : about1.frames = Frame.invoking theMethod args0 :: below0 := rfl
set_option maxRecDepth 65536 in
theorem w_args : argsFit about1.vm theMethod args0 = true := by decide +kernel
set_option maxRecDepth 65536 in
theorem w_heap : heapFits about1 = true := by decide +kernel
set_option maxRecDepth 65536 in
theorem w_runnable : about1.curStatus? = some .runnable := by decide +kernel
set_option maxRecDepth 65536 in
theorem w_alone : about1.alone = true := by decide +kernel
set_option maxRecDepth 65536 in
theorem w_named : about1.methodNamed? x = some theMethod := by decide +kernel
set_option maxRecDepth 65536 in
theorem w_hears : about1.hears theMethod below0 = true := by decide +kernel
set_option maxRecDepth 65536 in
theorem w_ripe : about1.ripe theMethod args0 below0 = true := by decide +kernel
theorem w_running : about1.status = .running := rfl
set_option maxRecDepth 65536 in
theorem w_room : about1.hasRoom e0.platform room_1 = true :=
  launch0.hasRoom_least _ room_1 (by decide +kernel) (by decide +kernel) (by decide +kernel) (by decide +kernel) (by decide +kernel) (by decide +kernel)
theorem allAtoms_all (ts : List Jvm.Cond) (a : Array Jvm.Value) (st : Jvm.State) : (allAtoms ts).before a st = ts.all (fun c => c.before a st) := by
  induction ts with
  | nil => rfl
  | cons c t ih =>
    show (Jvm.Cond.and c (allAtoms t)).before a st = _
    rw [Jvm.Cond.before_and, ih, List.all_cons]
def words1 : List Jvm.Cond := Jvm.Cond.code x code maxLocals ret :: tables_1
/-- a 'code' word, met by the world's own term for the bytes: nothing is compared byte by byte -/
theorem code_word {y : MethodName} {bytes : ByteArray} {mx : Nat} {rt : Option FieldType} {a : Array Value} {s : State} {m : MethodId} {meth : Method} {c : Code} (h1 : s.methodNamed? y = some m) (h2 : s.vm.method? m = some meth) (h3 : meth.code = some c) (h4 : c.code = bytes)
    (h5 : (c.maxLocals == mx && c.exceptionTable.isEmpty && decide (c.maxStack ≤ mostOperands) && decide (meth.sig.returnType = rt) && !meth.locks && decide (parseMethodDescriptor y.desc = some meth.sig)) = true) : (Jvm.Cond.code y bytes mx rt).before a s = true := by
  simp only [Bool.and_eq_true, beq_iff_eq, Bool.not_eq_true', decide_eq_true_eq] at h5
  obtain ⟨⟨⟨⟨⟨g1, g2⟩, g3⟩, g4⟩, g5⟩, g6⟩ := h5
  simp [Cond.before, Cond.holds, Cond.value, h1, h2, h3, h4, g1, g2, g3, g4, g5, g6]
def isCode : Jvm.Cond → Bool
  | .code _ _ _ _ => true
  | _ => false
theorem all_split {L : List Jvm.Cond} {P : Jvm.Cond → Bool} (h1 : L.all (fun c => isCode c || P c) = true) (h2 : ∀ c ∈ L.filter isCode, P c = true) : L.all P = true := by
  refine List.all_eq_true.mpr fun c hc => ?_
  have h := List.all_eq_true.mp h1 c hc
  rcases Bool.eq_false_or_eq_true (isCode c) with hi | hi
  · exact h2 c (List.mem_filter.mpr ⟨hc, hi⟩)
  · simpa [hi] using h
set_option maxRecDepth 65536 in
theorem w_c0 : (Jvm.Cond.code x code maxLocals ret).before args0 about1 = true := code_word (m := ⟨1, 2⟩) (meth := k1m2) (c := k1c2) (by decide +kernel) rfl rfl rfl (by decide +kernel)
set_option maxRecDepth 65536 in
theorem w_c1 : (Jvm.Cond.code ({ cls := "com/example/untill/untill/delivery/OutcomeFailedPinLaw", name := "draw", desc := "(IIII)Ljava/lang/String;" } : Jvm.MethodName) method_2_code (8 : Nat) (Option.some (Jvm.ClassFile.FieldType.object "java/lang/String"))).before args0 about1 = true := code_word (m := ⟨1, 1⟩) (meth := k1m1) (c := k1c1) (by decide +kernel) rfl rfl rfl (by decide +kernel)
set_option maxRecDepth 65536 in
theorem w_c2 : (Jvm.Cond.code ({ cls := "java/lang/String", name := "<init>", desc := "([C)V" } : Jvm.MethodName) jdk_42_method_3_code (2 : Nat) (Option.none : Option Jvm.ClassFile.FieldType)).before args0 about1 = true := code_word (m := ⟨7, 1⟩) (meth := k7m1) (c := k7c1) (by decide +kernel) rfl rfl rfl (by decide +kernel)
set_option maxRecDepth 65536 in
theorem w_c3 : (Jvm.Cond.code ({ cls := "java/lang/String", name := "<init>", desc := "([CIILjava/lang/Void;)V" } : Jvm.MethodName) jdk_42_method_149_code (6 : Nat) (Option.none : Option Jvm.ClassFile.FieldType)).before args0 about1 = true := code_word (m := ⟨7, 3⟩) (meth := k7m3) (c := k7c3) (by decide +kernel) rfl rfl rfl (by decide +kernel)
set_option maxRecDepth 65536 in
theorem w_c4 : (Jvm.Cond.code ({ cls := "java/lang/Object", name := "<init>", desc := "()V" } : Jvm.MethodName) object_method_1_code (1 : Nat) (Option.none : Option Jvm.ClassFile.FieldType)).before args0 about1 = true := code_word (m := ⟨0, 0⟩) (meth := k0m0) (c := k0c0) (by decide +kernel) rfl rfl rfl (by decide +kernel)
set_option maxRecDepth 65536 in
theorem w_c5 : (Jvm.Cond.code ({ cls := "com/example/untill/untill/delivery/Outcome", name := "failed", desc := "(Ljava/lang/String;)Lcom/example/untill/untill/delivery/Outcome;" } : Jvm.MethodName) prog_43_method_3_code (1 : Nat) (Option.some (Jvm.ClassFile.FieldType.object "com/example/untill/untill/delivery/Outcome"))).before args0 about1 = true := code_word (m := ⟨8, 1⟩) (meth := k8m1) (c := k8c1) (by decide +kernel) rfl rfl rfl (by decide +kernel)
set_option maxRecDepth 65536 in
theorem w_c6 : (Jvm.Cond.code ({ cls := "java/util/Objects", name := "requireNonNull", desc := "(Ljava/lang/Object;Ljava/lang/String;)Ljava/lang/Object;" } : Jvm.MethodName) jdk_31_method_11_code (2 : Nat) (Option.some (Jvm.ClassFile.FieldType.object "java/lang/Object"))).before args0 about1 = true := code_word (m := ⟨9, 1⟩) (meth := k9m1) (c := k9c1) (by decide +kernel) rfl rfl rfl (by decide +kernel)
set_option maxRecDepth 65536 in
theorem w_c7 : (Jvm.Cond.code ({ cls := "com/example/untill/untill/delivery/Outcome", name := "<init>", desc := "(Ljava/lang/String;Z)V" } : Jvm.MethodName) prog_43_method_1_code (3 : Nat) (Option.none : Option Jvm.ClassFile.FieldType)).before args0 about1 = true := code_word (m := ⟨8, 0⟩) (meth := k8m0) (c := k8c0) (by decide +kernel) rfl rfl rfl (by decide +kernel)
set_option maxRecDepth 65536 in
theorem w_c8 : (Jvm.Cond.code ({ cls := "com/example/untill/untill/delivery/Outcome", name := "isDelivered", desc := "()Z" } : Jvm.MethodName) prog_43_method_5_code (1 : Nat) (Option.some Jvm.ClassFile.FieldType.boolean)).before args0 about1 = true := code_word (m := ⟨8, 2⟩) (meth := k8m2) (c := k8c2) (by decide +kernel) rfl rfl rfl (by decide +kernel)
set_option maxRecDepth 65536 in
theorem w_c9 : (Jvm.Cond.code ({ cls := "com/example/untill/untill/delivery/Outcome", name := "isFailedForGood", desc := "()Z" } : Jvm.MethodName) prog_43_method_6_code (1 : Nat) (Option.some Jvm.ClassFile.FieldType.boolean)).before args0 about1 = true := code_word (m := ⟨8, 3⟩) (meth := k8m3) (c := k8c3) (by decide +kernel) rfl rfl rfl (by decide +kernel)
set_option maxRecDepth 65536 in
theorem w_c10 : (Jvm.Cond.code ({ cls := "com/example/untill/untill/delivery/Outcome", name := "error", desc := "()Ljava/lang/String;" } : Jvm.MethodName) prog_43_method_7_code (1 : Nat) (Option.some (Jvm.ClassFile.FieldType.object "java/lang/String"))).before args0 about1 = true := code_word (m := ⟨8, 4⟩) (meth := k8m4) (c := k8c4) (by decide +kernel) rfl rfl rfl (by decide +kernel)
set_option maxRecDepth 65536 in
theorem w_c11 : (Jvm.Cond.code ({ cls := "java/lang/String", name := "equals", desc := "(Ljava/lang/Object;)Z" } : Jvm.MethodName) jdk_42_method_66_code (3 : Nat) (Option.some Jvm.ClassFile.FieldType.boolean)).before args0 about1 = true := code_word (m := ⟨7, 2⟩) (meth := k7m2) (c := k7c2) (by decide +kernel) rfl rfl rfl (by decide +kernel)
set_option maxRecDepth 65536 in
theorem w_c12 : (Jvm.Cond.code ({ cls := "java/lang/StringUTF16", name := "compress", desc := "([CII)[B" } : Jvm.MethodName) jdk_52_method_16_code (6 : Nat) (Option.some (Jvm.ClassFile.FieldType.array Jvm.ClassFile.FieldType.byte))).before args0 about1 = true := code_word (m := ⟨10, 2⟩) (meth := k10m2) (c := k10c2) (by decide +kernel) rfl rfl rfl (by decide +kernel)
set_option maxRecDepth 65536 in
theorem w_c13 : (Jvm.Cond.code ({ cls := "java/lang/StringUTF16", name := "compress", desc := "([CI[BII)I" } : Jvm.MethodName) jdk_52_method_21_code (7 : Nat) (Option.some Jvm.ClassFile.FieldType.int)).before args0 about1 = true := code_word (m := ⟨10, 3⟩) (meth := k10m3) (c := k10c3) (by decide +kernel) rfl rfl rfl (by decide +kernel)
set_option maxRecDepth 65536 in
theorem w_c14 : (Jvm.Cond.code ({ cls := "java/lang/StringUTF16", name := "coderFromArrayLen", desc := "([BI)B" } : Jvm.MethodName) jdk_52_method_15_code (2 : Nat) (Option.some Jvm.ClassFile.FieldType.byte)).before args0 about1 = true := code_word (m := ⟨10, 1⟩) (meth := k10m1) (c := k10c1) (by decide +kernel) rfl rfl rfl (by decide +kernel)
def codes1 : List Jvm.Cond := [Jvm.Cond.code x code maxLocals ret, Jvm.Cond.code ({ cls := "com/example/untill/untill/delivery/OutcomeFailedPinLaw", name := "draw", desc := "(IIII)Ljava/lang/String;" } : Jvm.MethodName) method_2_code (8 : Nat) (Option.some (Jvm.ClassFile.FieldType.object "java/lang/String")), Jvm.Cond.code ({ cls := "java/lang/String", name := "<init>", desc := "([C)V" } : Jvm.MethodName) jdk_42_method_3_code (2 : Nat) (Option.none : Option Jvm.ClassFile.FieldType), Jvm.Cond.code ({ cls := "java/lang/String", name := "<init>", desc := "([CIILjava/lang/Void;)V" } : Jvm.MethodName) jdk_42_method_149_code (6 : Nat) (Option.none : Option Jvm.ClassFile.FieldType), Jvm.Cond.code ({ cls := "java/lang/Object", name := "<init>", desc := "()V" } : Jvm.MethodName) object_method_1_code (1 : Nat) (Option.none : Option Jvm.ClassFile.FieldType), Jvm.Cond.code ({ cls := "com/example/untill/untill/delivery/Outcome", name := "failed", desc := "(Ljava/lang/String;)Lcom/example/untill/untill/delivery/Outcome;" } : Jvm.MethodName) prog_43_method_3_code (1 : Nat) (Option.some (Jvm.ClassFile.FieldType.object "com/example/untill/untill/delivery/Outcome")), Jvm.Cond.code ({ cls := "java/util/Objects", name := "requireNonNull", desc := "(Ljava/lang/Object;Ljava/lang/String;)Ljava/lang/Object;" } : Jvm.MethodName) jdk_31_method_11_code (2 : Nat) (Option.some (Jvm.ClassFile.FieldType.object "java/lang/Object")), Jvm.Cond.code ({ cls := "com/example/untill/untill/delivery/Outcome", name := "<init>", desc := "(Ljava/lang/String;Z)V" } : Jvm.MethodName) prog_43_method_1_code (3 : Nat) (Option.none : Option Jvm.ClassFile.FieldType), Jvm.Cond.code ({ cls := "com/example/untill/untill/delivery/Outcome", name := "isDelivered", desc := "()Z" } : Jvm.MethodName) prog_43_method_5_code (1 : Nat) (Option.some Jvm.ClassFile.FieldType.boolean), Jvm.Cond.code ({ cls := "com/example/untill/untill/delivery/Outcome", name := "isFailedForGood", desc := "()Z" } : Jvm.MethodName) prog_43_method_6_code (1 : Nat) (Option.some Jvm.ClassFile.FieldType.boolean), Jvm.Cond.code ({ cls := "com/example/untill/untill/delivery/Outcome", name := "error", desc := "()Ljava/lang/String;" } : Jvm.MethodName) prog_43_method_7_code (1 : Nat) (Option.some (Jvm.ClassFile.FieldType.object "java/lang/String")), Jvm.Cond.code ({ cls := "java/lang/String", name := "equals", desc := "(Ljava/lang/Object;)Z" } : Jvm.MethodName) jdk_42_method_66_code (3 : Nat) (Option.some Jvm.ClassFile.FieldType.boolean), Jvm.Cond.code ({ cls := "java/lang/StringUTF16", name := "compress", desc := "([CII)[B" } : Jvm.MethodName) jdk_52_method_16_code (6 : Nat) (Option.some (Jvm.ClassFile.FieldType.array Jvm.ClassFile.FieldType.byte)), Jvm.Cond.code ({ cls := "java/lang/StringUTF16", name := "compress", desc := "([CI[BII)I" } : Jvm.MethodName) jdk_52_method_21_code (7 : Nat) (Option.some Jvm.ClassFile.FieldType.int), Jvm.Cond.code ({ cls := "java/lang/StringUTF16", name := "coderFromArrayLen", desc := "([BI)B" } : Jvm.MethodName) jdk_52_method_15_code (2 : Nat) (Option.some Jvm.ClassFile.FieldType.byte)]
set_option maxRecDepth 65536 in
theorem codes_eq : words1.filter isCode = codes1 := rfl
theorem w_codes : ∀ c ∈ words1.filter isCode, c.before args0 about1 = true := by
  rw [codes_eq]
  intro c hc
  simp only [codes1, List.mem_cons, List.not_mem_nil, or_false] at hc
  rcases hc with rfl | rfl | rfl | rfl | rfl | rfl | rfl | rfl | rfl | rfl | rfl | rfl | rfl | rfl | rfl
  · exact w_c0
  · exact w_c1
  · exact w_c2
  · exact w_c3
  · exact w_c4
  · exact w_c5
  · exact w_c6
  · exact w_c7
  · exact w_c8
  · exact w_c9
  · exact w_c10
  · exact w_c11
  · exact w_c12
  · exact w_c13
  · exact w_c14
set_option maxRecDepth 65536 in
theorem w_t1 : (words1.take 24).all (fun c => isCode c || c.before args0 about1) = true := by decide +kernel
set_option maxRecDepth 65536 in
theorem w_t2 : ((words1.drop 24).take 24).all (fun c => isCode c || c.before args0 about1) = true := by decide +kernel
set_option maxRecDepth 65536 in
theorem w_t3 : (((words1.drop 24).drop 24).take 24).all (fun c => isCode c || c.before args0 about1) = true := by decide +kernel
set_option maxRecDepth 65536 in
theorem w_t4 : (((words1.drop 24).drop 24).drop 24).all (fun c => isCode c || c.before args0 about1) = true := by decide +kernel
theorem w_tables : (allAtoms (Jvm.Cond.code x code maxLocals ret :: tables_1)).before args0 about1 = true := by
  rw [allAtoms_all]
  show words1.all (fun c => c.before args0 about1) = true
  refine all_split ?_ w_codes
  rw [← List.take_append_drop 24 words1, List.all_append, w_t1, ← List.take_append_drop 24 (words1.drop 24), List.all_append, w_t2, ← List.take_append_drop 24 ((words1.drop 24).drop 24), List.all_append, w_t3, w_t4]
  rfl
set_option maxRecDepth 65536 in
theorem w_rest : rest_1_c.before args0 about1 = true := by decide +kernel
set_option maxRecDepth 65536 in
theorem w_case : (Jvm.Cond.and given_1 narrow_1).before args0 about1 = true := by decide +kernel
set_option maxRecDepth 65536 in
theorem w_consts : constsHeld consts_1 about1 := Jvm.Lit.constsHeldB_iff.mp (by decide +kernel)
theorem w_applies : (headSpec (Jvm.Cond.code x code maxLocals ret :: tables_1) room_1).applies x e0.platform about1 = true :=
  (Spec.applies_iff w_frames).mpr ⟨w_running, w_runnable, w_alone, w_named, w_hears, w_ripe, w_room, w_tables⟩
theorem atStart : AtStart classFile x code maxLocals ret World_1 tables_1 room_1 Calls_1 rest_1 Pre_1 launch0 p0 e0 about1 theMethod args0 below0 :=
  ⟨lists_1, trivial, launch0.admits_env _ _ _, launch0.least_env, fairChoices_fair.cas, fairChoices_fair.clock, w_frames, w_args, w_heap, w_applies, ⟨w_consts, trivial⟩, w_rest, w_case⟩
end start1
theorem witness_1 : WitnessClaimed_1 := ⟨start1.p0, start1.e0, start1.about1, start1.theMethod, start1.args0, start1.below0, start1.atStart⟩
end Jvm.Pilot.@@N@@
