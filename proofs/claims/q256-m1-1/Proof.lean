import JvmDerived
import JvmDerived.Pilot.@@N@@Statement
import JvmDerived.Pilot.@@N@@Code
set_option linter.unusedVariables false
set_option linter.unusedSimpArgs false
namespace Jvm.Own
open Jvm Jvm.ClassFile Sem Op Lib Jvm.Free Jvm.Stand Jvm.LawKit Jvm.RoadKit Bundle
/-! OWN LAYER: one bundle (W) for all that a walk knows of the machine; one goal (Go): from this state the method returns as Q says. Every step is a law 'W.step w .. : Go (behind) → Go (before)'. -/
abbrev Ka : Type := Program × Env × State × MethodId × List Frame × Method × Code × Array Value
abbrev kp (κ : Ka) : Program := κ.1
abbrev ke (κ : Ka) : Env := κ.2.1
abbrev ks (κ : Ka) : State := κ.2.2.1
abbrev km (κ : Ka) : MethodId := κ.2.2.2.1
abbrev kb (κ : Ka) : List Frame := κ.2.2.2.2.1
abbrev kt (κ : Ka) : Method := κ.2.2.2.2.2.1
abbrev kc (κ : Ka) : Code := κ.2.2.2.2.2.2.1
abbrev ka (κ : Ka) : Array Value := κ.2.2.2.2.2.2.2
/-- how a walk ends: the wide frame; under nar the narrow one too -/
def EndOk (nw : Bool) (U : State) (o : Outcome) (U' : State) (L : List Loc) (k n : Nat) : Prop := ReturnedEndW U o U' L k n ∧ (nw = true → FrameEnd U o U' L k n)
/-- the places that the walk may write: made since the law's start, and no String constant's -/
def Mut (Z : State) (EL : List (String × Nat)) (vm : Vm) (h : Heap) (M : List Addr) : Prop := ∀ x ∈ M, Z.heap.size ≤ x ∧ x < h.size ∧ Safe Z EL vm h x
def Ctr (l : Launch) (Z : State) (EL : List (String × Nat)) (nw : Bool) (y : MethodName) (bytes : ByteArray) (ml : Nat) (ret : Option FieldType) (rm : Room) (as : List Value) (h0 : Heap) (M : List Addr) (Q : Option Value → Heap → List Addr → Prop) : Prop :=
  MetFree l y (head1 [Cond.code y bytes ml ret] rm) (fun a U => a = as.toArray ∧ Z.Warmed39 U.vm ∧ U.heap = h0 ∧ CHv Z EL U.vm h0 ∧ Mut Z EL U.vm h0 M) (fun _ _ _ _ _ => True)
    (fun _ U o U' => ∃ v L M', o = .returned v ∧ Q v U'.heap M' ∧ Fr Z.heap.size L ∧ CHr Z EL U.vm U.heap U'.vm U'.heap ∧ Mut Z EL U'.vm U'.heap M' ∧ Old Z Z.heap.size U'.heap ∧ EndOk nw U o U' L rm.cells rm.slots)
def W (l : Launch) (Z : State) (a0 : Array Value) (EL : List (String × Nat)) (nw : Bool) (own : String) (bytes : ByteArray) (ml : Nat) (ret : Option FieldType) (R : Room) (κ : Ka) (T : State) (h : Heap) (M : List Addr) (cells slots : Nat) : Prop :=
  ((kp κ).tables.exec = Jvm.exec ∧ (kc κ).code = bytes ∧ (kc κ).maxLocals = ml ∧ (kt κ).sig.returnType = ret ∧ (kt κ).locks = false ∧ EW Z a0 EL) ∧
  ∃ (vm0 : Vm) (k0 : Nat) (locs : List Loc), Stand (kp κ) l (ke κ) R ((ks κ).setVm vm0) (km κ) (ka κ) (kb κ) (kt κ) (kc κ) T locs cells slots ∧ Fr Z.heap.size locs ∧ Z.Warmed39 vm0 ∧ vm0.findClass own = some (km κ).cls ∧ (ks κ).Since vm0 k0 ∧ k0 ≤ h.size ∧ T.heap = h ∧
    CHr Z EL (ks κ).vm (ks κ).heap vm0 h ∧ Mut Z EL vm0 h M ∧ Old Z Z.heap.size h ∧ (nw = true → (ks κ).WarmedH vm0)
def Go (Z : State) (EL : List (String × Nat)) (nw : Bool) (R : Room) (κ : Ka) (Q : Option Value → Heap → List Addr → Prop) (U : State) : Prop :=
  ∃ s₂ o, Steps (kp κ).tables (ke κ) (kb κ) U s₂ ∧ s₂.status = .running ∧ Ended s₂ (kb κ) o ∧ ∃ v L M', o = .returned v ∧ Q v s₂.heap M' ∧ Fr Z.heap.size L ∧ CHr Z EL (ks κ).vm (ks κ).heap s₂.vm s₂.heap ∧ Mut Z EL s₂.vm s₂.heap M' ∧ Old Z Z.heap.size s₂.heap ∧ EndOk nw (ks κ) o s₂ L R.cells R.slots
section Base
variable {l : Launch} {Z : State} {a0 : Array Value} {EL : List (String × Nat)} {nw : Bool} {own : String} {bytes : ByteArray} {ml : Nat} {ret : Option FieldType} {R : Room} {κ : Ka} {T : State} {h : Heap} {M : List Addr} {cells slots : Nat} {Q : Option Value → Heap → List Addr → Prop} {U U' : State} {G : JFrame}
theorem Go.via (st : ∀ t, Steps (kp κ).tables (ke κ) (kb κ) U' t → Steps (kp κ).tables (ke κ) (kb κ) U t) (g : Go Z EL nw R κ Q U') : Go Z EL nw R κ Q U := by
  obtain ⟨s₂, o, h1, r⟩ := g
  exact ⟨s₂, o, st _ h1, r⟩
theorem Go.tr (st : Steps (kp κ).tables (ke κ) (kb κ) U U') (g : Go Z EL nw R κ Q U') : Go Z EL nw R κ Q U := Go.via (fun _ k => st.trans k) g
theorem Go.mono {Q' : Option Value → Heap → List Addr → Prop} (g : Go Z EL nw R κ Q U) (q : ∀ v h M, Q v h M → Q' v h M) : Go Z EL nw R κ Q' U := by
  obtain ⟨s₂, o, h1, h2, h3, v, L, M', h4, h5, r⟩ := g
  exact ⟨s₂, o, h1, h2, h3, v, L, M', h4, q _ _ _ h5, r⟩
theorem W.old (w : W l Z a0 EL nw own bytes ml ret R κ T h M cells slots) : Old Z Z.heap.size h := by
  obtain ⟨-, vm0, k0, locs, -, -, -, -, -, -, -, -, -, hO, -⟩ := w
  exact hO
theorem W.ew (w : W l Z a0 EL nw own bytes ml ret R κ T h M cells slots) : EW Z a0 EL := w.1.2.2.2.2.2
theorem W.mut (w : W l Z a0 EL nw own bytes ml ret R κ T h M cells slots) {x : Addr} (hx : x ∈ M) : Z.heap.size ≤ x ∧ x < h.size := by
  obtain ⟨-, vm0, k0, locs, -, -, -, -, -, -, -, -, hM, -⟩ := w
  exact ⟨(hM x hx).1, (hM x hx).2.1⟩
theorem W.grow (w : W l Z a0 EL nw own bytes ml ret R κ T h M cells slots) {cells' slots' : Nat} (hc : cells ≤ cells') (hs : slots ≤ slots') : W l Z a0 EL nw own bytes ml ret R κ T h M cells' slots' := by
  obtain ⟨hC, vm0, k0, locs, X, r⟩ := w
  exact ⟨hC, vm0, k0, locs, X.mono hc hs, r⟩
theorem W.less (w : W l Z a0 EL nw own bytes ml ret R κ T h M cells slots) {M' : List Addr} (hM : ∀ x ∈ M', x ∈ M) : W l Z a0 EL nw own bytes ml ret R κ T h M' cells slots := by
  obtain ⟨hC, vm0, k0, locs, X, h1, h2, h3, h4, h5, h6, h7, h8, r⟩ := w
  exact ⟨hC, vm0, k0, locs, X, h1, h2, h3, h4, h5, h6, h7, fun x hx => h8 x (hM x hx), r⟩
/-- a pure step -/
theorem W.pure (w : W l Z a0 EL nw own bytes ml ret R κ T h M cells slots) (st : (kp κ).tables.exec = Jvm.exec → (kc κ).code = bytes → At T (km κ) (kc κ) (kb κ) → ∀ t, Steps (kp κ).tables (ke κ) (kb κ) U' t → Steps (kp κ).tables (ke κ) (kb κ) U t) (g : Go Z EL nw R κ Q U') : Go Z EL nw R κ Q U := by
  obtain ⟨⟨hx, hby, -⟩, vm0, k0, locs, X, -⟩ := w
  exact Go.via (st hx hby X.here) g
/-- the tables have moved by a resolution alone -/
theorem W.noted (w : W l Z a0 EL nw own bytes ml ret R κ T h M cells slots) (st : ∀ (s : State) (locs : List Loc), (kp κ).tables.exec = Jvm.exec → (kc κ).code = bytes → (kc κ).maxLocals = ml → Z.Warmed39 s.vm → s.vm.findClass own = some (km κ).cls → T.heap = h → Stand (kp κ) l (ke κ) R s (km κ) (ka κ) (kb κ) (kt κ) (kc κ) T locs cells slots →
      ∃ T', Stand (kp κ) l (ke κ) R s (km κ) (ka κ) (kb κ) (kt κ) (kc κ) T' locs cells slots ∧ T'.heap = h ∧ ∀ t, Steps (kp κ).tables (ke κ) (kb κ) (T'.setTop G) t → Steps (kp κ).tables (ke κ) (kb κ) U t)
    (g : ∀ T', W l Z a0 EL nw own bytes ml ret R κ T' h M cells slots → Go Z EL nw R κ Q (T'.setTop G)) : Go Z EL nw R κ Q U := by
  obtain ⟨hC, vm0, k0, locs, X, h1, h2, h3, h4, h5, h6, r⟩ := w
  obtain ⟨T', X', e', k⟩ := st ((ks κ).setVm vm0) locs hC.1 hC.2.1 hC.2.2.1 h2 h3 h6 X
  exact Go.via k (g T' ⟨hC, vm0, k0, locs, X', h1, h2, h3, h4, h5, e', r⟩)
theorem mem0 {x : Addr} {L : List Addr} : x ∈ x :: L := List.mem_cons_self ..
theorem memS {x y : Addr} {L : List Addr} (q : x ∈ L) : x ∈ y :: L := List.mem_cons_of_mem _ q
theorem memA {x : Addr} {L K : List Addr} (q : x ∈ K) : x ∈ L ++ K := List.mem_append_right _ q
theorem memB {x : Addr} {L K : List Addr} (q : x ∈ L) : x ∈ L ++ K := List.mem_append_left _ q
theorem keepE {h h' : Heap} (E : Ext h h') : Keep h h' [] := (Keep.refl h []).ext E
theorem neL {x a : Addr} {h : Heap} (q : x < h.size) (r : h.size ≤ a) : x ≠ a := Nat.ne_of_lt (Nat.lt_of_lt_of_le q r)
/-- something was made: an object or an array, as Ext says; its place may be written -/
theorem W.made (w : W l Z a0 EL nw own bytes ml ret R κ T h M cells slots) {k n : Nat} {P : Heap → Prop} (st : ∀ (s : State) (locs : List Loc), (kp κ).tables.exec = Jvm.exec → (kc κ).code = bytes → (kc κ).maxLocals = ml → Z.Warmed39 s.vm → s.vm.findClass own = some (km κ).cls → T.heap = h → Stand (kp κ) l (ke κ) R s (km κ) (ka κ) (kb κ) (kt κ) (kc κ) T locs cells slots →
      ∃ T' h', Stand (kp κ) l (ke κ) R s (km κ) (ka κ) (kb κ) (kt κ) (kc κ) T' locs (cells + k) (slots + n) ∧ T'.heap = h' ∧ Ext h h' ∧ h.size < h'.size ∧ P h' ∧ ∀ t, Steps (kp κ).tables (ke κ) (kb κ) (T'.setTop G) t → Steps (kp κ).tables (ke κ) (kb κ) U t)
    (g : ∀ T' h', W l Z a0 EL nw own bytes ml ret R κ T' h' (h.size :: M) (cells + k) (slots + n) → Keep h h' [] → P h' → Go Z EL nw R κ Q (T'.setTop G)) : Go Z EL nw R κ Q U := by
  obtain ⟨hC, vm0, k0, locs, X, h1, h2, h3, h4, h5, h6, h7, h8, h9, r⟩ := w
  obtain ⟨T', h', X', e', E, hlt, hP, k⟩ := st ((ks κ).setVm vm0) locs hC.1 hC.2.1 hC.2.2.1 h2 h3 h6 X
  refine Go.via k (g T' h' ⟨hC, vm0, k0, locs, X', h1, h2, h3, h4, Nat.le_trans h5 E.1, e', h7.trans (CHr.ext E h7.1), fun x hx => ?_, h9.ext E, r⟩ (keepE E) hP)
  rcases List.mem_cons.mp hx with rfl | hx
  · exact ⟨h9.1 ▸ h9.2.1, hlt, Safe.ext E h7.1 (Safe.new (Nat.le_refl _))⟩
  · obtain ⟨a, b, c⟩ := h8 x hx
    exact ⟨a, Nat.lt_of_lt_of_le b E.1, Safe.ext E h7.1 c⟩
/-- one place was written -/
theorem W.wrote (w : W l Z a0 EL nw own bytes ml ret R κ T h M cells slots) {a : Addr} (ha : a ∈ M) {sl : Nat} {v : Value} (st : ∀ (s : State) (locs : List Loc), (kp κ).tables.exec = Jvm.exec → (kc κ).code = bytes → (kc κ).maxLocals = ml → Z.Warmed39 s.vm → s.vm.findClass own = some (km κ).cls → T.heap = h → Stand (kp κ) l (ke κ) R s (km κ) (ka κ) (kb κ) (kt κ) (kc κ) T locs cells slots →
      ∃ T' h', Stand (kp κ) l (ke κ) R s (km κ) (ka κ) (kb κ) (kt κ) (kc κ) T' (locs ++ [⟨a, sl⟩]) cells slots ∧ T'.heap = h' ∧ Wr h h' a sl v ∧ ∀ t, Steps (kp κ).tables (ke κ) (kb κ) (T'.setTop G) t → Steps (kp κ).tables (ke κ) (kb κ) U t)
    (g : ∀ T' h', W l Z a0 EL nw own bytes ml ret R κ T' h' M cells slots → Wr h h' a sl v → Go Z EL nw R κ Q (T'.setTop G)) : Go Z EL nw R κ Q U := by
  obtain ⟨hC, vm0, k0, locs, X, h1, h2, h3, h4, h5, h6, h7, h8, h9, r⟩ := w
  obtain ⟨T', h', X', e', Wr', k⟩ := st ((ks κ).setVm vm0) locs hC.1 hC.2.1 hC.2.2.1 h2 h3 h6 X
  obtain ⟨a1, a2, a3⟩ := h8 a ha
  refine Go.via k (g T' h' ⟨hC, vm0, k0, _, X', Fr.snoc X' h1 a1, h2, h3, h4, by rw [Wr'.size]; exact h5, e', h7.trans (CHr.wr Wr' a3 h7.1), fun x hx => ?_, h9.wr Wr' a1, r⟩ Wr')
  obtain ⟨a, b, c⟩ := h8 x hx
  exact ⟨a, by rw [Wr'.size]; exact b, Safe.wr Wr' a3 h7.1 c⟩
/-- old places among ws were written, at once -/
theorem W.kept (w : W l Z a0 EL nw own bytes ml ret R κ T h M cells slots) {ws : List Addr} (hws : ∀ x ∈ ws, x ∈ M) {P : Heap → Prop} (st : ∀ (s : State) (locs : List Loc), (kp κ).tables.exec = Jvm.exec → (kc κ).code = bytes → (kc κ).maxLocals = ml → Z.Warmed39 s.vm → s.vm.findClass own = some (km κ).cls → T.heap = h → Fr Z.heap.size locs → Stand (kp κ) l (ke κ) R s (km κ) (ka κ) (kb κ) (kt κ) (kc κ) T locs cells slots →
      ∃ T' h' L, Stand (kp κ) l (ke κ) R s (km κ) (ka κ) (kb κ) (kt κ) (kc κ) T' L cells slots ∧ T'.heap = h' ∧ Fr Z.heap.size L ∧ Keep h h' ws ∧ P h' ∧ ∀ t, Steps (kp κ).tables (ke κ) (kb κ) (T'.setTop G) t → Steps (kp κ).tables (ke κ) (kb κ) U t)
    (g : ∀ T' h', W l Z a0 EL nw own bytes ml ret R κ T' h' M cells slots → Keep h h' ws → P h' → Go Z EL nw R κ Q (T'.setTop G)) : Go Z EL nw R κ Q U := by
  obtain ⟨hC, vm0, k0, locs, X, h1, h2, h3, h4, h5, h6, h7, h8, h9, r⟩ := w
  obtain ⟨T', h', L, X', e', N', K, hP, k⟩ := st ((ks κ).setVm vm0) locs hC.1 hC.2.1 hC.2.2.1 h2 h3 h6 h1 X
  have hs : ∀ x ∈ ws, Safe Z EL vm0 h x := fun x hx => (h8 x (hws x hx)).2.2
  refine Go.via k (g T' h' ⟨hC, vm0, k0, L, X', N', h2, h3, h4, Nat.le_trans h5 K.1, e', h7.trans (CHr.keep K hs h7.1), fun x hx => ?_, h9.keep K (fun x hx => (h8 x (hws x hx)).1), r⟩ K hP)
  obtain ⟨a, b, c⟩ := h8 x hx
  exact ⟨a, Nat.lt_of_lt_of_le b K.1, Safe.keep K hs h7.1 c⟩
/-- the walk leaves -/
theorem W.leave (w : W l Z a0 EL nw own bytes ml ret R κ T h M cells slots) {v : Option Value} (hv : ret = none → v = none) (hc : cells ≤ R.cells) (hs : slots ≤ R.slots) {M' : List Addr} (hM : ∀ x ∈ M', x ∈ M) (hq : Q v h M')
    (st : ∀ (s : State) (locs : List Loc) (fs : List Frame), (kp κ).tables.exec = Jvm.exec → (kc κ).code = bytes → (kt κ).sig.returnType = ret → Stand (kp κ) l (ke κ) R s (km κ) (ka κ) (kb κ) (kt κ) (kc κ) T locs cells slots →
      (∀ (f : JFrame) (acts : List Action), f.method = km κ → f.locked = none → f.entered = [] → (doReturn (ke κ) (T.setTop f) acts v).1 = T.setFrames fs) → Steps (kp κ).tables (ke κ) (kb κ) U (T.setFrames fs)) : Go Z EL nw R κ Q U := by
  obtain ⟨⟨hx, hby, hml, hret, hlk, hEL⟩, vm0, k0, locs, X, h1, h2, h3, h4, h5, h6, h7, h8, h9, h10⟩ := w
  obtain ⟨fs, l1, l2, l3, l4, l5⟩ := X.leave (v := v) (fun q => hv (hret.symm.trans q)) hlk
  have A := CHv.at X h2 hEL h7.1
  obtain ⟨b1, b2, b3⟩ := h4.ended (U := T.setFrames fs) l4 (by show k0 ≤ T.heap.size; rw [h6]; exact h5) l5
  refine ⟨T.setFrames fs, _, st _ locs fs hx hby hret X l1, l2, l3, v, locs, M', rfl, ?_, h1, ?_, ?_, ?_, ⟨⟨⟨_, rfl⟩, b1, b2, b3.mono hc hs⟩, fun q => ⟨⟨_, rfl⟩, State.WarmedH.trans (h10 q) l4, b3.mono hc hs⟩⟩⟩
  · show Q v T.heap M'
    rw [h6]; exact hq
  · show CHr Z EL (ks κ).vm (ks κ).heap T.vm T.heap
    rw [h6]; exact h7.trans A
  · intro x hx
    obtain ⟨a, b, c⟩ := h8 x (hM x hx)
    show Z.heap.size ≤ x ∧ x < T.heap.size ∧ Safe Z EL T.vm T.heap x
    rw [h6]; exact ⟨a, b, A.safe b c⟩
  · show Old Z Z.heap.size T.heap
    rw [h6]; exact h9
/-- entering a body -/
theorem of_body {y : MethodName} {rm : Room} {as : List Value} {h0 : Heap} (hp : plainFor y = true) (hEL : EW Z a0 EL) (hO : Old Z Z.heap.size h0) {Ls : Array Slot} (hent : ∀ m, entryFrame m as.toArray ml = mkF m 0 Ls [])
    (body : ∀ (κ : Ka) (T : State), W l Z a0 EL nw y.cls bytes ml ret rm κ T h0 M 0 0 → (kt κ).name = y.name → Go Z EL nw rm κ Q (T.setTop (mkF (km κ) 0 Ls []))) : Ctr l Z EL nw y bytes ml ret rm as h0 M Q := by
  refine MetFree.of_bodySF hp hisR ?_
  intro p e s m args below meth c s₁ Bd hml0 hP hK
  obtain ⟨rfl, hZ, hh, hCH, hMu⟩ := hP
  have X0 : Stand p l e rm s m as.toArray below meth c s₁ [] 0 0 := Stand.of_body Bd
  have e0 : s₁.heap = h0 := by rw [← hh, Bd.state]; rfl
  have hnm := (name_of_methodNamed Bd.named Bd.method).1
  have w : W l Z a0 EL nw y.cls bytes ml ret rm (p, e, s, m, below, meth, c, as.toArray) s₁ h0 M 0 0 :=
    ⟨⟨Bd.exec, Bd.bytes, hml0, Bd.returns, BodyLoose.notSynchronized Bd, hEL⟩, s.vm, 0, [], X0, Fr.nil _, hZ, findClass_of_methodNamed Bd.named, (State.WarmedH.refl s).since 0, Nat.zero_le _, e0, hh ▸ CHr.refl (hh ▸ hCH), hMu, hO, fun _ => State.WarmedH.refl s⟩
  have g := body _ s₁ w hnm
  rw [← hent] at g
  exact g
end Base
section Calls
variable {l : Launch} {Z : State} {a0 : Array Value} {EL : List (String × Nat)} {nw : Bool} {own : String} {bytes : ByteArray} {ml : Nat} {ret : Option FieldType} {R : Room} {κ : Ka} {T : State} {h : Heap} {M : List Addr} {cells slots : Nat} {Q : Option Value → Heap → List Addr → Prop} {U U' : State} {G : JFrame}
/-- who pays a call of y with the arguments as at the heap h -/
def Pay (l : Launch) (Z : State) (EL : List (String × Nat)) (nw : Bool) (y : MethodName) (len kf kl kn kw : Nat) (as : List Value) (h : Heap) (M : List Addr) (Q : Option Value → Heap → List Addr → Prop) : Prop :=
  ∀ (R : Room) (p : Program) (e : Env) (below : List Frame) (s : State) (vm0 : Vm) (args : Array Value) (Wd : Nat), Z.Warmed39 vm0 → CHv Z EL vm0 h → Mut Z EL vm0 h M → kf ≤ R.frames → Wd + kl ≤ R.locals →
    BackS l R p e below (s.setVm vm0) args y len Wd (fun P a => a = as.toArray ∧ P.U.heap = h ∧ P.cells + kn ≤ R.cells ∧ P.slots + kw ≤ R.slots)
      (fun P _ v B => ∃ L M', Q v B.U.heap M' ∧ Fr Z.heap.size L ∧ B.locs = P.locs ++ L ∧ B.cells = P.cells + kn ∧ B.slots = P.slots + kw ∧ CHr Z EL vm0 h B.U.vm B.U.heap ∧ Mut Z EL B.U.vm B.U.heap M' ∧ Old Z Z.heap.size B.U.heap ∧ (nw = true → (s.setVm vm0).WarmedH B.U.vm))
theorem Mut.at {vm0 vm1 : Vm} {h' : Heap} (C : CHr Z EL vm0 h vm1 h') (m : Mut Z EL vm0 h M) : Mut Z EL vm1 h' M := fun x hx => by
  obtain ⟨a, b, c⟩ := m x hx
  exact ⟨a, Nat.lt_of_lt_of_le b C.2.1, C.safe b c⟩
theorem Ctr.pay {y : MethodName} {rm : Room} {as : List Value} {len : Nat} (hM : Ctr l Z EL nw y bytes ml ret rm as h M Q) (hEL : EW Z a0 EL) (wc : (Cond.code y bytes ml ret).before a0 Z = true) (wz : (Cond.initialized y.cls).before a0 Z = true) {kf kl : Nat} (ekf : rm.frames + 1 ≤ kf) (ekl : ml + 11 + rm.locals ≤ kl) :
    Pay l Z EL nw y len kf kl rm.cells rm.slots as h M Q := by
  intro R p e below s vm0 args Wd hZ H hMu hf hl
  refine BackS.of_freeW (bytes := bytes) (maxL := ml) (ret := ret) (E := fun _ first o t L k n => k = rm.cells ∧ n = rm.slots ∧ ∃ v M', o = .returned v ∧ Q v t.heap M' ∧ Fr Z.heap.size L ∧ CHr Z EL first.vm first.heap t.vm t.heap ∧ Mut Z EL t.vm t.heap M' ∧ Old Z Z.heap.size t.heap ∧ (nw = true → first.WarmedH t.vm)) hM (Nat.le_trans ekf hf) (by show Wd + (ml + 11) + rm.locals ≤ R.locals; omega)
    (fun m meth c A a Y hp => have hU : Z.Warmed39 A.U.vm := wtrans (s := s.setVm vm0) hZ Y.warmed
      ⟨by show (Cond.and _ .tt).before a A.U = true; rw [Cond.before_and, mv hU wc]; rfl, mv hU wc, mv hU wz, hp.2.2.1, hp.2.2.2⟩)
    (fun m meth c A a g mk Y hp => ⟨hp.1, wtrans (s := s.setVm vm0) hZ Y.warmed, hp.2.1, (CHv.at Y hZ hEL H).1, (show Mut Z EL A.U.vm h M from hMu.at (CHv.at Y hZ hEL H))⟩) (fun _ _ _ _ _ _ _ _ _ => trivial)
    (fun _ _ _ _ ⟨v, L, M', h1, h2, h3, h4, h5, h6, h7⟩ => ⟨L, _, _, h7.1, rfl, rfl, v, M', h1, h2, h3, h4, h5, h6, fun q => (h7.2 q).2.1⟩)
    (fun m meth c A a g mk v t L k n Y hp _ _ ⟨e1, e2, v', M', e3, e4, e5, e6, e7, e8, e9⟩ => by
      cases e3; subst e1 e2
      refine ⟨L, M', e4, e5, rfl, rfl, rfl, (CHv.at Y hZ hEL H).trans ?_, e7, e8, fun q => State.WarmedH.trans Y.warmed (e9 q)⟩
      rw [← hp.2.1]; exact e6)
theorem Pay.of_back {y : MethodName} {as : List Value} {len kf kl kn kw : Nat} {Q' : Option Value → Heap → List Loc → Prop} {ws : List Addr} (hEL : EW Z a0 EL) (hO : Old Z Z.heap.size h)
    (hB : ∀ (R : Room) (p : Program) (e : Env) (below : List Frame) (s : State) (args : Array Value) (Wd : Nat), Z.Warmed39 s.vm → kf ≤ R.frames → Wd + kl ≤ R.locals →
      Back l R p e below s args y len Wd (fun P a => a = as.toArray ∧ P.U.heap = h ∧ P.cells + kn ≤ R.cells ∧ P.slots + kw ≤ R.slots) (fun P _ v B => ∃ L, Q' v B.U.heap L ∧ B.locs = P.locs ++ L ∧ B.cells = P.cells + kn ∧ B.slots = P.slots + kw))
    (hws : ∀ x ∈ ws, x ∈ M) (hQ : ∀ v h' L, Q' v h' L → Q v h' [] ∧ Fr Z.heap.size L ∧ Keep h h' ws) : Pay l Z EL nw y len kf kl kn kw as h M Q := by
  intro R p e below s vm0 args Wd hZ H hMu hf hl m meth c A g ig mk a X hg hsize hdg hW hn hp
  obtain ⟨v, B, X', ⟨L, q1, q2, q3, q4⟩, st⟩ := hB R p e below (s.setVm vm0) args Wd hZ hf hl m meth c A g ig mk a X hg hsize hdg hW hn hp
  obtain ⟨r1, r2, K⟩ := hQ _ _ _ q1
  have C1 := CHr.keep K (fun x hx => (hMu x (hws x hx)).2.2) H
  have C2 := C1.trans (CHv.at X' hZ hEL C1.1)
  refine ⟨v, B, X'.retabled X'.warmed.wide, X'.warmed.since _, by rw [hp.2.1]; exact K.1, ⟨L, [], r1, r2, q2, q3, q4, C2, (fun x hx => nomatch hx), hO.keep K (fun x hx => (hMu x (hws x hx)).1), fun _ => X'.warmed⟩, st⟩
/-- a call was made and paid -/
theorem W.called (w : W l Z a0 EL nw own bytes ml ret R κ T h M cells slots) {y : MethodName} {len kf kl kn kw : Nat} {as : List Value} {M0 : List Addr} {Qc : Option Value → Heap → List Addr → Prop} (P : Pay l Z EL nw y len kf kl kn kw as h M0 Qc) (hM0 : ∀ x ∈ M0, x ∈ M) {Wd : Nat} (hf : kf ≤ R.frames) (hlo : Wd + kl ≤ R.locals) (hcl : cells + kn ≤ R.cells) (hsl : slots + kw ≤ R.slots) {F : Option Value → JFrame}
    (st : ∀ (s : State) (locs : List Loc) (Post : Pt → Array Value → Option Value → Pt → Prop), (kp κ).tables.exec = Jvm.exec → (kc κ).code = bytes → (kc κ).maxLocals = ml → Z.Warmed39 s.vm → s.vm.findClass own = some (km κ).cls → T.heap = h → Stand (kp κ) l (ke κ) R s (km κ) (ka κ) (kb κ) (kt κ) (kc κ) T locs cells slots →
      BackS l R (kp κ) (ke κ) (kb κ) s (ka κ) y len Wd (fun P a => a = as.toArray ∧ P.U.heap = h ∧ P.cells + kn ≤ R.cells ∧ P.slots + kw ≤ R.slots) Post →
      ∃ (v : Option Value) (vm₁ : Vm) (B : Pt), s.WarmedH vm₁ ∧ Stand (kp κ) l (ke κ) R (s.setVm B.U.vm) (km κ) (ka κ) (kb κ) (kt κ) (kc κ) B.U B.locs B.cells B.slots ∧ s.Since B.U.vm B.U.heap.size ∧ T.heap.size ≤ B.U.heap.size ∧ Post ⟨T.setVm vm₁, locs, cells, slots⟩ as.toArray v B ∧ Steps (kp κ).tables (ke κ) (kb κ) U (B.U.setTop (F v)))
    (g : ∀ v T' h' M', W l Z a0 EL nw own bytes ml ret R κ T' h' (M' ++ M) (cells + kn) (slots + kw) → Qc v h' M' → Go Z EL nw R κ Q (T'.setTop (F v))) : Go Z EL nw R κ Q U := by
  obtain ⟨hC, vm0, k0, locs, X, h1, h2, h3, h4, h5, h6, h7, h8, h9, h10⟩ := w
  have hK := P R (kp κ) (ke κ) (kb κ) (ks κ) vm0 (ka κ) Wd h2 h7.1 (fun x hx => h8 x (hM0 x hx)) hf hlo
  obtain ⟨v, vm₁, ⟨T', L', c', n'⟩, hW, X', hS, hg, ⟨L, M', q1, q2, q3, q4, q5, q6, q7, q8, q9⟩, k⟩ := st ((ks κ).setVm vm0) locs _ hC.1 hC.2.1 hC.2.2.1 h2 h3 h6 X hK
  dsimp only [Pt.U, Pt.locs, Pt.cells, Pt.slots] at X' hS hg q1 q3 q4 q5 q6 q7 q8 q9 k
  subst q3 q4 q5
  refine Go.tr k (g v T' T'.heap M' ⟨hC, T'.vm, T'.heap.size, _, X', h1.app q2, State.Warmed39.trans (t := (ks κ).setVm vm0) h2 hS.1, ?_, h4.trans hS (by rw [← h6] at h5; exact Nat.le_trans h5 hg), Nat.le_refl _, rfl, h7.trans q6, fun x hx => ?_, q8, fun q => State.WarmedH.trans (h10 q) (q9 q)⟩ q1)
  · rw [hS.1.alike.findClass]; exact h3
  · rcases List.mem_append.mp hx with hx | hx
    · exact q7 x hx
    · exact (h8.at q6) x hx
theorem mr0 (m : MethodId) (pc : Nat) (Ls : Array Slot) (S : List Value) : (mkF m pc Ls S).monitorRoom = 0 := rfl
theorem W.callS (w : W l Z a0 EL nw own bytes ml ret R κ T h M cells slots) {index : Nat} {y : MethodName} {yb : ByteArray} {yl : Nat} {yr : Option FieldType} (w1 : (Cond.methodLink own index y).before a0 Z = true) (w2 : (Cond.static y).before a0 Z = true) (w3 : (Cond.initialized y.cls).before a0 Z = true) (w4 : (Cond.code y yb yl yr).before a0 Z = true)
    (hy : y.cls ≠ "java/lang/invoke/MethodHandle" ∧ y.cls ≠ "java/lang/invoke/VarHandle") {ps : List FieldType} {rt : Option FieldType} (hd : parseMethodDescriptor y.desc = some ⟨ps, rt⟩)
    {kf kl kn kw : Nat} {as : List Value} {M0 : List Addr} {Qc : Option Value → Heap → List Addr → Prop} (P : Pay l Z EL nw y 3 kf kl kn kw as h M0 Qc) (hM0 : ∀ x ∈ M0, x ∈ M) {pc pc' : Nat} {Ls : Array Slot} {S rest : List Value} (hdg : decode bytes pc = .ok (.invokestatic index, 3)) (hp : pc + 3 = pc') (hsz : Ls.size = ml) (hln : as.length = ps.length) (hst : S = as.reverse ++ rest)
    {Wd : Nat} (hwd : (rest.map fun v => v.category).sum = Wd) (hf : kf ≤ R.frames) (hlo : Wd + kl ≤ R.locals) (hcl : cells + kn ≤ R.cells) (hsl : slots + kw ≤ R.slots)
    (g : ∀ v T' h' M', W l Z a0 EL nw own bytes ml ret R κ T' h' (M' ++ M) (cells + kn) (slots + kw) → Qc v h' M' → Go Z EL nw R κ Q (T'.setTop (mkF (km κ) pc' Ls (v.toList ++ rest)))) : Go Z EL nw R κ Q (T.setTop (mkF (km κ) pc Ls S)) := by
  subst hp
  refine w.called P hM0 hf hlo hcl hsl (F := fun v => mkF (km κ) (pc + 3) Ls (v.toList ++ rest)) (fun s locs Post hx hby hml hZ hown eT X hK => ?_) g
  exact callSS X hx hown (mvT hZ w1) (mvT hZ w2) (mvT hZ w3) (mvT hZ w4) hy hK (g := mkF (km κ) pc Ls S) rfl (hsz.trans hml.symm) (lenOf hd hln) hst (by rw [mr0]; omega) (hb hby hdg) (fun vm₁ _ => ⟨rfl, eT, hcl, hsl⟩)
theorem W.callI (w : W l Z a0 EL nw own bytes ml ret R κ T h M cells slots) {index : Nat} {y : MethodName} {yb : ByteArray} {yl : Nat} (w1 : (Cond.methodLink own index y).before a0 Z = true) (w2 : (Cond.instanceMethod y).before a0 Z = true) (w4 : (Cond.code y yb yl none).before a0 Z = true) (hy1 : y.name = "<init>")
    (hy : y.cls ≠ "java/lang/invoke/MethodHandle" ∧ y.cls ≠ "java/lang/invoke/VarHandle") {ps : List FieldType} {rt : Option FieldType} (hd : parseMethodDescriptor y.desc = some ⟨ps, rt⟩)
    {kf kl kn kw : Nat} {a : Addr} {as : List Value} {M0 : List Addr} {Qc : Option Value → Heap → List Addr → Prop} (P : Pay l Z EL nw y 3 kf kl kn kw (.ref a :: as) h M0 Qc) (hM0 : ∀ x ∈ M0, x ∈ M) {pc pc' : Nat} {Ls : Array Slot} {S rest : List Value} (hdg : decode bytes pc = .ok (.invokespecial index, 3)) (hp : pc + 3 = pc') (hsz : Ls.size = ml) (hln : as.length = ps.length) (hst : S = as.reverse ++ .ref a :: rest)
    {Wd : Nat} (hwd : (rest.map fun v => v.category).sum = Wd) (hf : kf ≤ R.frames) (hlo : Wd + kl ≤ R.locals) (hcl : cells + kn ≤ R.cells) (hsl : slots + kw ≤ R.slots)
    (g : ∀ v T' h' M', W l Z a0 EL nw own bytes ml ret R κ T' h' (M' ++ M) (cells + kn) (slots + kw) → Qc v h' M' → Go Z EL nw R κ Q (T'.setTop (mkF (km κ) pc' Ls (v.toList ++ rest)))) : Go Z EL nw R κ Q (T.setTop (mkF (km κ) pc Ls S)) := by
  subst hp
  refine w.called P hM0 hf hlo hcl hsl (F := fun v => mkF (km κ) (pc + 3) Ls (v.toList ++ rest)) (fun s locs Post hx hby hml hZ hown eT X hK => ?_) g
  exact X.specialBackS hx hy1 hown (mvT hZ w1) (mvT hZ w2) (mvT hZ w4) hy hK (g := mkF (km κ) pc Ls S) rfl (hsz.trans hml.symm) (Steps.refl _) (lenOf hd hln) hst (by rw [mr0]; omega) (hb hby hdg) (fun vm₁ _ => ⟨rfl, eT, hcl, hsl⟩)
theorem W.callV (w : W l Z a0 EL nw own bytes ml ret R κ T h M cells slots) {index : Nat} {C : String} {y z : MethodName} (w1 : (Cond.methodLink own index y).before a0 Z = true) (w2 : (Cond.declares y).before a0 Z = true) (nf : ∀ (s : State), Z.Warmed39 s.vm → NotFace s y) (w3 : (Cond.selects C y z).before a0 Z = true) (w4 : (Cond.instanceMethod z).before a0 Z = true)
    (hy : y.cls ≠ "java/lang/invoke/MethodHandle" ∧ y.cls ≠ "java/lang/invoke/VarHandle") {ps : List FieldType} {rt : Option FieldType} (hd : parseMethodDescriptor y.desc = some ⟨ps, rt⟩) {a : Addr} (E : Exa Z h a C)
    {kf kl kn kw : Nat} {as : List Value} {M0 : List Addr} {Qc : Option Value → Heap → List Addr → Prop} (P : Pay l Z EL nw z 3 kf kl kn kw (.ref a :: as) h M0 Qc) (hM0 : ∀ x ∈ M0, x ∈ M) {pc pc' : Nat} {Ls : Array Slot} {S rest : List Value} (hdg : decode bytes pc = .ok (.invokevirtual index, 3)) (hp : pc + 3 = pc') (hsz : Ls.size = ml) (hln : as.length = ps.length) (hst : S = as.reverse ++ .ref a :: rest)
    {Wd : Nat} (hwd : (rest.map fun v => v.category).sum = Wd) (hf : kf ≤ R.frames) (hlo : Wd + kl ≤ R.locals) (hcl : cells + kn ≤ R.cells) (hsl : slots + kw ≤ R.slots)
    (g : ∀ v T' h' M', W l Z a0 EL nw own bytes ml ret R κ T' h' (M' ++ M) (cells + kn) (slots + kw) → Qc v h' M' → Go Z EL nw R κ Q (T'.setTop (mkF (km κ) pc' Ls (v.toList ++ rest)))) : Go Z EL nw R κ Q (T.setTop (mkF (km κ) pc Ls S)) := by
  subst hp
  refine w.called P hM0 hf hlo hcl hsl (F := fun v => mkF (km κ) (pc + 3) Ls (v.toList ++ rest)) (fun s locs Post hx hby hml hZ hown eT X hK => ?_) g
  obtain ⟨cB, kB, q1, q2, q3⟩ := isOf hZ eT E
  exact X.virtualBackS hx hown (mvT hZ w1) (mvT hZ w2) (nf s hZ) (mvT hZ w3) (mvT hZ w4) hy hK q1 q3 (g := mkF (km κ) pc Ls S) rfl (hsz.trans hml.symm) (Steps.refl _) (lenOf hd hln) hst (by rw [mr0]; omega) (hb hby hdg) (fun vm₁ _ => ⟨rfl, eT, hcl, hsl⟩)
theorem W.callU (w : W l Z a0 EL nw own bytes ml ret R κ T h M cells slots) {index : Nat} {K : String} {y : MethodName} {yb : ByteArray} {yl : Nat} {yr : Option FieldType} (w1 : (Cond.methodLink own index y).before a0 Z = true) (w2 : (Cond.sameMethod y.cls y.cls y.name y.desc).before a0 Z = true) (w3 : (Cond.instanceMethod y).before a0 Z = true) (w4 : (Cond.superclass own y.cls).before a0 Z = true) (w5 : (Cond.code y yb yl yr).before a0 Z = true) (hn : y.name ≠ "<init>")
    {ps : List FieldType} {rt : Option FieldType} (hd : parseMethodDescriptor y.desc = some ⟨ps, rt⟩) {a : Addr} (F : Ins Z h a K true)
    {kf kl kn kw : Nat} {as : List Value} {M0 : List Addr} {Qc : Option Value → Heap → List Addr → Prop} (P : Pay l Z EL nw y 3 kf kl kn kw (.ref a :: as) h M0 Qc) (hM0 : ∀ x ∈ M0, x ∈ M) {pc pc' : Nat} {Ls : Array Slot} {S rest : List Value} (hdg : decode bytes pc = .ok (.invokespecial index, 3)) (hp : pc + 3 = pc') (hsz : Ls.size = ml) (hln : as.length = ps.length) (hst : S = as.reverse ++ .ref a :: rest)
    {Wd : Nat} (hwd : (rest.map fun v => v.category).sum = Wd) (hf : kf ≤ R.frames) (hlo : Wd + kl ≤ R.locals) (hcl : cells + kn ≤ R.cells) (hsl : slots + kw ≤ R.slots)
    (g : ∀ v T' h' M', W l Z a0 EL nw own bytes ml ret R κ T' h' (M' ++ M) (cells + kn) (slots + kw) → Qc v h' M' → Go Z EL nw R κ Q (T'.setTop (mkF (km κ) pc' Ls (v.toList ++ rest)))) : Go Z EL nw R κ Q (T.setTop (mkF (km κ) pc Ls S)) := by
  subst hp
  refine w.called P hM0 hf hlo hcl hsl (F := fun v => mkF (km κ) (pc + 3) Ls (v.toList ++ rest)) (fun s locs Post hx hby hml hZ hown eT X hK => ?_) g
  exact superBackS X hx hZ hown w1 w2 w3 w4 hn hK eT F (g := mkF (km κ) pc Ls S) rfl (hsz.trans hml.symm) w5 (lenOf hd hln) hst (by rw [mr0]; omega) (hb hby hdg) (fun vm₁ _ => ⟨rfl, eT, hcl, hsl⟩)
theorem W.callF (w : W l Z a0 EL nw own bytes ml ret R κ T h M cells slots) {index count : Nat} {C : String} {y z : MethodName} (w1 : (Cond.methodLink own index y).before a0 Z = true) (w2 : (Cond.declares y).before a0 Z = true) (w3 : (Cond.interfaceMethod y.cls y.cls y.name y.desc).before a0 Z = true) (w4 : (Cond.selects C y z).before a0 Z = true) (w5 : (Cond.instanceMethod z).before a0 Z = true)
    (w6 : (Cond.publicMethod z).before a0 Z = true) (w7 : (Cond.unhidden C y.name y.desc).before a0 Z = true) (w8 : (Cond.castable C y.cls).before a0 Z = true) (k3 : ((Cond.interfaceMethod y.cls y.cls y.name y.desc).onTables && (Cond.interfaceMethod y.cls y.cls y.name y.desc).keepsFace) = true)
    (hy : y.cls ≠ "java/lang/invoke/MethodHandle" ∧ y.cls ≠ "java/lang/invoke/VarHandle") {ps : List FieldType} {rt : Option FieldType} (hd : parseMethodDescriptor y.desc = some ⟨ps, rt⟩) {a : Addr} (E : Exa Z h a C)
    {kf kl kn kw : Nat} {as : List Value} {M0 : List Addr} {Qc : Option Value → Heap → List Addr → Prop} (P : Pay l Z EL nw z 5 kf kl kn kw (.ref a :: as) h M0 Qc) (hM0 : ∀ x ∈ M0, x ∈ M) {pc pc' : Nat} {Ls : Array Slot} {S rest : List Value} (hdg : decode bytes pc = .ok (.invokeinterface index count, 5)) (hp : pc + 5 = pc') (hsz : Ls.size = ml) (hln : as.length = ps.length) (hst : S = as.reverse ++ .ref a :: rest)
    {Wd : Nat} (hwd : (rest.map fun v => v.category).sum = Wd) (hf : kf ≤ R.frames) (hlo : Wd + kl ≤ R.locals) (hcl : cells + kn ≤ R.cells) (hsl : slots + kw ≤ R.slots)
    (g : ∀ v T' h' M', W l Z a0 EL nw own bytes ml ret R κ T' h' (M' ++ M) (cells + kn) (slots + kw) → Qc v h' M' → Go Z EL nw R κ Q (T'.setTop (mkF (km κ) pc' Ls (v.toList ++ rest)))) : Go Z EL nw R κ Q (T.setTop (mkF (km κ) pc Ls S)) := by
  subst hp
  refine w.called P hM0 hf hlo hcl hsl (F := fun v => mkF (km κ) (pc + 5) Ls (v.toList ++ rest)) (fun s locs Post hx hby hml hZ hown eT X hK => ?_) g
  obtain ⟨cB, kB, q1, q2, q3⟩ := isOf hZ eT E
  exact X.interfaceBackS hx hown (mvT hZ w1) (mvT hZ w2) (mvT hZ w3 k3) (mvT hZ w4) (mvT hZ w5) (mvT hZ w6) (mvT hZ w7) (mvT hZ w8) hy hK q1 q2 q3 (g := mkF (km κ) pc Ls S) rfl (hsz.trans hml.symm) (Steps.refl _) (lenOf hd hln) hst (by rw [mr0]; omega) (hb hby hdg) (fun vm₁ _ => ⟨rfl, eT, hcl, hsl⟩)
/-- a private method is declared too -/
theorem decl_of {y : MethodName} {yb : ByteArray} {yl : Nat} {yr : Option FieldType} (w1 : (Cond.instanceMethod y).before a0 Z = true) (w2 : (Cond.code y yb yl yr).before a0 Z = true) : (Cond.declares y).before a0 Z = true := by
  obtain ⟨m, meth, h1, h2, h3, -⟩ := Cond.instanceMethod_spec w1
  obtain ⟨meth', c, q1, -, -, -, -, -, -, hsig⟩ := Cond.code_spec h1 w2
  cases h2.symm.trans q1
  simp [Cond.before, Cond.holds, Cond.value, h1, h2, h3, hsig]
/-- the lookup from a class finds what the class declares itself -/
theorem sm_of {C : String} {y y' : MethodName} (w1 : (Cond.declares y).before a0 Z = true) (w2 : (Cond.selects C y' y').before a0 Z = true) (hc : y'.cls = y.cls) (hy : y.cls ≠ "java/lang/invoke/MethodHandle" ∧ y.cls ≠ "java/lang/invoke/VarHandle") : (Cond.sameMethod y.cls y.cls y.name y.desc).before a0 Z = true := by
  obtain ⟨m, meth, h1, h2, -, -⟩ := Cond.declares_spec w1
  obtain ⟨c2, r2, m2, q1, q2, q3, q4, kP, hkP, hkPi⟩ := Cond.selects_spec w2
  have hf := State.methodFound?_of_named h1 hy
  have hc1 := findClass_of_methodNamed h1
  have hc2 := findClass_of_methodNamed q3
  rw [hc] at hc2
  have e : m2.cls = m.cls := Option.some.inj (hc2.symm.trans hc1)
  rw [e] at hkP
  have h1' : Z.methodNamed? ⟨y.cls, y.name, y.desc⟩ = some m := h1
  simp [Cond.before, Cond.holds, Cond.value, hc1, hf, h1', hkP, hkPi]
theorem nfSel {C : String} {y : MethodName} (w : (Cond.selects C y y).before a0 Z = true) : ∀ (s : State), Z.Warmed39 s.vm → NotFace s y := fun s hZ => notFace_of_selects (args := #[]) (mvT hZ w)
theorem nfCls {C : String} {y y' : MethodName} (w : (Cond.selects C y' y').before a0 Z = true) (hc : y'.cls = y.cls) : ∀ (s : State), Z.Warmed39 s.vm → NotFace s y := fun s hZ r0 h0 => by
  obtain ⟨c2, r2, m2, q1, q2, q3, q4, kP, hkP, hkPi⟩ := Cond.selects_spec (mvT (args := #[]) hZ w)
  have a := findClass_of_methodNamed h0
  have b := findClass_of_methodNamed q3
  rw [hc] at b
  have e : m2.cls = r0.cls := Option.some.inj (b.symm.trans a)
  rw [e] at hkP
  exact ⟨kP, hkP, hkPi⟩
theorem nfSup {S : String} {y : MethodName} (w : (Cond.superclass y.cls S).before a0 Z = true) : ∀ (s : State), Z.Warmed39 s.vm → NotFace s y := fun s hZ => nf_super (args := #[]) (mvT hZ w)
end Calls
section Heap1
variable {l : Launch} {Z : State} {a0 : Array Value} {EL : List (String × Nat)} {nw : Bool} {own : String} {bytes : ByteArray} {ml : Nat} {ret : Option FieldType} {R : Room} {κ : Ka} {T : State} {h : Heap} {M : List Addr} {cells slots : Nat} {Q : Option Value → Heap → List Addr → Prop} {pc pc' : Nat} {Ls : Array Slot} {S rest : List Value}
theorem W.newO (w : W l Z a0 EL nw own bytes ml ret R κ T h M cells slots) {index n : Nat} {C : String} (w1 : (Cond.classLink own index C).before a0 Z = true) (w2 : (Cond.instantiable C n).before a0 Z = true) (w3 : (Cond.initialized C).before a0 Z = true) (hd : decode bytes pc = .ok (.new index, 3)) (hp : pc + 3 = pc') (hc : cells + 1 ≤ R.cells) (hs : slots + n ≤ R.slots)
    (g : ∀ T' h' a, W l Z a0 EL nw own bytes ml ret R κ T' h' (a :: M) (cells + 1) (slots + n) → Keep h h' [] → h.size ≤ a → Exa Z h' a C → (∀ {O nm d : String} {ty : FieldType}, Laid Z a0 C O nm d → parseFieldDescriptor d = some ty → Fld Z h' a O nm d (defaultValue ty)) → Go Z EL nw R κ Q (T'.setTop (mkF (km κ) pc' Ls (.ref a :: S)))) : Go Z EL nw R κ Q (T.setTop (mkF (km κ) pc Ls S)) := by
  subst hp
  refine w.made (k := 1) (n := n) (P := fun h' => Exa Z h' h.size C ∧ (∀ {O nm d : String} {ty : FieldType}, Laid Z a0 C O nm d → parseFieldDescriptor d = some ty → Fld Z h' h.size O nm d (defaultValue ty))) (G := mkF (km κ) (pc + 3) Ls (.ref h.size :: S)) (fun s locs hx hby hml hZ hown eT X => ?_) (fun T' h' w' K hP => g T' h' _ w' K (Nat.le_refl _) hP.1 hP.2)
  obtain ⟨T', h', X', e', E, A, D, -, st⟩ := RoadKit.newO X hx hZ hown w1 w2 w3 eT (g := mkF (km κ) pc Ls S) rfl (hb hby hd) hc hs
  exact ⟨T', h', X', e', E, A.lt, ⟨A, D⟩, st⟩
theorem W.newP (w : W l Z a0 EL nw own bytes ml ret R κ T h M cells slots) {aty : ArrayType} {ty : FieldType} (hty : newarray.typeOf aty = ty) (w1 : (Cond.arrayClass ty).before a0 Z = true) {n : Int32} (hd : decode bytes pc = .ok (.newarray aty, 2)) (hp : pc + 2 = pc') (hn : ¬ n < 0) {cap : Nat} (hcap : n.toNatClampNeg = cap) (hbig : cap ≤ 67108864) (hc : cells + 1 ≤ R.cells) (hs : slots + cap ≤ R.slots)
    (g : ∀ T' h' a k, W l Z a0 EL nw own bytes ml ret R κ T' h' (a :: M) (cells + 1) (slots + cap) → Keep h h' [] → h.size ≤ a → Arv Z h' a k ty n (List.replicate cap (defaultValue ty)) (defaultValue ty) → Go Z EL nw R κ Q (T'.setTop (mkF (km κ) pc' Ls (.ref a :: S)))) : Go Z EL nw R κ Q (T.setTop (mkF (km κ) pc Ls (.int n :: S))) := by
  subst hp hty
  refine w.made (k := 1) (n := cap) (P := fun h' => ∃ k, Arv Z h' h.size k (newarray.typeOf aty) n (List.replicate cap (defaultValue (newarray.typeOf aty))) (defaultValue (newarray.typeOf aty))) (G := mkF (km κ) (pc + 2) Ls (.ref h.size :: S)) (fun s locs hx hby hml hZ hown eT X => ?_) (fun T' h' w' K hP => g T' h' _ _ w' K (Nat.le_refl _) hP.choose_spec)
  obtain ⟨T', h', k, X', e', E, A, st⟩ := RoadKit.newP X hx hZ w1 eT (g := mkF (km κ) pc Ls (.int n :: S)) rfl (hb hby hd) rfl hn (cap := cap) (Nat.le_of_eq hcap) (by omega) hc hs
  exact ⟨T', h', X', e', E, A.lt, ⟨k, (Arv.new A hn).pad (pad_rep [] (defaultValue (newarray.typeOf aty)) cap)⟩, st⟩
theorem W.newPB (w : W l Z a0 EL nw own bytes ml ret R κ T h M cells slots) {aty : ArrayType} {ty : FieldType} (hty : newarray.typeOf aty = ty) (w1 : (Cond.arrayClass ty).before a0 Z = true) {n : Int32} (hd : decode bytes pc = .ok (.newarray aty, 2)) (hp : pc + 2 = pc') (hn : ¬ n < 0) {len cap : Nat} (hlen : n.toNatClampNeg = len) (hcap : len ≤ cap) (hbig : cap ≤ 67108864) (hc : cells + 1 ≤ R.cells) (hs : slots + cap ≤ R.slots)
    (g : ∀ T' h' a k, W l Z a0 EL nw own bytes ml ret R κ T' h' (a :: M) (cells + 1) (slots + cap) → Keep h h' [] → h.size ≤ a → Arv Z h' a k ty n (List.replicate len (defaultValue ty)) (defaultValue ty) → Go Z EL nw R κ Q (T'.setTop (mkF (km κ) pc' Ls (.ref a :: S)))) : Go Z EL nw R κ Q (T.setTop (mkF (km κ) pc Ls (.int n :: S))) := by
  subst hp hty
  refine w.made (k := 1) (n := cap) (P := fun h' => ∃ k, Arv Z h' h.size k (newarray.typeOf aty) n (List.replicate len (defaultValue (newarray.typeOf aty))) (defaultValue (newarray.typeOf aty))) (G := mkF (km κ) (pc + 2) Ls (.ref h.size :: S)) (fun s locs hx hby hml hZ hown eT X => ?_) (fun T' h' w' K hP => g T' h' _ _ w' K (Nat.le_refl _) hP.choose_spec)
  obtain ⟨T', h', k, X', e', E, A, st⟩ := RoadKit.newP X hx hZ w1 eT (g := mkF (km κ) pc Ls (.int n :: S)) rfl (hb hby hd) rfl hn (cap := cap) (by omega) (by omega) hc hs
  exact ⟨T', h', X', e', E, A.lt, ⟨k, (Arv.new A hn).pad (pad_rep [] (defaultValue (newarray.typeOf aty)) len)⟩, st⟩
theorem W.getF (w : W l Z a0 EL nw own bytes ml ret R κ T h M cells slots) {R0 O n d host : String} {index : Nat} (w1 : (Cond.fieldLink own index R0 n d).before a0 Z = true ∨ (Cond.fieldLinkNest own index R0 n d host).before a0 Z = true) (via : Via Z R0 O n d) {a : Addr} {v : Value} (F : Fld Z h a O n d v) (hd : decode bytes pc = .ok (.getfield index, 3)) (hp : pc + 3 = pc')
    (g : ∀ T', W l Z a0 EL nw own bytes ml ret R κ T' h M cells slots → Go Z EL nw R κ Q (T'.setTop (mkF (km κ) pc' Ls (v :: S)))) : Go Z EL nw R κ Q (T.setTop (mkF (km κ) pc Ls (.ref a :: S))) := by
  subst hp
  exact w.noted (G := mkF (km κ) (pc + 3) Ls (v :: S)) (fun s locs hx hby hml hZ hown eT X => RoadKit.getF X hx hZ hown w1 via eT F (g := mkF (km κ) pc Ls (.ref a :: S)) rfl rfl (hb hby hd)) g
theorem W.getS (w : W l Z a0 EL nw own bytes ml ret R κ T h M cells slots) {R0 O n d : String} {index : Nat} (w1 : (Cond.fieldLink own index R0 n d).before a0 Z = true) (via : Via Z R0 O n d) {v : Value} (F : Sta Z h O n d v) (hd : decode bytes pc = .ok (.getstatic index, 3)) (hp : pc + 3 = pc')
    (g : ∀ T', W l Z a0 EL nw own bytes ml ret R κ T' h M cells slots → Go Z EL nw R κ Q (T'.setTop (mkF (km κ) pc' Ls (v :: S)))) : Go Z EL nw R κ Q (T.setTop (mkF (km κ) pc Ls S)) := by
  subst hp
  exact w.noted (G := mkF (km κ) (pc + 3) Ls (v :: S)) (fun s locs hx hby hml hZ hown eT X => RoadKit.getS (host := "") X hx hZ hown w1 via eT F (g := mkF (km κ) pc Ls S) rfl (hb hby hd)) g
theorem W.putF (w : W l Z a0 EL nw own bytes ml ret R κ T h M cells slots) {R0 O n d host C : String} {index kk : Nat} {ty : FieldType} (w1 : (Cond.fieldLink own index R0 n d).before a0 Z = true ∨ (Cond.fieldLinkNest own index R0 n d host).before a0 Z = true) (via : Via Z R0 O n d) {a : Addr} {v old : Value} (F : Fld Z h a O n d old) (E : Exa Z h a C)
    (L : (Cond.lays C O n d).before a0 Z = true ∨ ((Cond.laysFinal C O n d).before a0 Z = true ∧ own = O ∧ (kt κ).name = "<init>")) (wi : (Cond.instantiable C kk).before a0 Z = true) (hty : parseFieldDescriptor d = some ty) (hn : narrow ty v = v) (hf : fits ty v = true) (ha : a ∈ M) (hd : decode bytes pc = .ok (.putfield index, 3)) (hp : pc + 3 = pc')
    (g : ∀ T' h', W l Z a0 EL nw own bytes ml ret R κ T' h' M cells slots → Wr h h' a (RoadKit.slotOf Z O n d) v → Go Z EL nw R κ Q (T'.setTop (mkF (km κ) pc' Ls S))) : Go Z EL nw R κ Q (T.setTop (mkF (km κ) pc Ls (v :: .ref a :: S))) := by
  subst hp
  exact w.wrote ha (G := mkF (km κ) (pc + 3) Ls S) (fun s locs hx hby hml hZ hown eT X => RoadKit.putF X hx hZ hown w1 via eT F E L wi hty hn hf (g := mkF (km κ) pc Ls (v :: .ref a :: S)) rfl rfl (hb hby hd)) g
theorem W.putFN (w : W l Z a0 EL nw own bytes ml ret R κ T h M cells slots) {R0 O n d C : String} {index kk : Nat} {ty : FieldType} (w1 : (Cond.fieldLink own index R0 n d).before a0 Z = true) (via : Via Z R0 O n d) {a : Addr} {v v' old : Value} (F : Fld Z h a O n d old) (E : Exa Z h a C)
    (L : (Cond.lays C O n d).before a0 Z = true ∨ ((Cond.laysFinal C O n d).before a0 Z = true ∧ own = O ∧ (kt κ).name = "<init>")) (wi : (Cond.instantiable C kk).before a0 Z = true) (hty : parseFieldDescriptor d = some ty) (hn : narrow ty v = v') (hf : fits ty v' = true) (ha : a ∈ M) (hd : decode bytes pc = .ok (.putfield index, 3)) (hp : pc + 3 = pc')
    (g : ∀ T' h', W l Z a0 EL nw own bytes ml ret R κ T' h' M cells slots → Wr h h' a (RoadKit.slotOf Z O n d) v' → Go Z EL nw R κ Q (T'.setTop (mkF (km κ) pc' Ls S))) : Go Z EL nw R κ Q (T.setTop (mkF (km κ) pc Ls (v :: .ref a :: S))) := by
  subst hp
  exact w.wrote ha (G := mkF (km κ) (pc + 3) Ls S) (fun s locs hx hby hml hZ hown eT X => RoadKit.putFN X hx hZ hown w1 via eT F E L wi hty hn hf (g := mkF (km κ) pc Ls (v :: .ref a :: S)) rfl rfl (hb hby hd)) g
theorem W.stC (w : W l Z a0 EL nw own bytes ml ret R κ T h M cells slots) {a : Addr} {k : ClassId} {z j x x' : Int32} (hn : nar .char x = x') {vs : List Value} {dv : Value} (V : Arv Z h a k .char z vs dv) {i : Nat} (hj : j.toNatClampNeg = i) (hj0 : ¬ j < 0 ∧ j < z) (hi : i < vs.length) (ha : a ∈ M) (hd : decode bytes pc = .ok (.castore, 1)) (hp : pc + 1 = pc')
    (g : ∀ T' h', W l Z a0 EL nw own bytes ml ret R κ T' h' M cells slots → Keep h h' [a] → Arv Z h' a k .char z (vs.set i (.int x')) dv → Go Z EL nw R κ Q (T'.setTop (mkF (km κ) pc' Ls S))) : Go Z EL nw R κ Q (T.setTop (mkF (km κ) pc Ls (.int x :: .int j :: .ref a :: S))) := by
  subst hp hn
  obtain ⟨c, A, q, Sz, N, H, Gf⟩ := V
  exact w.wrote ha (G := mkF (km κ) (pc + 1) Ls S) (fun s locs hx hby hml hZ hown eT X => RoadKit.stC X hx hZ eT A (inb_of Sz hj0) (g := mkF (km κ) pc Ls (.int x :: .int j :: .ref a :: S)) rfl rfl (hb hby hd)) (fun T' h' w' W' => g T' h' w' (Keep.of_wr W') (Arv.set A q Sz N H Gf (fits_nar_char _) W' i hj hi))
theorem W.stB (w : W l Z a0 EL nw own bytes ml ret R κ T h M cells slots) {a : Addr} {k : ClassId} {z j x x' : Int32} (hn : nar .byte x = x') {vs : List Value} {dv : Value} (V : Arv Z h a k .byte z vs dv) {i : Nat} (hj : j.toNatClampNeg = i) (hj0 : ¬ j < 0 ∧ j < z) (hi : i < vs.length) (ha : a ∈ M) (hd : decode bytes pc = .ok (.bastore, 1)) (hp : pc + 1 = pc')
    (g : ∀ T' h', W l Z a0 EL nw own bytes ml ret R κ T' h' M cells slots → Keep h h' [a] → Arv Z h' a k .byte z (vs.set i (.int x')) dv → Go Z EL nw R κ Q (T'.setTop (mkF (km κ) pc' Ls S))) : Go Z EL nw R κ Q (T.setTop (mkF (km κ) pc Ls (.int x :: .int j :: .ref a :: S))) := by
  subst hp hn
  obtain ⟨c, A, q, Sz, N, H, Gf⟩ := V
  exact w.wrote ha (G := mkF (km κ) (pc + 1) Ls S) (fun s locs hx hby hml hZ hown eT X => RoadKit.stB X hx hZ eT A (inb_of Sz hj0) (g := mkF (km κ) pc Ls (.int x :: .int j :: .ref a :: S)) rfl rfl (hb hby hd)) (fun T' h' w' W' => g T' h' w' (Keep.of_wr W') (Arv.set A q Sz N H Gf (fits_nar_byte _) W' i hj hi))
theorem W.stI (w : W l Z a0 EL nw own bytes ml ret R κ T h M cells slots) {a : Addr} {k : ClassId} {z j x : Int32} {vs : List Value} {dv : Value} (V : Arv Z h a k .int z vs dv) {i : Nat} (hj : j.toNatClampNeg = i) (hj0 : ¬ j < 0 ∧ j < z) (hi : i < vs.length) (ha : a ∈ M) (hd : decode bytes pc = .ok (.iastore, 1)) (hp : pc + 1 = pc')
    (g : ∀ T' h', W l Z a0 EL nw own bytes ml ret R κ T' h' M cells slots → Keep h h' [a] → Arv Z h' a k .int z (vs.set i (.int x)) dv → Go Z EL nw R κ Q (T'.setTop (mkF (km κ) pc' Ls S))) : Go Z EL nw R κ Q (T.setTop (mkF (km κ) pc Ls (.int x :: .int j :: .ref a :: S))) := by
  subst hp
  obtain ⟨c, A, q, Sz, N, H, Gf⟩ := V
  exact w.wrote ha (G := mkF (km κ) (pc + 1) Ls S) (fun s locs hx hby hml hZ hown eT X => RoadKit.stI X hx hZ eT A (inb_of Sz hj0) (g := mkF (km κ) pc Ls (.int x :: .int j :: .ref a :: S)) rfl rfl (hb hby hd)) (fun T' h' w' W' => g T' h' w' (Keep.of_wr W') (Arv.set A q Sz N H Gf rfl W' i hj hi))
theorem W.stJ (w : W l Z a0 EL nw own bytes ml ret R κ T h M cells slots) {a : Addr} {k : ClassId} {z j : Int32} {x : Int64} {vs : List Value} {dv : Value} (V : Arv Z h a k .long z vs dv) {i : Nat} (hj : j.toNatClampNeg = i) (hj0 : ¬ j < 0 ∧ j < z) (hi : i < vs.length) (ha : a ∈ M) (hd : decode bytes pc = .ok (.lastore, 1)) (hp : pc + 1 = pc')
    (g : ∀ T' h', W l Z a0 EL nw own bytes ml ret R κ T' h' M cells slots → Keep h h' [a] → Arv Z h' a k .long z (vs.set i (.long x)) dv → Go Z EL nw R κ Q (T'.setTop (mkF (km κ) pc' Ls S))) : Go Z EL nw R κ Q (T.setTop (mkF (km κ) pc Ls (.long x :: .int j :: .ref a :: S))) := by
  subst hp
  obtain ⟨c, A, q, Sz, N, H, Gf⟩ := V
  exact w.wrote ha (G := mkF (km κ) (pc + 1) Ls S) (fun s locs hx hby hml hZ hown eT X => RoadKit.stJ X hx hZ eT A (inb_of Sz hj0) (g := mkF (km κ) pc Ls (.long x :: .int j :: .ref a :: S)) rfl rfl (hb hby hd)) (fun T' h' w' W' => g T' h' w' (Keep.of_wr W') (Arv.set A q Sz N H Gf rfl W' i hj hi))
theorem W.alen (w : W l Z a0 EL nw own bytes ml ret R κ T h M cells slots) {a : Addr} {k : ClassId} {ty : FieldType} {z : Int32} {vs : List Value} {dv : Value} (V : Arv Z h a k ty z vs dv) (hd : decode bytes pc = .ok (.arraylength, 1)) (hp : pc + 1 = pc') (g : Go Z EL nw R κ Q (T.setTop (mkF (km κ) pc' Ls (.int z :: S)))) : Go Z EL nw R κ Q (T.setTop (mkF (km κ) pc Ls (.ref a :: S))) := by
  subst hp
  obtain ⟨c, A, q, Sz, N, H, Gf⟩ := V
  obtain ⟨⟨hx, hby, -⟩, vm0, k0, locs, X, -, h2, -, -, -, h6, -⟩ := w
  refine Go.via (X.arraylength hx (by rw [h6]; exact A.1) (State.isArrayOf_alike (T := (ks κ).setVm vm0) h2.alike A.2.1) (g := mkF (km κ) pc Ls (.ref a :: S)) rfl rfl (hb hby hd)) ?_
  rw [len_of Sz N]; exact g
theorem W.ldC (w : W l Z a0 EL nw own bytes ml ret R κ T h M cells slots) {a : Addr} {k : ClassId} {z j : Int32} {vs : List Value} {dv v : Value} (V : Arv Z h a k .char z vs dv) (hj0 : ¬ j < 0 ∧ j < z) (hv : vs.getD j.toNatClampNeg dv = v) (hd : decode bytes pc = .ok (.caload, 1)) (hp : pc + 1 = pc') (g : Go Z EL nw R κ Q (T.setTop (mkF (km κ) pc' Ls (v :: S)))) : Go Z EL nw R κ Q (T.setTop (mkF (km κ) pc Ls (.int j :: .ref a :: S))) := by
  subst hp
  obtain ⟨c, A, q, Sz, N, H, Gf⟩ := V
  obtain ⟨⟨hx, hby, -⟩, vm0, k0, locs, X, -, h2, -, -, -, h6, -⟩ := w
  exact Go.via (X.caload hx (by rw [h6]; exact A.1) (State.isArrayOf_alike (T := (ks κ).setVm vm0) h2.alike A.2.1) A.2.2 (inb_of Sz hj0) (H.at (inb_of Sz hj0) hv) (g := mkF (km κ) pc Ls (.int j :: .ref a :: S)) rfl rfl (hb hby hd)) g
theorem W.ldB (w : W l Z a0 EL nw own bytes ml ret R κ T h M cells slots) {a : Addr} {k : ClassId} {z j : Int32} {vs : List Value} {dv v : Value} (V : Arv Z h a k .byte z vs dv) (hj0 : ¬ j < 0 ∧ j < z) (hv : vs.getD j.toNatClampNeg dv = v) (hd : decode bytes pc = .ok (.baload, 1)) (hp : pc + 1 = pc') (g : Go Z EL nw R κ Q (T.setTop (mkF (km κ) pc' Ls (v :: S)))) : Go Z EL nw R κ Q (T.setTop (mkF (km κ) pc Ls (.int j :: .ref a :: S))) := by
  subst hp
  obtain ⟨c, A, q, Sz, N, H, Gf⟩ := V
  obtain ⟨⟨hx, hby, -⟩, vm0, k0, locs, X, -, h2, -, -, -, h6, -⟩ := w
  exact Go.via (X.baloadBytes hx (by rw [h6]; exact A.1) (State.isArrayOf_alike (T := (ks κ).setVm vm0) h2.alike A.2.1) A.2.2 (inb_of Sz hj0) (H.at (inb_of Sz hj0) hv) (g := mkF (km κ) pc Ls (.int j :: .ref a :: S)) rfl rfl (hb hby hd)) g
theorem W.ldI (w : W l Z a0 EL nw own bytes ml ret R κ T h M cells slots) {a : Addr} {k : ClassId} {z j : Int32} {vs : List Value} {dv v : Value} (V : Arv Z h a k .int z vs dv) (hj0 : ¬ j < 0 ∧ j < z) (hv : vs.getD j.toNatClampNeg dv = v) (hd : decode bytes pc = .ok (.iaload, 1)) (hp : pc + 1 = pc') (g : Go Z EL nw R κ Q (T.setTop (mkF (km κ) pc' Ls (v :: S)))) : Go Z EL nw R κ Q (T.setTop (mkF (km κ) pc Ls (.int j :: .ref a :: S))) := by
  subst hp
  obtain ⟨c, A, q, Sz, N, H, Gf⟩ := V
  obtain ⟨⟨hx, hby, -⟩, vm0, k0, locs, X, -, h2, -, -, -, h6, -⟩ := w
  exact Go.via (X.iaload hx (by rw [h6]; exact A.1) (State.isArrayOf_alike (T := (ks κ).setVm vm0) h2.alike A.2.1) A.2.2 (inb_of Sz hj0) (H.at (inb_of Sz hj0) hv) (g := mkF (km κ) pc Ls (.int j :: .ref a :: S)) rfl rfl (hb hby hd)) g
theorem W.ldJ (w : W l Z a0 EL nw own bytes ml ret R κ T h M cells slots) {a : Addr} {k : ClassId} {z j : Int32} {vs : List Value} {dv v : Value} (V : Arv Z h a k .long z vs dv) (hj0 : ¬ j < 0 ∧ j < z) (hv : vs.getD j.toNatClampNeg dv = v) (hd : decode bytes pc = .ok (.laload, 1)) (hp : pc + 1 = pc') (g : Go Z EL nw R κ Q (T.setTop (mkF (km κ) pc' Ls (v :: S)))) : Go Z EL nw R κ Q (T.setTop (mkF (km κ) pc Ls (.int j :: .ref a :: S))) := by
  subst hp
  obtain ⟨c, A, q, Sz, N, H, Gf⟩ := V
  obtain ⟨⟨hx, hby, -⟩, vm0, k0, locs, X, -, h2, -, -, -, h6, -⟩ := w
  exact Go.via (X.laload hx (by rw [h6]; exact A.1) (State.isArrayOf_alike (T := (ks κ).setVm vm0) h2.alike A.2.1) A.2.2 (inb_of Sz hj0) (H.at (inb_of Sz hj0) hv) (g := mkF (km κ) pc Ls (.int j :: .ref a :: S)) rfl rfl (hb hby hd)) g
theorem W.ldA (w : W l Z a0 EL nw own bytes ml ret R κ T h M cells slots) {a : Addr} {k : ClassId} {ty : FieldType} {z j : Int32} {vs : List Value} {dv v : Value} (V : Arv Z h a k ty z vs dv) (hty : ty.isReference = true) (hj0 : ¬ j < 0 ∧ j < z) (hv : vs.getD j.toNatClampNeg dv = v) (hd : decode bytes pc = .ok (.aaload, 1)) (hp : pc + 1 = pc') (g : Go Z EL nw R κ Q (T.setTop (mkF (km κ) pc' Ls (v :: S)))) : Go Z EL nw R κ Q (T.setTop (mkF (km κ) pc Ls (.int j :: .ref a :: S))) := by
  subst hp
  obtain ⟨c, A, q, Sz, N, H, Gf⟩ := V
  obtain ⟨⟨hx, hby, -⟩, vm0, k0, locs, X, -, h2, -, -, -, h6, -⟩ := w
  exact Go.via (X.aaload hx (by rw [h6]; exact A.1) (State.isArrayOf_alike (T := (ks κ).setVm vm0) h2.alike A.2.1) hty A.2.2 (inb_of Sz hj0) (H.at (inb_of Sz hj0) hv) (g := mkF (km κ) pc Ls (.int j :: .ref a :: S)) rfl rfl (hb hby hd)) g
theorem W.ldcI (w : W l Z a0 EL nw own bytes ml ret R κ T h M cells slots) {index : Nat} {v : Int32} (w1 : (Cond.constant own index v).before a0 Z = true) (hd : decode bytes pc = .ok (.ldc index, 2)) (hp : pc + 2 = pc') (g : Go Z EL nw R κ Q (T.setTop (mkF (km κ) pc' Ls (.int v :: S)))) : Go Z EL nw R κ Q (T.setTop (mkF (km κ) pc Ls S)) := by
  subst hp
  obtain ⟨⟨hx, hby, -⟩, vm0, k0, locs, X, -, h2, h3, -⟩ := w
  exact Go.via (X.ldcInt hx h3 (mvT (s := (ks κ).setVm vm0) h2 w1) (g := mkF (km κ) pc Ls S) rfl (hb hby hd)) g
theorem W.ldcJ (w : W l Z a0 EL nw own bytes ml ret R κ T h M cells slots) {index : Nat} {v : Int64} (w1 : (Cond.constantLong own index v).before a0 Z = true) (hd : decode bytes pc = .ok (.ldc2_w index, 3)) (hp : pc + 3 = pc') (g : Go Z EL nw R κ Q (T.setTop (mkF (km κ) pc' Ls (.long v :: S)))) : Go Z EL nw R κ Q (T.setTop (mkF (km κ) pc Ls S)) := by
  subst hp
  obtain ⟨⟨hx, hby, -⟩, vm0, k0, locs, X, -, h2, h3, -⟩ := w
  exact Go.via (X.ldc2Long hx h3 (mvT (s := (ks κ).setVm vm0) h2 w1) (g := mkF (km κ) pc Ls S) rfl (hb hby hd)) g
theorem W.initO (w : W l Z a0 EL nw own bytes ml ret R κ T h M cells slots) {index : Nat} (w1 : (Cond.methodLink own index Lib.objectInit).before a0 Z = true) (w2 : (Cond.instanceMethod Lib.objectInit).before a0 Z = true) (w3 : (Cond.code Lib.objectInit ⟨#[0xb1]⟩ 1 none).before a0 Z = true) {a : Addr} (hd : decode bytes pc = .ok (.invokespecial index, 3)) (hp : pc + 3 = pc') (hsz : Ls.size = ml) (hf : 1 ≤ R.frames) {Wd : Nat} (hwd : (S.map fun v => v.category).sum = Wd) (hlo : Wd + 12 ≤ R.locals)
    (g : ∀ T', W l Z a0 EL nw own bytes ml ret R κ T' h M cells slots → Go Z EL nw R κ Q (T'.setTop (mkF (km κ) pc' Ls S))) : Go Z EL nw R κ Q (T.setTop (mkF (km κ) pc Ls (.ref a :: S))) := by
  subst hp
  exact w.noted (G := mkF (km κ) (pc + 3) Ls S) (fun s locs hx hby hml hZ hown eT X => RoadKit.initO X hx hZ hown w1 w2 w3 eT (g := mkF (km κ) pc Ls (.ref a :: S)) rfl (hsz.trans hml.symm) rfl (hb hby hd) hf (W := Wd) (by rw [mr0]; omega) hlo) g
theorem W.cast (w : W l Z a0 EL nw own bytes ml ret R κ T h M cells slots) {index : Nat} {K : String} (w1 : (Cond.classLink own index K).before a0 Z = true) {a : Addr} (F : Ins Z h a K true) (hd : decode bytes pc = .ok (.checkcast index, 3)) (hp : pc + 3 = pc')
    (g : ∀ T', W l Z a0 EL nw own bytes ml ret R κ T' h M cells slots → Go Z EL nw R κ Q (T'.setTop (mkF (km κ) pc' Ls (.ref a :: S)))) : Go Z EL nw R κ Q (T.setTop (mkF (km κ) pc Ls (.ref a :: S))) := by
  subst hp
  exact w.noted (G := mkF (km κ) (pc + 3) Ls (.ref a :: S)) (fun s locs hx hby hml hZ hown eT X => RoadKit.castY X hx hZ hown w1 eT F (g := mkF (km κ) pc Ls (.ref a :: S)) rfl rfl (hb hby hd)) g
theorem W.inst (w : W l Z a0 EL nw own bytes ml ret R κ T h M cells slots) {index : Nat} {K : String} (w1 : (Cond.classLink own index K).before a0 Z = true) {a : Addr} (F : Ins Z h a K true) (hd : decode bytes pc = .ok (.instanceof index, 3)) (hp : pc + 3 = pc')
    (g : ∀ T', W l Z a0 EL nw own bytes ml ret R κ T' h M cells slots → Go Z EL nw R κ Q (T'.setTop (mkF (km κ) pc' Ls (.int 1 :: S)))) : Go Z EL nw R κ Q (T.setTop (mkF (km κ) pc Ls (.ref a :: S))) := by
  subst hp
  exact w.noted (G := mkF (km κ) (pc + 3) Ls (.int 1 :: S)) (fun s locs hx hby hml hZ hown eT X => RoadKit.instY X hx hZ hown w1 eT F (g := mkF (km κ) pc Ls (.ref a :: S)) rfl rfl (hb hby hd)) g
theorem W.retI (w : W l Z a0 EL nw own bytes ml ret R κ T h M cells slots) {z : Int32} (hr : ret = some .int) (hd : decode bytes pc = .ok (.ireturn, 1)) {M' : List Addr} (hM : ∀ x ∈ M', x ∈ M) (hc : cells ≤ R.cells) (hs : slots ≤ R.slots) (hq : Q (some (.int z)) h M') : Go Z EL nw R κ Q (T.setTop (mkF (km κ) pc Ls (.int z :: S))) :=
  w.leave (fun q => by rw [hr] at q; cases q) hc hs hM hq (fun s locs fs hx hby hret X hl => retOut X hx (hret.trans hr) rfl (Or.inl ⟨rfl, Or.inl rfl, _, rfl⟩) (hb hby hd) hl)
theorem W.retN (w : W l Z a0 EL nw own bytes ml ret R κ T h M cells slots) {z z' : Int32} {t : FieldType} (hr : ret = some t) (hn : nar t z = z') (ht : t = .boolean ∨ t = .byte ∨ t = .char ∨ t = .short) (hd : decode bytes pc = .ok (.ireturn, 1)) {M' : List Addr} (hM : ∀ x ∈ M', x ∈ M) (hc : cells ≤ R.cells) (hs : slots ≤ R.slots) (hq : Q (some (.int z')) h M') : Go Z EL nw R κ Q (T.setTop (mkF (km κ) pc Ls (.int z :: S))) := by
  subst hn
  exact w.leave (fun q => by rw [hr] at q; cases q) hc hs hM hq (fun s locs fs hx hby hret X hl => RoadKit.retN X hx (hret.trans hr) ht (hb hby hd) hl)
theorem W.retJ (w : W l Z a0 EL nw own bytes ml ret R κ T h M cells slots) {z : Int64} (hr : ret = some .long) (hd : decode bytes pc = .ok (.lreturn, 1)) {M' : List Addr} (hM : ∀ x ∈ M', x ∈ M) (hc : cells ≤ R.cells) (hs : slots ≤ R.slots) (hq : Q (some (.long z)) h M') : Go Z EL nw R κ Q (T.setTop (mkF (km κ) pc Ls (.long z :: S))) :=
  w.leave (fun q => by rw [hr] at q; cases q) hc hs hM hq (fun s locs fs hx hby hret X hl => retOut X hx (hret.trans hr) rfl (Or.inr (Or.inl ⟨rfl, rfl, _, rfl⟩)) (hb hby hd) hl)
theorem nar_ref {t : FieldType} {v : Value} (ht : t.isReference = true) (hv : v.isRef = true) : narrow t v = v := by rcases ref_cases hv with rfl | ⟨a, rfl⟩ <;> cases t <;> first | rfl | (simp [FieldType.isReference] at ht)
theorem W.retR (w : W l Z a0 EL nw own bytes ml ret R κ T h M cells slots) {v : Value} {t : FieldType} (hr : ret = some t) (ht : t.isReference = true) (hv : v.isRef = true) (hd : decode bytes pc = .ok (.areturn, 1)) {M' : List Addr} (hM : ∀ x ∈ M', x ∈ M) (hc : cells ≤ R.cells) (hs : slots ≤ R.slots) (hq : Q (some v) h M') : Go Z EL nw R κ Q (T.setTop (mkF (km κ) pc Ls (v :: S))) :=
  w.leave (fun q => by rw [hr] at q; cases q) hc hs hM hq (fun s locs fs hx hby hret X hl => retOut X hx (hret.trans hr) (nar_ref ht hv) (Or.inr (Or.inr (Or.inr (Or.inr ⟨rfl, ht, hv⟩)))) (hb hby hd) hl)
theorem W.ret0 (w : W l Z a0 EL nw own bytes ml ret R κ T h M cells slots) (hr : ret = none) (hd : decode bytes pc = .ok (.return_, 1)) {M' : List Addr} (hM : ∀ x ∈ M', x ∈ M) (hc : cells ≤ R.cells) (hs : slots ≤ R.slots) (hq : Q none h M') : Go Z EL nw R κ Q (T.setTop (mkF (km κ) pc Ls [])) :=
  w.leave (fun _ => rfl) hc hs hM hq (fun s locs fs hx hby hret X hl => X.returnOut hx (hret.trans hr) (hb hby hd) hl)
theorem W.ldcS (w : W l Z a0 EL nw own bytes ml ret R κ T h M cells slots) (hnw : nw = false) {index : Nat} {text : String} (w1 : (Cond.stringLink own index text).before a0 Z = true) (wS : ∀ a ∈ Bundle.stringAtoms, a.before a0 Z = true) (hmem : (own, index) ∈ EL) {vs : List Value} {z : Int32}
    (ht : (∀ c ∈ text.toList, c.toNat < 256) ∧ text.toList.map (fun c => Value.int (Jvm.Lit.byteI c.toNat.toUInt16)) = vs) (hz : ¬ z < 0) (hl : z.toNatClampNeg = vs.length) (hd : decode bytes pc = .ok (.ldc index, 2)) (hp : pc + 2 = pc') {n : Nat} (hn : 4 * text.toList.length ≤ n) (hbig : n ≤ 536870912) (hc : cells + 2 ≤ R.cells) (hs : slots + (n + 4) ≤ R.slots)
    (g : ∀ T' h' a b k, W l Z a0 EL nw own bytes ml ret R κ T' h' M (cells + 2) (slots + (n + 4)) → Keep h h' [] → Exa Z h' a "java/lang/String" → Fld Z h' a "java/lang/String" "coder" "B" (.int 0) → Fld Z h' a "java/lang/String" "value" "[B" (.ref b) → Arv Z h' b k .byte z vs (.int 0) → (∀ x ∈ M, x ≠ a ∧ x ≠ b) → Go Z EL nw R κ Q (T'.setTop (mkF (km κ) pc' Ls (.ref a :: S)))) : Go Z EL nw R κ Q (T.setTop (mkF (km κ) pc Ls S)) := by
  subst hp
  obtain ⟨hC, vm0, k0, locs, X, h1, h2, h3, h4, h5, h6, h7, h8, h9, h10⟩ := w
  obtain ⟨a, T', h', k1, b, k, X', e', E, hS', hk', hZ', hown', q1, q2, q3, q4, -, -, q7, -, q9, st⟩ := ldcCH X hC.1 h2 h3 w1 wS h6 h4 h5 hC.2.2.2.2.2 hmem h7.1 ht hz hl (g := mkF (km κ) pc Ls S) rfl (hb hC.2.1 hd) hn hbig hc hs
  have hM' := h8.at q7
  exact Go.via st (g T' h' a b k ⟨hC, T'.vm, k1, locs, X', h1, hZ', hown', hS', hk', e', h7.trans q7, hM', h9.ext E, fun q => by rw [hnw] at q; cases q⟩ (keepE E) q1 q2 q3 q4 (fun x hx => q9 x (hM' x hx).2.2))
theorem W.copy (w : W l Z a0 EL nw own bytes ml ret R κ T h M cells slots) {index : Nat} (w1 : (Cond.methodLink own index Jvm.Stand.acN).before a0 Z = true) (w2 : (Cond.native Jvm.Stand.acN).before a0 Z = true) (w3 : (Cond.static Jvm.Stand.acN).before a0 Z = true) (w4 : (Cond.initialized "java/lang/System").before a0 Z = true)
    {a b : Addr} {k k' : ClassId} {ty : FieldType} {z z' sp dp nn : Int32} {vs vd us : List Value} {dv dd : Value} (A : Arv Z h a k ty z vs dv) (B : Arv Z h b k' ty z' vd dd) (hty : refKind ty = false) (h1 : ¬ sp < 0) (h2 : ¬ dp < 0) (h3 : ¬ nn < 0) (h4 : sp.toNatClampNeg + nn.toNatClampNeg ≤ z.toNatClampNeg) (h5 : dp.toNatClampNeg + nn.toNatClampNeg ≤ z'.toNatClampNeg)
    (hus : vd.take dp.toNatClampNeg ++ ((List.range nn.toNatClampNeg).map fun i => vs.getD (sp.toNatClampNeg + i) dv) ++ vd.drop (dp.toNatClampNeg + nn.toNatClampNeg) = us) (hl : dp.toNatClampNeg + nn.toNatClampNeg ≤ vd.length) (hb' : b ∈ M) (hd : decode bytes pc = .ok (.invokestatic index, 3)) (hp : pc + 3 = pc') (hsz : Ls.size = ml) (hf : 1 ≤ R.frames) {Wd : Nat} (hwd : (S.map fun v => v.category).sum = Wd) (hlo : Wd + (nativeFrameWords "java/lang/System" "arraycopy" 5 + 11) ≤ R.locals)
    (g : ∀ T' h', W l Z a0 EL nw own bytes ml ret R κ T' h' M cells slots → Keep h h' [b] → Arv Z h' b k' ty z' us dd → Go Z EL nw R κ Q (T'.setTop (mkF (km κ) pc' Ls S))) : Go Z EL nw R κ Q (T.setTop (mkF (km κ) pc Ls (.int nn :: .int dp :: .ref b :: .int sp :: .ref a :: S))) := by
  subst hp hus
  refine w.kept (ws := [b]) (fun x hx => by rw [List.mem_singleton.mp hx]; exact hb') (G := mkF (km κ) (pc + 3) Ls S) (P := fun h' => Arv Z h' b k' ty z' _ dd) (fun s locs hx hby hml hZ hown eT N X => ?_) g
  obtain ⟨T', h', L, X', e', N', K, A', st⟩ := RoadKit.cpA X hx hZ hown w1 w2 w3 w4 eT A B (Or.inl ⟨rfl, hty⟩) h1 h2 h3 h4 h5 rfl hl N (w.mut hb').1 (g := mkF (km κ) pc Ls (.int nn :: .int dp :: .ref b :: .int sp :: .ref a :: S)) rfl (hsz.trans hml.symm) rfl (hb hby hd) hf (W := Wd) (by rw [mr0]; omega) hlo
  exact ⟨T', h', L, X', e', N', K, A', st⟩
theorem W.copyN (w : W l Z a0 EL nw own bytes ml ret R κ T h M cells slots) {index : Nat} (w1 : (Cond.methodLink own index Jvm.Stand.acN).before a0 Z = true) (w2 : (Cond.native Jvm.Stand.acN).before a0 Z = true) (w3 : (Cond.static Jvm.Stand.acN).before a0 Z = true) (w4 : (Cond.initialized "java/lang/System").before a0 Z = true)
    {a b : Addr} {k k' : ClassId} {ty : FieldType} {z z' sp dp nn : Int32} {vs vd us : List Value} {dv dd : Value} (A : Arv Z h a k ty z vs dv) (B : Arv Z h b k' ty z' vd dd) (hty : refKind ty = false) {a' b' n' L1 L2 : Nat} (h1 : ¬ sp < 0 ∧ sp.toNatClampNeg = a') (h2 : ¬ dp < 0 ∧ dp.toNatClampNeg = b') (h3 : ¬ nn < 0 ∧ nn.toNatClampNeg = n') (hz : z.toNatClampNeg = L1) (hz' : z'.toNatClampNeg = L2) (h4 : a' + n' ≤ L1) (h5 : b' + n' ≤ L2)
    (hus : vd.take b' ++ ((List.range n').map fun i => vs.getD (a' + i) dv) ++ vd.drop (b' + n') = us) (hl : b' + n' ≤ vd.length) (hb' : b ∈ M) (hd : decode bytes pc = .ok (.invokestatic index, 3)) (hp : pc + 3 = pc') (hsz : Ls.size = ml) (hf : 1 ≤ R.frames) {Wd : Nat} (hwd : (S.map fun v => v.category).sum = Wd) (hlo : Wd + 18 ≤ R.locals)
    (g : ∀ T' h', W l Z a0 EL nw own bytes ml ret R κ T' h' M cells slots → Keep h h' [b] → Arv Z h' b k' ty z' us dd → Go Z EL nw R κ Q (T'.setTop (mkF (km κ) pc' Ls S))) : Go Z EL nw R κ Q (T.setTop (mkF (km κ) pc Ls (.int nn :: .int dp :: .ref b :: .int sp :: .ref a :: S))) := by
  obtain ⟨g1, rfl⟩ := h1
  obtain ⟨g2, rfl⟩ := h2
  obtain ⟨g3, rfl⟩ := h3
  subst hz hz'
  exact w.copy w1 w2 w3 w4 A B hty g1 g2 g3 h4 h5 hus hl hb' hd hp hsz hf hwd (by have e : nativeFrameWords "java/lang/System" "arraycopy" 5 = 7 := (by decide); omega) g
theorem W.clone (w : W l Z a0 EL nw own bytes ml ret R κ T h M cells slots) {index : Nat} {ad : String} (w1 : (Cond.methodLink own index ⟨ad, "clone", "()Ljava/lang/Object;"⟩).before a0 Z = true) (w2 : (Cond.sameMethod ad "java/lang/Object" "clone" "()Ljava/lang/Object;").before a0 Z = true) (w3 : (Cond.native ⟨"java/lang/Object", "clone", "()Ljava/lang/Object;"⟩).before a0 Z = true)
    (w4 : (Cond.instanceMethod ⟨"java/lang/Object", "clone", "()Ljava/lang/Object;"⟩).before a0 Z = true) (w5 : (Cond.selects ad ⟨ad, "clone", "()Ljava/lang/Object;"⟩ ⟨"java/lang/Object", "clone", "()Ljava/lang/Object;"⟩).before a0 Z = true) (w6 : (Cond.castable ad "java/lang/Cloneable").before a0 Z = true)
    {a : Addr} {k : ClassId} {ty : FieldType} {z : Int32} {vs : List Value} {dv : Value} (F : Arv Z h a k ty z vs dv) (E : Exa Z h a ad) (hd : decode bytes pc = .ok (.invokevirtual index, 3)) (hp : pc + 3 = pc') (hsz : Ls.size = ml) (hf : 1 ≤ R.frames) {Wd cap : Nat} (hwd : (S.map fun v => v.category).sum = Wd) (hlo : Wd + 14 ≤ R.locals) (hcap : z.toNatClampNeg ≤ cap) (hc : cells + 1 ≤ R.cells) (hs : slots + cap ≤ R.slots)
    (g : ∀ T' h' b, W l Z a0 EL nw own bytes ml ret R κ T' h' (b :: M) (cells + 1) (slots + cap) → Keep h h' [] → h.size ≤ b → Arv Z h' b k ty z vs dv → Exa Z h' b ad → Go Z EL nw R κ Q (T'.setTop (mkF (km κ) pc' Ls (.ref b :: S)))) : Go Z EL nw R κ Q (T.setTop (mkF (km κ) pc Ls (.ref a :: S))) := by
  subst hp
  refine w.made (k := 1) (n := cap) (P := fun h' => Arv Z h' h.size k ty z vs dv ∧ Exa Z h' h.size ad) (G := mkF (km κ) (pc + 3) Ls (.ref h.size :: S)) (fun s locs hx hby hml hZ hown eT X => ?_) (fun T' h' w' K hP => g T' h' _ w' K (Nat.le_refl _) hP.1 hP.2)
  obtain ⟨T', h', X', e', Ex, A, E', st⟩ := cloneH X hx hZ hown w1 w2 w3 w4 w5 w6 eT F.arh E (g := mkF (km κ) pc Ls (.ref a :: S)) rfl (hsz.trans hml.symm) rfl (hb hby hd) hf (W := Wd) (by rw [mr0]; omega) hlo hcap hc hs
  exact ⟨T', h', X', e', Ex, E'.lt, ⟨A, E'⟩, st⟩
theorem mN {M : List Addr} : ∀ x ∈ ([] : List Addr), x ∈ M := fun _ q => nomatch q
theorem mC {a : Addr} {L M : List Addr} (q : a ∈ M) (r : ∀ x ∈ L, x ∈ M) : ∀ x ∈ a :: L, x ∈ M := fun x z => (List.mem_cons.mp z).elim (fun u => u ▸ q) (r x)
end Heap1
section Pure
variable {l : Launch} {Z : State} {a0 : Array Value} {EL : List (String × Nat)} {nw : Bool} {own : String} {bytes : ByteArray} {ml : Nat} {ret : Option FieldType} {R : Room} {κ : Ka} {T : State} {h : Heap} {M : List Addr} {cells slots : Nat} {Q : Option Value → Heap → List Addr → Prop} {pc pc' : Nat} {Ls Ls' : Array Slot} {S : List Value}
theorem W.iloadN (w : W l Z a0 EL nw own bytes ml ret R κ T h M cells slots) {k : Fin 4} {v : Int32} (hd : decode bytes pc = .ok (.iload_n k, 1)) (hp : pc + 1 = pc') (hl : Ls[k.val]? = some (.val (.int v)))
    (g : Go Z EL nw R κ Q (T.setTop (mkF (km κ) pc' Ls (.int v :: S)))) : Go Z EL nw R κ Q (T.setTop (mkF (km κ) pc Ls (S))) := by
  subst hp
  exact w.pure (fun hx hby H t k => XS.iloadN H hx rfl (g := mkF (km κ) pc Ls (S)) (hb hby hd) hl k) g
theorem W.iload (w : W l Z a0 EL nw own bytes ml ret R κ T h M cells slots) {k : Nat} {v : Int32} (hd : decode bytes pc = .ok (.iload k, 2)) (hp : pc + 2 = pc') (hl : Ls[k]? = some (.val (.int v)))
    (g : Go Z EL nw R κ Q (T.setTop (mkF (km κ) pc' Ls (.int v :: S)))) : Go Z EL nw R κ Q (T.setTop (mkF (km κ) pc Ls (S))) := by
  subst hp
  exact w.pure (fun hx hby H t k => XS.iload H hx rfl (g := mkF (km κ) pc Ls (S)) (hb hby hd) hl k) g
theorem W.lloadN (w : W l Z a0 EL nw own bytes ml ret R κ T h M cells slots) {k : Fin 4} {v : Int64} (hd : decode bytes pc = .ok (.lload_n k, 1)) (hp : pc + 1 = pc') (hl : Ls[k.val]? = some (.val (.long v)))
    (g : Go Z EL nw R κ Q (T.setTop (mkF (km κ) pc' Ls (.long v :: S)))) : Go Z EL nw R κ Q (T.setTop (mkF (km κ) pc Ls (S))) := by
  subst hp
  exact w.pure (fun hx hby H t k => XT.lloadN H hx rfl (g := mkF (km κ) pc Ls (S)) (hb hby hd) hl k) g
theorem W.lload (w : W l Z a0 EL nw own bytes ml ret R κ T h M cells slots) {k : Nat} {v : Int64} (hd : decode bytes pc = .ok (.lload k, 2)) (hp : pc + 2 = pc') (hl : Ls[k]? = some (.val (.long v)))
    (g : Go Z EL nw R κ Q (T.setTop (mkF (km κ) pc' Ls (.long v :: S)))) : Go Z EL nw R κ Q (T.setTop (mkF (km κ) pc Ls (S))) := by
  subst hp
  exact w.pure (fun hx hby H t k => XT.lload H hx rfl (g := mkF (km κ) pc Ls (S)) (hb hby hd) hl k) g
theorem W.aloadN (w : W l Z a0 EL nw own bytes ml ret R κ T h M cells slots) {k : Fin 4} {v : Value} (hd : decode bytes pc = .ok (.aload_n k, 1)) (hp : pc + 1 = pc') (hl : Ls[k.val]? = some (.val v)) (hv : v.isRef = true)
    (g : Go Z EL nw R κ Q (T.setTop (mkF (km κ) pc' Ls (v :: S)))) : Go Z EL nw R κ Q (T.setTop (mkF (km κ) pc Ls (S))) := by
  subst hp
  exact w.pure (fun hx hby H t k => XS.aloadN H hx rfl (g := mkF (km κ) pc Ls (S)) (hb hby hd) hl hv k) g
theorem W.aload (w : W l Z a0 EL nw own bytes ml ret R κ T h M cells slots) {k : Nat} {v : Value} (hd : decode bytes pc = .ok (.aload k, 2)) (hp : pc + 2 = pc') (hl : Ls[k]? = some (.val v)) (hv : v.isRef = true)
    (g : Go Z EL nw R κ Q (T.setTop (mkF (km κ) pc' Ls (v :: S)))) : Go Z EL nw R κ Q (T.setTop (mkF (km κ) pc Ls (S))) := by
  subst hp
  exact w.pure (fun hx hby H t k => XS.aload H hx rfl (g := mkF (km κ) pc Ls (S)) (hb hby hd) hl hv k) g
theorem W.istoreN (w : W l Z a0 EL nw own bytes ml ret R κ T h M cells slots) {k : Fin 4} {x : Int32} (hd : decode bytes pc = .ok (.istore_n k, 1)) (hp : pc + 1 = pc') (hl : storeLocals Ls k.val (.int x) = some Ls')
    (g : Go Z EL nw R κ Q (T.setTop (mkF (km κ) pc' Ls' (S)))) : Go Z EL nw R κ Q (T.setTop (mkF (km κ) pc Ls (.int x :: S))) := by
  subst hp
  exact w.pure (fun hx hby H t k => XS.istoreN H hx rfl (g := mkF (km κ) pc Ls (.int x :: S)) (hb hby hd) rfl hl k) g
theorem W.istore (w : W l Z a0 EL nw own bytes ml ret R κ T h M cells slots) {k : Nat} {x : Int32} (hd : decode bytes pc = .ok (.istore k, 2)) (hp : pc + 2 = pc') (hl : storeLocals Ls k (.int x) = some Ls')
    (g : Go Z EL nw R κ Q (T.setTop (mkF (km κ) pc' Ls' (S)))) : Go Z EL nw R κ Q (T.setTop (mkF (km κ) pc Ls (.int x :: S))) := by
  subst hp
  exact w.pure (fun hx hby H t k => XS.istore H hx rfl (g := mkF (km κ) pc Ls (.int x :: S)) (hb hby hd) rfl hl k) g
theorem W.lstoreN (w : W l Z a0 EL nw own bytes ml ret R κ T h M cells slots) {k : Fin 4} {x : Int64} (hd : decode bytes pc = .ok (.lstore_n k, 1)) (hp : pc + 1 = pc') (hl : storeLocals Ls k.val (.long x) = some Ls')
    (g : Go Z EL nw R κ Q (T.setTop (mkF (km κ) pc' Ls' (S)))) : Go Z EL nw R κ Q (T.setTop (mkF (km κ) pc Ls (.long x :: S))) := by
  subst hp
  exact w.pure (fun hx hby H t k => XT.lstoreN H hx rfl (g := mkF (km κ) pc Ls (.long x :: S)) (hb hby hd) rfl hl k) g
theorem W.lstore (w : W l Z a0 EL nw own bytes ml ret R κ T h M cells slots) {k : Nat} {x : Int64} (hd : decode bytes pc = .ok (.lstore k, 2)) (hp : pc + 2 = pc') (hl : storeLocals Ls k (.long x) = some Ls')
    (g : Go Z EL nw R κ Q (T.setTop (mkF (km κ) pc' Ls' (S)))) : Go Z EL nw R κ Q (T.setTop (mkF (km κ) pc Ls (.long x :: S))) := by
  subst hp
  exact w.pure (fun hx hby H t k => XT.lstore H hx rfl (g := mkF (km κ) pc Ls (.long x :: S)) (hb hby hd) rfl hl k) g
theorem W.astoreN (w : W l Z a0 EL nw own bytes ml ret R κ T h M cells slots) {k : Fin 4} {x : Value} (hd : decode bytes pc = .ok (.astore_n k, 1)) (hp : pc + 1 = pc') (hv : x.isRef = true) (hl : storeLocals Ls k.val x = some Ls')
    (g : Go Z EL nw R κ Q (T.setTop (mkF (km κ) pc' Ls' (S)))) : Go Z EL nw R κ Q (T.setTop (mkF (km κ) pc Ls (x :: S))) := by
  subst hp
  exact w.pure (fun hx hby H t k => XS.astoreN H hx rfl (g := mkF (km κ) pc Ls (x :: S)) (hb hby hd) rfl hv hl k) g
theorem W.astore (w : W l Z a0 EL nw own bytes ml ret R κ T h M cells slots) {k : Nat} {x : Value} (hd : decode bytes pc = .ok (.astore k, 2)) (hp : pc + 2 = pc') (hv : x.isRef = true) (hl : storeLocals Ls k x = some Ls')
    (g : Go Z EL nw R κ Q (T.setTop (mkF (km κ) pc' Ls' (S)))) : Go Z EL nw R κ Q (T.setTop (mkF (km κ) pc Ls (x :: S))) := by
  subst hp
  exact w.pure (fun hx hby H t k => XS.astore H hx rfl (g := mkF (km κ) pc Ls (x :: S)) (hb hby hd) rfl hv hl k) g
theorem W.iinc (w : W l Z a0 EL nw own bytes ml ret R κ T h M cells slots) {k : Nat} {cst : Int} {x : Int32} (hd : decode bytes pc = .ok (.iinc k cst, 3)) (hp : pc + 3 = pc') {z : Int32} (hz : x + Int32.ofInt cst = z) (hl : Ls[k]? = some (.val (.int x))) (hl' : storeLocals Ls k (.int z) = some Ls')
    (g : Go Z EL nw R κ Q (T.setTop (mkF (km κ) pc' Ls' (S)))) : Go Z EL nw R κ Q (T.setTop (mkF (km κ) pc Ls (S))) := by
  subst hp hz
  exact w.pure (fun hx hby H t k => XS.iinc H hx rfl (g := mkF (km κ) pc Ls (S)) (hb hby hd) hl hl' k) g
theorem W.iconst (w : W l Z a0 EL nw own bytes ml ret R κ T h M cells slots) {i : Int} (hd : decode bytes pc = .ok (.iconst i, 1)) (hp : pc + 1 = pc') {z : Int32} (hz : Int32.ofInt i = z)
    (g : Go Z EL nw R κ Q (T.setTop (mkF (km κ) pc' Ls (.int z :: S)))) : Go Z EL nw R κ Q (T.setTop (mkF (km κ) pc Ls (S))) := by
  subst hp hz
  exact w.pure (fun hx hby H t k => XS.iconst H hx rfl (g := mkF (km κ) pc Ls (S)) (hb hby hd)  k) g
theorem W.bipush (w : W l Z a0 EL nw own bytes ml ret R κ T h M cells slots) {i : Int} (hd : decode bytes pc = .ok (.bipush i, 2)) (hp : pc + 2 = pc') {z : Int32} (hz : (Int8.ofInt i).toInt32 = z)
    (g : Go Z EL nw R κ Q (T.setTop (mkF (km κ) pc' Ls (.int z :: S)))) : Go Z EL nw R κ Q (T.setTop (mkF (km κ) pc Ls (S))) := by
  subst hp hz
  exact w.pure (fun hx hby H t k => XS.bipush H hx rfl (g := mkF (km κ) pc Ls (S)) (hb hby hd)  k) g
theorem W.sipush (w : W l Z a0 EL nw own bytes ml ret R κ T h M cells slots) {i : Int} (hd : decode bytes pc = .ok (.sipush i, 3)) (hp : pc + 3 = pc') {z : Int32} (hz : (Int16.ofInt i).toInt32 = z)
    (g : Go Z EL nw R κ Q (T.setTop (mkF (km κ) pc' Ls (.int z :: S)))) : Go Z EL nw R κ Q (T.setTop (mkF (km κ) pc Ls (S))) := by
  subst hp hz
  exact w.pure (fun hx hby H t k => XS.sipush H hx rfl (g := mkF (km κ) pc Ls (S)) (hb hby hd)  k) g
theorem W.lconst (w : W l Z a0 EL nw own bytes ml ret R κ T h M cells slots) {k : Fin 2} (hd : decode bytes pc = .ok (.lconst k, 1)) (hp : pc + 1 = pc') {z : Int64} (hz : Int64.ofNat k = z)
    (g : Go Z EL nw R κ Q (T.setTop (mkF (km κ) pc' Ls (.long z :: S)))) : Go Z EL nw R κ Q (T.setTop (mkF (km κ) pc Ls (S))) := by
  subst hp hz
  exact w.pure (fun hx hby H t k => XT.lconst H hx rfl (g := mkF (km κ) pc Ls (S)) (hb hby hd)  k) g
theorem W.aconstNull (w : W l Z a0 EL nw own bytes ml ret R κ T h M cells slots)  (hd : decode bytes pc = .ok (.aconst_null, 1)) (hp : pc + 1 = pc')
    (g : Go Z EL nw R κ Q (T.setTop (mkF (km κ) pc' Ls (.null :: S)))) : Go Z EL nw R κ Q (T.setTop (mkF (km κ) pc Ls (S))) := by
  subst hp
  exact w.pure (fun hx hby H t k => XS.aconstNull H hx rfl (g := mkF (km κ) pc Ls (S)) (hb hby hd)  k) g
theorem W.iadd (w : W l Z a0 EL nw own bytes ml ret R κ T h M cells slots) {x y : Int32} (hd : decode bytes pc = .ok (.iadd, 1)) (hp : pc + 1 = pc') {z : Int32} (hz : x + y = z)
    (g : Go Z EL nw R κ Q (T.setTop (mkF (km κ) pc' Ls (.int z :: S)))) : Go Z EL nw R κ Q (T.setTop (mkF (km κ) pc Ls (.int y :: .int x :: S))) := by
  subst hp hz
  exact w.pure (fun hx hby H t k => XS.iadd H hx rfl (g := mkF (km κ) pc Ls (.int y :: .int x :: S)) (hb hby hd) rfl k) g
theorem W.isub (w : W l Z a0 EL nw own bytes ml ret R κ T h M cells slots) {x y : Int32} (hd : decode bytes pc = .ok (.isub, 1)) (hp : pc + 1 = pc') {z : Int32} (hz : x - y = z)
    (g : Go Z EL nw R κ Q (T.setTop (mkF (km κ) pc' Ls (.int z :: S)))) : Go Z EL nw R κ Q (T.setTop (mkF (km κ) pc Ls (.int y :: .int x :: S))) := by
  subst hp hz
  exact w.pure (fun hx hby H t k => XS.isub H hx rfl (g := mkF (km κ) pc Ls (.int y :: .int x :: S)) (hb hby hd) rfl k) g
theorem W.imul (w : W l Z a0 EL nw own bytes ml ret R κ T h M cells slots) {x y : Int32} (hd : decode bytes pc = .ok (.imul, 1)) (hp : pc + 1 = pc') {z : Int32} (hz : x * y = z)
    (g : Go Z EL nw R κ Q (T.setTop (mkF (km κ) pc' Ls (.int z :: S)))) : Go Z EL nw R κ Q (T.setTop (mkF (km κ) pc Ls (.int y :: .int x :: S))) := by
  subst hp hz
  exact w.pure (fun hx hby H t k => XS.imul H hx rfl (g := mkF (km κ) pc Ls (.int y :: .int x :: S)) (hb hby hd) rfl k) g
theorem W.iand (w : W l Z a0 EL nw own bytes ml ret R κ T h M cells slots) {x y : Int32} (hd : decode bytes pc = .ok (.iand, 1)) (hp : pc + 1 = pc') {z : Int32} (hz : x &&& y = z)
    (g : Go Z EL nw R κ Q (T.setTop (mkF (km κ) pc' Ls (.int z :: S)))) : Go Z EL nw R κ Q (T.setTop (mkF (km κ) pc Ls (.int y :: .int x :: S))) := by
  subst hp hz
  exact w.pure (fun hx hby H t k => XS.iand H hx rfl (g := mkF (km κ) pc Ls (.int y :: .int x :: S)) (hb hby hd) rfl k) g
theorem W.ior (w : W l Z a0 EL nw own bytes ml ret R κ T h M cells slots) {x y : Int32} (hd : decode bytes pc = .ok (.ior, 1)) (hp : pc + 1 = pc') {z : Int32} (hz : x ||| y = z)
    (g : Go Z EL nw R κ Q (T.setTop (mkF (km κ) pc' Ls (.int z :: S)))) : Go Z EL nw R κ Q (T.setTop (mkF (km κ) pc Ls (.int y :: .int x :: S))) := by
  subst hp hz
  exact w.pure (fun hx hby H t k => XT.ior H hx rfl (g := mkF (km κ) pc Ls (.int y :: .int x :: S)) (hb hby hd) rfl k) g
theorem W.ixor (w : W l Z a0 EL nw own bytes ml ret R κ T h M cells slots) {x y : Int32} (hd : decode bytes pc = .ok (.ixor, 1)) (hp : pc + 1 = pc') {z : Int32} (hz : x ^^^ y = z)
    (g : Go Z EL nw R κ Q (T.setTop (mkF (km κ) pc' Ls (.int z :: S)))) : Go Z EL nw R κ Q (T.setTop (mkF (km κ) pc Ls (.int y :: .int x :: S))) := by
  subst hp hz
  exact w.pure (fun hx hby H t k => XT.ixor H hx rfl (g := mkF (km κ) pc Ls (.int y :: .int x :: S)) (hb hby hd) rfl k) g
theorem W.ishl (w : W l Z a0 EL nw own bytes ml ret R κ T h M cells slots) {x y : Int32} (hd : decode bytes pc = .ok (.ishl, 1)) (hp : pc + 1 = pc') {z : Int32} (hz : x <<< (y &&& 31) = z)
    (g : Go Z EL nw R κ Q (T.setTop (mkF (km κ) pc' Ls (.int z :: S)))) : Go Z EL nw R κ Q (T.setTop (mkF (km κ) pc Ls (.int y :: .int x :: S))) := by
  subst hp hz
  exact w.pure (fun hx hby H t k => XT.ishl H hx rfl (g := mkF (km κ) pc Ls (.int y :: .int x :: S)) (hb hby hd) rfl k) g
theorem W.ishr (w : W l Z a0 EL nw own bytes ml ret R κ T h M cells slots) {x y : Int32} (hd : decode bytes pc = .ok (.ishr, 1)) (hp : pc + 1 = pc') {z : Int32} (hz : x >>> (y &&& 31) = z)
    (g : Go Z EL nw R κ Q (T.setTop (mkF (km κ) pc' Ls (.int z :: S)))) : Go Z EL nw R κ Q (T.setTop (mkF (km κ) pc Ls (.int y :: .int x :: S))) := by
  subst hp hz
  exact w.pure (fun hx hby H t k => XT.ishr H hx rfl (g := mkF (km κ) pc Ls (.int y :: .int x :: S)) (hb hby hd) rfl k) g
theorem W.iushr (w : W l Z a0 EL nw own bytes ml ret R κ T h M cells slots) {x y : Int32} (hd : decode bytes pc = .ok (.iushr, 1)) (hp : pc + 1 = pc') {z : Int32} (hz : XT.ushr x y = z)
    (g : Go Z EL nw R κ Q (T.setTop (mkF (km κ) pc' Ls (.int z :: S)))) : Go Z EL nw R κ Q (T.setTop (mkF (km κ) pc Ls (.int y :: .int x :: S))) := by
  subst hp hz
  exact w.pure (fun hx hby H t k => XT.iushr H hx rfl (g := mkF (km κ) pc Ls (.int y :: .int x :: S)) (hb hby hd) rfl k) g
theorem W.ladd (w : W l Z a0 EL nw own bytes ml ret R κ T h M cells slots) {x y : Int64} (hd : decode bytes pc = .ok (.ladd, 1)) (hp : pc + 1 = pc') {z : Int64} (hz : x + y = z)
    (g : Go Z EL nw R κ Q (T.setTop (mkF (km κ) pc' Ls (.long z :: S)))) : Go Z EL nw R κ Q (T.setTop (mkF (km κ) pc Ls (.long y :: .long x :: S))) := by
  subst hp hz
  exact w.pure (fun hx hby H t k => XT.ladd H hx rfl (g := mkF (km κ) pc Ls (.long y :: .long x :: S)) (hb hby hd) rfl k) g
theorem W.lsub (w : W l Z a0 EL nw own bytes ml ret R κ T h M cells slots) {x y : Int64} (hd : decode bytes pc = .ok (.lsub, 1)) (hp : pc + 1 = pc') {z : Int64} (hz : x - y = z)
    (g : Go Z EL nw R κ Q (T.setTop (mkF (km κ) pc' Ls (.long z :: S)))) : Go Z EL nw R κ Q (T.setTop (mkF (km κ) pc Ls (.long y :: .long x :: S))) := by
  subst hp hz
  exact w.pure (fun hx hby H t k => XT.lsub H hx rfl (g := mkF (km κ) pc Ls (.long y :: .long x :: S)) (hb hby hd) rfl k) g
theorem W.lmul (w : W l Z a0 EL nw own bytes ml ret R κ T h M cells slots) {x y : Int64} (hd : decode bytes pc = .ok (.lmul, 1)) (hp : pc + 1 = pc') {z : Int64} (hz : x * y = z)
    (g : Go Z EL nw R κ Q (T.setTop (mkF (km κ) pc' Ls (.long z :: S)))) : Go Z EL nw R κ Q (T.setTop (mkF (km κ) pc Ls (.long y :: .long x :: S))) := by
  subst hp hz
  exact w.pure (fun hx hby H t k => XT.lmul H hx rfl (g := mkF (km κ) pc Ls (.long y :: .long x :: S)) (hb hby hd) rfl k) g
theorem W.land (w : W l Z a0 EL nw own bytes ml ret R κ T h M cells slots) {x y : Int64} (hd : decode bytes pc = .ok (.land, 1)) (hp : pc + 1 = pc') {z : Int64} (hz : x &&& y = z)
    (g : Go Z EL nw R κ Q (T.setTop (mkF (km κ) pc' Ls (.long z :: S)))) : Go Z EL nw R κ Q (T.setTop (mkF (km κ) pc Ls (.long y :: .long x :: S))) := by
  subst hp hz
  exact w.pure (fun hx hby H t k => XT.land H hx rfl (g := mkF (km κ) pc Ls (.long y :: .long x :: S)) (hb hby hd) rfl k) g
theorem W.lor (w : W l Z a0 EL nw own bytes ml ret R κ T h M cells slots) {x y : Int64} (hd : decode bytes pc = .ok (.lor, 1)) (hp : pc + 1 = pc') {z : Int64} (hz : x ||| y = z)
    (g : Go Z EL nw R κ Q (T.setTop (mkF (km κ) pc' Ls (.long z :: S)))) : Go Z EL nw R κ Q (T.setTop (mkF (km κ) pc Ls (.long y :: .long x :: S))) := by
  subst hp hz
  exact w.pure (fun hx hby H t k => XT.lor H hx rfl (g := mkF (km κ) pc Ls (.long y :: .long x :: S)) (hb hby hd) rfl k) g
theorem W.lxor (w : W l Z a0 EL nw own bytes ml ret R κ T h M cells slots) {x y : Int64} (hd : decode bytes pc = .ok (.lxor, 1)) (hp : pc + 1 = pc') {z : Int64} (hz : x ^^^ y = z)
    (g : Go Z EL nw R κ Q (T.setTop (mkF (km κ) pc' Ls (.long z :: S)))) : Go Z EL nw R κ Q (T.setTop (mkF (km κ) pc Ls (.long y :: .long x :: S))) := by
  subst hp hz
  exact w.pure (fun hx hby H t k => XT.lxor H hx rfl (g := mkF (km κ) pc Ls (.long y :: .long x :: S)) (hb hby hd) rfl k) g
theorem W.lshl (w : W l Z a0 EL nw own bytes ml ret R κ T h M cells slots) {x : Int64} {y : Int32} (hd : decode bytes pc = .ok (.lshl, 1)) (hp : pc + 1 = pc') {z : Int64} (hz : x <<< (y.toInt64 &&& 63) = z)
    (g : Go Z EL nw R κ Q (T.setTop (mkF (km κ) pc' Ls (.long z :: S)))) : Go Z EL nw R κ Q (T.setTop (mkF (km κ) pc Ls (.int y :: .long x :: S))) := by
  subst hp hz
  exact w.pure (fun hx hby H t k => XT.lshl H hx rfl (g := mkF (km κ) pc Ls (.int y :: .long x :: S)) (hb hby hd) rfl k) g
theorem W.lshr (w : W l Z a0 EL nw own bytes ml ret R κ T h M cells slots) {x : Int64} {y : Int32} (hd : decode bytes pc = .ok (.lshr, 1)) (hp : pc + 1 = pc') {z : Int64} (hz : x >>> (y.toInt64 &&& 63) = z)
    (g : Go Z EL nw R κ Q (T.setTop (mkF (km κ) pc' Ls (.long z :: S)))) : Go Z EL nw R κ Q (T.setTop (mkF (km κ) pc Ls (.int y :: .long x :: S))) := by
  subst hp hz
  exact w.pure (fun hx hby H t k => XT.lshr H hx rfl (g := mkF (km κ) pc Ls (.int y :: .long x :: S)) (hb hby hd) rfl k) g
theorem W.lushr (w : W l Z a0 EL nw own bytes ml ret R κ T h M cells slots) {x : Int64} {y : Int32} (hd : decode bytes pc = .ok (.lushr, 1)) (hp : pc + 1 = pc') {z : Int64} (hz : XT.ushrL x y = z)
    (g : Go Z EL nw R κ Q (T.setTop (mkF (km κ) pc' Ls (.long z :: S)))) : Go Z EL nw R κ Q (T.setTop (mkF (km κ) pc Ls (.int y :: .long x :: S))) := by
  subst hp hz
  exact w.pure (fun hx hby H t k => XT.lushr H hx rfl (g := mkF (km κ) pc Ls (.int y :: .long x :: S)) (hb hby hd) rfl k) g
theorem W.idiv (w : W l Z a0 EL nw own bytes ml ret R κ T h M cells slots) {x y : Int32} (hd : decode bytes pc = .ok (.idiv, 1)) (hp : pc + 1 = pc') {z : Int32} (hz : x / y = z) (hy : y ≠ 0)
    (g : Go Z EL nw R κ Q (T.setTop (mkF (km κ) pc' Ls (.int z :: S)))) : Go Z EL nw R κ Q (T.setTop (mkF (km κ) pc Ls (.int y :: .int x :: S))) := by
  subst hp hz
  exact w.pure (fun hx hby H t k => XS.idiv H hx rfl (g := mkF (km κ) pc Ls (.int y :: .int x :: S)) (hb hby hd) rfl hy k) g
theorem W.irem (w : W l Z a0 EL nw own bytes ml ret R κ T h M cells slots) {x y : Int32} (hd : decode bytes pc = .ok (.irem, 1)) (hp : pc + 1 = pc') {z : Int32} (hz : x - (x / y) * y = z) (hy : y ≠ 0)
    (g : Go Z EL nw R κ Q (T.setTop (mkF (km κ) pc' Ls (.int z :: S)))) : Go Z EL nw R κ Q (T.setTop (mkF (km κ) pc Ls (.int y :: .int x :: S))) := by
  subst hp hz
  exact w.pure (fun hx hby H t k => XS.irem H hx rfl (g := mkF (km κ) pc Ls (.int y :: .int x :: S)) (hb hby hd) rfl hy k) g
theorem W.ldiv (w : W l Z a0 EL nw own bytes ml ret R κ T h M cells slots) {x y : Int64} (hd : decode bytes pc = .ok (.ldiv, 1)) (hp : pc + 1 = pc') {z : Int64} (hz : x / y = z) (hy : y ≠ 0)
    (g : Go Z EL nw R κ Q (T.setTop (mkF (km κ) pc' Ls (.long z :: S)))) : Go Z EL nw R κ Q (T.setTop (mkF (km κ) pc Ls (.long y :: .long x :: S))) := by
  subst hp hz
  exact w.pure (fun hx hby H t k => XT.ldiv H hx rfl (g := mkF (km κ) pc Ls (.long y :: .long x :: S)) (hb hby hd) rfl hy k) g
theorem W.lrem (w : W l Z a0 EL nw own bytes ml ret R κ T h M cells slots) {x y : Int64} (hd : decode bytes pc = .ok (.lrem, 1)) (hp : pc + 1 = pc') {z : Int64} (hz : x - (x / y) * y = z) (hy : y ≠ 0)
    (g : Go Z EL nw R κ Q (T.setTop (mkF (km κ) pc' Ls (.long z :: S)))) : Go Z EL nw R κ Q (T.setTop (mkF (km κ) pc Ls (.long y :: .long x :: S))) := by
  subst hp hz
  exact w.pure (fun hx hby H t k => XT.lrem H hx rfl (g := mkF (km κ) pc Ls (.long y :: .long x :: S)) (hb hby hd) rfl hy k) g
theorem W.ineg (w : W l Z a0 EL nw own bytes ml ret R κ T h M cells slots) {x : Int32} (hd : decode bytes pc = .ok (.ineg, 1)) (hp : pc + 1 = pc') {z : Int32} (hz : -x = z)
    (g : Go Z EL nw R κ Q (T.setTop (mkF (km κ) pc' Ls (.int z :: S)))) : Go Z EL nw R κ Q (T.setTop (mkF (km κ) pc Ls (.int x :: S))) := by
  subst hp hz
  exact w.pure (fun hx hby H t k => XS.ineg H hx rfl (g := mkF (km κ) pc Ls (.int x :: S)) (hb hby hd) rfl k) g
theorem W.lneg (w : W l Z a0 EL nw own bytes ml ret R κ T h M cells slots) {x : Int64} (hd : decode bytes pc = .ok (.lneg, 1)) (hp : pc + 1 = pc') {z : Int64} (hz : -x = z)
    (g : Go Z EL nw R κ Q (T.setTop (mkF (km κ) pc' Ls (.long z :: S)))) : Go Z EL nw R κ Q (T.setTop (mkF (km κ) pc Ls (.long x :: S))) := by
  subst hp hz
  exact w.pure (fun hx hby H t k => XT.lneg H hx rfl (g := mkF (km κ) pc Ls (.long x :: S)) (hb hby hd) rfl k) g
theorem W.i2l (w : W l Z a0 EL nw own bytes ml ret R κ T h M cells slots) {x : Int32} (hd : decode bytes pc = .ok (.i2l, 1)) (hp : pc + 1 = pc') {z : Int64} (hz : x.toInt64 = z)
    (g : Go Z EL nw R κ Q (T.setTop (mkF (km κ) pc' Ls (.long z :: S)))) : Go Z EL nw R κ Q (T.setTop (mkF (km κ) pc Ls (.int x :: S))) := by
  subst hp hz
  exact w.pure (fun hx hby H t k => XT.i2l H hx rfl (g := mkF (km κ) pc Ls (.int x :: S)) (hb hby hd) rfl k) g
theorem W.l2i (w : W l Z a0 EL nw own bytes ml ret R κ T h M cells slots) {x : Int64} (hd : decode bytes pc = .ok (.l2i, 1)) (hp : pc + 1 = pc') {z : Int32} (hz : x.toInt32 = z)
    (g : Go Z EL nw R κ Q (T.setTop (mkF (km κ) pc' Ls (.int z :: S)))) : Go Z EL nw R κ Q (T.setTop (mkF (km κ) pc Ls (.long x :: S))) := by
  subst hp hz
  exact w.pure (fun hx hby H t k => XT.l2i H hx rfl (g := mkF (km κ) pc Ls (.long x :: S)) (hb hby hd) rfl k) g
theorem W.i2b (w : W l Z a0 EL nw own bytes ml ret R κ T h M cells slots) {x : Int32} (hd : decode bytes pc = .ok (.i2b, 1)) (hp : pc + 1 = pc') {z : Int32} (hz : x.toInt8.toInt32 = z)
    (g : Go Z EL nw R κ Q (T.setTop (mkF (km κ) pc' Ls (.int z :: S)))) : Go Z EL nw R κ Q (T.setTop (mkF (km κ) pc Ls (.int x :: S))) := by
  subst hp hz
  exact w.pure (fun hx hby H t k => XT.i2b H hx rfl (g := mkF (km κ) pc Ls (.int x :: S)) (hb hby hd) rfl k) g
theorem W.i2c (w : W l Z a0 EL nw own bytes ml ret R κ T h M cells slots) {x : Int32} (hd : decode bytes pc = .ok (.i2c, 1)) (hp : pc + 1 = pc') {z : Int32} (hz : x.toUInt32.toUInt16.toUInt32.toInt32 = z)
    (g : Go Z EL nw R κ Q (T.setTop (mkF (km κ) pc' Ls (.int z :: S)))) : Go Z EL nw R κ Q (T.setTop (mkF (km κ) pc Ls (.int x :: S))) := by
  subst hp hz
  exact w.pure (fun hx hby H t k => XT.i2c H hx rfl (g := mkF (km κ) pc Ls (.int x :: S)) (hb hby hd) rfl k) g
theorem W.i2s (w : W l Z a0 EL nw own bytes ml ret R κ T h M cells slots) {x : Int32} (hd : decode bytes pc = .ok (.i2s, 1)) (hp : pc + 1 = pc') {z : Int32} (hz : x.toInt16.toInt32 = z)
    (g : Go Z EL nw R κ Q (T.setTop (mkF (km κ) pc' Ls (.int z :: S)))) : Go Z EL nw R κ Q (T.setTop (mkF (km κ) pc Ls (.int x :: S))) := by
  subst hp hz
  exact w.pure (fun hx hby H t k => XT.i2s H hx rfl (g := mkF (km κ) pc Ls (.int x :: S)) (hb hby hd) rfl k) g
theorem W.lcmp (w : W l Z a0 EL nw own bytes ml ret R κ T h M cells slots) {x y : Int64} (hd : decode bytes pc = .ok (.lcmp, 1)) (hp : pc + 1 = pc') {z : Int32} (hz : XT.cmpL x y = z)
    (g : Go Z EL nw R κ Q (T.setTop (mkF (km κ) pc' Ls (.int z :: S)))) : Go Z EL nw R κ Q (T.setTop (mkF (km κ) pc Ls (.long y :: .long x :: S))) := by
  subst hp hz
  exact w.pure (fun hx hby H t k => XT.lcmp H hx rfl (g := mkF (km κ) pc Ls (.long y :: .long x :: S)) (hb hby hd) rfl k) g
theorem W.dup (w : W l Z a0 EL nw own bytes ml ret R κ T h M cells slots) {x : Value} (hd : decode bytes pc = .ok (.dup, 1)) (hp : pc + 1 = pc') (hc : x.category = 1)
    (g : Go Z EL nw R κ Q (T.setTop (mkF (km κ) pc' Ls (x :: x :: S)))) : Go Z EL nw R κ Q (T.setTop (mkF (km κ) pc Ls (x :: S))) := by
  subst hp
  exact w.pure (fun hx hby H t k => XS.dup H hx rfl (g := mkF (km κ) pc Ls (x :: S)) (hb hby hd) rfl hc k) g
theorem W.pop (w : W l Z a0 EL nw own bytes ml ret R κ T h M cells slots) {x : Value} (hd : decode bytes pc = .ok (.pop, 1)) (hp : pc + 1 = pc') (hc : x.category = 1)
    (g : Go Z EL nw R κ Q (T.setTop (mkF (km κ) pc' Ls (S)))) : Go Z EL nw R κ Q (T.setTop (mkF (km κ) pc Ls (x :: S))) := by
  subst hp
  exact w.pure (fun hx hby H t k => XT.pop H hx rfl (g := mkF (km κ) pc Ls (x :: S)) (hb hby hd) rfl hc k) g
theorem W.dupX1 (w : W l Z a0 EL nw own bytes ml ret R κ T h M cells slots) {x y : Value} (hd : decode bytes pc = .ok (.dup_x1, 1)) (hp : pc + 1 = pc') (hc : x.category = 1) (hc' : y.category = 1)
    (g : Go Z EL nw R κ Q (T.setTop (mkF (km κ) pc' Ls (x :: y :: x :: S)))) : Go Z EL nw R κ Q (T.setTop (mkF (km κ) pc Ls (x :: y :: S))) := by
  subst hp
  exact w.pure (fun hx hby H t k => XT.dupX1 H hx rfl (g := mkF (km κ) pc Ls (x :: y :: S)) (hb hby hd) rfl hc hc' k) g
theorem W.dup2 (w : W l Z a0 EL nw own bytes ml ret R κ T h M cells slots) {x y : Value} (hd : decode bytes pc = .ok (.dup2, 1)) (hp : pc + 1 = pc') (hc : x.category = 1) (hc' : y.category = 1)
    (g : Go Z EL nw R κ Q (T.setTop (mkF (km κ) pc' Ls (x :: y :: x :: y :: S)))) : Go Z EL nw R κ Q (T.setTop (mkF (km κ) pc Ls (x :: y :: S))) := by
  subst hp
  exact w.pure (fun hx hby H t k => XT.dup2 H hx rfl (g := mkF (km κ) pc Ls (x :: y :: S)) (hb hby hd) rfl hc hc' k) g
theorem W.dup2L (w : W l Z a0 EL nw own bytes ml ret R κ T h M cells slots) {x : Int64} (hd : decode bytes pc = .ok (.dup2, 1)) (hp : pc + 1 = pc')
    (g : Go Z EL nw R κ Q (T.setTop (mkF (km κ) pc' Ls (.long x :: .long x :: S)))) : Go Z EL nw R κ Q (T.setTop (mkF (km κ) pc Ls (.long x :: S))) := by
  subst hp
  exact w.pure (fun hx hby H t k => XT.dup2L H hx rfl (g := mkF (km κ) pc Ls (.long x :: S)) (hb hby hd) rfl k) g
theorem W.goto (w : W l Z a0 EL nw own bytes ml ret R κ T h M cells slots) {o : Int} (hd : decode bytes pc = .ok (.goto o, 3)) (ho : 0 ≤ (pc : Int) + o) (hp : ((pc : Int) + o).toNat = pc')
    (g : Go Z EL nw R κ Q (T.setTop (mkF (km κ) pc' Ls (S)))) : Go Z EL nw R κ Q (T.setTop (mkF (km κ) pc Ls (S))) := by
  subst hp
  exact w.pure (fun hx hby H t k => XS.goto H hx rfl (g := mkF (km κ) pc Ls (S)) (pc0 := pc) rfl (hb hby hd) ho rfl k) g
theorem W.ifYes (w : W l Z a0 EL nw own bytes ml ret R κ T h M cells slots) {cd : ClassFile.Cond} {x : Int32} {o : Int} (hd : decode bytes pc = .ok (.ifCond cd o, 3)) (ho : 0 ≤ (pc : Int) + o) (hp : ((pc : Int) + o).toNat = pc') (hc : ifCond.holds cd x = true)
    (g : Go Z EL nw R κ Q (T.setTop (mkF (km κ) pc' Ls (S)))) : Go Z EL nw R κ Q (T.setTop (mkF (km κ) pc Ls (.int x :: S))) := by
  subst hp
  exact w.pure (fun hx hby H t k => XS.ifYes H hx rfl (g := mkF (km κ) pc Ls (.int x :: S)) (pc0 := pc) rfl (hb hby hd) rfl hc ho rfl k) g
theorem W.ifNo (w : W l Z a0 EL nw own bytes ml ret R κ T h M cells slots) {cd : ClassFile.Cond} {x : Int32} {o : Int} (hd : decode bytes pc = .ok (.ifCond cd o, 3)) (hp : pc + 3 = pc') (hc : ifCond.holds cd x = false)
    (g : Go Z EL nw R κ Q (T.setTop (mkF (km κ) pc' Ls (S)))) : Go Z EL nw R κ Q (T.setTop (mkF (km κ) pc Ls (.int x :: S))) := by
  subst hp
  exact w.pure (fun hx hby H t k => XS.ifNo H hx rfl (g := mkF (km κ) pc Ls (.int x :: S)) (hb hby hd) rfl hc k) g
theorem W.icmpYes (w : W l Z a0 EL nw own bytes ml ret R κ T h M cells slots) {cd : ClassFile.Cond} {x y : Int32} {o : Int} (hd : decode bytes pc = .ok (.if_icmp cd o, 3)) (ho : 0 ≤ (pc : Int) + o) (hp : ((pc : Int) + o).toNat = pc') (hc : if_icmp.holds cd x y = true)
    (g : Go Z EL nw R κ Q (T.setTop (mkF (km κ) pc' Ls (S)))) : Go Z EL nw R κ Q (T.setTop (mkF (km κ) pc Ls (.int y :: .int x :: S))) := by
  subst hp
  exact w.pure (fun hx hby H t k => XS.icmpYes H hx rfl (g := mkF (km κ) pc Ls (.int y :: .int x :: S)) (pc0 := pc) rfl (hb hby hd) rfl hc ho rfl k) g
theorem W.icmpNo (w : W l Z a0 EL nw own bytes ml ret R κ T h M cells slots) {cd : ClassFile.Cond} {x y : Int32} {o : Int} (hd : decode bytes pc = .ok (.if_icmp cd o, 3)) (hp : pc + 3 = pc') (hc : if_icmp.holds cd x y = false)
    (g : Go Z EL nw R κ Q (T.setTop (mkF (km κ) pc' Ls (S)))) : Go Z EL nw R κ Q (T.setTop (mkF (km κ) pc Ls (.int y :: .int x :: S))) := by
  subst hp
  exact w.pure (fun hx hby H t k => XS.icmpNo H hx rfl (g := mkF (km κ) pc Ls (.int y :: .int x :: S)) (hb hby hd) rfl hc k) g
theorem W.ifnullYes (w : W l Z a0 EL nw own bytes ml ret R κ T h M cells slots) {o : Int} (hd : decode bytes pc = .ok (.ifnull o, 3)) (ho : 0 ≤ (pc : Int) + o) (hp : ((pc : Int) + o).toNat = pc')
    (g : Go Z EL nw R κ Q (T.setTop (mkF (km κ) pc' Ls (S)))) : Go Z EL nw R κ Q (T.setTop (mkF (km κ) pc Ls (.null :: S))) := by
  subst hp
  exact w.pure (fun hx hby H t k => XS.ifnullYes H hx rfl (g := mkF (km κ) pc Ls (.null :: S)) (pc0 := pc) rfl (hb hby hd) rfl ho rfl k) g
theorem W.ifnullNo (w : W l Z a0 EL nw own bytes ml ret R κ T h M cells slots) {o : Int} {b : Addr} (hd : decode bytes pc = .ok (.ifnull o, 3)) (hp : pc + 3 = pc')
    (g : Go Z EL nw R κ Q (T.setTop (mkF (km κ) pc' Ls (S)))) : Go Z EL nw R κ Q (T.setTop (mkF (km κ) pc Ls (.ref b :: S))) := by
  subst hp
  exact w.pure (fun hx hby H t k => XS.ifnullNo H hx rfl (g := mkF (km κ) pc Ls (.ref b :: S)) (hb hby hd) rfl k) g
theorem W.ifnonnullYes (w : W l Z a0 EL nw own bytes ml ret R κ T h M cells slots) {o : Int} {b : Addr} (hd : decode bytes pc = .ok (.ifnonnull o, 3)) (ho : 0 ≤ (pc : Int) + o) (hp : ((pc : Int) + o).toNat = pc')
    (g : Go Z EL nw R κ Q (T.setTop (mkF (km κ) pc' Ls (S)))) : Go Z EL nw R κ Q (T.setTop (mkF (km κ) pc Ls (.ref b :: S))) := by
  subst hp
  exact w.pure (fun hx hby H t k => XT.ifnonnullYes H hx rfl (g := mkF (km κ) pc Ls (.ref b :: S)) (pc0 := pc) rfl (hb hby hd) rfl ho rfl k) g
theorem W.ifnonnullNo (w : W l Z a0 EL nw own bytes ml ret R κ T h M cells slots) {o : Int} (hd : decode bytes pc = .ok (.ifnonnull o, 3)) (hp : pc + 3 = pc')
    (g : Go Z EL nw R κ Q (T.setTop (mkF (km κ) pc' Ls (S)))) : Go Z EL nw R κ Q (T.setTop (mkF (km κ) pc Ls (.null :: S))) := by
  subst hp
  exact w.pure (fun hx hby H t k => XT.ifnonnullNo H hx rfl (g := mkF (km κ) pc Ls (.null :: S)) (hb hby hd) rfl k) g
theorem W.acmpYes (w : W l Z a0 EL nw own bytes ml ret R κ T h M cells slots) {cd : ClassFile.ACond} {x y : Value} {o : Int} (hd : decode bytes pc = .ok (.if_acmp cd o, 3)) (ho : 0 ≤ (pc : Int) + o) (hp : ((pc : Int) + o).toNat = pc') (hx' : x.isRef = true) (hy' : y.isRef = true) (hc : XT.acmp cd x y = true)
    (g : Go Z EL nw R κ Q (T.setTop (mkF (km κ) pc' Ls (S)))) : Go Z EL nw R κ Q (T.setTop (mkF (km κ) pc Ls (y :: x :: S))) := by
  subst hp
  exact w.pure (fun hx hby H t k => XT.acmpYes H hx rfl (g := mkF (km κ) pc Ls (y :: x :: S)) (pc0 := pc) rfl (hb hby hd) rfl hx' hy' hc ho rfl k) g
theorem W.acmpNo (w : W l Z a0 EL nw own bytes ml ret R κ T h M cells slots) {cd : ClassFile.ACond} {x y : Value} {o : Int} (hd : decode bytes pc = .ok (.if_acmp cd o, 3)) (hp : pc + 3 = pc') (hx' : x.isRef = true) (hy' : y.isRef = true) (hc : XT.acmp cd x y = false)
    (g : Go Z EL nw R κ Q (T.setTop (mkF (km κ) pc' Ls (S)))) : Go Z EL nw R κ Q (T.setTop (mkF (km κ) pc Ls (y :: x :: S))) := by
  subst hp
  exact w.pure (fun hx hby H t k => XT.acmpNo H hx rfl (g := mkF (km κ) pc Ls (y :: x :: S)) (hb hby hd) rfl hx' hy' hc k) g
end Pure
end Jvm.Own
/- laws to paste: Road.backV, Road.lenW, Road.codOf (cut by pick.py; bodies as the Statement names them) -/
namespace Jvm.Pilot.@@N@@
namespace StrChars
open Jvm Sem ClassFile Op Lib Jvm.Stand Jvm.Free.XT Jvm.Free.ALB Jvm.Free.JM Jvm.Free
open Jvm.Lib.Cold (StaticIs)
/-- a char array whose places are chars -/
def Ch (a : Addr) (A : Cell) (U : State) : Prop := Arr .char a A U ∧ Typed .char A
theorem Ch.mv {a : Addr} {A : Cell} {U U' : State} (h : Ch a A U) (hal : U.vm.Alike U'.vm) (hh : U'.heap = U.heap) : Ch a A U' := ⟨h.1.mv hal hh, h.2⟩
theorem Ch.keep {a : Addr} {A : Cell} {U U' : State} (h : Ch a A U) (hal : U.vm.Alike U'.vm) (hk : U'.heap[a]? = some A) : Ch a A U' := ⟨h.1.keep hal hk, h.2⟩
/-- what place i of a char[]'s cell holds -/
def cv (A : Cell) (i : Nat) : Int32 := match A.slots[i]? with | some (.int x) => x | _ => 0
theorem Ch.get {a : Addr} {A : Cell} {U : State} (h : Ch a A U) {i : Nat} (hi : i < A.slots.size) : A.slots[i]? = some (.int (cv A i)) := by
  have e := Array.getElem?_eq_getElem hi
  have f := h.2 i _ e
  unfold cv; rw [e]
  generalize A.slots[i] = v at f
  cases v <;> simp [fits] at f ⊢
/-- the byte that i2b leaves of a char -/
def lo8 (x : Int32) : Int32 := x.toInt8.toInt32
theorem fits_lo8 (y : Int32) : fits .byte (.int (lo8 y)) = true := by
  have h1 := y.toInt8.le_toInt
  have h2 := y.toInt8.toInt_lt
  simp only [lo8, fits, Bool.and_eq_true, decide_eq_true_eq, Int32.le_iff_toInt_le, Int8.toInt_toInt32, show (-128 : Int32).toInt = -128 from by decide, show (127 : Int32).toInt = 127 from by decide]
  omega
/-- A' is A but that each place j of lo .. hi - 1 holds f j -/
def Laid (A A' : Cell) (lo hi : Nat) (f : Nat → Value) : Prop := A'.cls = A.cls ∧ A'.vm = A.vm ∧ A'.slots.size = A.slots.size ∧ ∀ i, A'.slots[i]? = if lo ≤ i ∧ i < hi then some (f i) else A.slots[i]?
theorem Laid.zero (A : Cell) (lo : Nat) (f : Nat → Value) : Laid A A lo (lo + 0) f := ⟨rfl, rfl, rfl, fun i => by rw [if_neg (by omega)]⟩
theorem Laid.step {A Ak : Cell} {lo k : Nat} {f : Nat → Value} {v : Value} (h : Laid A Ak lo k f) (hlo : lo ≤ k) (hk : k < Ak.slots.size) (hv : v = f k) : Laid A (Ak.setSlot k v) lo (k + 1) f := by
  refine ⟨h.1, h.2.1, by simpa [Cell.setSlot] using h.2.2.1, fun i => ?_⟩
  by_cases e : k = i
  · subst e; rw [Cell.slots_setSlot_self v hk, if_pos (by omega), hv]
  · rw [Cell.slots_setSlot_ne v e, h.2.2.2 i]
    by_cases q : lo ≤ i ∧ i < k
    · rw [if_pos q, if_pos (by omega)]
    · rw [if_neg q, if_neg (by omega)]
def U16 : String := "java/lang/StringUTF16"
namespace Cmp5
def yN : MethodName := ⟨"java/lang/StringUTF16", "compress", "([CI[BII)I"⟩
abbrev yB : ByteArray := jdk_52_method_21_code
theorem d0 : decode yB 0 = .ok (.iconst 0, 1) := by decide +kernel
theorem d1 : decode yB 1 = .ok (.istore 5, 2) := by decide +kernel
theorem d3 : decode yB 3 = .ok (.iload 5, 2) := by decide +kernel
theorem d5 : decode yB 5 = .ok (.iload 4, 2) := by decide +kernel
theorem d7 : decode yB 7 = .ok (.if_icmp (.ge) 37, 3) := by decide +kernel
theorem d10 : decode yB 10 = .ok (.aload_n 0, 1) := by decide +kernel
theorem d11 : decode yB 11 = .ok (.iload_n 1, 1) := by decide +kernel
theorem d12 : decode yB 12 = .ok (.caload, 1) := by decide +kernel
theorem d13 : decode yB 13 = .ok (.istore 6, 2) := by decide +kernel
theorem d15 : decode yB 15 = .ok (.iload 6, 2) := by decide +kernel
theorem d17 : decode yB 17 = .ok (.sipush 255, 3) := by decide +kernel
theorem d20 : decode yB 20 = .ok (.if_icmp (.le) 6, 3) := by decide +kernel
theorem d26 : decode yB 26 = .ok (.aload_n 2, 1) := by decide +kernel
theorem d27 : decode yB 27 = .ok (.iload_n 3, 1) := by decide +kernel
theorem d28 : decode yB 28 = .ok (.iload 6, 2) := by decide +kernel
theorem d30 : decode yB 30 = .ok (.i2b, 1) := by decide +kernel
theorem d31 : decode yB 31 = .ok (.bastore, 1) := by decide +kernel
theorem d32 : decode yB 32 = .ok (.iinc 1 1, 3) := by decide +kernel
theorem d35 : decode yB 35 = .ok (.iinc 3 1, 3) := by decide +kernel
theorem d38 : decode yB 38 = .ok (.iinc 5 1, 3) := by decide +kernel
theorem d41 : decode yB 41 = .ok (.goto (-38), 3) := by decide +kernel
theorem d44 : decode yB 44 = .ok (.iload 4, 2) := by decide +kernel
theorem d46 : decode yB 46 = .ok (.ireturn, 1) := by decide +kernel
def site : List Cond := []
def tab : Cond := tabOf yN yB 7 (some .int) site
def P (b : Addr) (A : Cell) (d : Addr) (B : Cell) (o q len : Nat) (args : Array Value) (s : State) : Prop := args = #[.ref b, .int (Int32.ofNat o), .ref d, .int (Int32.ofNat q), .int (Int32.ofNat len)] ∧ Ch b A s ∧ Arr .byte d B s ∧ b ≠ d ∧ o + len ≤ A.slots.size ∧ q + len ≤ B.slots.size ∧ ∀ i, i < len → ¬ 255 < cv A (o + i)
def E (b : Addr) (A : Cell) (d : Addr) (B : Cell) (o q len : Nat) (r : Option Value) (s u : State) : Prop := r = some (.int (Int32.ofNat len)) ∧ ∃ B', Put d B' s u ∧ Laid B B' q (q + len) (fun j => Value.int (lo8 (cv A (o + (j - q)))))
/-- no char of the range above 255: len; the places written hold each char's low byte -/
theorem law (l : Launch) (b : Addr) (A : Cell) (d : Addr) (B : Cell) (o q len : Nat) : Law l yN 5 5 0 0 yB 7 (some .int) site (P b A d B o q len) (E b A d B o q len) (copyLocs d q len) 0 0 := by
  refine Law.of_walk (plainFor_of_name (by decide +kernel)) (by decide +kernel) (by decide +kernel) (by decide) (fun _ _ h => by rw [h.1]; rfl) (fun _ U U' hal hh h => ⟨h.1, h.2.1.mv hal hh, h.2.2.1.mv hal hh, h.2.2.2⟩) (fun r U U' V V' h1 hal h2 h => ⟨h.1, h.2.elim fun B' q => ⟨B', q.1.mv h1 h2, q.2⟩⟩) ?_
  intro p e s m args below meth c s₁ X0 hexec hbytes hml hret hlk hnm hown hh0 W hP
  obtain ⟨rfl, hA, hB, hne, l1, l2, hp⟩ := hP
  have c1 : Steps p.tables e below (s₁.setTop (entryFrame m #[.ref b, .int (Int32.ofNat o), .ref d, .int (Int32.ofNat q), .int (Int32.ofNat len)] 7)) (s₁.setTop (mkF m 0 #[.val (.ref b), .val (.int (Int32.ofNat o)), .val (.ref d), .val (.int (Int32.ofNat q)), .val (.int (Int32.ofNat len)), .unset, .unset] [])) := entry rfl
  have hA0 := hA.1.mv X0.warmed.alike hh0
  have hB0 := hB.mv X0.warmed.alike hh0
  have a31 := hA.1.2.2.2
  have c2 : Steps p.tables e below (s₁.setTop (entryFrame m #[.ref b, .int (Int32.ofNat o), .ref d, .int (Int32.ofNat q), .int (Int32.ofNat len)] 7)) (s₁.setTop (mkF m 3 #[.val (.ref b), .val (.int (Int32.ofNat o)), .val (.ref d), .val (.int (Int32.ofNat q)), .val (.int (Int32.ofNat len)), .val (.int 0), .unset] [])) := c1.trans (by
    refine iconstV X0.here hexec rfl 0 (hb hbytes d0) (by decide) ?_
    refine XS.istore X0.here hexec rfl (hb hbytes d1) rfl rfl ?_
    exact Steps.refl _)
  have loop : ∀ (r i : Nat), i + r = len → ∀ (z : Slot), (z = .unset ∨ ∃ w, z = .val w ∧ w.category = 1) → ∀ (Tl : State) (Bk : Cell), Stand p l e { frames := 0, locals := 0, cells := 0, slots := 0 } s m #[.ref b, .int (Int32.ofNat o), .ref d, .int (Int32.ofNat q), .int (Int32.ofNat len)] below meth c Tl ([] ++ copyLocs d q i) 0 0 → Put d Bk s₁ Tl → Laid B Bk q (q + i) (fun j => Value.int (lo8 (cv A (o + (j - q))))) →
      Steps p.tables e below (s₁.setTop (entryFrame m #[.ref b, .int (Int32.ofNat o), .ref d, .int (Int32.ofNat q), .int (Int32.ofNat len)] 7)) (Tl.setTop (mkF m 3 #[.val (.ref b), .val (.int (Int32.ofNat (o + i))), .val (.ref d), .val (.int (Int32.ofNat (q + i))), .val (.int (Int32.ofNat len)), .val (.int (Int32.ofNat i)), z] [])) → ∃ (T' : State) (B' : Cell) (z' : Slot), Stand p l e { frames := 0, locals := 0, cells := 0, slots := 0 } s m #[.ref b, .int (Int32.ofNat o), .ref d, .int (Int32.ofNat q), .int (Int32.ofNat len)] below meth c T' ([] ++ copyLocs d q len) 0 0 ∧ Put d B' s₁ T' ∧ Laid B B' q (q + len) (fun j => Value.int (lo8 (cv A (o + (j - q))))) ∧
      Steps p.tables e below (s₁.setTop (entryFrame m #[.ref b, .int (Int32.ofNat o), .ref d, .int (Int32.ofNat q), .int (Int32.ofNat len)] 7)) (T'.setTop (mkF m 3 #[.val (.ref b), .val (.int (Int32.ofNat (o + len))), .val (.ref d), .val (.int (Int32.ofNat (q + len))), .val (.int (Int32.ofNat len)), .val (.int (Int32.ofNat len)), z'] [])) := by
    intro r
    induction r with
    | zero =>
      intro i hi z hz Tl Bk Xl pl fl cl
      have hil : i = len := by omega
      rw [hil] at Xl fl cl
      exact ⟨Tl, Bk, z, Xl, pl, fl, cl⟩
    | succ r ih =>
      intro i hi z hz Tl Bk Xl pl fl cl
      have all := X0.warmed.alike.symm.trans Xl.warmed.alike
      have hAl := hA0.keep all (pl.other hne hA0.1)
      have hBk := hB0.like all pl.1 fl.1 fl.2.1 fl.2.2.1
      have hlt : q + i < Bk.slots.size := by rw [fl.2.2.1]; omega
      have c3 : Steps p.tables e below (s₁.setTop (entryFrame m #[.ref b, .int (Int32.ofNat o), .ref d, .int (Int32.ofNat q), .int (Int32.ofNat len)] 7)) (Tl.setTop (mkF m 12 #[.val (.ref b), .val (.int (Int32.ofNat (o + i))), .val (.ref d), .val (.int (Int32.ofNat (q + i))), .val (.int (Int32.ofNat len)), .val (.int (Int32.ofNat i)), z] [.int (Int32.ofNat (o + i)), .ref b])) := cl.trans (by
        refine XS.iload Xl.here hexec rfl (hb hbytes d3) rfl ?_
        refine XS.iload Xl.here hexec rfl (hb hbytes d5) rfl ?_
        refine XS.icmpNo Xl.here hexec rfl (hb hbytes d7) rfl (ii_ge_f (lt32 (by omega) (by omega))) ?_
        refine XS.aloadN Xl.here hexec rfl (hb hbytes d10) rfl rfl ?_
        refine XS.iloadN Xl.here hexec rfl (hb hbytes d11) rfl ?_
        exact Steps.refl _)
      have c4 : Steps p.tables e below (s₁.setTop (entryFrame m #[.ref b, .int (Int32.ofNat o), .ref d, .int (Int32.ofNat q), .int (Int32.ofNat len)] 7)) (Tl.setTop (mkF m 13 #[.val (.ref b), .val (.int (Int32.ofNat (o + i))), .val (.ref d), .val (.int (Int32.ofNat (q + i))), .val (.int (Int32.ofNat len)), .val (.int (Int32.ofNat i)), z] [.int (cv A (o + i))])) := c3.trans (by
        refine Xl.aget hexec hAl rfl (hA.get (i := o + i) (by omega)) rfl rfl (hb hbytes d12) ?_
        exact Steps.refl _)
      have c5 : Steps p.tables e below (s₁.setTop (entryFrame m #[.ref b, .int (Int32.ofNat o), .ref d, .int (Int32.ofNat q), .int (Int32.ofNat len)] 7)) (Tl.setTop (mkF m 15 #[.val (.ref b), .val (.int (Int32.ofNat (o + i))), .val (.ref d), .val (.int (Int32.ofNat (q + i))), .val (.int (Int32.ofNat len)), .val (.int (Int32.ofNat i)), .val (.int (cv A (o + i)))] [])) := c4.trans (by
        refine XS.istoreS Xl.here hexec rfl (hb hbytes d13) rfl rfl hz ?_
        exact Steps.refl _)
      have c6 : Steps p.tables e below (s₁.setTop (entryFrame m #[.ref b, .int (Int32.ofNat o), .ref d, .int (Int32.ofNat q), .int (Int32.ofNat len)] 7)) (Tl.setTop (mkF m 31 #[.val (.ref b), .val (.int (Int32.ofNat (o + i))), .val (.ref d), .val (.int (Int32.ofNat (q + i))), .val (.int (Int32.ofNat len)), .val (.int (Int32.ofNat i)), .val (.int (cv A (o + i)))] [.int (lo8 (cv A (o + i))), .int (Int32.ofNat (q + i)), .ref d])) := c5.trans (by
        refine XS.iload Xl.here hexec rfl (hb hbytes d15) rfl ?_
        refine sipushV Xl.here hexec rfl 255 (hb hbytes d17) (by decide) ?_
        refine XS.icmpYes Xl.here hexec rfl (pc0 := 20) rfl (hb hbytes d20) rfl (ii_le_t (hp i (by omega))) (by decide) rfl ?_
        refine XS.aloadN Xl.here hexec rfl (hb hbytes d26) rfl rfl ?_
        refine XS.iloadN Xl.here hexec rfl (hb hbytes d27) rfl ?_
        refine XS.iload Xl.here hexec rfl (hb hbytes d28) rfl ?_
        refine i2b Xl.here hexec rfl (hb hbytes d30) rfl ?_
        exact Steps.refl _)
      obtain ⟨T7, X7, p7, st7⟩ := Xl.aput hexec hBk rfl hlt rfl (fits_lo8 (cv A (o + i))) (g := (mkF m 31 #[.val (.ref b), .val (.int (Int32.ofNat (o + i))), .val (.ref d), .val (.int (Int32.ofNat (q + i))), .val (.int (Int32.ofNat len)), .val (.int (Int32.ofNat i)), .val (.int (cv A (o + i)))] [.int (lo8 (cv A (o + i))), .int (Int32.ofNat (q + i)), .ref d])) rfl (rest := []) rfl (hb hbytes d31)
      have c8 : Steps p.tables e below (s₁.setTop (entryFrame m #[.ref b, .int (Int32.ofNat o), .ref d, .int (Int32.ofNat q), .int (Int32.ofNat len)] 7)) (T7.setTop (mkF m 32 #[.val (.ref b), .val (.int (Int32.ofNat (o + i))), .val (.ref d), .val (.int (Int32.ofNat (q + i))), .val (.int (Int32.ofNat len)), .val (.int (Int32.ofNat i)), .val (.int (cv A (o + i)))] [])) := c6.trans (st7 _ (Steps.refl _))
      have c9 : Steps p.tables e below (s₁.setTop (entryFrame m #[.ref b, .int (Int32.ofNat o), .ref d, .int (Int32.ofNat q), .int (Int32.ofNat len)] 7)) (T7.setTop (mkF m 3 #[.val (.ref b), .val (.int (Int32.ofNat (o + i) + 1)), .val (.ref d), .val (.int (Int32.ofNat (q + i) + 1)), .val (.int (Int32.ofNat len)), .val (.int (Int32.ofNat i + 1)), .val (.int (cv A (o + i)))] [])) := c8.trans (by
        refine iincV X7.here hexec rfl 1 (hb hbytes d32) (by decide) rfl rfl ?_
        refine iincV X7.here hexec rfl 1 (hb hbytes d35) (by decide) rfl rfl ?_
        refine iincV X7.here hexec rfl 1 (hb hbytes d38) (by decide) rfl rfl ?_
        refine XS.goto X7.here hexec rfl (pc0 := 41) rfl (hb hbytes d41) (by decide) rfl ?_
        exact Steps.refl _)
      have c10 : Steps p.tables e below (s₁.setTop (entryFrame m #[.ref b, .int (Int32.ofNat o), .ref d, .int (Int32.ofNat q), .int (Int32.ofNat len)] 7)) (T7.setTop (mkF m 3 #[.val (.ref b), .val (.int (Int32.ofNat (o + (i + 1)))), .val (.ref d), .val (.int (Int32.ofNat (q + (i + 1)))), .val (.int (Int32.ofNat len)), .val (.int (Int32.ofNat (i + 1))), .val (.int (cv A (o + i)))] [])) := by
        have := c9
        rw [succ32, succ32, succ32] at this
        exact this
      exact ih (i + 1) (by omega) _ (Or.inr ⟨_, rfl, rfl⟩) T7 _ (by rw [copyLocs_step, ← List.append_assoc]; exact X7) (pl.trans p7) (fl.step (by omega) hlt (by simp)) c10
  obtain ⟨T9, B9, z9, X9, p9, f9, g9⟩ := loop len 0 (by omega) .unset (Or.inl rfl) s₁ B (by simpa [copyLocs] using X0) ⟨hB0.1, fun _ _ => rfl, rfl⟩ (Laid.zero _ _ _) c2
  have c11 : Steps p.tables e below (s₁.setTop (entryFrame m #[.ref b, .int (Int32.ofNat o), .ref d, .int (Int32.ofNat q), .int (Int32.ofNat len)] 7)) (T9.setTop (mkF m 46 #[.val (.ref b), .val (.int (Int32.ofNat (o + len))), .val (.ref d), .val (.int (Int32.ofNat (q + len))), .val (.int (Int32.ofNat len)), .val (.int (Int32.ofNat len)), z9] [.int (Int32.ofNat len)])) := g9.trans (by
    refine XS.iload X9.here hexec rfl (hb hbytes d3) rfl ?_
    refine XS.iload X9.here hexec rfl (hb hbytes d5) rfl ?_
    refine XS.icmpYes X9.here hexec rfl (pc0 := 7) rfl (hb hbytes d7) rfl (ii_ge_t (nlt32 (by omega) (Nat.le_refl _))) (by decide) rfl ?_
    refine XS.iload X9.here hexec rfl (hb hbytes d44) rfl ?_
    exact Steps.refl _)
  exact ⟨T9, some (.int (Int32.ofNat len)), _, _, _, X9, by simp, rfl, rfl, (fun h => by cases h), ⟨rfl, B9, p9.from hh0, f9⟩, fun fs hl => c11.trans (X9.ireturnOut hexec hret rfl (Or.inl rfl) (hb hbytes d46) hl)⟩
end Cmp5
namespace Cmp3
def yN : MethodName := ⟨"java/lang/StringUTF16", "compress", "([CII)[B"⟩
abbrev yB : ByteArray := jdk_52_method_16_code
theorem d0 : decode yB 0 = .ok (.iload_n 2, 1) := by decide +kernel
theorem d1 : decode yB 1 = .ok (.newarray .byte, 2) := by decide +kernel
theorem d3 : decode yB 3 = .ok (.astore_n 3, 1) := by decide +kernel
theorem d4 : decode yB 4 = .ok (.aload_n 0, 1) := by decide +kernel
theorem d5 : decode yB 5 = .ok (.iload_n 1, 1) := by decide +kernel
theorem d6 : decode yB 6 = .ok (.aload_n 3, 1) := by decide +kernel
theorem d7 : decode yB 7 = .ok (.iconst 0, 1) := by decide +kernel
theorem d8 : decode yB 8 = .ok (.iload_n 2, 1) := by decide +kernel
theorem d9 : decode yB 9 = .ok (.invokestatic 115, 3) := by decide +kernel
theorem d12 : decode yB 12 = .ok (.istore 4, 2) := by decide +kernel
theorem d14 : decode yB 14 = .ok (.iload 4, 2) := by decide +kernel
theorem d16 : decode yB 16 = .ok (.iload_n 2, 1) := by decide +kernel
theorem d17 : decode yB 17 = .ok (.if_icmp (.eq) 40, 3) := by decide +kernel
theorem d57 : decode yB 57 = .ok (.aload_n 3, 1) := by decide +kernel
theorem d58 : decode yB 58 = .ok (.areturn, 1) := by decide +kernel
def site : List Cond := [.arrayClass .byte, Cmp5.tab] ++ staticW U16 115 Cmp5.yN
def tab : Cond := tabOf yN yB 6 (some (.array .byte)) site
def P (b : Addr) (A : Cell) (o len : Nat) (args : Array Value) (s : State) : Prop := args = #[.ref b, .int (Int32.ofNat o), .int (Int32.ofNat len)] ∧ Ch b A s ∧ o + len ≤ A.slots.size ∧ len ≤ 536870912 ∧ ∀ i, i < len → ¬ 255 < cv A (o + i)
def E (b : Addr) (A : Cell) (o len : Nat) (r : Option Value) (s u : State) : Prop := NewArr .byte "[B" len (fun j => .int (lo8 (cv A (o + j)))) r s u ∧ u.heap.size = s.heap.size + 1
/-- no char of the range above 255: a new byte[] of their low bytes -/
theorem law (l : Launch) (b : Addr) (A : Cell) (o len : Nat) : Law l yN 3 3 1 18 yB 6 (some (.array .byte)) site (P b A o len) (E b A o len) [] 1 len := by
  refine Law.of_walk (plainFor_of_name (by decide +kernel)) (by decide +kernel) (by decide +kernel) (by decide) (fun _ _ h => by rw [h.1]; rfl) (fun _ U U' hal hh h => ⟨h.1, h.2.1.mv hal hh, h.2.2⟩) (fun r U U' V V' h1 hal h2 h => ⟨NewArr.mv r U U' V V' h1 hal h2 h.1, by rw [h1, h2]; exact h.2⟩) ?_
  intro p e s m args below meth c s₁ X0 hexec hbytes hml hret hlk hnm hown hh0 W hP
  obtain ⟨rfl, hA, l1, l2, hp⟩ := hP
  have a31 := hA.1.2.2.2
  have c1 : Steps p.tables e below (s₁.setTop (entryFrame m #[.ref b, .int (Int32.ofNat o), .int (Int32.ofNat len)] 6)) (s₁.setTop (mkF m 0 #[.val (.ref b), .val (.int (Int32.ofNat o)), .val (.int (Int32.ofNat len)), .unset, .unset, .unset] [])) := entry rfl
  have c2 : Steps p.tables e below (s₁.setTop (entryFrame m #[.ref b, .int (Int32.ofNat o), .int (Int32.ofNat len)] 6)) (s₁.setTop (mkF m 1 #[.val (.ref b), .val (.int (Int32.ofNat o)), .val (.int (Int32.ofNat len)), .unset, .unset, .unset] [.int (Int32.ofNat len)])) := c1.trans (by
    refine XS.iloadN X0.here hexec rfl (hb hbytes d0) rfl ?_
    exact Steps.refl _)
  obtain ⟨T3, B3, X3, ba3, bs3, bv3, bh3, bf3, st3⟩ := X0.anew hexec (atype := .byte) (wk W (.arrayClass .byte)) rfl (by show len * 1 ≤ _; omega) (by omega) (g := (mkF m 1 #[.val (.ref b), .val (.int (Int32.ofNat o)), .val (.int (Int32.ofNat len)), .unset, .unset, .unset] [.int (Int32.ofNat len)])) rfl (hb hbytes d1) (rest := []) rfl (Nat.le_refl _) (by show 0 + len ≤ len; omega)
  rw [hh0] at ba3 st3
  have kp3 : XT.Kept s T3 := (XT.Kept.of_eq hh0).push bh3
  have hA3 := hA.keep X3.warmed.alike (kp3 _ _ hA.1.1)
  have hne : b ≠ s.heap.size := hA.1.ne
  have c4 : Steps p.tables e below (s₁.setTop (entryFrame m #[.ref b, .int (Int32.ofNat o), .int (Int32.ofNat len)] 6)) (T3.setTop (mkF m 3 #[.val (.ref b), .val (.int (Int32.ofNat o)), .val (.int (Int32.ofNat len)), .unset, .unset, .unset] [.ref s.heap.size])) := c2.trans (st3 _ (Steps.refl _))
  have c5 : Steps p.tables e below (s₁.setTop (entryFrame m #[.ref b, .int (Int32.ofNat o), .int (Int32.ofNat len)] 6)) (T3.setTop (mkF m 9 #[.val (.ref b), .val (.int (Int32.ofNat o)), .val (.int (Int32.ofNat len)), .val (.ref s.heap.size), .unset, .unset] [.int (Int32.ofNat len), .int 0, .ref s.heap.size, .int (Int32.ofNat o), .ref b])) := c4.trans (by
    refine XS.astoreN X3.here hexec rfl (hb hbytes d3) rfl rfl rfl ?_
    refine XS.aloadN X3.here hexec rfl (hb hbytes d4) rfl rfl ?_
    refine XS.iloadN X3.here hexec rfl (hb hbytes d5) rfl ?_
    refine XS.aloadN X3.here hexec rfl (hb hbytes d6) rfl rfl ?_
    refine iconstV X3.here hexec rfl 0 (hb hbytes d7) (by decide) ?_
    refine XS.iloadN X3.here hexec rfl (hb hbytes d8) rfl ?_
    exact Steps.refl _)
  obtain ⟨v6, T6, X6, E6, g6⟩ := X3.callS hexec (Cmp5.law l b A s.heap.size B3 o 0 len) hown (wks W (staticW U16 115 Cmp5.yN)) (wk W Cmp5.tab) (W := 0) (Nat.le_of_ble_eq_true rfl) (Nat.le_of_ble_eq_true rfl) (Nat.le_refl _) (by show 0 + len + 0 ≤ len; omega) (g := (mkF m 9 #[.val (.ref b), .val (.int (Int32.ofNat o)), .val (.int (Int32.ofNat len)), .val (.ref s.heap.size), .unset, .unset] [.int (Int32.ofNat len), .int (Int32.ofNat 0), .ref s.heap.size, .int (Int32.ofNat o), .ref b])) rfl (by rw [hml]; rfl) c5 (argsL := [.ref b, .int (Int32.ofNat o), .ref s.heap.size, .int (Int32.ofNat 0), .int (Int32.ofNat len)]) (rest := []) rfl rfl (by show 2 * 0 + 0 ≤ _; decide) (hb hbytes d9) (⟨rfl, hA3, ba3, hne, l1, by rw [bs3]; simp, hp⟩)
  obtain ⟨rfl, B6, p6, f6⟩ := E6
  have c7 : Steps p.tables e below (s₁.setTop (entryFrame m #[.ref b, .int (Int32.ofNat o), .int (Int32.ofNat len)] 6)) (T6.setTop (mkF m 12 #[.val (.ref b), .val (.int (Int32.ofNat o)), .val (.int (Int32.ofNat len)), .val (.ref s.heap.size), .unset, .unset] [.int (Int32.ofNat len)])) := g6
  have c8 : Steps p.tables e below (s₁.setTop (entryFrame m #[.ref b, .int (Int32.ofNat o), .int (Int32.ofNat len)] 6)) (T6.setTop (mkF m 58 #[.val (.ref b), .val (.int (Int32.ofNat o)), .val (.int (Int32.ofNat len)), .val (.ref s.heap.size), .val (.int (Int32.ofNat len)), .unset] [.ref s.heap.size])) := c7.trans (by
    refine XS.istore X6.here hexec rfl (hb hbytes d12) rfl rfl ?_
    refine XS.iload X6.here hexec rfl (hb hbytes d14) rfl ?_
    refine XS.iloadN X6.here hexec rfl (hb hbytes d16) rfl ?_
    refine XS.icmpYes X6.here hexec rfl (pc0 := 17) rfl (hb hbytes d17) rfl (ii_eq_t rfl) (by decide) rfl ?_
    refine XS.aloadN X6.here hexec rfl (hb hbytes d57) rfl rfl ?_
    exact Steps.refl _)
  have X8 := X6.wide (L' := []) (cells' := 1) (slots' := len) (fun x hx hlt => by
    simp only [List.nil_append, copyLocs, List.mem_map, List.mem_range] at hx
    obtain ⟨i, -, rfl⟩ := hx
    exact absurd hlt (Nat.lt_irrefl _)) (Nat.le_refl _) (by omega)
  exact ⟨T6, some (.ref s.heap.size), _, _, _, X8, rfl, rfl, rfl, (fun h => by cases h), ⟨⟨rfl, B6, ba3.like (X3.warmed.alike.symm.trans X6.warmed.alike) p6.1 f6.1 f6.2.1 f6.2.2.1, f6.2.1.trans bv3, by rw [X6.warmed.alike.findClass, f6.1]; exact bf3, by rw [f6.2.2.1, bs3]; simp, fun j hj => by rw [f6.2.2.2 j, if_pos (by omega)]; rfl, kp3.put p6 (Nat.le_refl _)⟩, by rw [p6.2.2, bh3, hh0]; simp⟩, fun fs hl => c8.trans (X8.areturnOut hexec rfl hret rfl (hb hbytes d58) hl)⟩
end Cmp3
namespace CodL
def yN : MethodName := ⟨"java/lang/StringUTF16", "coderFromArrayLen", "([BI)B"⟩
abbrev yB : ByteArray := jdk_52_method_15_code
theorem d0 : decode yB 0 = .ok (.iload_n 1, 1) := by decide +kernel
theorem d1 : decode yB 1 = .ok (.aload_n 0, 1) := by decide +kernel
theorem d2 : decode yB 2 = .ok (.arraylength, 1) := by decide +kernel
theorem d3 : decode yB 3 = .ok (.isub, 1) := by decide +kernel
theorem d4 : decode yB 4 = .ok (.bipush 31, 2) := by decide +kernel
theorem d6 : decode yB 6 = .ok (.iushr, 1) := by decide +kernel
theorem d7 : decode yB 7 = .ok (.i2b, 1) := by decide +kernel
theorem d8 : decode yB 8 = .ok (.ireturn, 1) := by decide +kernel
def site : List Cond := []
def tab : Cond := tabOf yN yB 2 (some .byte) site
def P (d : Addr) (B : Cell) (args : Array Value) (s : State) : Prop := args = #[.ref d, .int (Int32.ofNat B.slots.size)] ∧ Arr .byte d B s
def E (r : Option Value) (s u : State) : Prop := XT.PureE (some (.int 0)) r s u
/-- an array as long as the number of chars: LATIN1 -/
theorem law (l : Launch) (d : Addr) (B : Cell) : Law l yN 2 2 0 0 yB 2 (some .byte) site (P d B) E [] 0 0 := by
  refine Law.of_walk (plainFor_of_name (by decide +kernel)) (by decide +kernel) (by decide +kernel) (by decide) (fun _ _ h => by rw [h.1]; rfl) (fun _ U U' hal hh h => ⟨h.1, h.2.mv hal hh⟩) (fun r U U' V V' h1 hal h2 h => XT.PureE.mv r U U' V V' h1 hal h2 h) ?_
  intro p e s m args below meth c s₁ X0 hexec hbytes hml hret hlk hnm hown hh0 W hP
  obtain ⟨rfl, hB⟩ := hP
  have hB0 := hB.mv X0.warmed.alike hh0
  have c1 : Steps p.tables e below (s₁.setTop (entryFrame m #[.ref d, .int (Int32.ofNat B.slots.size)] 2)) (s₁.setTop (mkF m 0 #[.val (.ref d), .val (.int (Int32.ofNat B.slots.size))] [])) := entry rfl
  have c2 : Steps p.tables e below (s₁.setTop (entryFrame m #[.ref d, .int (Int32.ofNat B.slots.size)] 2)) (s₁.setTop (mkF m 2 #[.val (.ref d), .val (.int (Int32.ofNat B.slots.size))] [.ref d, .int (Int32.ofNat B.slots.size)])) := c1.trans (by
    refine XS.iloadN X0.here hexec rfl (hb hbytes d0) rfl ?_
    refine XS.aloadN X0.here hexec rfl (hb hbytes d1) rfl rfl ?_
    exact Steps.refl _)
  have c3 : Steps p.tables e below (s₁.setTop (entryFrame m #[.ref d, .int (Int32.ofNat B.slots.size)] 2)) (s₁.setTop (mkF m 8 #[.val (.ref d), .val (.int (Int32.ofNat B.slots.size))] [.int (lo8 (ushr (Int32.ofNat B.slots.size - Int32.ofNat B.slots.size) 31))])) := c2.trans (by
    refine X0.alen hexec hB0 rfl rfl (hb hbytes d2) ?_
    refine XS.isub X0.here hexec rfl (hb hbytes d3) rfl ?_
    refine bipushV X0.here hexec rfl 31 (hb hbytes d4) (by decide) ?_
    refine iushr X0.here hexec rfl (hb hbytes d6) rfl ?_
    refine i2b X0.here hexec rfl (hb hbytes d7) rfl ?_
    exact Steps.refl _)
  have e0 : lo8 (ushr (Int32.ofNat B.slots.size - Int32.ofNat B.slots.size) 31) = 0 := by rw [Int32.sub_self]; decide
  rw [e0] at c3
  exact ⟨s₁, some (.int 0), _, _, _, X0, rfl, rfl, rfl, (fun h => by cases h), ⟨rfl, hh0⟩, fun fs hl => c3.trans (X0.ireturnOut hexec hret rfl (Or.inr (Or.inr (Or.inl rfl))) (hb hbytes d8) hl)⟩
end CodL
/-- the String at a is Latin-1 over a new byte[] (the heap's one new cell): the low bytes of the len chars of A from o on; every cell but a is kept -/
def Got (a : Addr) (D : Cell) (fV fC : Field) (A : Cell) (o len : Nat) (r : Option Value) (s u : State) : Prop := r = none ∧ ∃ D' V : Cell, Blank "java/lang/String" a D' u ∧ Same D D' [fV.slot, fC.slot] ∧ D'.slots[fV.slot]? = some (.ref s.heap.size) ∧ D'.slots[fC.slot]? = some (.int 0) ∧ Arr .byte s.heap.size V u ∧ V.vm = .none ∧ u.vm.findClass "[B" = some V.cls ∧ V.slots.size = len ∧ (∀ j, j < len → V.slots[j]? = some (.int (lo8 (cv A (o + j))))) ∧ (∀ (y : Addr) (c : Cell), y ≠ a → s.heap[y]? = some c → u.heap[y]? = some c) ∧ u.heap.size = s.heap.size + 1
theorem Got.mv {a : Addr} {D A : Cell} {fV fC : Field} {o len : Nat} : ∀ r (U U' V V' : State), U'.heap = U.heap → V.vm.Alike V'.vm → V'.heap = V.heap → Got a D fV fC A o len r U V → Got a D fV fC A o len r U' V' :=
  fun r U U' V V' h1 hal h2 ⟨e0, D', X, a1, a2, a3, a4, a5, a6, a7, a8, a9, a10, a11⟩ => ⟨e0, D', X, a1.mv hal h2, a2, by rw [h1]; exact a3, a4, by rw [h1]; exact a5.mv hal h2, a6, by rw [hal.findClass]; exact a7, a8, a9, by rw [h1, h2]; exact a10, by rw [h1, h2]; exact a11⟩
namespace New4
def yN : MethodName := ⟨"java/lang/String", "<init>", "([CIILjava/lang/Void;)V"⟩
abbrev yB : ByteArray := jdk_42_method_149_code
theorem d0 : decode yB 0 = .ok (.aload_n 0, 1) := by decide +kernel
theorem d1 : decode yB 1 = .ok (.invokespecial 1, 3) := by decide +kernel
theorem d4 : decode yB 4 = .ok (.iload_n 3, 1) := by decide +kernel
theorem d5 : decode yB 5 = .ok (.ifCond (.ne) 22, 3) := by decide +kernel
theorem d27 : decode yB 27 = .ok (.getstatic 38, 3) := by decide +kernel
theorem d30 : decode yB 30 = .ok (.ifCond (.eq) 28, 3) := by decide +kernel
theorem d33 : decode yB 33 = .ok (.aload_n 1, 1) := by decide +kernel
theorem d34 : decode yB 34 = .ok (.iload_n 2, 1) := by decide +kernel
theorem d35 : decode yB 35 = .ok (.iload_n 3, 1) := by decide +kernel
theorem d36 : decode yB 36 = .ok (.invokestatic 177, 3) := by decide +kernel
theorem d39 : decode yB 39 = .ok (.astore 5, 2) := by decide +kernel
theorem d41 : decode yB 41 = .ok (.aload_n 0, 1) := by decide +kernel
theorem d42 : decode yB 42 = .ok (.aload 5, 2) := by decide +kernel
theorem d44 : decode yB 44 = .ok (.iload_n 3, 1) := by decide +kernel
theorem d45 : decode yB 45 = .ok (.invokestatic 47, 3) := by decide +kernel
theorem d48 : decode yB 48 = .ok (.putfield 15, 3) := by decide +kernel
theorem d51 : decode yB 51 = .ok (.aload_n 0, 1) := by decide +kernel
theorem d52 : decode yB 52 = .ok (.aload 5, 2) := by decide +kernel
theorem d54 : decode yB 54 = .ok (.putfield 9, 3) := by decide +kernel
theorem d57 : decode yB 57 = .ok (.return_, 1) := by decide +kernel
def site : List Cond := [.fieldLink "java/lang/String" 38 "java/lang/String" "COMPACT_STRINGS" "Z", Cmp3.tab, CodL.tab, .laysFinal "java/lang/String" "java/lang/String" "value" "[B", .fieldLink "java/lang/String" 9 "java/lang/String" "value" "[B", .laysFinal "java/lang/String" "java/lang/String" "coder" "B", .fieldLink "java/lang/String" 15 "java/lang/String" "coder" "B"] ++ objW "java/lang/String" 1 ++ staticW "java/lang/String" 177 Cmp3.yN ++ staticW "java/lang/String" 47 CodL.yN
def tab : Cond := tabOf yN yB 6 none site
def P (a : Addr) (D : Cell) (fV fC : Field) (b : Addr) (A : Cell) (z : Int32) (o len : Nat) (args : Array Value) (s : State) : Prop := args = #[.ref a, .ref b, .int (Int32.ofNat o), .int (Int32.ofNat len), .null] ∧ Blank "java/lang/String" a D s ∧ Found "java/lang/String" "value" "[B" fV s ∧ Found "java/lang/String" "coder" "B" fC s ∧ Ch b A s ∧ StaticIs s "java/lang/String" "COMPACT_STRINGS" "Z" (.int z) ∧ ¬ z = 0 ∧ 0 < len ∧ o + len ≤ A.slots.size ∧ len ≤ 536870912 ∧ ∀ i, i < len → ¬ 255 < cv A (o + i)
def E (a : Addr) (D : Cell) (fV fC : Field) (A : Cell) (o len : Nat) (r : Option Value) (s u : State) : Prop := Got a D fV fC A o len r s u
/-- len > 0, no char of the range above 255: a Latin-1 String of their low bytes -/
theorem law (l : Launch) (a : Addr) (D : Cell) (fV fC : Field) (b : Addr) (A : Cell) (z : Int32) (o len : Nat) : Law l yN 5 4 2 35 yB 6 none site (P a D fV fC b A z o len) (E a D fV fC A o len) [⟨a, fC.slot⟩, ⟨a, fV.slot⟩] 1 len := by
  refine Law.of_walk (plainFor_of_name (by decide +kernel)) (by decide +kernel) (by decide +kernel) (by decide) (fun _ _ h => by rw [h.1]; rfl) (fun _ U U' hal hh h => ⟨h.1, h.2.1.mv hal hh, h.2.2.1.al hal, h.2.2.2.1.al hal, h.2.2.2.2.1.mv hal hh, h.2.2.2.2.2.1.there hal hh, h.2.2.2.2.2.2⟩) (fun r U U' V V' h1 hal h2 h => Got.mv r U U' V V' h1 hal h2 h) ?_
  intro p e s m args below meth c s₁ X0 hexec hbytes hml hret hlk hnm hown hh0 W hP
  obtain ⟨rfl, hB, f1, f2, hA, s1, hz, l0, l1, l2, hp⟩ := hP
  have a31 := hA.1.2.2.2
  have c1 : Steps p.tables e below (s₁.setTop (entryFrame m #[.ref a, .ref b, .int (Int32.ofNat o), .int (Int32.ofNat len), .null] 6)) (s₁.setTop (mkF m 0 #[.val (.ref a), .val (.ref b), .val (.int (Int32.ofNat o)), .val (.int (Int32.ofNat len)), .val .null, .unset] [])) := entry rfl
  have c2 : Steps p.tables e below (s₁.setTop (entryFrame m #[.ref a, .ref b, .int (Int32.ofNat o), .int (Int32.ofNat len), .null] 6)) (s₁.setTop (mkF m 1 #[.val (.ref a), .val (.ref b), .val (.int (Int32.ofNat o)), .val (.int (Int32.ofNat len)), .val .null, .unset] [.ref a])) := c1.trans (by
    refine XS.aloadN X0.here hexec rfl (hb hbytes d0) rfl rfl ?_
    exact Steps.refl _)
  obtain ⟨T3, X3, q3, st3⟩ := X0.oinit hexec hown (wks W (objW "java/lang/String" 1)) (g := (mkF m 1 #[.val (.ref a), .val (.ref b), .val (.int (Int32.ofNat o)), .val (.int (Int32.ofNat len)), .val .null, .unset] [.ref a])) rfl (by rw [hml]; rfl) (rest := []) rfl (hb hbytes d1) (W := 0) (by show 2 * 0 + 0 ≤ _; decide) (Nat.le_of_ble_eq_true rfl) (Nat.le_of_ble_eq_true rfl)
  have hh3 := q3.trans hh0
  have c4 : Steps p.tables e below (s₁.setTop (entryFrame m #[.ref a, .ref b, .int (Int32.ofNat o), .int (Int32.ofNat len), .null] 6)) (T3.setTop (mkF m 27 #[.val (.ref a), .val (.ref b), .val (.int (Int32.ofNat o)), .val (.int (Int32.ofNat len)), .val .null, .unset] [])) := (c2.trans (st3 _ (Steps.refl _))).trans (by
    refine XS.iloadN X3.here hexec rfl (hb hbytes d4) rfl ?_
    refine XS.ifYes X3.here hexec rfl (pc0 := 5) rfl (hb hbytes d5) rfl (i0_ne_t (nz32 (by omega) l0)) (by decide) rfl ?_
    exact Steps.refl _)
  obtain ⟨T5, X5, q5, st5⟩ := X3.sget hexec hown (wk W (.fieldLink "java/lang/String" 38 "java/lang/String" "COMPACT_STRINGS" "Z")) s1 (fun _ _ h => by rw [hh3]; exact h) (g := (mkF m 27 #[.val (.ref a), .val (.ref b), .val (.int (Int32.ofNat o)), .val (.int (Int32.ofNat len)), .val .null, .unset] [])) rfl (hb hbytes d27)
  have hh5 := q5.trans hh3
  have c6 : Steps p.tables e below (s₁.setTop (entryFrame m #[.ref a, .ref b, .int (Int32.ofNat o), .int (Int32.ofNat len), .null] 6)) (T5.setTop (mkF m 30 #[.val (.ref a), .val (.ref b), .val (.int (Int32.ofNat o)), .val (.int (Int32.ofNat len)), .val .null, .unset] [.int z])) := c4.trans (st5 _ (Steps.refl _))
  have c7 : Steps p.tables e below (s₁.setTop (entryFrame m #[.ref a, .ref b, .int (Int32.ofNat o), .int (Int32.ofNat len), .null] 6)) (T5.setTop (mkF m 36 #[.val (.ref a), .val (.ref b), .val (.int (Int32.ofNat o)), .val (.int (Int32.ofNat len)), .val .null, .unset] [.int (Int32.ofNat len), .int (Int32.ofNat o), .ref b])) := c6.trans (by
    refine XS.ifNo X5.here hexec rfl (hb hbytes d30) rfl (i0_eq_f hz) ?_
    refine XS.aloadN X5.here hexec rfl (hb hbytes d33) rfl rfl ?_
    refine XS.iloadN X5.here hexec rfl (hb hbytes d34) rfl ?_
    refine XS.iloadN X5.here hexec rfl (hb hbytes d35) rfl ?_
    exact Steps.refl _)
  obtain ⟨v8, T8, X8, E8, g8⟩ := X5.callS hexec (Cmp3.law l b A o len) hown (wks W (staticW "java/lang/String" 177 Cmp3.yN)) (wk W Cmp3.tab) (W := 0) (Nat.le_of_ble_eq_true rfl) (Nat.le_of_ble_eq_true rfl) (Nat.le_refl _) (by show 0 + len ≤ len; omega) (g := (mkF m 36 #[.val (.ref a), .val (.ref b), .val (.int (Int32.ofNat o)), .val (.int (Int32.ofNat len)), .val .null, .unset] [.int (Int32.ofNat len), .int (Int32.ofNat o), .ref b])) rfl (by rw [hml]; rfl) c7 (argsL := [.ref b, .int (Int32.ofNat o), .int (Int32.ofNat len)]) (rest := []) rfl rfl (by show 2 * 0 + 0 ≤ _; decide) (hb hbytes d36) (⟨rfl, hA.mv X5.warmed.alike hh5, l1, l2, hp⟩)
  obtain ⟨e8, z8⟩ := E8
  obtain ⟨rfl, N, n1, n2, n3, n4, n5, n6⟩ := NewArr.mv _ T5 s _ _ hh5.symm (Vm.Alike.refl _) rfl e8
  rw [hh5] at z8
  have hB1 := hB.keep X8.warmed.alike (n6 _ _ hB.1)
  have hne : s.heap.size ≠ a := (Nat.ne_of_lt (Array.getElem?_eq_some_iff.mp hB.1).1).symm
  have c9 : Steps p.tables e below (s₁.setTop (entryFrame m #[.ref a, .ref b, .int (Int32.ofNat o), .int (Int32.ofNat len), .null] 6)) (T8.setTop (mkF m 39 #[.val (.ref a), .val (.ref b), .val (.int (Int32.ofNat o)), .val (.int (Int32.ofNat len)), .val .null, .unset] [.ref s.heap.size])) := g8
  have c10 : Steps p.tables e below (s₁.setTop (entryFrame m #[.ref a, .ref b, .int (Int32.ofNat o), .int (Int32.ofNat len), .null] 6)) (T8.setTop (mkF m 45 #[.val (.ref a), .val (.ref b), .val (.int (Int32.ofNat o)), .val (.int (Int32.ofNat len)), .val .null, .val (.ref s.heap.size)] [.int (Int32.ofNat N.slots.size), .ref s.heap.size, .ref a])) := by
    have hc : Steps p.tables e below (s₁.setTop (entryFrame m #[.ref a, .ref b, .int (Int32.ofNat o), .int (Int32.ofNat len), .null] 6)) (T8.setTop (mkF m 45 #[.val (.ref a), .val (.ref b), .val (.int (Int32.ofNat o)), .val (.int (Int32.ofNat len)), .val .null, .val (.ref s.heap.size)] [.int (Int32.ofNat len), .ref s.heap.size, .ref a])) := c9.trans (by
      refine XS.astore X8.here hexec rfl (hb hbytes d39) rfl rfl rfl ?_
      refine XS.aloadN X8.here hexec rfl (hb hbytes d41) rfl rfl ?_
      refine XS.aload X8.here hexec rfl (hb hbytes d42) rfl rfl ?_
      refine XS.iloadN X8.here hexec rfl (hb hbytes d44) rfl ?_
      exact Steps.refl _)
    rw [n4]; exact hc
  obtain ⟨v11, T11, X11, E11, g11⟩ := X8.callS hexec (CodL.law l s.heap.size N) hown (wks W (staticW "java/lang/String" 47 CodL.yN)) (wk W CodL.tab) (W := 1) (Nat.le_of_ble_eq_true rfl) (Nat.le_of_ble_eq_true rfl) (Nat.le_refl _) (by show 0 + len + 0 ≤ len; omega) (g := (mkF m 45 #[.val (.ref a), .val (.ref b), .val (.int (Int32.ofNat o)), .val (.int (Int32.ofNat len)), .val .null, .val (.ref s.heap.size)] [.int (Int32.ofNat N.slots.size), .ref s.heap.size, .ref a])) rfl (by rw [hml]; rfl) c10 (argsL := [.ref s.heap.size, .int (Int32.ofNat N.slots.size)]) (rest := [.ref a]) rfl rfl (by show 2 * 0 + (1 + 0) ≤ _; decide) (hb hbytes d45) (⟨rfl, n1⟩)
  obtain ⟨rfl, q11⟩ := E11
  have hB11 := hB1.mv (X8.warmed.alike.symm.trans X11.warmed.alike) q11
  have c12 : Steps p.tables e below (s₁.setTop (entryFrame m #[.ref a, .ref b, .int (Int32.ofNat o), .int (Int32.ofNat len), .null] 6)) (T11.setTop (mkF m 48 #[.val (.ref a), .val (.ref b), .val (.int (Int32.ofNat o)), .val (.int (Int32.ofNat len)), .val .null, .val (.ref s.heap.size)] [.int 0, .ref a])) := g11
  obtain ⟨T13, X13, p13, bl13, sl13, st13⟩ := X11.finit hexec hown (wk W (.fieldLink "java/lang/String" 15 "java/lang/String" "coder" "B")) (Or.inr ⟨_, (wk W (.laysFinal "java/lang/String" "java/lang/String" "coder" "B"))⟩) (Or.inl ⟨rfl, hnm⟩) f2 (Or.inl rfl) hB11 (t := .byte) (by decide +kernel) rfl (g := (mkF m 48 #[.val (.ref a), .val (.ref b), .val (.int (Int32.ofNat o)), .val (.int (Int32.ofNat len)), .val .null, .val (.ref s.heap.size)] [.int 0, .ref a])) rfl (rest := []) rfl (hb hbytes d48)
  have c14 : Steps p.tables e below (s₁.setTop (entryFrame m #[.ref a, .ref b, .int (Int32.ofNat o), .int (Int32.ofNat len), .null] 6)) (T13.setTop (mkF m 54 #[.val (.ref a), .val (.ref b), .val (.int (Int32.ofNat o)), .val (.int (Int32.ofNat len)), .val .null, .val (.ref s.heap.size)] [.ref s.heap.size, .ref a])) := (c12.trans (st13 _ (Steps.refl _))).trans (by
    refine XS.aloadN X13.here hexec rfl (hb hbytes d51) rfl rfl ?_
    refine XS.aload X13.here hexec rfl (hb hbytes d52) rfl rfl ?_
    exact Steps.refl _)
  obtain ⟨T15, X15, p15, bl15, sl15, st15⟩ := X13.finit hexec hown (wk W (.fieldLink "java/lang/String" 9 "java/lang/String" "value" "[B")) (Or.inr ⟨_, (wk W (.laysFinal "java/lang/String" "java/lang/String" "value" "[B"))⟩) (Or.inl ⟨rfl, hnm⟩) f1 (Or.inl rfl) bl13 (t := (.array .byte)) (by decide +kernel) rfl (g := (mkF m 54 #[.val (.ref a), .val (.ref b), .val (.int (Int32.ofNat o)), .val (.int (Int32.ofNat len)), .val .null, .val (.ref s.heap.size)] [.ref s.heap.size, .ref a])) rfl (rest := []) rfl (hb hbytes d54)
  have c16 : Steps p.tables e below (s₁.setTop (entryFrame m #[.ref a, .ref b, .int (Int32.ofNat o), .int (Int32.ofNat len), .null] 6)) (T15.setTop (mkF m 57 #[.val (.ref a), .val (.ref b), .val (.int (Int32.ofNat o)), .val (.int (Int32.ofNat len)), .val .null, .val (.ref s.heap.size)] [])) := c14.trans (st15 _ (Steps.refl _))
  have ap := apart (Or.inr ⟨_, (wk W (.laysFinal "java/lang/String" "java/lang/String" "value" "[B"))⟩) (Or.inr ⟨_, (wk W (.laysFinal "java/lang/String" "java/lang/String" "coder" "B"))⟩) f1 f2 (t₁ := .array .byte) (t₂ := .byte) (by decide +kernel) (by decide +kernel) (by decide)
  have al := X8.warmed.alike.symm.trans X15.warmed.alike
  have n7 : T11.heap[s.heap.size]? = some N := by rw [q11]; exact n1.1
  exact ⟨T15, none, _, _, _, X15, by simp, rfl, by omega, (fun _ => rfl), ⟨rfl, _, N, bl15, ((Same.refl D _).set _ (by simp)).set _ (by simp), sl15, (Cell.slots_setSlot_ne _ ap).trans sl13, n1.keep al (p15.other hne (p13.other hne n7)), n2, by rw [al.findClass]; exact n3, n4, n5, fun y c h1 h2 => p15.other h1 (p13.other h1 (by rw [q11]; exact n6 y c h2)), by rw [p15.2.2, p13.2.2, q11]; exact z8⟩, fun fs hl => c16.trans (X15.returnOut hexec hret (hb hbytes d57) hl)⟩
end New4
namespace New1
def yN : MethodName := ⟨"java/lang/String", "<init>", "([C)V"⟩
abbrev yB : ByteArray := jdk_42_method_3_code
theorem d0 : decode yB 0 = .ok (.aload_n 0, 1) := by decide +kernel
theorem d1 : decode yB 1 = .ok (.aload_n 1, 1) := by decide +kernel
theorem d2 : decode yB 2 = .ok (.iconst 0, 1) := by decide +kernel
theorem d3 : decode yB 3 = .ok (.aload_n 1, 1) := by decide +kernel
theorem d4 : decode yB 4 = .ok (.arraylength, 1) := by decide +kernel
theorem d5 : decode yB 5 = .ok (.aconst_null, 1) := by decide +kernel
theorem d6 : decode yB 6 = .ok (.invokespecial 27, 3) := by decide +kernel
theorem d9 : decode yB 9 = .ok (.return_, 1) := by decide +kernel
def site : List Cond := [New4.tab] ++ initW "java/lang/String" 27 New4.yN
def tab : Cond := tabOf yN yB 2 none site
def P (a : Addr) (D : Cell) (fV fC : Field) (b : Addr) (A : Cell) (z : Int32) (args : Array Value) (s : State) : Prop := args = #[.ref a, .ref b] ∧ Blank "java/lang/String" a D s ∧ Found "java/lang/String" "value" "[B" fV s ∧ Found "java/lang/String" "coder" "B" fC s ∧ Ch b A s ∧ StaticIs s "java/lang/String" "COMPACT_STRINGS" "Z" (.int z) ∧ ¬ z = 0 ∧ 0 < A.slots.size ∧ A.slots.size ≤ 536870912 ∧ ∀ i, i < A.slots.size → ¬ 255 < cv A i
def E (a : Addr) (D : Cell) (fV fC : Field) (A : Cell) (r : Option Value) (s u : State) : Prop := Got a D fV fC A 0 A.slots.size r s u
/-- new String(chars), not empty, no char above 255: a Latin-1 String of their low bytes -/
theorem law (l : Launch) (a : Addr) (D : Cell) (fV fC : Field) (b : Addr) (A : Cell) (z : Int32) : Law l yN 2 1 3 52 yB 2 none site (P a D fV fC b A z) (E a D fV fC A) [⟨a, fC.slot⟩, ⟨a, fV.slot⟩] 1 A.slots.size := by
  refine Law.of_walk (plainFor_of_name (by decide +kernel)) (by decide +kernel) (by decide +kernel) (by decide) (fun _ _ h => by rw [h.1]; rfl) (fun _ U U' hal hh h => ⟨h.1, h.2.1.mv hal hh, h.2.2.1.al hal, h.2.2.2.1.al hal, h.2.2.2.2.1.mv hal hh, h.2.2.2.2.2.1.there hal hh, h.2.2.2.2.2.2⟩) (fun r U U' V V' h1 hal h2 h => Got.mv r U U' V V' h1 hal h2 h) ?_
  intro p e s m args below meth c s₁ X0 hexec hbytes hml hret hlk hnm hown hh0 W hP
  obtain ⟨rfl, hB, f1, f2, hA, s1, hz, l0, l2, hp⟩ := hP
  have c1 : Steps p.tables e below (s₁.setTop (entryFrame m #[.ref a, .ref b] 2)) (s₁.setTop (mkF m 0 #[.val (.ref a), .val (.ref b)] [])) := entry rfl
  have c2 : Steps p.tables e below (s₁.setTop (entryFrame m #[.ref a, .ref b] 2)) (s₁.setTop (mkF m 6 #[.val (.ref a), .val (.ref b)] [.null, .int (Int32.ofNat A.slots.size), .int 0, .ref b, .ref a])) := c1.trans (by
    refine XS.aloadN X0.here hexec rfl (hb hbytes d0) rfl rfl ?_
    refine XS.aloadN X0.here hexec rfl (hb hbytes d1) rfl rfl ?_
    refine iconstV X0.here hexec rfl 0 (hb hbytes d2) (by decide) ?_
    refine XS.aloadN X0.here hexec rfl (hb hbytes d3) rfl rfl ?_
    refine X0.alen hexec (hA.1.mv X0.warmed.alike hh0) rfl rfl (hb hbytes d4) ?_
    refine XS.aconstNull X0.here hexec rfl (hb hbytes d5) ?_
    exact Steps.refl _)
  obtain ⟨v3, T3, X3, E3, g3⟩ := X0.callN hexec (New4.law l a D fV fC b A z 0 A.slots.size) rfl hown (wks W (initW "java/lang/String" 27 New4.yN)) (W New4.tab (by simp only [site, List.mem_cons, List.mem_append, true_or, or_true])) (W := 0) (Nat.le_of_ble_eq_true rfl) (Nat.le_of_ble_eq_true rfl) (Nat.le_refl _) (by show 0 + A.slots.size ≤ A.slots.size; omega) (g := (mkF m 6 #[.val (.ref a), .val (.ref b)] [.null, .int (Int32.ofNat A.slots.size), .int (Int32.ofNat 0), .ref b, .ref a])) rfl (by rw [hml]; rfl) c2 (argsL := [.ref b, .int (Int32.ofNat 0), .int (Int32.ofNat A.slots.size), .null]) (rest := []) rfl rfl (by show 2 * 0 + 0 ≤ _; decide) (hb hbytes d6) (⟨rfl, hB.mv X0.warmed.alike hh0, f1.al X0.warmed.alike, f2.al X0.warmed.alike, hA.mv X0.warmed.alike hh0, s1.there X0.warmed.alike hh0, hz, l0, by omega, l2, fun i hi => by rw [Nat.zero_add]; exact hp i hi⟩)
  have e0 := Got.mv _ s₁ s _ _ hh0.symm (Vm.Alike.refl _) rfl E3
  obtain rfl := e0.1
  have c4 : Steps p.tables e below (s₁.setTop (entryFrame m #[.ref a, .ref b] 2)) (T3.setTop (mkF m 9 #[.val (.ref a), .val (.ref b)] [])) := g3
  exact ⟨T3, none, _, _, _, X3, by simp, rfl, by omega, (fun _ => rfl), e0, fun fs hl => c4.trans (X3.returnOut hexec hret (hb hbytes d9) hl)⟩
theorem pays {l : Launch} {R : Room} {p : Program} {e : Env} {below : List Frame} {s : State} {sargs : Array Value} {len W : Nat} (a : Addr) (D : Cell) (fV fC : Field) (b : Addr) (A : Cell) (z : Int32) (htab : tab.before sargs s = true) (hfr : 4 ≤ R.frames) (hlo : W + 65 ≤ R.locals) :
    Back l R p e below s sargs yN len W (fun A₁ a₁ => A₁.cells + 1 ≤ R.cells ∧ A₁.slots + A.slots.size ≤ R.slots ∧ P a D fV fC b A z a₁ A₁.U) (fun A₁ _ v₁ B₁ => E a D fV fC A v₁ A₁.U B₁.U ∧ B₁.locs = A₁.locs ++ [⟨a, fC.slot⟩, ⟨a, fV.slot⟩] ∧ B₁.cells = A₁.cells + 1 ∧ B₁.slots = A₁.slots + A.slots.size) :=
  (law l a D fV fC b A z).pays htab hfr (by omega)
end New1
end StrChars
namespace StrChars.Road
open Jvm Sem ClassFile Op Lib Jvm.Stand Jvm.Free Jvm.Free.XT
open Jvm.Lib.Cold (StaticIs)
abbrev ST : String := "java/lang/String"
/-- every table word that New1's law asks, flat -/
abbrev words : List Jvm.Cond := [.code New1.yN New1.yB 2 none, .initialized ST, .methodLink ST 27 New4.yN, .instanceMethod New4.yN,
  .code New4.yN New4.yB 6 none, .fieldLink ST 38 ST "COMPACT_STRINGS" "Z", .laysFinal ST ST "value" "[B", .fieldLink ST 9 ST "value" "[B", .laysFinal ST ST "coder" "B", .fieldLink ST 15 ST "coder" "B",
  .methodLink ST 1 Lib.objectInit, .instanceMethod Lib.objectInit, .code Lib.objectInit ⟨#[0xb1]⟩ 1 none, .methodLink ST 177 Cmp3.yN, .static Cmp3.yN, .methodLink ST 47 CodL.yN, .static CodL.yN,
  .code Cmp3.yN Cmp3.yB 6 (some (.array .byte)), .initialized U16, .arrayClass .byte, .methodLink U16 115 Cmp5.yN, .static Cmp5.yN, .code Cmp5.yN Cmp5.yB 7 (some .int), .code CodL.yN CodL.yB 2 (some .byte)]
theorem tab_of {a : Array Value} {s : State} (h : ∀ w ∈ words, w.before a s = true) : New1.tab.before a s = true := by
  have h5 : Cmp5.tab.before a s = true := unparts (wk h (.code Cmp5.yN Cmp5.yB 7 (some .int))) (wks h (.initialized Cmp5.yN.cls :: Cmp5.site))
  have hc : CodL.tab.before a s = true := unparts (wk h (.code CodL.yN CodL.yB 2 (some .byte))) (wks h (.initialized CodL.yN.cls :: CodL.site))
  have q5 : ∀ w ∈ Cmp5.tab :: words, w.before a s = true := fun w hw => (List.mem_cons.mp hw).elim (fun e => e ▸ h5) (h w)
  have h3 : Cmp3.tab.before a s = true := unparts (wk q5 (.code Cmp3.yN Cmp3.yB 6 (some (.array .byte)))) (wks q5 (.initialized Cmp3.yN.cls :: Cmp3.site))
  have q3 : ∀ w ∈ Cmp3.tab :: CodL.tab :: words, w.before a s = true := fun w hw => (List.mem_cons.mp hw).elim (fun e => e ▸ h3) fun hw => (List.mem_cons.mp hw).elim (fun e => e ▸ hc) (h w)
  have h4 : New4.tab.before a s = true := unparts (wk q3 (.code New4.yN New4.yB 6 none)) (wks q3 (.initialized New4.yN.cls :: New4.site))
  have q4 : ∀ w ∈ New4.tab :: words, w.before a s = true := fun w hw => (List.mem_cons.mp hw).elim (fun e => e ▸ h4) (h w)
  exact unparts (wk q4 (.code New1.yN New1.yB 2 none)) (wks q4 (.initialized New1.yN.cls :: New1.site))
/-- the words ride from the start Z to the walk's own state -/
theorem moved {Z s : State} {a0 args : Array Value} (hZ : Z.Warmed39 s.vm) (hw : ∀ d ∈ words, d.before a0 Z = true) : ∀ d ∈ words, d.before args s = true := fun d hd => by
  have q := hw d hd
  have t : ∀ d ∈ words, d = .arrayClass .byte ∨ (d.onTables && d.keepsFace) = true := by decide +kernel
  rcases t d hd with rfl | t
  · exact RoadKit.mvA hZ q
  · exact RoadKit.mv hZ q t
/-- WHAT COMES BACK, over the tables of the start Z: h the heap at the call, h' behind it -/
def Q (Z : State) (x : Addr) (A : Cell) (h : Heap) (v : Option Value) (h' : Heap) (L : List Loc) : Prop := v = none ∧ (∀ y ∈ L, y.base = x) ∧ RoadKit.Keep h h' [x] ∧ h'.size = h.size + 1 ∧ RoadKit.Exa Z h' x ST ∧ RoadKit.Fld Z h' x ST "value" "[B" (.ref h.size) ∧ RoadKit.Fld Z h' x ST "coder" "B" (.int 0) ∧
  (∃ V : Cell, RoadKit.Arr Z h' h.size V .byte ∧ V.vm = .none ∧ Z.vm.findClass "[B" = some V.cls ∧ V.slots.size = A.slots.size ∧ ∀ j, j < A.slots.size → V.slots[j]? = some (.int (lo8 (cv A j)))) ∧
  ∀ (O n d : String) (w : Value), RoadKit.Fld Z h x O n d w → RoadKit.slotOf Z O n d ≠ RoadKit.slotOf Z ST "value" "[B" → RoadKit.slotOf Z O n d ≠ RoadKit.slotOf Z ST "coder" "B" → RoadKit.Fld Z h' x O n d w
/-- **new String(chars) AT A CALL, IN THE ROAD'S FORM**: for specialBack behind newO: x the fresh String, b the char[] with the cell A -/
theorem back {p : Program} {l : Launch} {e : Env} {R : Room} {s : State} {args : Array Value} {below : List Frame} {len W : Nat} {Z : State} {a0 : Array Value} {h : Heap} (hZ : Z.Warmed39 s.vm) (hw : ∀ d ∈ words, d.before a0 Z = true) {kI : Nat} (wi : (Jvm.Cond.instantiable ST kI).before a0 Z = true)
    {x b : Addr} {A : Cell} {z : Int32} {v0 c0 : Value} (E : RoadKit.Exa Z h x ST) (V : RoadKit.Fld Z h x ST "value" "[B" v0) (C : RoadKit.Fld Z h x ST "coder" "B" c0) (K : RoadKit.Arr Z h b A .char) (hty : Typed .char A) (S : RoadKit.Sta Z h ST "COMPACT_STRINGS" "Z" (.int z)) (hz : ¬ z = 0)
    (l0 : 0 < A.slots.size) (l2 : A.slots.size ≤ 536870912) (hp : ∀ i, i < A.slots.size → ¬ 255 < cv A i) (hfr : 4 ≤ R.frames) (hlo : W + 65 ≤ R.locals) :
    Back l R p e below s args New1.yN len W (fun P a => a = #[.ref x, .ref b] ∧ P.U.heap = h ∧ P.cells + 1 ≤ R.cells ∧ P.slots + A.slots.size ≤ R.slots)
      (fun P _ v B => ∃ L, Q Z x A h v B.U.heap L ∧ B.locs = P.locs ++ L ∧ B.cells = P.cells + 1 ∧ B.slots = P.slots + A.slots.size) := by
  intro m meth c P g ig mk a X hg hsize hdg hW hn hp'
  obtain ⟨rfl, rfl, r1, r2⟩ := hp'
  have al : Z.vm.Alike P.U.vm := hZ.alike.trans X.warmed.alike
  obtain ⟨D, cfV, kV, iV, fV, hD, gV, stV, knV, obV, asV, slV⟩ := id V
  obtain ⟨D', cfC, kC, iC, fC, hD', gC, stC, -, -, asC, slC⟩ := id C
  cases hD.symm.trans hD'
  obtain ⟨D2, kD, e1, e2, e3, e4, e5⟩ := id E
  cases hD.symm.trans e1
  obtain ⟨c2, k2, i1, i2, i3, -⟩ := Cond.instantiable_spec wi
  cases e2.symm.trans i1
  cases e3.symm.trans i2
  obtain ⟨kU, u1, u2⟩ := al.2.2 _ _ e3
  have hB : Blank ST x D P.U := ⟨hD, ⟨knV, fun q hq => by rw [hq] at obV; cases obV⟩, by rw [al.findClass]; exact e2, kU, u1, by rw [u2]; exact i3, by rw [u2]; exact e5 i3⟩
  have F1 : Found ST "value" "[B" fV P.U := ⟨SBG.found_only al ⟨cfV, kV, iV, gV⟩, stV⟩
  have F2 : Found ST "coder" "B" fC P.U := ⟨SBG.found_only al ⟨cfC, kC, iC, gC⟩, stC⟩
  have hA : Ch b A P.U := ⟨⟨K.1, State.isArrayOf_alike al K.2.1, K.2.2, by omega⟩, hty⟩
  have hS : StaticIs P.U ST "COMPACT_STRINGS" "Z" (.int z) := by
    obtain ⟨cfS, iS, kS, fS, st, cS, t1, t2, t3, t4, t5, t6, t7⟩ := S
    exact StaticIs.there (s := { Z with heap := P.U.heap }) ⟨cfS, iS, kS, fS, st, cS, t1, t2, t3, t4, t5, (fun q => by rw [q] at t6; cases t6), t7⟩ al rfl
  obtain ⟨v, B, X', ⟨⟨hv, E', V', q1, q2, q3, q4, q5, q6, q7, q8, q9, q10, q11⟩, hl, hc, hs⟩, st⟩ := New1.pays x D fV fC b A z (tab_of (moved hZ hw)) hfr hlo m meth c P g ig mk _ X hg hsize hdg hW hn ⟨r1, r2, rfl, hB, F1, F2, hA, hS, hz, l0, l2, hp⟩
  have al' : Z.vm.Alike B.U.vm := hZ.alike.trans X'.warmed.alike
  have hsz : E'.slots.size = D.slots.size := by
    obtain ⟨-, -, -, kB, w1, w2, w3⟩ := q1
    obtain ⟨kB', y1, y2⟩ := al'.2.2 _ _ e3
    rw [q2.2.1] at w1
    cases w1.symm.trans y1
    rw [w3, e5 i3, y2]
  refine ⟨v, B, X', ⟨_, ⟨hv, ?_, ⟨by omega, fun y cy hy hn' => q10 y cy (by simpa using hn') hy, fun y cy hy => ?_⟩, q11, ⟨E', _, q1.1, by rw [q2.2.1]; exact e2, by rw [q2.2.1]; exact e3, by rw [q2.1]; exact obV, fun _ => by rw [hsz]; exact e5 i3⟩,
    ⟨E', cfV, kV, iV, fV, q1.1, gV, stV, by rw [q2.1]; exact knV, by rw [q2.1]; exact obV, by rw [q2.2.1]; exact asV, q3⟩, ⟨E', cfC, kC, iC, fC, q1.1, gC, stC, by rw [q2.1]; exact knV, by rw [q2.1]; exact obV, by rw [q2.2.1]; exact asC, q4⟩,
    ⟨V', ⟨q5.1, State.isArrayOf_alike al'.symm q5.2.1, q5.2.2.1⟩, q6, by rw [← al'.findClass]; exact q7, q8, fun j hj => by have := q9 j hj; rwa [Nat.zero_add] at this⟩, fun O n d w F n1 n2 => ?_⟩, hl, hc, hs⟩, st⟩
  · intro y hy
    simp only [List.mem_cons, List.not_mem_nil, or_false] at hy
    rcases hy with rfl | rfl <;> rfl
  · by_cases q : y = x
    · subst q
      cases hD.symm.trans hy
      exact ⟨E', q1.1, q2.2.1, q2.1, hsz⟩
    · exact ⟨cy, q10 y cy q hy, rfl, rfl, rfl⟩
  · obtain ⟨D3, cf, k, i, f, g1, g2, g3, g4, g5, g6, g7⟩ := F
    cases hD.symm.trans g1
    simp only [RoadKit.slotOf, g2, gV, gC, Option.map_some, Option.getD_some] at n1 n2
    exact ⟨E', cf, k, i, f, q1.1, g2, g3, by rw [q2.1]; exact g4, by rw [q2.1]; exact g5, by rw [q2.2.1]; exact g6, by rw [q2.2.2 f.slot (by simp [n1, n2])]; exact g7⟩
end StrChars.Road
namespace StrChars.Road
open Jvm Sem ClassFile Op Lib Jvm.Stand Jvm.Free Jvm.Free.XT
/-- WHAT COMES BACK, the byte[] as a list of values -/
def QA (Z : State) (x : Addr) (zn : Int32) (cs : List Int32) (h : Heap) (v : Option Value) (h' : Heap) (L : List Loc) : Prop := v = none ∧ (∀ y ∈ L, y.base = x) ∧ RoadKit.Keep h h' [x] ∧ h'.size = h.size + 1 ∧ RoadKit.Exa Z h' x ST ∧ RoadKit.Fld Z h' x ST "value" "[B" (.ref h.size) ∧ RoadKit.Fld Z h' x ST "coder" "B" (.int 0) ∧
  (∃ kb, Z.vm.findClass "[B" = some kb ∧ RoadKit.Arv Z h' h.size kb .byte zn (cs.map fun c => .int (lo8 c)) (.int 0)) ∧
  ∀ (O n d : String) (w : Value), RoadKit.Fld Z h x O n d w → RoadKit.slotOf Z O n d ≠ RoadKit.slotOf Z ST "value" "[B" → RoadKit.slotOf Z O n d ≠ RoadKit.slotOf Z ST "coder" "B" → RoadKit.Fld Z h' x O n d w
/-- **new String(chars) AT A CALL, THE ARRAYS AS LISTS**: the char[] at b holds cs, not empty, no char above 255 -/
theorem backArv {p : Program} {l : Launch} {e : Env} {R : Room} {s : State} {args : Array Value} {below : List Frame} {len W : Nat} {Z : State} {a0 : Array Value} {h : Heap} (hZ : Z.Warmed39 s.vm) (hw : ∀ d ∈ words, d.before a0 Z = true) {kI : Nat} (wi : (Jvm.Cond.instantiable ST kI).before a0 Z = true)
    {x b : Addr} {k : ClassId} {zn z : Int32} {cs : List Int32} {dv v0 c0 : Value} (E : RoadKit.Exa Z h x ST) (V : RoadKit.Fld Z h x ST "value" "[B" v0) (C : RoadKit.Fld Z h x ST "coder" "B" c0) (K : RoadKit.Arv Z h b k .char zn (cs.map Value.int) dv) (S : RoadKit.Sta Z h ST "COMPACT_STRINGS" "Z" (.int z)) (hz : ¬ z = 0)
    (hlen : zn.toNatClampNeg = cs.length) (h0 : 0 < cs.length) (hbig : cs.length ≤ 536870912) (hall : ∀ c ∈ cs, ¬ 255 < c) (hfr : 4 ≤ R.frames) (hlo : W + 65 ≤ R.locals) :
    Back l R p e below s args New1.yN len W (fun P a => a = #[.ref x, .ref b] ∧ P.U.heap = h ∧ P.cells + 1 ≤ R.cells ∧ P.slots + cs.length ≤ R.slots)
      (fun P _ v B => ∃ L, QA Z x zn cs h v B.U.heap L ∧ B.locs = P.locs ++ L ∧ B.cells = P.cells + 1 ∧ B.slots = P.slots + cs.length) := by
  obtain ⟨A, K1, K2, K3, K4, K5, K6⟩ := K
  have e : A.slots.size = cs.length := K3.trans hlen
  have hat : ∀ (i : Nat) (hi : i < cs.length), A.slots[i]? = some (.int cs[i]) := fun i hi => by rw [K5 i (by omega)]; simp [List.getD_eq_getElem?_getD, hi]
  have hcv : ∀ (i : Nat) (hi : i < cs.length), cv A i = cs[i] := fun i hi => by unfold cv; rw [hat i hi]
  have hty : Typed .char A := fun i v hv => by
    have hi : i < A.slots.size := (Array.getElem?_eq_some_iff.mp hv).1
    have q := K5 i hi
    rw [hv] at q
    rw [Option.some.inj q]
    exact K6 i hi
  refine Back.mono (back hZ hw wi E V C K1 hty S hz (by omega) (by omega) (fun i hi => by rw [hcv i (by omega)]; exact hall _ (List.getElem_mem _)) hfr hlo) (fun P a hp => ⟨hp.1, hp.2.1, hp.2.2.1, by rw [e]; exact hp.2.2.2⟩) (fun P a v B hp hq => ?_)
  obtain ⟨L, ⟨q1, q2, q3, q4, q5, q6, q7, ⟨V', v1, v2, v3, v4, v5⟩, q9⟩, hl, hc, hs⟩ := hq
  refine ⟨L, ⟨q1, q2, q3, q4, q5, q6, q7, ⟨V'.cls, v3, V', v1, rfl, by rw [v4, e, hlen], K4, fun i hi => ?_, fun i hi => ?_⟩, q9⟩, hl, hc, by rw [hs, e]⟩
  · have hi' : i < cs.length := by omega
    rw [v5 i (by omega), hcv i hi']; simp [List.getD_eq_getElem?_getD, hi']
  · have hi' : i < cs.length := by omega
    simp only [List.getD_eq_getElem?_getD, List.getElem?_map, List.getElem?_eq_getElem hi', Option.map_some, Option.getD_some]
    exact fits_lo8 _
end StrChars.Road
namespace StrChars.Road
open Jvm Sem ClassFile Op Lib Jvm.Stand Jvm.Free Jvm.Free.XT
/-- WHAT COMES BACK, in the writer's own shape -/
def QV (Z : State) (x : Addr) (N : Int32) (bs : List Int32) (h : Heap) (n0 : Nat) (v : Option Value) (h' : Heap) (L : List Loc) : Prop := v = none ∧ RoadKit.Fr n0 L ∧ RoadKit.Keep h h' [x] ∧ RoadKit.Exa Z h' x ST ∧ RoadKit.Fld Z h' x ST "coder" "B" (.int 0) ∧
  ∃ (t : Addr) (kb : ClassId), n0 ≤ t ∧ h.size ≤ t ∧ ¬ t = x ∧ RoadKit.Fld Z h' x ST "value" "[B" (.ref t) ∧ RoadKit.Arv Z h' t kb .byte N (bs.map Value.int) (.int 0)
/-- **new String(chars) AT A CALL, FOR THE WRITER**: a char[] of n known ints, each 0 to 255 -/
theorem backV {p : Program} {l : Launch} {e : Env} {R : Room} {s : State} {args : Array Value} {below : List Frame} {len W : Nat} {Z : State} {a0 : Array Value} {h : Heap} (hZ : Z.Warmed39 s.vm) (hw : ∀ d ∈ words, d.before a0 Z = true) {kI : Nat} (wi : (Jvm.Cond.instantiable ST kI).before a0 Z = true)
    {x b : Addr} {kC : ClassId} {cs bs : List Int32} {d v0 c0 : Value} {z N : Int32} {n n0 : Nat} (hx0 : n0 ≤ x) (hh0 : n0 ≤ h.size) (E : RoadKit.Exa Z h x ST) (V : RoadKit.Fld Z h x ST "value" "[B" v0) (C : RoadKit.Fld Z h x ST "coder" "B" c0) (K : RoadKit.Arv Z h b kC .char N (cs.map Value.int) d) (S : RoadKit.Sta Z h ST "COMPACT_STRINGS" "Z" (.int z)) (hz : ¬ z = 0)
    (hn : cs.length = n) (hN : N = Int32.ofNat n) (l0 : 0 < n) (l2 : n ≤ 4000) (hp : ∀ c ∈ cs, ¬ c < 0 ∧ ¬ (255 : Int32) < c) (hb : bs = cs.map (fun c => c.toInt8.toInt32)) (hfr : 4 ≤ R.frames) (hlo : W + 65 ≤ R.locals) :
    Back l R p e below s args (⟨"java/lang/String", "<init>", "([C)V"⟩ : MethodName) len W (fun P a => a = #[.ref x, .ref b] ∧ P.U.heap = h ∧ P.cells + 1 ≤ R.cells ∧ P.slots + n ≤ R.slots)
      (fun P _ v B => ∃ L, QV Z x N bs h n0 v B.U.heap L ∧ B.locs = P.locs ++ L ∧ B.cells = P.cells + 1 ∧ B.slots = P.slots + n) := by
  subst hn hN hb
  refine Back.mono (backArv hZ hw wi E V C K S hz (n32 (by omega)) l0 (by omega) (fun c hc => (hp c hc).2) hfr hlo) (fun P a hp => hp) (fun P a v B hp hq => ?_)
  obtain ⟨L, ⟨q1, q2, q3, q4, q5, q6, q7, ⟨kb, v1, v2⟩, q9⟩, hl, hc, hs⟩ := hq
  exact ⟨L, ⟨q1, fun y hy => by rw [q2 y hy]; exact hx0, q3, q5, q7, h.size, kb, hh0, Nat.le_refl _, Nat.ne_of_gt E.lt, q6, by rw [List.map_map]; exact v2⟩, hl, hc, hs⟩
end StrChars.Road
namespace StrChars
open Jvm Sem ClassFile Op Lib Jvm.Stand Jvm.Free.XT Jvm.Free.ALB Jvm.Free.JM Jvm.Free
open Jvm.Lib.Cold (StaticIs)
def hi8 (x : Int32) : Int32 := lo8 (x >>> ((8 : Int32) &&& 31))
theorem shr0 (c : Int32) : c >>> ((0 : Int32) &&& 31) = c := by
  have e : ((0 : Int32) &&& 31) = 0 := by decide
  rw [e]
  apply Int32.toBitVec_inj.mp
  rw [Int32.toBitVec_shiftRight]
  have e1 : ((0 : Int32).toBitVec.smod 32) = 0#32 := by decide
  rw [e1, BitVec.sshiftRight_eq']
  exact BitVec.sshiftRight_zero
end StrChars
namespace StrChars
open Jvm Sem ClassFile Op Lib Jvm.Stand Jvm.Free.XT Jvm.Free.ALB Jvm.Free.JM Jvm.Free
open Jvm.Lib.Cold (StaticIs)
theorem shr1 {n : Nat} (h : 2 * n < 2 ^ 31) : Int32.ofNat (2 * n) >>> ((1 : Int32) &&& 31) = Int32.ofNat n := by
  have e : ((1 : Int32) &&& 31) = 1 := by decide
  rw [e]
  apply Int32.toBitVec_inj.mp
  rw [Int32.toBitVec_shiftRight]
  have e1 : ((1 : Int32).toBitVec.smod 32) = 1#32 := by decide
  have hm : (BitVec.ofNat 32 (2 * n)).toNat = 2 * n := by rw [BitVec.toNat_ofNat, Nat.mod_eq_of_lt (by omega)]
  rw [e1, BitVec.sshiftRight_eq']
  apply BitVec.eq_of_toNat_eq
  show ((BitVec.ofNat 32 (2 * n)).sshiftRight 1).toNat = (BitVec.ofNat 32 n).toNat
  rw [BitVec.toNat_sshiftRight_of_msb_false (by rw [BitVec.msb_eq_false_iff_two_mul_lt, hm]; omega), hm, BitVec.toNat_ofNat, Nat.shiftRight_eq_div_pow]
  omega
/-- the array's cell V codes the n chars f 0 .. f (n - 1) by the coder cd, as the JDK does: coder 1 just where some char is above 255 -/
def Cod (cd : Int32) (n : Nat) (f : Nat → Int32) (V : Cell) : Prop := (cd = 0 ∧ V.slots.size = n ∧ ∀ j, j < n → V.slots[j]? = some (.int (lo8 (f j))) ∧ ¬ 255 < f j) ∨ (cd = 1 ∧ V.slots.size = 2 * n ∧ (∀ j, j < n → V.slots[2 * j]? = some (.int (lo8 (f j))) ∧ V.slots[2 * j + 1]? = some (.int (hi8 (f j)))) ∧ ∃ j, j < n ∧ 255 < f j)
theorem Cod.cd {cd : Int32} {n : Nat} {f : Nat → Int32} {V : Cell} (h : Cod cd n f V) : cd = 0 ∨ cd = 1 := h.imp (fun q => q.1) fun q => q.1
theorem Cod.len {cd : Int32} {n : Nat} {f : Nat → Int32} {V : Cell} (h : Cod cd n f V) (hs : V.slots.size < 2 ^ 31) : Int32.ofNat V.slots.size >>> (cd &&& 31) = Int32.ofNat n := by
  rcases h with ⟨rfl, h, -⟩ | ⟨rfl, h, -⟩
  · rw [shr0, h]
  · rw [h, shr1 (by omega)]
/-- **x is a String of the n chars f 0 .. f (n - 1)**, Latin-1 or UTF-16; its array at t has the cell V -/
def Txt (x t : Addr) (V : Cell) (cd : Int32) (n : Nat) (f : Nat → Int32) (U : State) : Prop := Exact "java/lang/String" x U ∧ Has x "java/lang/String" "value" "[B" (.ref t) U ∧ Has x "java/lang/String" "coder" "B" (.int cd) U ∧ XT.Arr .byte t V U ∧ Cod cd n f V ∧ ∀ j, j < n → ¬ f j < 0 ∧ ¬ 65535 < f j
theorem Txt.mv {x t : Addr} {V : Cell} {cd : Int32} {n : Nat} {f : Nat → Int32} {U U' : State} (h : Txt x t V cd n f U) (hal : U.vm.Alike U'.vm) (hh : U'.heap = U.heap) : Txt x t V cd n f U' := ⟨h.1.mv hal hh, h.2.1.mv hal hh, h.2.2.1.mv hal hh, h.2.2.2.1.mv hal hh, h.2.2.2.2⟩
namespace Cdr
def yN : MethodName := ⟨"java/lang/String", "coder", "()B"⟩
abbrev yB : ByteArray := jdk_42_method_152_code
theorem d0 : decode yB 0 = .ok (.getstatic 38, 3) := by decide +kernel
theorem d3 : decode yB 3 = .ok (.ifCond (.eq) 10, 3) := by decide +kernel
theorem d6 : decode yB 6 = .ok (.aload_n 0, 1) := by decide +kernel
theorem d7 : decode yB 7 = .ok (.getfield 15, 3) := by decide +kernel
theorem d10 : decode yB 10 = .ok (.goto 4, 3) := by decide +kernel
theorem d14 : decode yB 14 = .ok (.ireturn, 1) := by decide +kernel
def site : List Cond := [.fieldLink "java/lang/String" 38 "java/lang/String" "COMPACT_STRINGS" "Z", .fieldLink "java/lang/String" 15 "java/lang/String" "coder" "B"]
def tab : Cond := tabOf yN yB 1 (some .byte) site
def P (x : Addr) (cd z : Int32) (args : Array Value) (s : State) : Prop := args = #[.ref x] ∧ Has x "java/lang/String" "coder" "B" (.int cd) s ∧ (cd = 0 ∨ cd = 1) ∧ StaticIs s "java/lang/String" "COMPACT_STRINGS" "Z" (.int z) ∧ ¬ z = 0
def E (cd : Int32) (r : Option Value) (s u : State) : Prop := XT.PureE (some (.int cd)) r s u
theorem law (l : Launch) (x : Addr) (cd z : Int32) : Law l yN 1 0 0 0 yB 1 (some .byte) site (P x cd z) (E cd) [] 0 0 := by
  refine Law.of_walk (plainFor_of_name (by decide +kernel)) (by decide +kernel) (by decide +kernel) (by decide) (fun _ _ h => by rw [h.1]; rfl) (fun _ U U' hal hh h => ⟨h.1, h.2.1.mv hal hh, h.2.2.1, h.2.2.2.1.there hal hh, h.2.2.2.2⟩) (fun r U U' V V' h1 hal h2 h => XT.PureE.mv r U U' V V' h1 hal h2 h) ?_
  intro p e s m args below meth c s₁ X0 hexec hbytes hml hret hlk hnm hown hh0 W hP
  obtain ⟨rfl, hx, hc, s1, hz⟩ := hP
  have c1 : Steps p.tables e below (s₁.setTop (entryFrame m #[.ref x] 1)) (s₁.setTop (mkF m 0 #[.val (.ref x)] [])) := entry rfl
  obtain ⟨T2, X2, q2, st2⟩ := X0.sget hexec hown (wk W (.fieldLink "java/lang/String" 38 "java/lang/String" "COMPACT_STRINGS" "Z")) s1 (fun _ _ h => by rw [hh0]; exact h) (g := (mkF m 0 #[.val (.ref x)] [])) rfl (hb hbytes d0)
  have hh2 := q2.trans hh0
  have c3 : Steps p.tables e below (s₁.setTop (entryFrame m #[.ref x] 1)) (T2.setTop (mkF m 7 #[.val (.ref x)] [.ref x])) := (c1.trans (st2 _ (Steps.refl _))).trans (by
    refine XS.ifNo X2.here hexec rfl (hb hbytes d3) rfl (i0_eq_f hz) ?_
    refine XS.aloadN X2.here hexec rfl (hb hbytes d6) rfl rfl ?_
    exact Steps.refl _)
  obtain ⟨T4, X4, q4, st4⟩ := X2.hget hexec hown (wk W (.fieldLink "java/lang/String" 15 "java/lang/String" "coder" "B")) (hx.mv X2.warmed.alike hh2) (g := (mkF m 7 #[.val (.ref x)] [.ref x])) rfl (rest := []) rfl (hb hbytes d7)
  have c5 : Steps p.tables e below (s₁.setTop (entryFrame m #[.ref x] 1)) (T4.setTop (mkF m 14 #[.val (.ref x)] [.int cd])) := (c3.trans (st4 _ (Steps.refl _))).trans (by
    refine XS.goto X4.here hexec rfl (pc0 := 10) rfl (hb hbytes d10) (by decide) rfl ?_
    exact Steps.refl _)
  exact ⟨T4, some (.int cd), _, _, _, X4, rfl, rfl, rfl, (fun h => by cases h), ⟨rfl, q4.trans hh2⟩, fun fs hl => c5.trans (X4.ireturnOut hexec hret (by rcases hc with rfl | rfl <;> rfl) (Or.inr (Or.inr (Or.inl rfl))) (hb hbytes d14) hl)⟩
end Cdr
namespace Len
def yN : MethodName := ⟨"java/lang/String", "length", "()I"⟩
abbrev yB : ByteArray := jdk_42_method_54_code
theorem d0 : decode yB 0 = .ok (.aload_n 0, 1) := by decide +kernel
theorem d1 : decode yB 1 = .ok (.getfield 9, 3) := by decide +kernel
theorem d4 : decode yB 4 = .ok (.arraylength, 1) := by decide +kernel
theorem d5 : decode yB 5 = .ok (.aload_n 0, 1) := by decide +kernel
theorem d6 : decode yB 6 = .ok (.invokevirtual 335, 3) := by decide +kernel
theorem d9 : decode yB 9 = .ok (.ishr, 1) := by decide +kernel
theorem d10 : decode yB 10 = .ok (.ireturn, 1) := by decide +kernel
def site : List Cond := [.fieldLink "java/lang/String" 9 "java/lang/String" "value" "[B", Cdr.tab] ++ virtW "java/lang/String" 335 "java/lang/String" Cdr.yN Cdr.yN
def tab : Cond := tabOf yN yB 1 (some .int) site
def P (x t : Addr) (V : Cell) (cd : Int32) (n : Nat) (f : Nat → Int32) (z : Int32) (args : Array Value) (s : State) : Prop := args = #[.ref x] ∧ Txt x t V cd n f s ∧ StaticIs s "java/lang/String" "COMPACT_STRINGS" "Z" (.int z) ∧ ¬ z = 0
def E (n : Nat) (r : Option Value) (s u : State) : Prop := XT.PureE (some (.int (Int32.ofNat n))) r s u
/-- length() of a String of n chars, in either coding -/
theorem law (l : Launch) (x t : Addr) (V : Cell) (cd : Int32) (n : Nat) (f : Nat → Int32) (z : Int32) : Law l yN 1 0 1 13 yB 1 (some .int) site (P x t V cd n f z) (E n) [] 0 0 := by
  refine Law.of_walk (plainFor_of_name (by decide +kernel)) (by decide +kernel) (by decide +kernel) (by decide) (fun _ _ h => by rw [h.1]; rfl) (fun _ U U' hal hh h => ⟨h.1, h.2.1.mv hal hh, h.2.2.1.there hal hh, h.2.2.2⟩) (fun r U U' V V' h1 hal h2 h => XT.PureE.mv r U U' V V' h1 hal h2 h) ?_
  intro p e s m args below meth c s₁ X0 hexec hbytes hml hret hlk hnm hown hh0 W hP
  obtain ⟨rfl, hx, s1, hz⟩ := hP
  have v31 := hx.2.2.2.1.2.2.2
  have c1 : Steps p.tables e below (s₁.setTop (entryFrame m #[.ref x] 1)) (s₁.setTop (mkF m 1 #[.val (.ref x)] [.ref x])) := Steps.trans (entry rfl) (by
    show Steps p.tables e below (s₁.setTop (mkF m 0 #[.val (.ref x)] [])) _
    refine XS.aloadN X0.here hexec rfl (hb hbytes d0) rfl rfl ?_
    exact Steps.refl _)
  obtain ⟨T2, X2, q2, st2⟩ := X0.hget hexec hown (wk W (.fieldLink "java/lang/String" 9 "java/lang/String" "value" "[B")) (hx.mv X0.warmed.alike hh0).2.1 (g := (mkF m 1 #[.val (.ref x)] [.ref x])) rfl (rest := []) rfl (hb hbytes d1)
  have hh2 := q2.trans hh0
  have hx2 := hx.mv X2.warmed.alike hh2
  have c3 : Steps p.tables e below (s₁.setTop (entryFrame m #[.ref x] 1)) (T2.setTop (mkF m 6 #[.val (.ref x)] [.ref x, .int (Int32.ofNat V.slots.size)])) := (c1.trans (st2 _ (Steps.refl _))).trans (by
    refine X2.alen hexec hx2.2.2.2.1 rfl rfl (hb hbytes d4) ?_
    refine XS.aloadN X2.here hexec rfl (hb hbytes d5) rfl rfl ?_
    exact Steps.refl _)
  obtain ⟨v4, T4, X4, E4, g4⟩ := X2.callV hexec (Cdr.law l x cd z) hown (wks W (virtW "java/lang/String" 335 "java/lang/String" Cdr.yN Cdr.yN)) rfl (by decide) (wk W Cdr.tab) (W := 1) (Nat.le_of_ble_eq_true rfl) (Nat.le_of_ble_eq_true rfl) (Nat.le_refl _) (Nat.le_refl _) (hx2.1.fc X2.warmed.alike) hx2.1.is (g := (mkF m 6 #[.val (.ref x)] [.ref x, .int (Int32.ofNat V.slots.size)])) rfl (by rw [hml]; rfl) c3 (argsL := []) (rest := [.int (Int32.ofNat V.slots.size)]) rfl rfl (by show 2 * 0 + (1 + 0) ≤ _; decide) (hb hbytes d6) (⟨rfl, hx2.2.2.1, hx.2.2.2.2.1.cd, s1.there X2.warmed.alike hh2, hz⟩)
  obtain ⟨rfl, q4⟩ := E4
  have c5 : Steps p.tables e below (s₁.setTop (entryFrame m #[.ref x] 1)) (T4.setTop (mkF m 10 #[.val (.ref x)] [.int (Int32.ofNat V.slots.size >>> (cd &&& 31))])) := Steps.trans g4 (by
    refine ishr X4.here hexec rfl (hb hbytes d9) rfl ?_
    exact Steps.refl _)
  rw [hx.2.2.2.2.1.len v31] at c5
  exact ⟨T4, some (.int (Int32.ofNat n)), _, _, _, X4, rfl, rfl, rfl, (fun h => by cases h), ⟨rfl, q4.trans hh2⟩, fun fs hl => c5.trans (X4.ireturnOut hexec hret rfl (Or.inl rfl) (hb hbytes d10) hl)⟩
theorem pays {l : Launch} {R : Room} {p : Program} {e : Env} {below : List Frame} {s : State} {sargs : Array Value} {len W : Nat} (x t : Addr) (V : Cell) (cd : Int32) (n : Nat) (f : Nat → Int32) (z : Int32) (htab : tab.before sargs s = true) (hfr : 2 ≤ R.frames) (hlo : W + 25 ≤ R.locals) :
    Back l R p e below s sargs yN len W (fun A₁ a₁ => A₁.cells + 0 ≤ R.cells ∧ A₁.slots + 0 ≤ R.slots ∧ P x t V cd n f z a₁ A₁.U) (fun A₁ _ v₁ B₁ => E n v₁ A₁.U B₁.U ∧ B₁.locs = A₁.locs ++ [] ∧ B₁.cells = A₁.cells + 0 ∧ B₁.slots = A₁.slots + 0) :=
  (law l x t V cd n f z).pays htab hfr (by omega)
end Len
end StrChars
namespace StrChars.Road
open Jvm Sem ClassFile Op Lib Jvm.Stand Jvm.Free Jvm.Free.XT
open Jvm.Lib.Cold (StaticIs)
theorem consq {a : Array Value} {s : State} {c : Jvm.Cond} {L : List Jvm.Cond} (h0 : c.before a s = true) (h : ∀ w ∈ L, w.before a s = true) : ∀ w ∈ c :: L, w.before a s = true := fun w hw => (List.mem_cons.mp hw).elim (fun e => e ▸ h0) (h w)
/-- the words of String.length(), either coding -/
abbrev wordsLen : List Jvm.Cond := [.code Len.yN Len.yB 1 (some .int), .initialized ST, .fieldLink ST 9 ST "value" "[B", .fieldLink ST 38 ST "COMPACT_STRINGS" "Z", .fieldLink ST 15 ST "coder" "B", .code Cdr.yN Cdr.yB 1 (some .byte), .methodLink ST 335 Cdr.yN, .declares Cdr.yN, .selects ST Cdr.yN Cdr.yN, .instanceMethod Cdr.yN]
theorem tabLen_of {a : Array Value} {s : State} (h : ∀ w ∈ wordsLen, w.before a s = true) : Len.tab.before a s = true := by
  have hc : Cdr.tab.before a s = true := unparts (wk h (.code Cdr.yN Cdr.yB 1 (some .byte))) (wks h (.initialized Cdr.yN.cls :: Cdr.site))
  have q := consq hc h
  exact unparts (wk q (.code Len.yN Len.yB 1 (some .int))) (wks q (.initialized Len.yN.cls :: Len.site))
theorem movedLen {Z s : State} {a0 args : Array Value} (hZ : Z.Warmed39 s.vm) (hw : ∀ d ∈ wordsLen, d.before a0 Z = true) : ∀ d ∈ wordsLen, d.before args s = true := fun d hd => by
  have q := hw d hd
  have t : ∀ d ∈ wordsLen, d = .arrayClass .byte ∨ (d.onTables && d.keepsFace) = true := by decide +kernel
  rcases t d hd with rfl | t
  · exact RoadKit.mvA hZ q
  · exact RoadKit.mv hZ q t
/-- the bytes of the chars cs, low before high -/
def wideBytes : List Int32 → List Value
  | [] => []
  | c :: cs => .int (lo8 c) :: .int (hi8 c) :: wideBytes cs
theorem wide_lo (d : Value) : ∀ (cs : List Int32) (j : Nat), j < cs.length → (wideBytes cs).getD (2 * j) d = .int (lo8 (cs.getD j 0))
  | [], j, h => absurd h (Nat.not_lt_zero j)
  | c :: cs, 0, _ => rfl
  | c :: cs, j + 1, h => by
    have q := wide_lo d cs j (by simpa using h)
    rw [show 2 * (j + 1) = 2 * j + 1 + 1 from by omega]
    simpa [wideBytes] using q
theorem wide_hi (d : Value) : ∀ (cs : List Int32) (j : Nat), j < cs.length → (wideBytes cs).getD (2 * j + 1) d = .int (hi8 (cs.getD j 0))
  | [], j, h => absurd h (Nat.not_lt_zero j)
  | c :: cs, 0, _ => rfl
  | c :: cs, j + 1, h => by
    have q := wide_hi d cs j (by simpa using h)
    rw [show 2 * (j + 1) + 1 = 2 * j + 1 + 1 + 1 from by omega]
    simpa [wideBytes] using q
theorem low_at (d : Value) (cs : List Int32) (j : Nat) (h : j < cs.length) : (cs.map fun c => Value.int (lo8 c)).getD j d = .int (lo8 (cs.getD j 0)) := by
  simp [List.getD_eq_getElem?_getD, h]
/-- an array of N2 bytes vs codes the chars cs by the coder cd -/
def CodA (cs : List Int32) (cd N2 : Int32) (vs : List Value) : Prop := (cd = 0 ∧ N2 = Int32.ofNat cs.length ∧ vs = (cs.map fun c => Value.int (lo8 c)) ∧ ∀ c ∈ cs, ¬ 255 < c) ∨ (cd = 1 ∧ N2 = Int32.ofNat (2 * cs.length) ∧ vs = wideBytes cs ∧ ∃ c ∈ cs, 255 < c)
theorem CodA.cod {cs : List Int32} {cd N2 : Int32} {vs : List Value} {V : Cell} (h : CodA cs cd N2 vs) (hn : 2 * cs.length < 2 ^ 31) (hs : V.slots.size = N2.toNatClampNeg) (hv : RoadKit.Has V vs (.int 0)) : Cod cd cs.length (fun j => cs.getD j 0) V := by
  rcases h with ⟨rfl, rfl, rfl, h⟩ | ⟨rfl, rfl, rfl, c, hc, hw⟩
  · rw [n32 (by omega)] at hs
    exact Or.inl ⟨rfl, hs, fun j hj => ⟨by rw [hv j (by omega), low_at _ _ _ hj], by
      have e : cs.getD j 0 = cs[j] := by simp [List.getD_eq_getElem?_getD, hj]
      show ¬ 255 < cs.getD j 0
      rw [e]; exact h _ (List.getElem_mem _)⟩⟩
  · rw [n32 (by omega)] at hs
    obtain ⟨j, hj, rfl⟩ := List.getElem_of_mem hc
    exact Or.inr ⟨rfl, hs, fun j hj => ⟨by rw [hv _ (by omega), wide_lo _ _ _ hj], by rw [hv _ (by omega), wide_hi _ _ _ hj]⟩, j, hj, by
      have e : cs.getD j 0 = cs[j] := by simp [List.getD_eq_getElem?_getD, hj]
      show 255 < cs.getD j 0
      rw [e]; exact hw⟩
/-- an object of exactly java/lang/String, its two fields found: as the laws ask it -/
theorem strObj {Z U : State} {a0 : Array Value} {kI : Nat} (wi : (Jvm.Cond.instantiable ST kI).before a0 Z = true) (al : Z.vm.Alike U.vm) {x : Addr} {v0 c0 : Value} (E : RoadKit.Exa Z U.heap x ST) (V : RoadKit.Fld Z U.heap x ST "value" "[B" v0) (C : RoadKit.Fld Z U.heap x ST "coder" "B" c0) :
    ∃ (D : Cell) (fV fC : Field), Blank ST x D U ∧ Found ST "value" "[B" fV U ∧ Found ST "coder" "B" fC U ∧ D.slots[fV.slot]? = some v0 ∧ D.slots[fC.slot]? = some c0 ∧ RoadKit.slotOf Z ST "value" "[B" = fV.slot ∧ RoadKit.slotOf Z ST "coder" "B" = fC.slot := by
  obtain ⟨D, cfV, kV, iV, fV, hD, gV, stV, knV, obV, asV, slV⟩ := V
  obtain ⟨D', cfC, kC, iC, fC, hD', gC, stC, -, -, asC, slC⟩ := C
  cases hD.symm.trans hD'
  obtain ⟨D2, kD, e1, e2, e3, e4, e5⟩ := E
  cases hD.symm.trans e1
  obtain ⟨c2, k2, i1, i2, i3, -⟩ := Cond.instantiable_spec wi
  cases e2.symm.trans i1
  cases e3.symm.trans i2
  obtain ⟨kU, u1, u2⟩ := al.2.2 _ _ e3
  exact ⟨D, fV, fC, ⟨hD, ⟨knV, fun q hq => by rw [hq] at obV; cases obV⟩, by rw [al.findClass]; exact e2, kU, u1, by rw [u2]; exact i3, by rw [u2]; exact e5 i3⟩, ⟨SBG.found_only al ⟨cfV, kV, iV, gV⟩, stV⟩, ⟨SBG.found_only al ⟨cfC, kC, iC, gC⟩, stC⟩, slV, slC, by simp [RoadKit.slotOf, gV], by simp [RoadKit.slotOf, gC]⟩
theorem sta_is {Z U : State} (al : Z.vm.Alike U.vm) {C n d : String} {v : Value} (S : RoadKit.Sta Z U.heap C n d v) : StaticIs U C n d v := by
  obtain ⟨cfS, iS, kS, fS, st, cS, t1, t2, t3, t4, t5, t6, t7⟩ := S
  exact StaticIs.there (s := { Z with heap := U.heap }) ⟨cfS, iS, kS, fS, st, cS, t1, t2, t3, t4, t5, (fun q => by rw [q] at t6; cases t6), t7⟩ al rfl
/-- **length() OF SUCH A STRING** -/
theorem lenW {p : Program} {l : Launch} {e : Env} {R : Room} {s : State} {args : Array Value} {below : List Frame} {len W : Nat} {Z : State} {a0 : Array Value} {h : Heap} (hZ : Z.Warmed39 s.vm) (hw : ∀ d ∈ wordsLen, d.before a0 Z = true) {kI : Nat} (wi : (Jvm.Cond.instantiable ST kI).before a0 Z = true)
    {x t : Addr} {kb : ClassId} {cs : List Int32} {cd N2 z : Int32} {vs : List Value} (E : RoadKit.Exa Z h x ST) (V : RoadKit.Fld Z h x ST "value" "[B" (.ref t)) (C : RoadKit.Fld Z h x ST "coder" "B" (.int cd)) (K : RoadKit.Arv Z h t kb .byte N2 vs (.int 0)) (hc : CodA cs cd N2 vs) (hb : ∀ c ∈ cs, ¬ c < 0 ∧ ¬ (65535 : Int32) < c)
    (S : RoadKit.Sta Z h ST "COMPACT_STRINGS" "Z" (.int z)) (hz : ¬ z = 0) (l2 : cs.length ≤ 4000) (hfr : 2 ≤ R.frames) (hlo : W + 25 ≤ R.locals) :
    Back l R p e below s args (⟨"java/lang/String", "length", "()I"⟩ : MethodName) len W (fun P a => a = #[.ref x] ∧ P.U.heap = h ∧ P.cells + 0 ≤ R.cells ∧ P.slots + 0 ≤ R.slots)
      (fun P _ v B => ∃ L, (v = some (.int (Int32.ofNat cs.length)) ∧ L = [] ∧ B.U.heap = h) ∧ B.locs = P.locs ++ L ∧ B.cells = P.cells + 0 ∧ B.slots = P.slots + 0) := by
  obtain ⟨A, K1, K2, K3, K4, K5, K6⟩ := K
  have hcod := hc.cod (by omega) K3 K5
  intro m meth c P g ig mk a X hg hsize hdg hW hn hp'
  obtain ⟨rfl, rfl, r1, r2⟩ := hp'
  have al : Z.vm.Alike P.U.vm := hZ.alike.trans X.warmed.alike
  obtain ⟨D, fV, fC, hB, F1, F2, g1, g2, -, -⟩ := strObj wi al E V C
  have hx : Txt x t A cd cs.length (fun j => cs.getD j 0) P.U := ⟨⟨_, hB.2.2.1, D, hB.1, rfl, by cases q : D.vm <;> first | rfl | exact absurd q (hB.2.1.2 _)⟩, Has.of hB F1 g1, Has.of hB F2 g2, ⟨K1.1, State.isArrayOf_alike al K1.2.1, K1.2.2, by rcases hcod with ⟨-, q, -⟩ | ⟨-, q, -⟩ <;> omega⟩, hcod, fun j hj => by
    have e : cs.getD j 0 = cs[j] := by simp [List.getD_eq_getElem?_getD, hj]
    show ¬ cs.getD j 0 < 0 ∧ ¬ 65535 < cs.getD j 0
    rw [e]; exact hb _ (List.getElem_mem _)⟩
  obtain ⟨v, B, X', ⟨⟨hv, hh⟩, hl, hk, hs⟩, st⟩ := Len.pays x t A cd cs.length (fun j => cs.getD j 0) z (tabLen_of (movedLen hZ hw)) hfr hlo m meth c P g ig mk _ X hg hsize hdg hW hn ⟨r1, r2, rfl, hx, sta_is al S, hz⟩
  exact ⟨v, B, X', ⟨[], ⟨hv, rfl, hh⟩, hl, hk, hs⟩, st⟩
end StrChars.Road
namespace StrChars.Road
open Jvm Sem ClassFile Op Lib Jvm.Stand Jvm.Free Jvm.Free.XT
open Jvm.Lib.Cold (StaticIs)
/-- what backV says of its String, as the contracts of this text ask it: cs's low bytes, coder 0 -/
theorem codOf {cs : List Int32} {n : Nat} (hn : cs.length = n) (hb : ∀ c ∈ cs, ¬ 255 < c) : CodA cs 0 (Int32.ofNat n) ((cs.map lo8).map Value.int) := Or.inl ⟨rfl, by rw [hn], by simp [List.map_map, Function.comp_def], hb⟩
end StrChars.Road
end Jvm.Pilot.@@N@@
namespace Jvm.Pilot.@@N@@
open Jvm Jvm.ClassFile Sem Op Lib Jvm.Free Jvm.Stand Jvm.LawKit Jvm.RoadKit Bundle Jvm.Own Jvm.Pilot.@@N@@.Jvm.D
/-- what the two statics of the JDK's set hold -/
def Cst (Z : State) : Prop := (∃ z : Int32, Sta Z Z.heap "java/lang/String" "COMPACT_STRINGS" "Z" (.int z) ∧ ¬ z = 0) ∧ ∃ f : Value, Sta Z Z.heap "jdk/internal/util/Preconditions" "SIOOBE_FORMATTER" "Ljava/util/function/BiFunction;" f ∧ f.isRef = true
def XS0 (Z : State) : Prop := True
def HW (Z : State) (a0 : Array Value) : Prop := (∀ d ∈ tables_1, d.before a0 Z = true) ∧ Cst Z ∧ XS0 Z
theorem ow_0 {Z : State} {a0 : Array Value} (hw : HW Z a0) : (Jvm.Cond.methodLink "com/example/sedgeholt/sedgeholt/layout/VersionFileIsSnapshotPinLaw" (9 : Nat) ({ cls := "com/example/sedgeholt/sedgeholt/layout/VersionFileIsSnapshotPinLaw", name := "pick", desc := "(IIJCC)C" } : Jvm.MethodName)).before a0 Z = true := hw.1 _ (List.mem_of_getElem? (i := 0) rfl)
theorem ow_1 {Z : State} {a0 : Array Value} (hw : HW Z a0) : (Jvm.Cond.static ({ cls := "com/example/sedgeholt/sedgeholt/layout/VersionFileIsSnapshotPinLaw", name := "pick", desc := "(IIJCC)C" } : Jvm.MethodName)).before a0 Z = true := hw.1 _ (List.mem_of_getElem? (i := 1) rfl)
theorem ow_2 {Z : State} {a0 : Array Value} (hw : HW Z a0) : (Jvm.Cond.initialized "com/example/sedgeholt/sedgeholt/layout/VersionFileIsSnapshotPinLaw").before a0 Z = true := hw.1 _ (List.mem_of_getElem? (i := 2) rfl)
theorem ow_3 {Z : State} {a0 : Array Value} (hw : HW Z a0) : (Jvm.Cond.code ({ cls := "com/example/sedgeholt/sedgeholt/layout/VersionFileIsSnapshotPinLaw", name := "pick", desc := "(IIJCC)C" } : Jvm.MethodName) method_2_code (7 : Nat) (Option.some Jvm.ClassFile.FieldType.char)).before a0 Z = true := hw.1 _ (List.mem_of_getElem? (i := 3) rfl)
theorem ow_4 {Z : State} {a0 : Array Value} (hw : HW Z a0) : (Jvm.Cond.constantLong "com/example/sedgeholt/sedgeholt/layout/VersionFileIsSnapshotPinLaw" (7 : Nat) (255 : Int64)).before a0 Z = true := hw.1 _ (List.mem_of_getElem? (i := 4) rfl)
theorem ow_5 {Z : State} {a0 : Array Value} (hw : HW Z a0) : (Jvm.Cond.methodLink "com/example/sedgeholt/sedgeholt/layout/VersionFileIsSnapshotPinLaw" (15 : Nat) ({ cls := "com/example/sedgeholt/sedgeholt/layout/VersionFileIsSnapshotPinLaw", name := "ok", desc := "(CCC)Z" } : Jvm.MethodName)).before a0 Z = true := hw.1 _ (List.mem_of_getElem? (i := 5) rfl)
theorem ow_6 {Z : State} {a0 : Array Value} (hw : HW Z a0) : (Jvm.Cond.static ({ cls := "com/example/sedgeholt/sedgeholt/layout/VersionFileIsSnapshotPinLaw", name := "ok", desc := "(CCC)Z" } : Jvm.MethodName)).before a0 Z = true := hw.1 _ (List.mem_of_getElem? (i := 6) rfl)
theorem ow_7 {Z : State} {a0 : Array Value} (hw : HW Z a0) : (Jvm.Cond.code ({ cls := "com/example/sedgeholt/sedgeholt/layout/VersionFileIsSnapshotPinLaw", name := "ok", desc := "(CCC)Z" } : Jvm.MethodName) method_3_code (3 : Nat) (Option.some Jvm.ClassFile.FieldType.boolean)).before a0 Z = true := hw.1 _ (List.mem_of_getElem? (i := 7) rfl)
theorem ow_8 {Z : State} {a0 : Array Value} (hw : HW Z a0) : (Jvm.Cond.constant "com/example/sedgeholt/sedgeholt/layout/VersionFileIsSnapshotPinLaw" (19 : Nat) (2147483647 : Int32)).before a0 Z = true := hw.1 _ (List.mem_of_getElem? (i := 8) rfl)
theorem ow_9 {Z : State} {a0 : Array Value} (hw : HW Z a0) : (Jvm.Cond.classLink "com/example/sedgeholt/sedgeholt/layout/VersionFileIsSnapshotPinLaw" (20 : Nat) "java/lang/String").before a0 Z = true := hw.1 _ (List.mem_of_getElem? (i := 9) rfl)
theorem ow_10 {Z : State} {a0 : Array Value} (hw : HW Z a0) : (Jvm.Cond.instantiable "java/lang/String" (4 : Nat)).before a0 Z = true := hw.1 _ (List.mem_of_getElem? (i := 10) rfl)
theorem ow_11 {Z : State} {a0 : Array Value} (hw : HW Z a0) : (Jvm.Cond.initialized "java/lang/String").before a0 Z = true := hw.1 _ (List.mem_of_getElem? (i := 11) rfl)
theorem ow_12 {Z : State} {a0 : Array Value} (hw : HW Z a0) : (Jvm.Cond.arrayClass Jvm.ClassFile.FieldType.char).before a0 Z = true := hw.1 _ (List.mem_of_getElem? (i := 12) rfl)
theorem ow_13 {Z : State} {a0 : Array Value} (hw : HW Z a0) : (Jvm.Cond.methodLink "com/example/sedgeholt/sedgeholt/layout/VersionFileIsSnapshotPinLaw" (22 : Nat) ({ cls := "java/lang/String", name := "<init>", desc := "([C)V" } : Jvm.MethodName)).before a0 Z = true := hw.1 _ (List.mem_of_getElem? (i := 13) rfl)
theorem ow_14 {Z : State} {a0 : Array Value} (hw : HW Z a0) : (Jvm.Cond.instanceMethod ({ cls := "java/lang/String", name := "<init>", desc := "([C)V" } : Jvm.MethodName)).before a0 Z = true := hw.1 _ (List.mem_of_getElem? (i := 14) rfl)
theorem ow_15 {Z : State} {a0 : Array Value} (hw : HW Z a0) : (Jvm.Cond.code ({ cls := "java/lang/String", name := "<init>", desc := "([C)V" } : Jvm.MethodName) jdk_42_method_3_code (2 : Nat) (Option.none : Option Jvm.ClassFile.FieldType)).before a0 Z = true := hw.1 _ (List.mem_of_getElem? (i := 15) rfl)
theorem ow_23 {Z : State} {a0 : Array Value} (hw : HW Z a0) : (Jvm.Cond.fieldLink "java/lang/String" (38 : Nat) "java/lang/String" "COMPACT_STRINGS" "Z").before a0 Z = true := hw.1 _ (List.mem_of_getElem? (i := 23) rfl)
theorem ow_28 {Z : State} {a0 : Array Value} (hw : HW Z a0) : (Jvm.Cond.arrayClass Jvm.ClassFile.FieldType.byte).before a0 Z = true := hw.1 _ (List.mem_of_getElem? (i := 28) rfl)
theorem ow_35 {Z : State} {a0 : Array Value} (hw : HW Z a0) : (Jvm.Cond.fieldLink "java/lang/String" (15 : Nat) "java/lang/String" "coder" "B").before a0 Z = true := hw.1 _ (List.mem_of_getElem? (i := 35) rfl)
theorem ow_36 {Z : State} {a0 : Array Value} (hw : HW Z a0) : (Jvm.Cond.laysFinal "java/lang/String" "java/lang/String" "coder" "B").before a0 Z = true := hw.1 _ (List.mem_of_getElem? (i := 36) rfl)
theorem ow_37 {Z : State} {a0 : Array Value} (hw : HW Z a0) : (Jvm.Cond.fieldLink "java/lang/String" (9 : Nat) "java/lang/String" "value" "[B").before a0 Z = true := hw.1 _ (List.mem_of_getElem? (i := 37) rfl)
theorem ow_38 {Z : State} {a0 : Array Value} (hw : HW Z a0) : (Jvm.Cond.laysFinal "java/lang/String" "java/lang/String" "value" "[B").before a0 Z = true := hw.1 _ (List.mem_of_getElem? (i := 38) rfl)
theorem ow_39 {Z : State} {a0 : Array Value} (hw : HW Z a0) : (Jvm.Cond.methodLink "com/example/sedgeholt/sedgeholt/layout/VersionFileIsSnapshotPinLaw" (27 : Nat) ({ cls := "com/example/sedgeholt/sedgeholt/layout/VersionFile", name := "isSnapshot", desc := "(Ljava/lang/String;)Z" } : Jvm.MethodName)).before a0 Z = true := hw.1 _ (List.mem_of_getElem? (i := 39) rfl)
theorem ow_40 {Z : State} {a0 : Array Value} (hw : HW Z a0) : (Jvm.Cond.static ({ cls := "com/example/sedgeholt/sedgeholt/layout/VersionFile", name := "isSnapshot", desc := "(Ljava/lang/String;)Z" } : Jvm.MethodName)).before a0 Z = true := hw.1 _ (List.mem_of_getElem? (i := 40) rfl)
theorem ow_41 {Z : State} {a0 : Array Value} (hw : HW Z a0) : (Jvm.Cond.initialized "com/example/sedgeholt/sedgeholt/layout/VersionFile").before a0 Z = true := hw.1 _ (List.mem_of_getElem? (i := 41) rfl)
theorem ow_42 {Z : State} {a0 : Array Value} (hw : HW Z a0) : (Jvm.Cond.code ({ cls := "com/example/sedgeholt/sedgeholt/layout/VersionFile", name := "isSnapshot", desc := "(Ljava/lang/String;)Z" } : Jvm.MethodName) prog_9_method_2_code (1 : Nat) (Option.some Jvm.ClassFile.FieldType.boolean)).before a0 Z = true := hw.1 _ (List.mem_of_getElem? (i := 42) rfl)
theorem ow_43 {Z : State} {a0 : Array Value} (hw : HW Z a0) : (Jvm.Cond.methodLink "com/example/sedgeholt/sedgeholt/layout/VersionFile" (26 : Nat) ({ cls := "java/lang/String", name := "length", desc := "()I" } : Jvm.MethodName)).before a0 Z = true := hw.1 _ (List.mem_of_getElem? (i := 43) rfl)
theorem ow_44 {Z : State} {a0 : Array Value} (hw : HW Z a0) : (Jvm.Cond.declares ({ cls := "java/lang/String", name := "length", desc := "()I" } : Jvm.MethodName)).before a0 Z = true := hw.1 _ (List.mem_of_getElem? (i := 44) rfl)
theorem ow_45 {Z : State} {a0 : Array Value} (hw : HW Z a0) : (Jvm.Cond.instanceMethod ({ cls := "java/lang/String", name := "length", desc := "()I" } : Jvm.MethodName)).before a0 Z = true := hw.1 _ (List.mem_of_getElem? (i := 45) rfl)
theorem ow_46 {Z : State} {a0 : Array Value} (hw : HW Z a0) : (Jvm.Cond.selects "java/lang/String" ({ cls := "java/lang/String", name := "length", desc := "()I" } : Jvm.MethodName) ({ cls := "java/lang/String", name := "length", desc := "()I" } : Jvm.MethodName)).before a0 Z = true := hw.1 _ (List.mem_of_getElem? (i := 46) rfl)
theorem ow_48 {Z : State} {a0 : Array Value} (hw : HW Z a0) : (Jvm.Cond.methodLink "java/lang/String" (335 : Nat) ({ cls := "java/lang/String", name := "coder", desc := "()B" } : Jvm.MethodName)).before a0 Z = true := hw.1 _ (List.mem_of_getElem? (i := 48) rfl)
theorem ow_49 {Z : State} {a0 : Array Value} (hw : HW Z a0) : (Jvm.Cond.declares ({ cls := "java/lang/String", name := "coder", desc := "()B" } : Jvm.MethodName)).before a0 Z = true := hw.1 _ (List.mem_of_getElem? (i := 49) rfl)
theorem ow_50 {Z : State} {a0 : Array Value} (hw : HW Z a0) : (Jvm.Cond.instanceMethod ({ cls := "java/lang/String", name := "coder", desc := "()B" } : Jvm.MethodName)).before a0 Z = true := hw.1 _ (List.mem_of_getElem? (i := 50) rfl)
theorem ow_51 {Z : State} {a0 : Array Value} (hw : HW Z a0) : (Jvm.Cond.selects "java/lang/String" ({ cls := "java/lang/String", name := "coder", desc := "()B" } : Jvm.MethodName) ({ cls := "java/lang/String", name := "coder", desc := "()B" } : Jvm.MethodName)).before a0 Z = true := hw.1 _ (List.mem_of_getElem? (i := 51) rfl)
theorem ow_52 {Z : State} {a0 : Array Value} (hw : HW Z a0) : (Jvm.Cond.code ({ cls := "java/lang/String", name := "coder", desc := "()B" } : Jvm.MethodName) jdk_42_method_152_code (1 : Nat) (Option.some Jvm.ClassFile.FieldType.byte)).before a0 Z = true := hw.1 _ (List.mem_of_getElem? (i := 52) rfl)
theorem ow_53 {Z : State} {a0 : Array Value} (hw : HW Z a0) : (Jvm.Cond.stringLink "com/example/sedgeholt/sedgeholt/layout/VersionFile" (32 : Nat) "SNAPSHOT").before a0 Z = true := hw.1 _ (List.mem_of_getElem? (i := 53) rfl)
theorem ow_56 {Z : State} {a0 : Array Value} (hw : HW Z a0) : (Jvm.Cond.methodLink "com/example/sedgeholt/sedgeholt/layout/VersionFile" (34 : Nat) ({ cls := "java/lang/String", name := "regionMatches", desc := "(ZILjava/lang/String;II)Z" } : Jvm.MethodName)).before a0 Z = true := hw.1 _ (List.mem_of_getElem? (i := 56) rfl)
theorem ow_57 {Z : State} {a0 : Array Value} (hw : HW Z a0) : (Jvm.Cond.declares ({ cls := "java/lang/String", name := "regionMatches", desc := "(ZILjava/lang/String;II)Z" } : Jvm.MethodName)).before a0 Z = true := hw.1 _ (List.mem_of_getElem? (i := 57) rfl)
theorem ow_58 {Z : State} {a0 : Array Value} (hw : HW Z a0) : (Jvm.Cond.instanceMethod ({ cls := "java/lang/String", name := "regionMatches", desc := "(ZILjava/lang/String;II)Z" } : Jvm.MethodName)).before a0 Z = true := hw.1 _ (List.mem_of_getElem? (i := 58) rfl)
theorem ow_59 {Z : State} {a0 : Array Value} (hw : HW Z a0) : (Jvm.Cond.selects "java/lang/String" ({ cls := "java/lang/String", name := "regionMatches", desc := "(ZILjava/lang/String;II)Z" } : Jvm.MethodName) ({ cls := "java/lang/String", name := "regionMatches", desc := "(ZILjava/lang/String;II)Z" } : Jvm.MethodName)).before a0 Z = true := hw.1 _ (List.mem_of_getElem? (i := 59) rfl)
theorem ow_60 {Z : State} {a0 : Array Value} (hw : HW Z a0) : (Jvm.Cond.code ({ cls := "java/lang/String", name := "regionMatches", desc := "(ZILjava/lang/String;II)Z" } : Jvm.MethodName) jdk_42_method_74_code (9 : Nat) (Option.some Jvm.ClassFile.FieldType.boolean)).before a0 Z = true := hw.1 _ (List.mem_of_getElem? (i := 60) rfl)
theorem ow_61 {Z : State} {a0 : Array Value} (hw : HW Z a0) : (Jvm.Cond.methodLink "java/lang/String" (505 : Nat) ({ cls := "java/lang/String", name := "length", desc := "()I" } : Jvm.MethodName)).before a0 Z = true := hw.1 _ (List.mem_of_getElem? (i := 61) rfl)
theorem ow_62 {Z : State} {a0 : Array Value} (hw : HW Z a0) : (Jvm.Cond.methodLink "java/lang/String" (613 : Nat) ({ cls := "java/lang/StringLatin1", name := "regionMatchesCI", desc := "([BI[BII)Z" } : Jvm.MethodName)).before a0 Z = true := hw.1 _ (List.mem_of_getElem? (i := 62) rfl)
theorem ow_63 {Z : State} {a0 : Array Value} (hw : HW Z a0) : (Jvm.Cond.static ({ cls := "java/lang/StringLatin1", name := "regionMatchesCI", desc := "([BI[BII)Z" } : Jvm.MethodName)).before a0 Z = true := hw.1 _ (List.mem_of_getElem? (i := 63) rfl)
theorem ow_64 {Z : State} {a0 : Array Value} (hw : HW Z a0) : (Jvm.Cond.initialized "java/lang/StringLatin1").before a0 Z = true := hw.1 _ (List.mem_of_getElem? (i := 64) rfl)
theorem ow_65 {Z : State} {a0 : Array Value} (hw : HW Z a0) : (Jvm.Cond.code ({ cls := "java/lang/StringLatin1", name := "regionMatchesCI", desc := "([BI[BII)Z" } : Jvm.MethodName) jdk_43_method_30_code (8 : Nat) (Option.some Jvm.ClassFile.FieldType.boolean)).before a0 Z = true := hw.1 _ (List.mem_of_getElem? (i := 65) rfl)
theorem ow_66 {Z : State} {a0 : Array Value} (hw : HW Z a0) : (Jvm.Cond.methodLink "java/lang/StringLatin1" (153 : Nat) ({ cls := "java/lang/CharacterDataLatin1", name := "equalsIgnoreCase", desc := "(BB)Z" } : Jvm.MethodName)).before a0 Z = true := hw.1 _ (List.mem_of_getElem? (i := 66) rfl)
theorem ow_67 {Z : State} {a0 : Array Value} (hw : HW Z a0) : (Jvm.Cond.static ({ cls := "java/lang/CharacterDataLatin1", name := "equalsIgnoreCase", desc := "(BB)Z" } : Jvm.MethodName)).before a0 Z = true := hw.1 _ (List.mem_of_getElem? (i := 67) rfl)
theorem ow_68 {Z : State} {a0 : Array Value} (hw : HW Z a0) : (Jvm.Cond.initialized "java/lang/CharacterDataLatin1").before a0 Z = true := hw.1 _ (List.mem_of_getElem? (i := 68) rfl)
theorem ow_69 {Z : State} {a0 : Array Value} (hw : HW Z a0) : (Jvm.Cond.code ({ cls := "java/lang/CharacterDataLatin1", name := "equalsIgnoreCase", desc := "(BB)Z" } : Jvm.MethodName) jdk_116_method_22_code (3 : Nat) (Option.some Jvm.ClassFile.FieldType.boolean)).before a0 Z = true := hw.1 _ (List.mem_of_getElem? (i := 69) rfl)
theorem ow_70 {Z : State} {a0 : Array Value} (hw : HW Z a0) : (Jvm.Cond.stringLink "com/example/sedgeholt/sedgeholt/layout/VersionFileIsSnapshotPinLaw" (25 : Nat) "").before a0 Z = true := hw.1 _ (List.mem_of_getElem? (i := 70) rfl)
theorem own_wS {Z : State} {a0 : Array Value} (hw : HW Z a0) : (Jvm.Cond.instantiable "java/lang/String" (4 : Nat)).before a0 Z = true := (ow_10 hw)
abbrev EL0 : List (String × Nat) := consts_1
abbrev nw0 : Bool := false
theorem own_ew {Z : State} {a0 : Array Value} (hw : HW Z a0) : EW Z a0 EL0 := (EW.cons (ow_53 hw) (by decide) (EW.cons (ow_70 hw) (by decide) EW.nil))
theorem own_sA {Z : State} {a0 : Array Value} (hw : HW Z a0) : ∀ a ∈ Bundle.stringAtoms, a.before a0 Z = true := fun d hd => hw.1 d ((by decide +kernel : ∀ d ∈ Bundle.stringAtoms, d ∈ tables_1) d hd)
theorem od_1_0 : decode method_2_code 0 = .ok (.iload_n 0, 1) := by decide +kernel
theorem od_1_1 : decode method_2_code 1 = .ok (.iconst 3, 1) := by decide +kernel
theorem od_1_2 : decode method_2_code 2 = .ok (.iload_n 1, 1) := by decide +kernel
theorem od_1_3 : decode method_2_code 3 = .ok (.imul, 1) := by decide +kernel
theorem od_1_4 : decode method_2_code 4 = .ok (.iushr, 1) := by decide +kernel
theorem od_1_5 : decode method_2_code 5 = .ok (.bipush 7, 2) := by decide +kernel
theorem od_1_7 : decode method_2_code 7 = .ok (.iand, 1) := by decide +kernel
theorem od_1_8 : decode method_2_code 8 = .ok (.istore 6, 2) := by decide +kernel
theorem od_1_10 : decode method_2_code 10 = .ok (.iload 6, 2) := by decide +kernel
theorem od_1_12 : decode method_2_code 12 = .ok (.iconst 4, 1) := by decide +kernel
theorem od_1_13 : decode method_2_code 13 = .ok (.if_icmp .ge 6, 3) := by decide +kernel
theorem od_1_16 : decode method_2_code 16 = .ok (.iload 4, 2) := by decide +kernel
theorem od_1_18 : decode method_2_code 18 = .ok (.ireturn, 1) := by decide +kernel
theorem od_1_19 : decode method_2_code 19 = .ok (.iload 6, 2) := by decide +kernel
theorem od_1_21 : decode method_2_code 21 = .ok (.bipush 7, 2) := by decide +kernel
theorem od_1_23 : decode method_2_code 23 = .ok (.if_icmp .ge 6, 3) := by decide +kernel
theorem od_1_26 : decode method_2_code 26 = .ok (.iload 5, 2) := by decide +kernel
theorem od_1_28 : decode method_2_code 28 = .ok (.ireturn, 1) := by decide +kernel
theorem od_1_29 : decode method_2_code 29 = .ok (.lload_n 2, 1) := by decide +kernel
theorem od_1_30 : decode method_2_code 30 = .ok (.bipush 8, 2) := by decide +kernel
theorem od_1_32 : decode method_2_code 32 = .ok (.iload_n 1, 1) := by decide +kernel
theorem od_1_33 : decode method_2_code 33 = .ok (.imul, 1) := by decide +kernel
theorem od_1_34 : decode method_2_code 34 = .ok (.lushr, 1) := by decide +kernel
theorem od_1_35 : decode method_2_code 35 = .ok (.ldc2_w 7, 3) := by decide +kernel
theorem od_1_38 : decode method_2_code 38 = .ok (.land, 1) := by decide +kernel
theorem od_1_39 : decode method_2_code 39 = .ok (.l2i, 1) := by decide +kernel
theorem od_1_40 : decode method_2_code 40 = .ok (.i2c, 1) := by decide +kernel
theorem od_1_41 : decode method_2_code 41 = .ok (.ireturn, 1) := by decide +kernel
theorem od_2_0 : decode method_3_code 0 = .ok (.iload_n 0, 1) := by decide +kernel
theorem od_2_1 : decode method_3_code 1 = .ok (.iload_n 1, 1) := by decide +kernel
theorem od_2_2 : decode method_3_code 2 = .ok (.if_icmp .eq 8, 3) := by decide +kernel
theorem od_2_10 : decode method_3_code 10 = .ok (.iconst 1, 1) := by decide +kernel
theorem od_2_11 : decode method_3_code 11 = .ok (.goto 4, 3) := by decide +kernel
theorem od_2_15 : decode method_3_code 15 = .ok (.ireturn, 1) := by decide +kernel
theorem od_2_5 : decode method_3_code 5 = .ok (.iload_n 0, 1) := by decide +kernel
theorem od_2_6 : decode method_3_code 6 = .ok (.iload_n 2, 1) := by decide +kernel
theorem od_2_7 : decode method_3_code 7 = .ok (.if_icmp .ne 7, 3) := by decide +kernel
theorem od_2_14 : decode method_3_code 14 = .ok (.iconst 0, 1) := by decide +kernel
theorem od_14_0 : decode jdk_116_method_22_code 0 = .ok (.iload_n 0, 1) := by decide +kernel
theorem od_14_1 : decode jdk_116_method_22_code 1 = .ok (.iload_n 1, 1) := by decide +kernel
theorem od_14_2 : decode jdk_116_method_22_code 2 = .ok (.if_icmp .ne 5, 3) := by decide +kernel
theorem od_14_5 : decode jdk_116_method_22_code 5 = .ok (.iconst 1, 1) := by decide +kernel
theorem od_14_6 : decode jdk_116_method_22_code 6 = .ok (.ireturn, 1) := by decide +kernel
theorem od_14_7 : decode jdk_116_method_22_code 7 = .ok (.iload_n 0, 1) := by decide +kernel
theorem od_14_8 : decode jdk_116_method_22_code 8 = .ok (.sipush 223, 3) := by decide +kernel
theorem od_14_11 : decode jdk_116_method_22_code 11 = .ok (.iand, 1) := by decide +kernel
theorem od_14_12 : decode jdk_116_method_22_code 12 = .ok (.istore_n 2, 1) := by decide +kernel
theorem od_14_13 : decode jdk_116_method_22_code 13 = .ok (.iload_n 2, 1) := by decide +kernel
theorem od_14_14 : decode jdk_116_method_22_code 14 = .ok (.bipush 65, 2) := by decide +kernel
theorem od_14_16 : decode jdk_116_method_22_code 16 = .ok (.if_icmp .ge 5, 3) := by decide +kernel
theorem od_14_19 : decode jdk_116_method_22_code 19 = .ok (.iconst 0, 1) := by decide +kernel
theorem od_14_20 : decode jdk_116_method_22_code 20 = .ok (.ireturn, 1) := by decide +kernel
theorem od_14_21 : decode jdk_116_method_22_code 21 = .ok (.iload_n 2, 1) := by decide +kernel
theorem od_14_22 : decode jdk_116_method_22_code 22 = .ok (.bipush 90, 2) := by decide +kernel
theorem od_14_24 : decode jdk_116_method_22_code 24 = .ok (.if_icmp .le 24, 3) := by decide +kernel
theorem od_14_27 : decode jdk_116_method_22_code 27 = .ok (.iload_n 2, 1) := by decide +kernel
theorem od_14_28 : decode jdk_116_method_22_code 28 = .ok (.sipush 192, 3) := by decide +kernel
theorem od_14_31 : decode jdk_116_method_22_code 31 = .ok (.if_icmp .lt 30, 3) := by decide +kernel
theorem od_14_61 : decode jdk_116_method_22_code 61 = .ok (.iconst 0, 1) := by decide +kernel
theorem od_14_62 : decode jdk_116_method_22_code 62 = .ok (.ireturn, 1) := by decide +kernel
theorem od_14_34 : decode jdk_116_method_22_code 34 = .ok (.iload_n 2, 1) := by decide +kernel
theorem od_14_35 : decode jdk_116_method_22_code 35 = .ok (.sipush 222, 3) := by decide +kernel
theorem od_14_38 : decode jdk_116_method_22_code 38 = .ok (.if_icmp .gt 23, 3) := by decide +kernel
theorem od_14_41 : decode jdk_116_method_22_code 41 = .ok (.iload_n 2, 1) := by decide +kernel
theorem od_14_42 : decode jdk_116_method_22_code 42 = .ok (.sipush 215, 3) := by decide +kernel
theorem od_14_45 : decode jdk_116_method_22_code 45 = .ok (.if_icmp .eq 16, 3) := by decide +kernel
theorem od_14_48 : decode jdk_116_method_22_code 48 = .ok (.iload_n 2, 1) := by decide +kernel
theorem od_14_49 : decode jdk_116_method_22_code 49 = .ok (.iload_n 1, 1) := by decide +kernel
theorem od_14_50 : decode jdk_116_method_22_code 50 = .ok (.sipush 223, 3) := by decide +kernel
theorem od_14_53 : decode jdk_116_method_22_code 53 = .ok (.iand, 1) := by decide +kernel
theorem od_14_54 : decode jdk_116_method_22_code 54 = .ok (.if_icmp .ne 7, 3) := by decide +kernel
theorem od_14_57 : decode jdk_116_method_22_code 57 = .ok (.iconst 1, 1) := by decide +kernel
theorem od_14_58 : decode jdk_116_method_22_code 58 = .ok (.goto 4, 3) := by decide +kernel
theorem od_11_0 : decode jdk_42_method_152_code 0 = .ok (.getstatic 38, 3) := by decide +kernel
theorem od_11_3 : decode jdk_42_method_152_code 3 = .ok (.ifCond .eq 10, 3) := by decide +kernel
theorem od_11_6 : decode jdk_42_method_152_code 6 = .ok (.aload_n 0, 1) := by decide +kernel
theorem od_11_7 : decode jdk_42_method_152_code 7 = .ok (.getfield 15, 3) := by decide +kernel
theorem od_11_10 : decode jdk_42_method_152_code 10 = .ok (.goto 4, 3) := by decide +kernel
theorem od_11_14 : decode jdk_42_method_152_code 14 = .ok (.ireturn, 1) := by decide +kernel
theorem od_13_0 : decode jdk_43_method_30_code 0 = .ok (.iload_n 1, 1) := by decide +kernel
theorem od_13_1 : decode jdk_43_method_30_code 1 = .ok (.iload 4, 2) := by decide +kernel
theorem od_13_3 : decode jdk_43_method_30_code 3 = .ok (.iadd, 1) := by decide +kernel
theorem od_13_4 : decode jdk_43_method_30_code 4 = .ok (.istore 5, 2) := by decide +kernel
theorem od_13_6 : decode jdk_43_method_30_code 6 = .ok (.iload_n 1, 1) := by decide +kernel
theorem od_13_7 : decode jdk_43_method_30_code 7 = .ok (.iload 5, 2) := by decide +kernel
theorem od_13_9 : decode jdk_43_method_30_code 9 = .ok (.if_icmp .ge 34, 3) := by decide +kernel
theorem od_13_12 : decode jdk_43_method_30_code 12 = .ok (.aload_n 0, 1) := by decide +kernel
theorem od_13_13 : decode jdk_43_method_30_code 13 = .ok (.iload_n 1, 1) := by decide +kernel
theorem od_13_14 : decode jdk_43_method_30_code 14 = .ok (.iinc 1 1, 3) := by decide +kernel
theorem od_13_17 : decode jdk_43_method_30_code 17 = .ok (.baload, 1) := by decide +kernel
theorem od_13_18 : decode jdk_43_method_30_code 18 = .ok (.istore 6, 2) := by decide +kernel
theorem od_13_20 : decode jdk_43_method_30_code 20 = .ok (.aload_n 2, 1) := by decide +kernel
theorem od_13_21 : decode jdk_43_method_30_code 21 = .ok (.iload_n 3, 1) := by decide +kernel
theorem od_13_22 : decode jdk_43_method_30_code 22 = .ok (.iinc 3 1, 3) := by decide +kernel
theorem od_13_25 : decode jdk_43_method_30_code 25 = .ok (.baload, 1) := by decide +kernel
theorem od_13_26 : decode jdk_43_method_30_code 26 = .ok (.istore 7, 2) := by decide +kernel
theorem od_13_28 : decode jdk_43_method_30_code 28 = .ok (.iload 6, 2) := by decide +kernel
theorem od_13_30 : decode jdk_43_method_30_code 30 = .ok (.iload 7, 2) := by decide +kernel
theorem od_13_32 : decode jdk_43_method_30_code 32 = .ok (.invokestatic 153, 3) := by decide +kernel
theorem od_13_35 : decode jdk_43_method_30_code 35 = .ok (.ifCond .eq 6, 3) := by decide +kernel
theorem od_13_41 : decode jdk_43_method_30_code 41 = .ok (.iconst 0, 1) := by decide +kernel
theorem od_13_42 : decode jdk_43_method_30_code 42 = .ok (.ireturn, 1) := by decide +kernel
theorem od_13_38 : decode jdk_43_method_30_code 38 = .ok (.goto (-32), 3) := by decide +kernel
theorem od_13_43 : decode jdk_43_method_30_code 43 = .ok (.iconst 1, 1) := by decide +kernel
theorem od_13_44 : decode jdk_43_method_30_code 44 = .ok (.ireturn, 1) := by decide +kernel
theorem od_12_0 : decode jdk_42_method_74_code 0 = .ok (.iload_n 1, 1) := by decide +kernel
theorem od_12_1 : decode jdk_42_method_74_code 1 = .ok (.ifCond .ne 14, 3) := by decide +kernel
theorem od_12_15 : decode jdk_42_method_74_code 15 = .ok (.iload 4, 2) := by decide +kernel
theorem od_12_17 : decode jdk_42_method_74_code 17 = .ok (.ifCond .lt 38, 3) := by decide +kernel
theorem od_12_20 : decode jdk_42_method_74_code 20 = .ok (.iload_n 2, 1) := by decide +kernel
theorem od_12_21 : decode jdk_42_method_74_code 21 = .ok (.ifCond .lt 34, 3) := by decide +kernel
theorem od_12_55 : decode jdk_42_method_74_code 55 = .ok (.iconst 0, 1) := by decide +kernel
theorem od_12_56 : decode jdk_42_method_74_code 56 = .ok (.ireturn, 1) := by decide +kernel
theorem od_12_24 : decode jdk_42_method_74_code 24 = .ok (.iload_n 2, 1) := by decide +kernel
theorem od_12_25 : decode jdk_42_method_74_code 25 = .ok (.i2l, 1) := by decide +kernel
theorem od_12_26 : decode jdk_42_method_74_code 26 = .ok (.aload_n 0, 1) := by decide +kernel
theorem od_12_27 : decode jdk_42_method_74_code 27 = .ok (.invokevirtual 505, 3) := by decide +kernel
theorem od_12_30 : decode jdk_42_method_74_code 30 = .ok (.i2l, 1) := by decide +kernel
theorem od_12_31 : decode jdk_42_method_74_code 31 = .ok (.iload 5, 2) := by decide +kernel
theorem od_12_33 : decode jdk_42_method_74_code 33 = .ok (.i2l, 1) := by decide +kernel
theorem od_12_34 : decode jdk_42_method_74_code 34 = .ok (.lsub, 1) := by decide +kernel
theorem od_12_35 : decode jdk_42_method_74_code 35 = .ok (.lcmp, 1) := by decide +kernel
theorem od_12_36 : decode jdk_42_method_74_code 36 = .ok (.ifCond .gt 19, 3) := by decide +kernel
theorem od_12_39 : decode jdk_42_method_74_code 39 = .ok (.iload 4, 2) := by decide +kernel
theorem od_12_41 : decode jdk_42_method_74_code 41 = .ok (.i2l, 1) := by decide +kernel
theorem od_12_42 : decode jdk_42_method_74_code 42 = .ok (.aload_n 3, 1) := by decide +kernel
theorem od_12_43 : decode jdk_42_method_74_code 43 = .ok (.invokevirtual 505, 3) := by decide +kernel
theorem od_12_46 : decode jdk_42_method_74_code 46 = .ok (.i2l, 1) := by decide +kernel
theorem od_12_47 : decode jdk_42_method_74_code 47 = .ok (.iload 5, 2) := by decide +kernel
theorem od_12_49 : decode jdk_42_method_74_code 49 = .ok (.i2l, 1) := by decide +kernel
theorem od_12_50 : decode jdk_42_method_74_code 50 = .ok (.lsub, 1) := by decide +kernel
theorem od_12_51 : decode jdk_42_method_74_code 51 = .ok (.lcmp, 1) := by decide +kernel
theorem od_12_52 : decode jdk_42_method_74_code 52 = .ok (.ifCond .le 5, 3) := by decide +kernel
theorem od_12_57 : decode jdk_42_method_74_code 57 = .ok (.aload_n 0, 1) := by decide +kernel
theorem od_12_58 : decode jdk_42_method_74_code 58 = .ok (.getfield 9, 3) := by decide +kernel
theorem od_12_61 : decode jdk_42_method_74_code 61 = .ok (.astore 6, 2) := by decide +kernel
theorem od_12_63 : decode jdk_42_method_74_code 63 = .ok (.aload_n 3, 1) := by decide +kernel
theorem od_12_64 : decode jdk_42_method_74_code 64 = .ok (.getfield 9, 3) := by decide +kernel
theorem od_12_67 : decode jdk_42_method_74_code 67 = .ok (.astore 7, 2) := by decide +kernel
theorem od_12_69 : decode jdk_42_method_74_code 69 = .ok (.aload_n 0, 1) := by decide +kernel
theorem od_12_70 : decode jdk_42_method_74_code 70 = .ok (.invokevirtual 335, 3) := by decide +kernel
theorem od_12_73 : decode jdk_42_method_74_code 73 = .ok (.istore 8, 2) := by decide +kernel
theorem od_12_75 : decode jdk_42_method_74_code 75 = .ok (.iload 8, 2) := by decide +kernel
theorem od_12_77 : decode jdk_42_method_74_code 77 = .ok (.aload_n 3, 1) := by decide +kernel
theorem od_12_78 : decode jdk_42_method_74_code 78 = .ok (.invokevirtual 335, 3) := by decide +kernel
theorem od_12_81 : decode jdk_42_method_74_code 81 = .ok (.if_icmp .ne 36, 3) := by decide +kernel
theorem od_12_84 : decode jdk_42_method_74_code 84 = .ok (.iload 8, 2) := by decide +kernel
theorem od_12_86 : decode jdk_42_method_74_code 86 = .ok (.ifCond .ne 18, 3) := by decide +kernel
theorem od_12_89 : decode jdk_42_method_74_code 89 = .ok (.aload 6, 2) := by decide +kernel
theorem od_12_91 : decode jdk_42_method_74_code 91 = .ok (.iload_n 2, 1) := by decide +kernel
theorem od_12_92 : decode jdk_42_method_74_code 92 = .ok (.aload 7, 2) := by decide +kernel
theorem od_12_94 : decode jdk_42_method_74_code 94 = .ok (.iload 4, 2) := by decide +kernel
theorem od_12_96 : decode jdk_42_method_74_code 96 = .ok (.iload 5, 2) := by decide +kernel
theorem od_12_98 : decode jdk_42_method_74_code 98 = .ok (.invokestatic 613, 3) := by decide +kernel
theorem od_12_101 : decode jdk_42_method_74_code 101 = .ok (.goto 15, 3) := by decide +kernel
theorem od_12_116 : decode jdk_42_method_74_code 116 = .ok (.ireturn, 1) := by decide +kernel
theorem od_9_0 : decode prog_9_method_2_code 0 = .ok (.aload_n 0, 1) := by decide +kernel
theorem od_9_1 : decode prog_9_method_2_code 1 = .ok (.iconst 1, 1) := by decide +kernel
theorem od_9_2 : decode prog_9_method_2_code 2 = .ok (.aload_n 0, 1) := by decide +kernel
theorem od_9_3 : decode prog_9_method_2_code 3 = .ok (.invokevirtual 26, 3) := by decide +kernel
theorem od_9_6 : decode prog_9_method_2_code 6 = .ok (.ldc 32, 2) := by decide +kernel
theorem od_9_8 : decode prog_9_method_2_code 8 = .ok (.invokevirtual 26, 3) := by decide +kernel
theorem od_9_11 : decode prog_9_method_2_code 11 = .ok (.isub, 1) := by decide +kernel
theorem od_9_12 : decode prog_9_method_2_code 12 = .ok (.ldc 32, 2) := by decide +kernel
theorem od_9_14 : decode prog_9_method_2_code 14 = .ok (.iconst 0, 1) := by decide +kernel
theorem od_9_15 : decode prog_9_method_2_code 15 = .ok (.ldc 32, 2) := by decide +kernel
theorem od_9_17 : decode prog_9_method_2_code 17 = .ok (.invokevirtual 26, 3) := by decide +kernel
theorem od_9_20 : decode prog_9_method_2_code 20 = .ok (.invokevirtual 34, 3) := by decide +kernel
theorem od_9_23 : decode prog_9_method_2_code 23 = .ok (.ireturn, 1) := by decide +kernel
theorem od_0_0 : decode code 0 = .ok (.iload_n 0, 1) := by decide +kernel
theorem od_0_1 : decode code 1 = .ok (.iconst 0, 1) := by decide +kernel
theorem od_0_2 : decode code 2 = .ok (.lload_n 1, 1) := by decide +kernel
theorem od_0_3 : decode code 3 = .ok (.bipush 83, 2) := by decide +kernel
theorem od_0_5 : decode code 5 = .ok (.bipush 115, 2) := by decide +kernel
theorem od_0_7 : decode code 7 = .ok (.invokestatic 9, 3) := by decide +kernel
theorem od_0_10 : decode code 10 = .ok (.istore 6, 2) := by decide +kernel
theorem od_0_12 : decode code 12 = .ok (.iload_n 0, 1) := by decide +kernel
theorem od_0_13 : decode code 13 = .ok (.iconst 1, 1) := by decide +kernel
theorem od_0_14 : decode code 14 = .ok (.lload_n 1, 1) := by decide +kernel
theorem od_0_15 : decode code 15 = .ok (.bipush 78, 2) := by decide +kernel
theorem od_0_17 : decode code 17 = .ok (.bipush 110, 2) := by decide +kernel
theorem od_0_19 : decode code 19 = .ok (.invokestatic 9, 3) := by decide +kernel
theorem od_0_22 : decode code 22 = .ok (.istore 7, 2) := by decide +kernel
theorem od_0_24 : decode code 24 = .ok (.iload_n 0, 1) := by decide +kernel
theorem od_0_25 : decode code 25 = .ok (.iconst 2, 1) := by decide +kernel
theorem od_0_26 : decode code 26 = .ok (.lload_n 1, 1) := by decide +kernel
theorem od_0_27 : decode code 27 = .ok (.bipush 65, 2) := by decide +kernel
theorem od_0_29 : decode code 29 = .ok (.bipush 97, 2) := by decide +kernel
theorem od_0_31 : decode code 31 = .ok (.invokestatic 9, 3) := by decide +kernel
theorem od_0_34 : decode code 34 = .ok (.istore 8, 2) := by decide +kernel
theorem od_0_36 : decode code 36 = .ok (.iload_n 0, 1) := by decide +kernel
theorem od_0_37 : decode code 37 = .ok (.iconst 3, 1) := by decide +kernel
theorem od_0_38 : decode code 38 = .ok (.lload_n 1, 1) := by decide +kernel
theorem od_0_39 : decode code 39 = .ok (.bipush 80, 2) := by decide +kernel
theorem od_0_41 : decode code 41 = .ok (.bipush 112, 2) := by decide +kernel
theorem od_0_43 : decode code 43 = .ok (.invokestatic 9, 3) := by decide +kernel
theorem od_0_46 : decode code 46 = .ok (.istore 9, 2) := by decide +kernel
theorem od_0_48 : decode code 48 = .ok (.iload_n 0, 1) := by decide +kernel
theorem od_0_49 : decode code 49 = .ok (.iconst 4, 1) := by decide +kernel
theorem od_0_50 : decode code 50 = .ok (.lload_n 1, 1) := by decide +kernel
theorem od_0_51 : decode code 51 = .ok (.bipush 83, 2) := by decide +kernel
theorem od_0_53 : decode code 53 = .ok (.bipush 115, 2) := by decide +kernel
theorem od_0_55 : decode code 55 = .ok (.invokestatic 9, 3) := by decide +kernel
theorem od_0_58 : decode code 58 = .ok (.istore 10, 2) := by decide +kernel
theorem od_0_60 : decode code 60 = .ok (.iload_n 0, 1) := by decide +kernel
theorem od_0_61 : decode code 61 = .ok (.iconst 5, 1) := by decide +kernel
theorem od_0_62 : decode code 62 = .ok (.lload_n 1, 1) := by decide +kernel
theorem od_0_63 : decode code 63 = .ok (.bipush 72, 2) := by decide +kernel
theorem od_0_65 : decode code 65 = .ok (.bipush 104, 2) := by decide +kernel
theorem od_0_67 : decode code 67 = .ok (.invokestatic 9, 3) := by decide +kernel
theorem od_0_70 : decode code 70 = .ok (.istore 11, 2) := by decide +kernel
theorem od_0_72 : decode code 72 = .ok (.iload_n 0, 1) := by decide +kernel
theorem od_0_73 : decode code 73 = .ok (.bipush 6, 2) := by decide +kernel
theorem od_0_75 : decode code 75 = .ok (.lload_n 1, 1) := by decide +kernel
theorem od_0_76 : decode code 76 = .ok (.bipush 79, 2) := by decide +kernel
theorem od_0_78 : decode code 78 = .ok (.bipush 111, 2) := by decide +kernel
theorem od_0_80 : decode code 80 = .ok (.invokestatic 9, 3) := by decide +kernel
theorem od_0_83 : decode code 83 = .ok (.istore 12, 2) := by decide +kernel
theorem od_0_85 : decode code 85 = .ok (.iload_n 0, 1) := by decide +kernel
theorem od_0_86 : decode code 86 = .ok (.bipush 7, 2) := by decide +kernel
theorem od_0_88 : decode code 88 = .ok (.lload_n 1, 1) := by decide +kernel
theorem od_0_89 : decode code 89 = .ok (.bipush 84, 2) := by decide +kernel
theorem od_0_91 : decode code 91 = .ok (.bipush 116, 2) := by decide +kernel
theorem od_0_93 : decode code 93 = .ok (.invokestatic 9, 3) := by decide +kernel
theorem od_0_96 : decode code 96 = .ok (.istore 13, 2) := by decide +kernel
theorem od_0_98 : decode code 98 = .ok (.lload_n 3, 1) := by decide +kernel
theorem od_0_99 : decode code 99 = .ok (.ldc2_w 7, 3) := by decide +kernel
theorem od_0_102 : decode code 102 = .ok (.land, 1) := by decide +kernel
theorem od_0_103 : decode code 103 = .ok (.l2i, 1) := by decide +kernel
theorem od_0_104 : decode code 104 = .ok (.i2c, 1) := by decide +kernel
theorem od_0_105 : decode code 105 = .ok (.istore 14, 2) := by decide +kernel
theorem od_0_107 : decode code 107 = .ok (.lload_n 3, 1) := by decide +kernel
theorem od_0_108 : decode code 108 = .ok (.bipush 8, 2) := by decide +kernel
theorem od_0_110 : decode code 110 = .ok (.lushr, 1) := by decide +kernel
theorem od_0_111 : decode code 111 = .ok (.ldc2_w 7, 3) := by decide +kernel
theorem od_0_114 : decode code 114 = .ok (.land, 1) := by decide +kernel
theorem od_0_115 : decode code 115 = .ok (.l2i, 1) := by decide +kernel
theorem od_0_116 : decode code 116 = .ok (.i2c, 1) := by decide +kernel
theorem od_0_117 : decode code 117 = .ok (.istore 15, 2) := by decide +kernel
theorem od_0_119 : decode code 119 = .ok (.lload_n 3, 1) := by decide +kernel
theorem od_0_120 : decode code 120 = .ok (.bipush 16, 2) := by decide +kernel
theorem od_0_122 : decode code 122 = .ok (.lushr, 1) := by decide +kernel
theorem od_0_123 : decode code 123 = .ok (.ldc2_w 7, 3) := by decide +kernel
theorem od_0_126 : decode code 126 = .ok (.land, 1) := by decide +kernel
theorem od_0_127 : decode code 127 = .ok (.l2i, 1) := by decide +kernel
theorem od_0_128 : decode code 128 = .ok (.i2c, 1) := by decide +kernel
theorem od_0_129 : decode code 129 = .ok (.istore 16, 2) := by decide +kernel
theorem od_0_131 : decode code 131 = .ok (.lload_n 3, 1) := by decide +kernel
theorem od_0_132 : decode code 132 = .ok (.bipush 24, 2) := by decide +kernel
theorem od_0_134 : decode code 134 = .ok (.lushr, 1) := by decide +kernel
theorem od_0_135 : decode code 135 = .ok (.ldc2_w 7, 3) := by decide +kernel
theorem od_0_138 : decode code 138 = .ok (.land, 1) := by decide +kernel
theorem od_0_139 : decode code 139 = .ok (.l2i, 1) := by decide +kernel
theorem od_0_140 : decode code 140 = .ok (.i2c, 1) := by decide +kernel
theorem od_0_141 : decode code 141 = .ok (.istore 17, 2) := by decide +kernel
theorem od_0_244 : decode code 244 = .ok (.istore 18, 2) := by decide +kernel
theorem od_0_246 : decode code 246 = .ok (.iload 5, 2) := by decide +kernel
theorem od_0_248 : decode code 248 = .ok (.ldc 19, 2) := by decide +kernel
theorem od_0_250 : decode code 250 = .ok (.iand, 1) := by decide +kernel
theorem od_0_251 : decode code 251 = .ok (.bipush 6, 2) := by decide +kernel
theorem od_0_253 : decode code 253 = .ok (.irem, 1) := by decide +kernel
theorem od_0_254 : decode code 254 = .ok (.istore 19, 2) := by decide +kernel
theorem od_0_256 : decode code 256 = .ok (.iload 19, 2) := by decide +kernel
theorem od_0_258 : decode code 258 = .ok (.ifCond .ne 89, 3) := by decide +kernel
theorem od_0_261 : decode code 261 = .ok (.new 20, 3) := by decide +kernel
theorem od_0_264 : decode code 264 = .ok (.dup, 1) := by decide +kernel
theorem od_0_265 : decode code 265 = .ok (.bipush 12, 2) := by decide +kernel
theorem od_0_267 : decode code 267 = .ok (.newarray .char, 2) := by decide +kernel
theorem od_0_269 : decode code 269 = .ok (.dup, 1) := by decide +kernel
theorem od_0_270 : decode code 270 = .ok (.iconst 0, 1) := by decide +kernel
theorem od_0_271 : decode code 271 = .ok (.iload 14, 2) := by decide +kernel
theorem od_0_273 : decode code 273 = .ok (.castore, 1) := by decide +kernel
theorem od_0_274 : decode code 274 = .ok (.dup, 1) := by decide +kernel
theorem od_0_275 : decode code 275 = .ok (.iconst 1, 1) := by decide +kernel
theorem od_0_276 : decode code 276 = .ok (.iload 15, 2) := by decide +kernel
theorem od_0_278 : decode code 278 = .ok (.castore, 1) := by decide +kernel
theorem od_0_279 : decode code 279 = .ok (.dup, 1) := by decide +kernel
theorem od_0_280 : decode code 280 = .ok (.iconst 2, 1) := by decide +kernel
theorem od_0_281 : decode code 281 = .ok (.iload 16, 2) := by decide +kernel
theorem od_0_283 : decode code 283 = .ok (.castore, 1) := by decide +kernel
theorem od_0_284 : decode code 284 = .ok (.dup, 1) := by decide +kernel
theorem od_0_285 : decode code 285 = .ok (.iconst 3, 1) := by decide +kernel
theorem od_0_286 : decode code 286 = .ok (.iload 17, 2) := by decide +kernel
theorem od_0_288 : decode code 288 = .ok (.castore, 1) := by decide +kernel
theorem od_0_289 : decode code 289 = .ok (.dup, 1) := by decide +kernel
theorem od_0_290 : decode code 290 = .ok (.iconst 4, 1) := by decide +kernel
theorem od_0_291 : decode code 291 = .ok (.iload 6, 2) := by decide +kernel
theorem od_0_293 : decode code 293 = .ok (.castore, 1) := by decide +kernel
theorem od_0_294 : decode code 294 = .ok (.dup, 1) := by decide +kernel
theorem od_0_295 : decode code 295 = .ok (.iconst 5, 1) := by decide +kernel
theorem od_0_296 : decode code 296 = .ok (.iload 7, 2) := by decide +kernel
theorem od_0_298 : decode code 298 = .ok (.castore, 1) := by decide +kernel
theorem od_0_299 : decode code 299 = .ok (.dup, 1) := by decide +kernel
theorem od_0_300 : decode code 300 = .ok (.bipush 6, 2) := by decide +kernel
theorem od_0_302 : decode code 302 = .ok (.iload 8, 2) := by decide +kernel
theorem od_0_304 : decode code 304 = .ok (.castore, 1) := by decide +kernel
theorem od_0_305 : decode code 305 = .ok (.dup, 1) := by decide +kernel
theorem od_0_306 : decode code 306 = .ok (.bipush 7, 2) := by decide +kernel
theorem od_0_308 : decode code 308 = .ok (.iload 9, 2) := by decide +kernel
theorem od_0_310 : decode code 310 = .ok (.castore, 1) := by decide +kernel
theorem od_0_311 : decode code 311 = .ok (.dup, 1) := by decide +kernel
theorem od_0_312 : decode code 312 = .ok (.bipush 8, 2) := by decide +kernel
theorem od_0_314 : decode code 314 = .ok (.iload 10, 2) := by decide +kernel
theorem od_0_316 : decode code 316 = .ok (.castore, 1) := by decide +kernel
theorem od_0_317 : decode code 317 = .ok (.dup, 1) := by decide +kernel
theorem od_0_318 : decode code 318 = .ok (.bipush 9, 2) := by decide +kernel
theorem od_0_320 : decode code 320 = .ok (.iload 11, 2) := by decide +kernel
theorem od_0_322 : decode code 322 = .ok (.castore, 1) := by decide +kernel
theorem od_0_323 : decode code 323 = .ok (.dup, 1) := by decide +kernel
theorem od_0_324 : decode code 324 = .ok (.bipush 10, 2) := by decide +kernel
theorem od_0_326 : decode code 326 = .ok (.iload 12, 2) := by decide +kernel
theorem od_0_328 : decode code 328 = .ok (.castore, 1) := by decide +kernel
theorem od_0_329 : decode code 329 = .ok (.dup, 1) := by decide +kernel
theorem od_0_330 : decode code 330 = .ok (.bipush 11, 2) := by decide +kernel
theorem od_0_332 : decode code 332 = .ok (.iload 13, 2) := by decide +kernel
theorem od_0_334 : decode code 334 = .ok (.castore, 1) := by decide +kernel
theorem od_0_335 : decode code 335 = .ok (.invokespecial 22, 3) := by decide +kernel
theorem od_0_338 : decode code 338 = .ok (.astore 20, 2) := by decide +kernel
theorem od_0_340 : decode code 340 = .ok (.iload 18, 2) := by decide +kernel
theorem od_0_342 : decode code 342 = .ok (.istore 21, 2) := by decide +kernel
theorem od_0_344 : decode code 344 = .ok (.goto 242, 3) := by decide +kernel
theorem od_0_586 : decode code 586 = .ok (.aload 20, 2) := by decide +kernel
theorem od_0_588 : decode code 588 = .ok (.invokestatic 27, 3) := by decide +kernel
theorem od_0_591 : decode code 591 = .ok (.iload 21, 2) := by decide +kernel
theorem od_0_593 : decode code 593 = .ok (.if_icmp .ne 7, 3) := by decide +kernel
theorem od_0_596 : decode code 596 = .ok (.iconst 1, 1) := by decide +kernel
theorem od_0_597 : decode code 597 = .ok (.goto 4, 3) := by decide +kernel
theorem od_0_601 : decode code 601 = .ok (.ireturn, 1) := by decide +kernel
theorem od_0_347 : decode code 347 = .ok (.iload 19, 2) := by decide +kernel
theorem od_0_349 : decode code 349 = .ok (.iconst 1, 1) := by decide +kernel
theorem od_0_350 : decode code 350 = .ok (.if_icmp .ne 71, 3) := by decide +kernel
theorem od_0_353 : decode code 353 = .ok (.new 20, 3) := by decide +kernel
theorem od_0_356 : decode code 356 = .ok (.dup, 1) := by decide +kernel
theorem od_0_357 : decode code 357 = .ok (.bipush 9, 2) := by decide +kernel
theorem od_0_359 : decode code 359 = .ok (.newarray .char, 2) := by decide +kernel
theorem od_0_361 : decode code 361 = .ok (.dup, 1) := by decide +kernel
theorem od_0_362 : decode code 362 = .ok (.iconst 0, 1) := by decide +kernel
theorem od_0_363 : decode code 363 = .ok (.iload 14, 2) := by decide +kernel
theorem od_0_365 : decode code 365 = .ok (.castore, 1) := by decide +kernel
theorem od_0_366 : decode code 366 = .ok (.dup, 1) := by decide +kernel
theorem od_0_367 : decode code 367 = .ok (.iconst 1, 1) := by decide +kernel
theorem od_0_368 : decode code 368 = .ok (.iload 6, 2) := by decide +kernel
theorem od_0_370 : decode code 370 = .ok (.castore, 1) := by decide +kernel
theorem od_0_371 : decode code 371 = .ok (.dup, 1) := by decide +kernel
theorem od_0_372 : decode code 372 = .ok (.iconst 2, 1) := by decide +kernel
theorem od_0_373 : decode code 373 = .ok (.iload 7, 2) := by decide +kernel
theorem od_0_375 : decode code 375 = .ok (.castore, 1) := by decide +kernel
theorem od_0_376 : decode code 376 = .ok (.dup, 1) := by decide +kernel
theorem od_0_377 : decode code 377 = .ok (.iconst 3, 1) := by decide +kernel
theorem od_0_378 : decode code 378 = .ok (.iload 8, 2) := by decide +kernel
theorem od_0_380 : decode code 380 = .ok (.castore, 1) := by decide +kernel
theorem od_0_381 : decode code 381 = .ok (.dup, 1) := by decide +kernel
theorem od_0_382 : decode code 382 = .ok (.iconst 4, 1) := by decide +kernel
theorem od_0_383 : decode code 383 = .ok (.iload 9, 2) := by decide +kernel
theorem od_0_385 : decode code 385 = .ok (.castore, 1) := by decide +kernel
theorem od_0_386 : decode code 386 = .ok (.dup, 1) := by decide +kernel
theorem od_0_387 : decode code 387 = .ok (.iconst 5, 1) := by decide +kernel
theorem od_0_388 : decode code 388 = .ok (.iload 10, 2) := by decide +kernel
theorem od_0_390 : decode code 390 = .ok (.castore, 1) := by decide +kernel
theorem od_0_391 : decode code 391 = .ok (.dup, 1) := by decide +kernel
theorem od_0_392 : decode code 392 = .ok (.bipush 6, 2) := by decide +kernel
theorem od_0_394 : decode code 394 = .ok (.iload 11, 2) := by decide +kernel
theorem od_0_396 : decode code 396 = .ok (.castore, 1) := by decide +kernel
theorem od_0_397 : decode code 397 = .ok (.dup, 1) := by decide +kernel
theorem od_0_398 : decode code 398 = .ok (.bipush 7, 2) := by decide +kernel
theorem od_0_400 : decode code 400 = .ok (.iload 12, 2) := by decide +kernel
theorem od_0_402 : decode code 402 = .ok (.castore, 1) := by decide +kernel
theorem od_0_403 : decode code 403 = .ok (.dup, 1) := by decide +kernel
theorem od_0_404 : decode code 404 = .ok (.bipush 8, 2) := by decide +kernel
theorem od_0_406 : decode code 406 = .ok (.iload 13, 2) := by decide +kernel
theorem od_0_408 : decode code 408 = .ok (.castore, 1) := by decide +kernel
theorem od_0_409 : decode code 409 = .ok (.invokespecial 22, 3) := by decide +kernel
theorem od_0_412 : decode code 412 = .ok (.astore 20, 2) := by decide +kernel
theorem od_0_414 : decode code 414 = .ok (.iload 18, 2) := by decide +kernel
theorem od_0_416 : decode code 416 = .ok (.istore 21, 2) := by decide +kernel
theorem od_0_418 : decode code 418 = .ok (.goto 168, 3) := by decide +kernel
theorem od_0_421 : decode code 421 = .ok (.iload 19, 2) := by decide +kernel
theorem od_0_423 : decode code 423 = .ok (.iconst 2, 1) := by decide +kernel
theorem od_0_424 : decode code 424 = .ok (.if_icmp .ne 65, 3) := by decide +kernel
theorem od_0_427 : decode code 427 = .ok (.new 20, 3) := by decide +kernel
theorem od_0_430 : decode code 430 = .ok (.dup, 1) := by decide +kernel
theorem od_0_431 : decode code 431 = .ok (.bipush 8, 2) := by decide +kernel
theorem od_0_433 : decode code 433 = .ok (.newarray .char, 2) := by decide +kernel
theorem od_0_435 : decode code 435 = .ok (.dup, 1) := by decide +kernel
theorem od_0_436 : decode code 436 = .ok (.iconst 0, 1) := by decide +kernel
theorem od_0_437 : decode code 437 = .ok (.iload 6, 2) := by decide +kernel
theorem od_0_439 : decode code 439 = .ok (.castore, 1) := by decide +kernel
theorem od_0_440 : decode code 440 = .ok (.dup, 1) := by decide +kernel
theorem od_0_441 : decode code 441 = .ok (.iconst 1, 1) := by decide +kernel
theorem od_0_442 : decode code 442 = .ok (.iload 7, 2) := by decide +kernel
theorem od_0_444 : decode code 444 = .ok (.castore, 1) := by decide +kernel
theorem od_0_445 : decode code 445 = .ok (.dup, 1) := by decide +kernel
theorem od_0_446 : decode code 446 = .ok (.iconst 2, 1) := by decide +kernel
theorem od_0_447 : decode code 447 = .ok (.iload 8, 2) := by decide +kernel
theorem od_0_449 : decode code 449 = .ok (.castore, 1) := by decide +kernel
theorem od_0_450 : decode code 450 = .ok (.dup, 1) := by decide +kernel
theorem od_0_451 : decode code 451 = .ok (.iconst 3, 1) := by decide +kernel
theorem od_0_452 : decode code 452 = .ok (.iload 9, 2) := by decide +kernel
theorem od_0_454 : decode code 454 = .ok (.castore, 1) := by decide +kernel
theorem od_0_455 : decode code 455 = .ok (.dup, 1) := by decide +kernel
theorem od_0_456 : decode code 456 = .ok (.iconst 4, 1) := by decide +kernel
theorem od_0_457 : decode code 457 = .ok (.iload 10, 2) := by decide +kernel
theorem od_0_459 : decode code 459 = .ok (.castore, 1) := by decide +kernel
theorem od_0_460 : decode code 460 = .ok (.dup, 1) := by decide +kernel
theorem od_0_461 : decode code 461 = .ok (.iconst 5, 1) := by decide +kernel
theorem od_0_462 : decode code 462 = .ok (.iload 11, 2) := by decide +kernel
theorem od_0_464 : decode code 464 = .ok (.castore, 1) := by decide +kernel
theorem od_0_465 : decode code 465 = .ok (.dup, 1) := by decide +kernel
theorem od_0_466 : decode code 466 = .ok (.bipush 6, 2) := by decide +kernel
theorem od_0_468 : decode code 468 = .ok (.iload 12, 2) := by decide +kernel
theorem od_0_470 : decode code 470 = .ok (.castore, 1) := by decide +kernel
theorem od_0_471 : decode code 471 = .ok (.dup, 1) := by decide +kernel
theorem od_0_472 : decode code 472 = .ok (.bipush 7, 2) := by decide +kernel
theorem od_0_474 : decode code 474 = .ok (.iload 13, 2) := by decide +kernel
theorem od_0_476 : decode code 476 = .ok (.castore, 1) := by decide +kernel
theorem od_0_477 : decode code 477 = .ok (.invokespecial 22, 3) := by decide +kernel
theorem od_0_480 : decode code 480 = .ok (.astore 20, 2) := by decide +kernel
theorem od_0_482 : decode code 482 = .ok (.iload 18, 2) := by decide +kernel
theorem od_0_484 : decode code 484 = .ok (.istore 21, 2) := by decide +kernel
theorem od_0_486 : decode code 486 = .ok (.goto 100, 3) := by decide +kernel
theorem od_0_489 : decode code 489 = .ok (.iload 19, 2) := by decide +kernel
theorem od_0_491 : decode code 491 = .ok (.iconst 3, 1) := by decide +kernel
theorem od_0_492 : decode code 492 = .ok (.if_icmp .ne 58, 3) := by decide +kernel
theorem od_0_495 : decode code 495 = .ok (.new 20, 3) := by decide +kernel
theorem od_0_498 : decode code 498 = .ok (.dup, 1) := by decide +kernel
theorem od_0_499 : decode code 499 = .ok (.bipush 7, 2) := by decide +kernel
theorem od_0_501 : decode code 501 = .ok (.newarray .char, 2) := by decide +kernel
theorem od_0_503 : decode code 503 = .ok (.dup, 1) := by decide +kernel
theorem od_0_504 : decode code 504 = .ok (.iconst 0, 1) := by decide +kernel
theorem od_0_505 : decode code 505 = .ok (.iload 7, 2) := by decide +kernel
theorem od_0_507 : decode code 507 = .ok (.castore, 1) := by decide +kernel
theorem od_0_508 : decode code 508 = .ok (.dup, 1) := by decide +kernel
theorem od_0_509 : decode code 509 = .ok (.iconst 1, 1) := by decide +kernel
theorem od_0_510 : decode code 510 = .ok (.iload 8, 2) := by decide +kernel
theorem od_0_512 : decode code 512 = .ok (.castore, 1) := by decide +kernel
theorem od_0_513 : decode code 513 = .ok (.dup, 1) := by decide +kernel
theorem od_0_514 : decode code 514 = .ok (.iconst 2, 1) := by decide +kernel
theorem od_0_515 : decode code 515 = .ok (.iload 9, 2) := by decide +kernel
theorem od_0_517 : decode code 517 = .ok (.castore, 1) := by decide +kernel
theorem od_0_518 : decode code 518 = .ok (.dup, 1) := by decide +kernel
theorem od_0_519 : decode code 519 = .ok (.iconst 3, 1) := by decide +kernel
theorem od_0_520 : decode code 520 = .ok (.iload 10, 2) := by decide +kernel
theorem od_0_522 : decode code 522 = .ok (.castore, 1) := by decide +kernel
theorem od_0_523 : decode code 523 = .ok (.dup, 1) := by decide +kernel
theorem od_0_524 : decode code 524 = .ok (.iconst 4, 1) := by decide +kernel
theorem od_0_525 : decode code 525 = .ok (.iload 11, 2) := by decide +kernel
theorem od_0_527 : decode code 527 = .ok (.castore, 1) := by decide +kernel
theorem od_0_528 : decode code 528 = .ok (.dup, 1) := by decide +kernel
theorem od_0_529 : decode code 529 = .ok (.iconst 5, 1) := by decide +kernel
theorem od_0_530 : decode code 530 = .ok (.iload 12, 2) := by decide +kernel
theorem od_0_532 : decode code 532 = .ok (.castore, 1) := by decide +kernel
theorem od_0_533 : decode code 533 = .ok (.dup, 1) := by decide +kernel
theorem od_0_534 : decode code 534 = .ok (.bipush 6, 2) := by decide +kernel
theorem od_0_536 : decode code 536 = .ok (.iload 13, 2) := by decide +kernel
theorem od_0_538 : decode code 538 = .ok (.castore, 1) := by decide +kernel
theorem od_0_539 : decode code 539 = .ok (.invokespecial 22, 3) := by decide +kernel
theorem od_0_542 : decode code 542 = .ok (.astore 20, 2) := by decide +kernel
theorem od_0_544 : decode code 544 = .ok (.iconst 0, 1) := by decide +kernel
theorem od_0_545 : decode code 545 = .ok (.istore 21, 2) := by decide +kernel
theorem od_0_547 : decode code 547 = .ok (.goto 39, 3) := by decide +kernel
theorem od_0_550 : decode code 550 = .ok (.iload 19, 2) := by decide +kernel
theorem od_0_552 : decode code 552 = .ok (.iconst 4, 1) := by decide +kernel
theorem od_0_553 : decode code 553 = .ok (.if_icmp .ne 26, 3) := by decide +kernel
theorem od_0_556 : decode code 556 = .ok (.new 20, 3) := by decide +kernel
theorem od_0_559 : decode code 559 = .ok (.dup, 1) := by decide +kernel
theorem od_0_560 : decode code 560 = .ok (.iconst 1, 1) := by decide +kernel
theorem od_0_561 : decode code 561 = .ok (.newarray .char, 2) := by decide +kernel
theorem od_0_563 : decode code 563 = .ok (.dup, 1) := by decide +kernel
theorem od_0_564 : decode code 564 = .ok (.iconst 0, 1) := by decide +kernel
theorem od_0_565 : decode code 565 = .ok (.iload 14, 2) := by decide +kernel
theorem od_0_567 : decode code 567 = .ok (.castore, 1) := by decide +kernel
theorem od_0_568 : decode code 568 = .ok (.invokespecial 22, 3) := by decide +kernel
theorem od_0_571 : decode code 571 = .ok (.astore 20, 2) := by decide +kernel
theorem od_0_573 : decode code 573 = .ok (.iconst 0, 1) := by decide +kernel
theorem od_0_574 : decode code 574 = .ok (.istore 21, 2) := by decide +kernel
theorem od_0_576 : decode code 576 = .ok (.goto 10, 3) := by decide +kernel
theorem od_0_579 : decode code 579 = .ok (.ldc 25, 2) := by decide +kernel
theorem od_0_581 : decode code 581 = .ok (.astore 20, 2) := by decide +kernel
theorem od_0_583 : decode code 583 = .ok (.iconst 0, 1) := by decide +kernel
theorem od_0_584 : decode code 584 = .ok (.istore 21, 2) := by decide +kernel
theorem od_0_143 : decode code 143 = .ok (.iload 6, 2) := by decide +kernel
theorem od_0_145 : decode code 145 = .ok (.bipush 83, 2) := by decide +kernel
theorem od_0_147 : decode code 147 = .ok (.bipush 115, 2) := by decide +kernel
theorem od_0_149 : decode code 149 = .ok (.invokestatic 15, 3) := by decide +kernel
theorem od_0_152 : decode code 152 = .ok (.ifCond .eq 91, 3) := by decide +kernel
theorem od_0_243 : decode code 243 = .ok (.iconst 0, 1) := by decide +kernel
theorem od_0_155 : decode code 155 = .ok (.iload 7, 2) := by decide +kernel
theorem od_0_157 : decode code 157 = .ok (.bipush 78, 2) := by decide +kernel
theorem od_0_159 : decode code 159 = .ok (.bipush 110, 2) := by decide +kernel
theorem od_0_161 : decode code 161 = .ok (.invokestatic 15, 3) := by decide +kernel
theorem od_0_164 : decode code 164 = .ok (.ifCond .eq 79, 3) := by decide +kernel
theorem od_0_167 : decode code 167 = .ok (.iload 8, 2) := by decide +kernel
theorem od_0_169 : decode code 169 = .ok (.bipush 65, 2) := by decide +kernel
theorem od_0_171 : decode code 171 = .ok (.bipush 97, 2) := by decide +kernel
theorem od_0_173 : decode code 173 = .ok (.invokestatic 15, 3) := by decide +kernel
theorem od_0_176 : decode code 176 = .ok (.ifCond .eq 67, 3) := by decide +kernel
theorem od_0_179 : decode code 179 = .ok (.iload 9, 2) := by decide +kernel
theorem od_0_181 : decode code 181 = .ok (.bipush 80, 2) := by decide +kernel
theorem od_0_183 : decode code 183 = .ok (.bipush 112, 2) := by decide +kernel
theorem od_0_185 : decode code 185 = .ok (.invokestatic 15, 3) := by decide +kernel
theorem od_0_188 : decode code 188 = .ok (.ifCond .eq 55, 3) := by decide +kernel
theorem od_0_191 : decode code 191 = .ok (.iload 10, 2) := by decide +kernel
theorem od_0_193 : decode code 193 = .ok (.bipush 83, 2) := by decide +kernel
theorem od_0_195 : decode code 195 = .ok (.bipush 115, 2) := by decide +kernel
theorem od_0_197 : decode code 197 = .ok (.invokestatic 15, 3) := by decide +kernel
theorem od_0_200 : decode code 200 = .ok (.ifCond .eq 43, 3) := by decide +kernel
theorem od_0_203 : decode code 203 = .ok (.iload 11, 2) := by decide +kernel
theorem od_0_205 : decode code 205 = .ok (.bipush 72, 2) := by decide +kernel
theorem od_0_207 : decode code 207 = .ok (.bipush 104, 2) := by decide +kernel
theorem od_0_209 : decode code 209 = .ok (.invokestatic 15, 3) := by decide +kernel
theorem od_0_212 : decode code 212 = .ok (.ifCond .eq 31, 3) := by decide +kernel
theorem od_0_215 : decode code 215 = .ok (.iload 12, 2) := by decide +kernel
theorem od_0_217 : decode code 217 = .ok (.bipush 79, 2) := by decide +kernel
theorem od_0_219 : decode code 219 = .ok (.bipush 111, 2) := by decide +kernel
theorem od_0_221 : decode code 221 = .ok (.invokestatic 15, 3) := by decide +kernel
theorem od_0_224 : decode code 224 = .ok (.ifCond .eq 19, 3) := by decide +kernel
theorem od_0_227 : decode code 227 = .ok (.iload 13, 2) := by decide +kernel
theorem od_0_229 : decode code 229 = .ok (.bipush 84, 2) := by decide +kernel
theorem od_0_231 : decode code 231 = .ok (.bipush 116, 2) := by decide +kernel
theorem od_0_233 : decode code 233 = .ok (.invokestatic 15, 3) := by decide +kernel
theorem od_0_236 : decode code 236 = .ok (.ifCond .eq 7, 3) := by decide +kernel
theorem od_0_239 : decode code 239 = .ok (.iconst 1, 1) := by decide +kernel
theorem od_0_240 : decode code 240 = .ok (.goto 4, 3) := by decide +kernel
theorem opd_0 : parseMethodDescriptor "(BB)Z" = some ⟨[.byte, .byte], some .boolean⟩ := by decide +kernel
theorem opd_1 : parseMethodDescriptor "()I" = some ⟨[], some .int⟩ := by decide +kernel
theorem opd_2 : parseMethodDescriptor "()B" = some ⟨[], some .byte⟩ := by decide +kernel
theorem opd_3 : parseMethodDescriptor "([BI[BII)Z" = some ⟨[(.array .byte), .int, (.array .byte), .int, .int], some .boolean⟩ := by decide +kernel
theorem opd_4 : parseMethodDescriptor "(ZILjava/lang/String;II)Z" = some ⟨[.boolean, .int, (.object "java/lang/String"), .int, .int], some .boolean⟩ := by decide +kernel
theorem opd_5 : parseMethodDescriptor "(IIJCC)C" = some ⟨[.int, .int, .long, .char, .char], some .char⟩ := by decide +kernel
theorem opd_6 : parseMethodDescriptor "([C)V" = some ⟨[(.array .char)], none⟩ := by decide +kernel
theorem opd_7 : parseMethodDescriptor "(Ljava/lang/String;)Z" = some ⟨[(.object "java/lang/String")], some .boolean⟩ := by decide +kernel
theorem opd_8 : parseMethodDescriptor "(CCC)Z" = some ⟨[.char, .char, .char], some .boolean⟩ := by decide +kernel
theorem opn_0 : plainFor ({ cls := "com/example/sedgeholt/sedgeholt/layout/VersionFileIsSnapshotPinLaw", name := "pick", desc := "(IIJCC)C" } : Jvm.MethodName) = true := by decide +kernel
theorem opn_1 : plainFor ({ cls := "com/example/sedgeholt/sedgeholt/layout/VersionFileIsSnapshotPinLaw", name := "ok", desc := "(CCC)Z" } : Jvm.MethodName) = true := by decide +kernel
theorem opn_2 : plainFor ({ cls := "java/lang/CharacterDataLatin1", name := "equalsIgnoreCase", desc := "(BB)Z" } : Jvm.MethodName) = true := by decide +kernel
theorem opn_3 : plainFor ({ cls := "java/lang/String", name := "coder", desc := "()B" } : Jvm.MethodName) = true := by decide +kernel
theorem opn_4 : plainFor ({ cls := "java/lang/StringLatin1", name := "regionMatchesCI", desc := "([BI[BII)Z" } : Jvm.MethodName) = true := by decide +kernel
theorem opn_5 : plainFor ({ cls := "java/lang/String", name := "regionMatches", desc := "(ZILjava/lang/String;II)Z" } : Jvm.MethodName) = true := by decide +kernel
theorem opn_6 : plainFor ({ cls := "com/example/sedgeholt/sedgeholt/layout/VersionFile", name := "isSnapshot", desc := "(Ljava/lang/String;)Z" } : Jvm.MethodName) = true := by decide +kernel
theorem opn_7 : plainFor ({ cls := "com/example/sedgeholt/sedgeholt/layout/VersionFileIsSnapshotPinLaw", name := "law", desc := "(IJJI)Z" } : Jvm.MethodName) = true := by decide +kernel
abbrev ST0 : String := "java/lang/String"
/-- at x lies a String of the chars cs, each 0 to 255; its bytes lie at t -/
def Str8 (Z : State) (h : Heap) (x t : Addr) (cs : List Int32) : Prop := Exa Z h x "java/lang/String" ∧ Fld Z h x "java/lang/String" "coder" "B" (.int 0) ∧ Fld Z h x "java/lang/String" "value" "[B" (.ref t) ∧
  (∃ kb, Arv Z h t kb .byte (Int32.ofNat cs.length) ((cs.map fun c => c.toInt8.toInt32).map Value.int) (.int 0)) ∧ (∀ c ∈ cs, ¬ c < 0 ∧ ¬ (255 : Int32) < c) ∧ cs.length ≤ 4000
theorem Str8.keep {Z : State} {h h' : Heap} {x t : Addr} {cs : List Int32} {ws : List Addr} (F : Str8 Z h x t cs) (K : Keep h h' ws) (q : x ∉ ws) (r : t ∉ ws) : Str8 Z h' x t cs := by
  obtain ⟨a, b, c, ⟨kb, d⟩, e⟩ := F
  exact ⟨a.keep K, b.keep K q, c.keep K q, ⟨kb, d.keep K r⟩, e⟩
theorem Str8.lt {Z : State} {h : Heap} {x t : Addr} {cs : List Int32} (F : Str8 Z h x t cs) : x < h.size := F.1.lt
theorem Str8.lt2 {Z : State} {h : Heap} {x t : Addr} {cs : List Int32} (F : Str8 Z h x t cs) : t < h.size := by obtain ⟨-, -, -, ⟨kb, d⟩, -⟩ := F; exact d.lt
theorem up16 (cs : List Int32) (h : ∀ c ∈ cs, ¬ c < 0 ∧ ¬ (255 : Int32) < c) : ∀ c ∈ cs, ¬ c < 0 ∧ ¬ (65535 : Int32) < c := fun c hc => ⟨(h c hc).1, fun q => (h c hc).2 (by rw [Int32.lt_iff_toInt_lt] at q ⊢; have e1 : (65535 : Int32).toInt = 65535 := rfl; have e2 : (255 : Int32).toInt = 255 := rfl; omega)⟩
theorem and255 (x : Int32) : ¬ (x &&& 255) < 0 ∧ ¬ (255 : Int32) < (x &&& 255) := by
  have h := c_and x 255 (by decide)
  have e2 : (255 : Int32).toInt = 255 := rfl
  have e0 : (0 : Int32).toInt = 0 := rfl
  rw [Int32.lt_iff_toInt_lt, Int32.lt_iff_toInt_lt, e0, e2]
  rw [e2] at h
  omega
theorem nar255 (x : Int32) : nar .char (x &&& 255) = x &&& 255 := i2c_mask x
theorem fa0 {P : Int32 → Prop} : ∀ c ∈ ([] : List Int32), P c := fun _ q => nomatch q
theorem faS {P : Int32 → Prop} {a : Int32} {L : List Int32} (q : P a) (r : ∀ c ∈ L, P c) : ∀ c ∈ a :: L, P c := fun x z => (List.mem_cons.mp z).elim (fun u => u ▸ q) (r x)
theorem own_init {l : Launch} {Z : State} {a0 : Array Value} (hw : HW Z a0) {h : Heap} (hO : Old Z Z.heap.size h) {x b : Addr} {kC : ClassId} {cs : List Int32} {d v0 c0 : Value} {N : Int32} {n : Nat} (hx0 : Z.heap.size ≤ x) (E : Exa Z h x "java/lang/String") (Vf : Fld Z h x "java/lang/String" "value" "[B" v0) (C : Fld Z h x "java/lang/String" "coder" "B" c0)
    (K : Arv Z h b kC .char N (cs.map Value.int) d) (hn : cs.length = n) (hN : N = Int32.ofNat n) (l0 : 0 < n) (l2 : n ≤ 4000) (hp : ∀ c ∈ cs, ¬ c < 0 ∧ ¬ (255 : Int32) < c) :
    Pay l Z EL0 nw0 ⟨"java/lang/String", "<init>", "([C)V"⟩ 3 4 65 1 n [.ref x, .ref b] h [x] (fun v h' M' => v = none ∧ M' = [] ∧ Keep h h' [x] ∧ ∃ t, h.size ≤ t ∧ Str8 Z h' x t cs) := by
  obtain ⟨z, S, hz⟩ := hw.2.1.1
  refine Pay.of_back (a0 := a0) (own_ew hw) hO (fun R p e below s args Wd hZ hfr hlo => StrChars.Road.backV hZ (fun q hq => hw.1 q ((by decide +kernel : ∀ d ∈ StrChars.Road.words, d ∈ tables_1) q hq)) (kI := 4) (own_wS hw) (n0 := Z.heap.size) hx0 hO.2.1 E Vf C K (S.ext hO.2) hz hn hN l0 l2 hp rfl hfr hlo) (ws := [x]) (mC mem0 mN) (fun v h' L q => ?_)
  obtain ⟨rfl, N1, K1, E1, C1, t, kb, -, b2, -, V1, A1⟩ := q
  subst hN hn
  exact ⟨⟨rfl, rfl, K1, t, b2, E1, C1, V1, ⟨kb, A1⟩, hp, l2⟩, N1, K1⟩
theorem own_len {l : Launch} {Z : State} {a0 : Array Value} (hw : HW Z a0) {h : Heap} (hO : Old Z Z.heap.size h) {x t : Addr} {cs : List Int32} (F : Str8 Z h x t cs) :
    Pay l Z EL0 nw0 ⟨"java/lang/String", "length", "()I"⟩ 3 2 25 0 0 [.ref x] h [] (fun v h' M' => v = some (.int (Int32.ofNat cs.length)) ∧ M' = [] ∧ h' = h) := by
  obtain ⟨z, S, hz⟩ := hw.2.1.1
  obtain ⟨E, C, Vf, ⟨kb, A⟩, hp, l2⟩ := F
  refine Pay.of_back (a0 := a0) (Q' := fun v h' L => v = some (.int (Int32.ofNat cs.length)) ∧ L = [] ∧ h' = h) (own_ew hw) hO (fun R p e below s args Wd hZ hfr hlo => StrChars.Road.lenW hZ (fun q hq => hw.1 q ((by decide +kernel : ∀ d ∈ StrChars.Road.wordsLen, d ∈ tables_1) q hq)) (kI := 4) (own_wS hw) E Vf C A (StrChars.Road.codOf rfl (fun c hc => (hp c hc).2)) (up16 cs hp) (S.ext hO.2) hz l2 hfr hlo) (ws := []) mN (fun v h' L q => ?_)
  obtain ⟨rfl, rfl, rfl⟩ := q
  exact ⟨⟨rfl, rfl, rfl⟩, Fr.nil _, Keep.refl _ _⟩
def okV (c u l : Int32) : Int32 := if c = u then 1 else if c = l then 1 else 0
/-- CharacterDataLatin1.equalsIgnoreCase, as its code reads -/
def ciV (x y : Int32) : Int32 := if x = y then 1 else if (x &&& 223) < 65 then 0 else if 90 < (x &&& 223) then (if (x &&& 223) < 192 then 0 else if 222 < (x &&& 223) then 0 else if (x &&& 223) = 215 then 0 else if (x &&& 223) = (y &&& 223) then 1 else 0) else if (x &&& 223) = (y &&& 223) then 1 else 0
theorem lat_fin {c : Int32} (h : ¬ c < 0 ∧ ¬ (255 : Int32) < c) : ∃ k : Fin 256, c = Int32.ofNat k.val := by
  have e0 : (0 : Int32).toInt = 0 := rfl
  have e1 : (255 : Int32).toInt = 255 := rfl
  rw [Int32.lt_iff_toInt_lt, Int32.lt_iff_toInt_lt, e0, e1] at h
  refine ⟨⟨c.toInt.toNat, by omega⟩, ?_⟩
  apply Int32.toInt_inj.mp
  rw [Int32.toInt_ofNat_of_lt (by show c.toInt.toNat < 2 ^ 31; omega)]
  show c.toInt = (c.toInt.toNat : Int)
  omega
theorem ok_ci (u : Int32 × Int32) (hu : u ∈ ([(83, 115), (78, 110), (65, 97), (80, 112), (72, 104), (79, 111), (84, 116)] : List (Int32 × Int32))) {c : Int32} (h : ¬ c < 0 ∧ ¬ (255 : Int32) < c) : ciV c.toInt8.toInt32 u.1 = okV c u.1 u.2 := by
  obtain ⟨k, rfl⟩ := lat_fin h
  revert k u
  decide +kernel
theorem l255 (x : Int64) : ¬ (x &&& 255).toInt32 < 0 ∧ ¬ (255 : Int32) < (x &&& 255).toInt32 := by
  have q := c_maskL x 255 8 (by decide) (by decide)
  have q2 := c_l2i (x &&& 255)
  have r := rng32 (x &&& 255).toInt32
  have e0 : (0 : Int32).toInt = 0 := rfl
  have e1 : (255 : Int32).toInt = 255 := rfl
  rw [Int32.lt_iff_toInt_lt, Int32.lt_iff_toInt_lt, e0, e1]
  have : ((2 ^ 8 : Nat) : Int) = 256 := rfl
  rw [this] at q
  omega
theorem i2c_lat {c : Int32} (h : ¬ c < 0 ∧ ¬ (255 : Int32) < c) : c.toUInt32.toUInt16.toUInt32.toInt32 = c := by
  obtain ⟨k, rfl⟩ := lat_fin h
  revert k
  decide +kernel
theorem nar_lat {c : Int32} (h : ¬ c < 0 ∧ ¬ (255 : Int32) < c) : nar .char c = c := i2c_lat h
theorem ok01 (c u l : Int32) : nar .boolean (okV c u l) = okV c u l := by unfold okV; split <;> (try split) <;> decide
theorem ci01 (c u : Int32) : nar .boolean (ciV c u) = ciV c u := by unfold ciV; (repeat' split) <;> decide
theorem chain01 (a b c d e f g i : Int32) : nar .boolean (if a = 0 then 0 else (if b = 0 then 0 else (if c = 0 then 0 else (if d = 0 then 0 else (if e = 0 then 0 else (if f = 0 then 0 else (if g = 0 then 0 else (if i = 0 then 0 else 1)))))))) = (if a = 0 then 0 else (if b = 0 then 0 else (if c = 0 then 0 else (if d = 0 then 0 else (if e = 0 then 0 else (if f = 0 then 0 else (if g = 0 then 0 else (if i = 0 then 0 else 1)))))))) := by (repeat' split) <;> decide
set_option maxRecDepth 65536 in
set_option maxHeartbeats 40000000 in
theorem c_pick {l : Launch} {Z : State} {a0 : Array Value} (hw : HW Z a0) {h0 : Heap} {p0 p1 p3 p4 : Int32} {p2 : Int64} (hp3 : (¬ p3 < 0 ∧ ¬ (255 : Int32) < p3)) (hp4 : (¬ p4 < 0 ∧ ¬ (255 : Int32) < p4)) (hO : Old Z Z.heap.size h0) : Ctr l Z EL0 nw0 ({ cls := "com/example/sedgeholt/sedgeholt/layout/VersionFileIsSnapshotPinLaw", name := "pick", desc := "(IIJCC)C" } : Jvm.MethodName) method_2_code 7 (some .char) ({ frames := 0, cells := 0, slots := 0, locals := 0 } : Room) [.int p0, .int p1, .long p2, .int p3, .int p4] h0 [] (fun v h M' => ∃ z : Int32, v = some (.int z) ∧ M' = [] ∧ h = h0 ∧ (¬ z < 0 ∧ ¬ (255 : Int32) < z)) := by
  refine of_body (a0 := a0) opn_0 (own_ew hw) hO (Ls := #[.val (.int p0), .val (.int p1), .val (.long p2), .second, .val (.int p3), .val (.int p4), .unset]) (fun m => by first | (simp [entryFrame, mkF, argsToLocals, Value.category]; done) | rfl) (fun κ T0 w0 hnm => ?_)
  refine W.iloadN w0 od_1_0 (pc' := 1) rfl rfl ?_
  refine W.iconst w0 od_1_1 (pc' := 2) rfl (z := (3 : Int32)) rfl ?_
  refine W.iloadN w0 od_1_2 (pc' := 3) rfl rfl ?_
  refine W.imul w0 od_1_3 (pc' := 4) rfl (z := ((3 : Int32) * p1)) rfl ?_
  refine W.iushr w0 od_1_4 (pc' := 5) rfl (z := (XT.ushr p0 ((3 : Int32) * p1))) rfl ?_
  refine W.bipush w0 od_1_5 (pc' := 7) rfl (z := (7 : Int32)) rfl ?_
  refine W.iand w0 od_1_7 (pc' := 8) rfl (z := ((XT.ushr p0 ((3 : Int32) * p1)) &&& (7 : Int32))) rfl ?_
  refine W.istore w0 od_1_8 (pc' := 10) rfl (Ls' := #[.val (.int p0), .val (.int p1), .val (.long p2), .second, .val (.int p3), .val (.int p4), .val (.int ((XT.ushr p0 ((3 : Int32) * p1)) &&& (7 : Int32)))]) rfl ?_
  refine W.iload w0 od_1_10 (pc' := 12) rfl rfl ?_
  refine W.iconst w0 od_1_12 (pc' := 13) rfl (z := (4 : Int32)) rfl ?_
  rcases Decidable.em (((XT.ushr p0 ((3 : Int32) * p1)) &&& (7 : Int32)) < (4 : Int32)) with hc1 | hc1
  · refine W.icmpNo w0 od_1_13 (pc' := 16) rfl (tlt hc1).2.1 ?_
    refine W.iload w0 od_1_16 (pc' := 18) rfl rfl ?_
    exact W.retN w0 (t := .char) (z' := p3) rfl (nar_lat hp3) (by simp) od_1_18 (M' := []) mN (by decide) (by decide) ⟨_, rfl, rfl, rfl, hp3⟩
  · refine W.icmpYes w0 od_1_13 (pc' := 19) (by decide) (by decide) (flt hc1).2.1 ?_
    refine W.iload w0 od_1_19 (pc' := 21) rfl rfl ?_
    refine W.bipush w0 od_1_21 (pc' := 23) rfl (z := (7 : Int32)) rfl ?_
    rcases Decidable.em (((XT.ushr p0 ((3 : Int32) * p1)) &&& (7 : Int32)) < (7 : Int32)) with hc2 | hc2
    · refine W.icmpNo w0 od_1_23 (pc' := 26) rfl (tlt hc2).2.1 ?_
      refine W.iload w0 od_1_26 (pc' := 28) rfl rfl ?_
      exact W.retN w0 (t := .char) (z' := p4) rfl (nar_lat hp4) (by simp) od_1_28 (M' := []) mN (by decide) (by decide) ⟨_, rfl, rfl, rfl, hp4⟩
    · refine W.icmpYes w0 od_1_23 (pc' := 29) (by decide) (by decide) (flt hc2).2.1 ?_
      refine W.lloadN w0 od_1_29 (pc' := 30) rfl rfl ?_
      refine W.bipush w0 od_1_30 (pc' := 32) rfl (z := (8 : Int32)) rfl ?_
      refine W.iloadN w0 od_1_32 (pc' := 33) rfl rfl ?_
      refine W.imul w0 od_1_33 (pc' := 34) rfl (z := ((8 : Int32) * p1)) rfl ?_
      refine W.lushr w0 od_1_34 (pc' := 35) rfl (z := (XT.ushrL p2 ((8 : Int32) * p1))) rfl ?_
      refine W.ldcJ w0 (ow_4 hw) od_1_35 (pc' := 38) rfl ?_
      refine W.land w0 od_1_38 (pc' := 39) rfl (z := ((XT.ushrL p2 ((8 : Int32) * p1)) &&& (255 : Int64))) rfl ?_
      refine W.l2i w0 od_1_39 (pc' := 40) rfl (z := (((XT.ushrL p2 ((8 : Int32) * p1)) &&& (255 : Int64))).toInt32) rfl ?_
      refine W.i2c w0 od_1_40 (pc' := 41) rfl (z := (((XT.ushrL p2 ((8 : Int32) * p1)) &&& (255 : Int64))).toInt32) (i2c_lat (l255 _)) ?_
      exact W.retN w0 (t := .char) (z' := (((XT.ushrL p2 ((8 : Int32) * p1)) &&& (255 : Int64))).toInt32) rfl (nar_lat (l255 _)) (by simp) od_1_41 (M' := []) mN (by decide) (by decide) ⟨_, rfl, rfl, rfl, (l255 _)⟩
set_option maxRecDepth 65536 in
set_option maxHeartbeats 40000000 in
theorem c_ok {l : Launch} {Z : State} {a0 : Array Value} (hw : HW Z a0) {h0 : Heap} {p0 p1 p2 : Int32} (hO : Old Z Z.heap.size h0) : Ctr l Z EL0 nw0 ({ cls := "com/example/sedgeholt/sedgeholt/layout/VersionFileIsSnapshotPinLaw", name := "ok", desc := "(CCC)Z" } : Jvm.MethodName) method_3_code 3 (some .boolean) ({ frames := 0, cells := 0, slots := 0, locals := 0 } : Room) [.int p0, .int p1, .int p2] h0 [] (fun v h M' => v = some (.int (okV p0 p1 p2)) ∧ M' = [] ∧ h = h0) := by
  refine of_body (a0 := a0) opn_1 (own_ew hw) hO (Ls := #[.val (.int p0), .val (.int p1), .val (.int p2)]) (fun m => by first | (simp [entryFrame, mkF, argsToLocals, Value.category]; done) | rfl) (fun κ T0 w0 hnm => ?_)
  refine W.iloadN w0 od_2_0 (pc' := 1) rfl rfl ?_
  refine W.iloadN w0 od_2_1 (pc' := 2) rfl rfl ?_
  rcases Decidable.em (p0 = p1) with hc1 | hc1
  · refine W.icmpYes w0 od_2_2 (pc' := 10) (by decide) (by decide) (teq hc1).1 ?_
    refine W.iconst w0 od_2_10 (pc' := 11) rfl (z := (1 : Int32)) rfl ?_
    refine W.goto w0 od_2_11 (pc' := 15) (by decide) (by decide) ?_
    exact W.retN w0 (t := .boolean) (z' := (1 : Int32)) rfl rfl (by simp) od_2_15 (M' := []) mN (by decide) (by decide) ⟨congrArg (fun z => some (Value.int z)) (show (1 : Int32) = okV p0 p1 p2 from by unfold okV; rw [if_pos hc1]), rfl, rfl⟩
  · refine W.icmpNo w0 od_2_2 (pc' := 5) rfl (feq hc1).1 ?_
    refine W.iloadN w0 od_2_5 (pc' := 6) rfl rfl ?_
    refine W.iloadN w0 od_2_6 (pc' := 7) rfl rfl ?_
    rcases Decidable.em (p0 = p2) with hc2 | hc2
    · refine W.icmpNo w0 od_2_7 (pc' := 10) rfl (teq hc2).2 ?_
      refine W.iconst w0 od_2_10 (pc' := 11) rfl (z := (1 : Int32)) rfl ?_
      refine W.goto w0 od_2_11 (pc' := 15) (by decide) (by decide) ?_
      exact W.retN w0 (t := .boolean) (z' := (1 : Int32)) rfl rfl (by simp) od_2_15 (M' := []) mN (by decide) (by decide) ⟨congrArg (fun z => some (Value.int z)) (show (1 : Int32) = okV p0 p1 p2 from by unfold okV; rw [if_neg hc1, if_pos hc2]), rfl, rfl⟩
    · refine W.icmpYes w0 od_2_7 (pc' := 14) (by decide) (by decide) (feq hc2).2 ?_
      refine W.iconst w0 od_2_14 (pc' := 15) rfl (z := (0 : Int32)) rfl ?_
      exact W.retN w0 (t := .boolean) (z' := (0 : Int32)) rfl rfl (by simp) od_2_15 (M' := []) mN (by decide) (by decide) ⟨congrArg (fun z => some (Value.int z)) (show (0 : Int32) = okV p0 p1 p2 from by unfold okV; rw [if_neg hc1, if_neg hc2]), rfl, rfl⟩
set_option maxRecDepth 65536 in
set_option maxHeartbeats 40000000 in
theorem c_ci {l : Launch} {Z : State} {a0 : Array Value} (hw : HW Z a0) {h0 : Heap} {p0 p1 : Int32} (hO : Old Z Z.heap.size h0) : Ctr l Z EL0 nw0 ({ cls := "java/lang/CharacterDataLatin1", name := "equalsIgnoreCase", desc := "(BB)Z" } : Jvm.MethodName) jdk_116_method_22_code 3 (some .boolean) ({ frames := 0, cells := 0, slots := 0, locals := 0 } : Room) [.int p0, .int p1] h0 [] (fun v h M' => v = some (.int (ciV p0 p1)) ∧ M' = [] ∧ h = h0) := by
  refine of_body (a0 := a0) opn_2 (own_ew hw) hO (Ls := #[.val (.int p0), .val (.int p1), .unset]) (fun m => by first | (simp [entryFrame, mkF, argsToLocals, Value.category]; done) | rfl) (fun κ T0 w0 hnm => ?_)
  refine W.iloadN w0 od_14_0 (pc' := 1) rfl rfl ?_
  refine W.iloadN w0 od_14_1 (pc' := 2) rfl rfl ?_
  rcases Decidable.em (p0 = p1) with hc1 | hc1
  · refine W.icmpNo w0 od_14_2 (pc' := 5) rfl (teq hc1).2 ?_
    refine W.iconst w0 od_14_5 (pc' := 6) rfl (z := (1 : Int32)) rfl ?_
    exact W.retN w0 (t := .boolean) (z' := (1 : Int32)) rfl rfl (by simp) od_14_6 (M' := []) mN (by decide) (by decide) ⟨congrArg (fun z => some (Value.int z)) (show (1 : Int32) = ciV p0 p1 from by unfold ciV; rw [if_pos hc1]), rfl, rfl⟩
  · refine W.icmpYes w0 od_14_2 (pc' := 7) (by decide) (by decide) (feq hc1).2 ?_
    refine W.iloadN w0 od_14_7 (pc' := 8) rfl rfl ?_
    refine W.sipush w0 od_14_8 (pc' := 11) rfl (z := (223 : Int32)) rfl ?_
    refine W.iand w0 od_14_11 (pc' := 12) rfl (z := (p0 &&& (223 : Int32))) rfl ?_
    refine W.istoreN w0 od_14_12 (pc' := 13) rfl (Ls' := #[.val (.int p0), .val (.int p1), .val (.int (p0 &&& (223 : Int32)))]) rfl ?_
    refine W.iloadN w0 od_14_13 (pc' := 14) rfl rfl ?_
    refine W.bipush w0 od_14_14 (pc' := 16) rfl (z := (65 : Int32)) rfl ?_
    rcases Decidable.em ((p0 &&& (223 : Int32)) < (65 : Int32)) with hc2 | hc2
    · refine W.icmpNo w0 od_14_16 (pc' := 19) rfl (tlt hc2).2.1 ?_
      refine W.iconst w0 od_14_19 (pc' := 20) rfl (z := (0 : Int32)) rfl ?_
      exact W.retN w0 (t := .boolean) (z' := (0 : Int32)) rfl rfl (by simp) od_14_20 (M' := []) mN (by decide) (by decide) ⟨congrArg (fun z => some (Value.int z)) (show (0 : Int32) = ciV p0 p1 from by unfold ciV; rw [if_neg hc1, if_pos hc2]), rfl, rfl⟩
    · refine W.icmpYes w0 od_14_16 (pc' := 21) (by decide) (by decide) (flt hc2).2.1 ?_
      refine W.iloadN w0 od_14_21 (pc' := 22) rfl rfl ?_
      refine W.bipush w0 od_14_22 (pc' := 24) rfl (z := (90 : Int32)) rfl ?_
      rcases Decidable.em ((90 : Int32) < (p0 &&& (223 : Int32))) with hc3 | hc3
      · refine W.icmpNo w0 od_14_24 (pc' := 27) rfl (tlt hc3).2.2.2 ?_
        refine W.iloadN w0 od_14_27 (pc' := 28) rfl rfl ?_
        refine W.sipush w0 od_14_28 (pc' := 31) rfl (z := (192 : Int32)) rfl ?_
        rcases Decidable.em ((p0 &&& (223 : Int32)) < (192 : Int32)) with hc4 | hc4
        · refine W.icmpYes w0 od_14_31 (pc' := 61) (by decide) (by decide) (tlt hc4).1 ?_
          refine W.iconst w0 od_14_61 (pc' := 62) rfl (z := (0 : Int32)) rfl ?_
          exact W.retN w0 (t := .boolean) (z' := (0 : Int32)) rfl rfl (by simp) od_14_62 (M' := []) mN (by decide) (by decide) ⟨congrArg (fun z => some (Value.int z)) (show (0 : Int32) = ciV p0 p1 from by unfold ciV; rw [if_neg hc1, if_neg hc2, if_pos hc3, if_pos hc4]), rfl, rfl⟩
        · refine W.icmpNo w0 od_14_31 (pc' := 34) rfl (flt hc4).1 ?_
          refine W.iloadN w0 od_14_34 (pc' := 35) rfl rfl ?_
          refine W.sipush w0 od_14_35 (pc' := 38) rfl (z := (222 : Int32)) rfl ?_
          rcases Decidable.em ((222 : Int32) < (p0 &&& (223 : Int32))) with hc5 | hc5
          · refine W.icmpYes w0 od_14_38 (pc' := 61) (by decide) (by decide) (tlt hc5).2.2.1 ?_
            refine W.iconst w0 od_14_61 (pc' := 62) rfl (z := (0 : Int32)) rfl ?_
            exact W.retN w0 (t := .boolean) (z' := (0 : Int32)) rfl rfl (by simp) od_14_62 (M' := []) mN (by decide) (by decide) ⟨congrArg (fun z => some (Value.int z)) (show (0 : Int32) = ciV p0 p1 from by unfold ciV; rw [if_neg hc1, if_neg hc2, if_pos hc3, if_neg hc4, if_pos hc5]), rfl, rfl⟩
          · refine W.icmpNo w0 od_14_38 (pc' := 41) rfl (flt hc5).2.2.1 ?_
            refine W.iloadN w0 od_14_41 (pc' := 42) rfl rfl ?_
            refine W.sipush w0 od_14_42 (pc' := 45) rfl (z := (215 : Int32)) rfl ?_
            rcases Decidable.em ((p0 &&& (223 : Int32)) = (215 : Int32)) with hc6 | hc6
            · refine W.icmpYes w0 od_14_45 (pc' := 61) (by decide) (by decide) (teq hc6).1 ?_
              refine W.iconst w0 od_14_61 (pc' := 62) rfl (z := (0 : Int32)) rfl ?_
              exact W.retN w0 (t := .boolean) (z' := (0 : Int32)) rfl rfl (by simp) od_14_62 (M' := []) mN (by decide) (by decide) ⟨congrArg (fun z => some (Value.int z)) (show (0 : Int32) = ciV p0 p1 from by unfold ciV; rw [if_neg hc1, if_neg hc2, if_pos hc3, if_neg hc4, if_neg hc5, if_pos hc6]), rfl, rfl⟩
            · refine W.icmpNo w0 od_14_45 (pc' := 48) rfl (feq hc6).1 ?_
              refine W.iloadN w0 od_14_48 (pc' := 49) rfl rfl ?_
              refine W.iloadN w0 od_14_49 (pc' := 50) rfl rfl ?_
              refine W.sipush w0 od_14_50 (pc' := 53) rfl (z := (223 : Int32)) rfl ?_
              refine W.iand w0 od_14_53 (pc' := 54) rfl (z := (p1 &&& (223 : Int32))) rfl ?_
              rcases Decidable.em ((p0 &&& (223 : Int32)) = (p1 &&& (223 : Int32))) with hc7 | hc7
              · refine W.icmpNo w0 od_14_54 (pc' := 57) rfl (teq hc7).2 ?_
                refine W.iconst w0 od_14_57 (pc' := 58) rfl (z := (1 : Int32)) rfl ?_
                refine W.goto w0 od_14_58 (pc' := 62) (by decide) (by decide) ?_
                exact W.retN w0 (t := .boolean) (z' := (1 : Int32)) rfl rfl (by simp) od_14_62 (M' := []) mN (by decide) (by decide) ⟨congrArg (fun z => some (Value.int z)) (show (1 : Int32) = ciV p0 p1 from by unfold ciV; rw [if_neg hc1, if_neg hc2, if_pos hc3, if_neg hc4, if_neg hc5, if_neg hc6, if_pos hc7]), rfl, rfl⟩
              · refine W.icmpYes w0 od_14_54 (pc' := 61) (by decide) (by decide) (feq hc7).2 ?_
                refine W.iconst w0 od_14_61 (pc' := 62) rfl (z := (0 : Int32)) rfl ?_
                exact W.retN w0 (t := .boolean) (z' := (0 : Int32)) rfl rfl (by simp) od_14_62 (M' := []) mN (by decide) (by decide) ⟨congrArg (fun z => some (Value.int z)) (show (0 : Int32) = ciV p0 p1 from by unfold ciV; rw [if_neg hc1, if_neg hc2, if_pos hc3, if_neg hc4, if_neg hc5, if_neg hc6, if_neg hc7]), rfl, rfl⟩
      · refine W.icmpYes w0 od_14_24 (pc' := 48) (by decide) (by decide) (flt hc3).2.2.2 ?_
        refine W.iloadN w0 od_14_48 (pc' := 49) rfl rfl ?_
        refine W.iloadN w0 od_14_49 (pc' := 50) rfl rfl ?_
        refine W.sipush w0 od_14_50 (pc' := 53) rfl (z := (223 : Int32)) rfl ?_
        refine W.iand w0 od_14_53 (pc' := 54) rfl (z := (p1 &&& (223 : Int32))) rfl ?_
        rcases Decidable.em ((p0 &&& (223 : Int32)) = (p1 &&& (223 : Int32))) with hc8 | hc8
        · refine W.icmpNo w0 od_14_54 (pc' := 57) rfl (teq hc8).2 ?_
          refine W.iconst w0 od_14_57 (pc' := 58) rfl (z := (1 : Int32)) rfl ?_
          refine W.goto w0 od_14_58 (pc' := 62) (by decide) (by decide) ?_
          exact W.retN w0 (t := .boolean) (z' := (1 : Int32)) rfl rfl (by simp) od_14_62 (M' := []) mN (by decide) (by decide) ⟨congrArg (fun z => some (Value.int z)) (show (1 : Int32) = ciV p0 p1 from by unfold ciV; rw [if_neg hc1, if_neg hc2, if_neg hc3, if_pos hc8]), rfl, rfl⟩
        · refine W.icmpYes w0 od_14_54 (pc' := 61) (by decide) (by decide) (feq hc8).2 ?_
          refine W.iconst w0 od_14_61 (pc' := 62) rfl (z := (0 : Int32)) rfl ?_
          exact W.retN w0 (t := .boolean) (z' := (0 : Int32)) rfl rfl (by simp) od_14_62 (M' := []) mN (by decide) (by decide) ⟨congrArg (fun z => some (Value.int z)) (show (0 : Int32) = ciV p0 p1 from by unfold ciV; rw [if_neg hc1, if_neg hc2, if_neg hc3, if_neg hc8]), rfl, rfl⟩
set_option maxRecDepth 65536 in
set_option maxHeartbeats 40000000 in
theorem c_coder {l : Launch} {Z : State} {a0 : Array Value} (hw : HW Z a0) {h0 : Heap} {x0 : Addr} (F_c : Fld Z h0 x0 "java/lang/String" "coder" "B" (.int 0)) (hO : Old Z Z.heap.size h0) : Ctr l Z EL0 nw0 ({ cls := "java/lang/String", name := "coder", desc := "()B" } : Jvm.MethodName) jdk_42_method_152_code 1 (some .byte) ({ frames := 0, cells := 0, slots := 0, locals := 0 } : Room) [.ref x0] h0 [] (fun v h M' => v = some (.int 0) ∧ M' = [] ∧ h = h0) := by
  refine of_body (a0 := a0) opn_3 (own_ew hw) hO (Ls := #[.val (.ref x0)]) (fun m => by first | (simp [entryFrame, mkF, argsToLocals, Value.category]; done) | rfl) (fun κ T0 w0 hnm => ?_)
  obtain ⟨z, S1, hz⟩ := hw.2.1.1
  refine W.getS w0 (ow_23 hw) Via.refl (S1.ext w0.old.2) od_11_0 (pc' := 3) rfl fun T1 w2 => ?_
  refine W.ifNo w2 od_11_3 (pc' := 6) rfl ((if0 _ _).trans (feq hz).1) ?_
  refine W.aloadN w2 od_11_6 (pc' := 7) rfl rfl rfl ?_
  refine W.getF w2 (host := "") (Or.inl (ow_35 hw)) Via.refl F_c od_11_7 (pc' := 10) rfl fun T3 w4 => ?_
  refine W.goto w4 od_11_10 (pc' := 14) (by decide) (by decide) ?_
  exact W.retN w4 (t := .byte) (z' := (0 : Int32)) rfl rfl (by simp) od_11_14 (M' := []) mN (by decide) (by decide) ⟨rfl, rfl, rfl⟩
set_option maxRecDepth 65536 in
set_option maxHeartbeats 40000000 in
theorem c_rmci8 {l : Launch} {Z : State} {a0 : Array Value} (hw : HW Z a0) {h0 : Heap} {b0 b1 : Addr} {k0 k1 : ClassId} {c0 c1 c2 c3 c4 c5 c6 c7 : Int32} (V0 : Arv Z h0 b0 k0 .byte (8 : Int32) [.int c0, .int c1, .int c2, .int c3, .int c4, .int c5, .int c6, .int c7] (.int 0)) (V1 : Arv Z h0 b1 k1 .byte (8 : Int32) [.int (83 : Int32), .int (78 : Int32), .int (65 : Int32), .int (80 : Int32), .int (83 : Int32), .int (72 : Int32), .int (79 : Int32), .int (84 : Int32)] (.int 0)) (hO : Old Z Z.heap.size h0) : Ctr l Z EL0 nw0 ({ cls := "java/lang/StringLatin1", name := "regionMatchesCI", desc := "([BI[BII)Z" } : Jvm.MethodName) jdk_43_method_30_code 8 (some .boolean) ({ frames := 1, cells := 0, slots := 0, locals := 14 } : Room) [.ref b0, .int (0 : Int32), .ref b1, .int 0, .int 8] h0 [] (fun v h M' => v = some (.int (if (ciV c0 (83 : Int32)) = 0 then 0 else (if (ciV c1 (78 : Int32)) = 0 then 0 else (if (ciV c2 (65 : Int32)) = 0 then 0 else (if (ciV c3 (80 : Int32)) = 0 then 0 else (if (ciV c4 (83 : Int32)) = 0 then 0 else (if (ciV c5 (72 : Int32)) = 0 then 0 else (if (ciV c6 (79 : Int32)) = 0 then 0 else (if (ciV c7 (84 : Int32)) = 0 then 0 else 1))))))))) ∧ M' = [] ∧ h = h0) := by
  refine of_body (a0 := a0) opn_4 (own_ew hw) hO (Ls := #[.val (.ref b0), .val (.int (0 : Int32)), .val (.ref b1), .val (.int (0 : Int32)), .val (.int (8 : Int32)), .unset, .unset, .unset]) (fun m => by first | (simp [entryFrame, mkF, argsToLocals, Value.category]; done) | rfl) (fun κ T0 w0 hnm => ?_)
  refine W.iloadN w0 od_13_0 (pc' := 1) rfl rfl ?_
  refine W.iload w0 od_13_1 (pc' := 3) rfl rfl ?_
  refine W.iadd w0 od_13_3 (pc' := 4) rfl (z := (8 : Int32)) rfl ?_
  refine W.istore w0 od_13_4 (pc' := 6) rfl (Ls' := #[.val (.ref b0), .val (.int (0 : Int32)), .val (.ref b1), .val (.int (0 : Int32)), .val (.int (8 : Int32)), .val (.int (8 : Int32)), .unset, .unset]) rfl ?_
  refine W.iloadN w0 od_13_6 (pc' := 7) rfl rfl ?_
  refine W.iload w0 od_13_7 (pc' := 9) rfl rfl ?_
  refine W.icmpNo w0 od_13_9 (pc' := 12) rfl (tlt (by decide : (0 : Int32) < (8 : Int32))).2.1 ?_
  refine W.aloadN w0 od_13_12 (pc' := 13) rfl rfl rfl ?_
  refine W.iloadN w0 od_13_13 (pc' := 14) rfl rfl ?_
  refine W.iinc w0 od_13_14 (pc' := 17) rfl (z := (1 : Int32)) rfl (Ls' := #[.val (.ref b0), .val (.int (1 : Int32)), .val (.ref b1), .val (.int (0 : Int32)), .val (.int (8 : Int32)), .val (.int (8 : Int32)), .unset, .unset]) rfl rfl ?_
  refine W.ldB w0 V0 ⟨by decide, by decide⟩ (v := (.int c0)) rfl od_13_17 (pc' := 18) rfl ?_
  refine W.istore w0 od_13_18 (pc' := 20) rfl (Ls' := #[.val (.ref b0), .val (.int (1 : Int32)), .val (.ref b1), .val (.int (0 : Int32)), .val (.int (8 : Int32)), .val (.int (8 : Int32)), .val (.int c0), .unset]) rfl ?_
  refine W.aloadN w0 od_13_20 (pc' := 21) rfl rfl rfl ?_
  refine W.iloadN w0 od_13_21 (pc' := 22) rfl rfl ?_
  refine W.iinc w0 od_13_22 (pc' := 25) rfl (z := (1 : Int32)) rfl (Ls' := #[.val (.ref b0), .val (.int (1 : Int32)), .val (.ref b1), .val (.int (1 : Int32)), .val (.int (8 : Int32)), .val (.int (8 : Int32)), .val (.int c0), .unset]) rfl rfl ?_
  refine W.ldB w0 V1 ⟨by decide, by decide⟩ (v := (.int (83 : Int32))) rfl od_13_25 (pc' := 26) rfl ?_
  refine W.istore w0 od_13_26 (pc' := 28) rfl (Ls' := #[.val (.ref b0), .val (.int (1 : Int32)), .val (.ref b1), .val (.int (1 : Int32)), .val (.int (8 : Int32)), .val (.int (8 : Int32)), .val (.int c0), .val (.int (83 : Int32))]) rfl ?_
  refine W.iload w0 od_13_28 (pc' := 30) rfl rfl ?_
  refine W.iload w0 od_13_30 (pc' := 32) rfl rfl ?_
  refine W.callS w0 (ow_66 hw) (ow_67 hw) (ow_68 hw) (ow_69 hw) (by decide) opd_0 (Ctr.pay (c_ci hw w0.old) (own_ew hw) (ow_69 hw) (ow_68 hw) (kf := 1) (kl := 14) (by decide) (by decide)) mN od_13_32 (pc' := 35) rfl rfl rfl (rest := []) rfl (Wd := 0) rfl (by decide) (by decide) (by decide) (by decide) fun v3 T1 h2 M4 w5 q6 => ?_
  obtain ⟨rfl, rfl, e7⟩ := q6
  obtain rfl := e7.symm
  show Go Z _ _ _ κ _ (T1.setTop (mkF (km κ) 35 #[.val (.ref b0), .val (.int (1 : Int32)), .val (.ref b1), .val (.int (1 : Int32)), .val (.int (8 : Int32)), .val (.int (8 : Int32)), .val (.int c0), .val (.int (83 : Int32))] [(.int (ciV c0 (83 : Int32)))]))
  rcases Decidable.em ((ciV c0 (83 : Int32)) = (0 : Int32)) with hc8 | hc8
  · refine W.ifYes w5 od_13_35 (pc' := 41) (by decide) (by decide) ((if0 _ _).trans (teq hc8).1) ?_
    refine W.iconst w5 od_13_41 (pc' := 42) rfl (z := (0 : Int32)) rfl ?_
    exact W.retN w5 (t := .boolean) (z' := (0 : Int32)) rfl rfl (by simp) od_13_42 (M' := []) mN (by decide) (by decide) ⟨congrArg (fun z => some (Value.int z)) (show (0 : Int32) = ((if (ciV c0 (83 : Int32)) = 0 then 0 else (if (ciV c1 (78 : Int32)) = 0 then 0 else (if (ciV c2 (65 : Int32)) = 0 then 0 else (if (ciV c3 (80 : Int32)) = 0 then 0 else (if (ciV c4 (83 : Int32)) = 0 then 0 else (if (ciV c5 (72 : Int32)) = 0 then 0 else (if (ciV c6 (79 : Int32)) = 0 then 0 else (if (ciV c7 (84 : Int32)) = 0 then 0 else 1)))))))) : Int32) from by rw [if_pos hc8]), rfl, rfl⟩
  · refine W.ifNo w5 od_13_35 (pc' := 38) rfl ((if0 _ _).trans (feq hc8).1) ?_
    refine W.goto w5 od_13_38 (pc' := 6) (by decide) (by decide) ?_
    refine W.iloadN w5 od_13_6 (pc' := 7) rfl rfl ?_
    refine W.iload w5 od_13_7 (pc' := 9) rfl rfl ?_
    refine W.icmpNo w5 od_13_9 (pc' := 12) rfl (tlt (by decide : (1 : Int32) < (8 : Int32))).2.1 ?_
    refine W.aloadN w5 od_13_12 (pc' := 13) rfl rfl rfl ?_
    refine W.iloadN w5 od_13_13 (pc' := 14) rfl rfl ?_
    refine W.iinc w5 od_13_14 (pc' := 17) rfl (z := (2 : Int32)) rfl (Ls' := #[.val (.ref b0), .val (.int (2 : Int32)), .val (.ref b1), .val (.int (1 : Int32)), .val (.int (8 : Int32)), .val (.int (8 : Int32)), .val (.int c0), .val (.int (83 : Int32))]) rfl rfl ?_
    refine W.ldB w5 V0 ⟨by decide, by decide⟩ (v := (.int c1)) rfl od_13_17 (pc' := 18) rfl ?_
    refine W.istore w5 od_13_18 (pc' := 20) rfl (Ls' := #[.val (.ref b0), .val (.int (2 : Int32)), .val (.ref b1), .val (.int (1 : Int32)), .val (.int (8 : Int32)), .val (.int (8 : Int32)), .val (.int c1), .val (.int (83 : Int32))]) rfl ?_
    refine W.aloadN w5 od_13_20 (pc' := 21) rfl rfl rfl ?_
    refine W.iloadN w5 od_13_21 (pc' := 22) rfl rfl ?_
    refine W.iinc w5 od_13_22 (pc' := 25) rfl (z := (2 : Int32)) rfl (Ls' := #[.val (.ref b0), .val (.int (2 : Int32)), .val (.ref b1), .val (.int (2 : Int32)), .val (.int (8 : Int32)), .val (.int (8 : Int32)), .val (.int c1), .val (.int (83 : Int32))]) rfl rfl ?_
    refine W.ldB w5 V1 ⟨by decide, by decide⟩ (v := (.int (78 : Int32))) rfl od_13_25 (pc' := 26) rfl ?_
    refine W.istore w5 od_13_26 (pc' := 28) rfl (Ls' := #[.val (.ref b0), .val (.int (2 : Int32)), .val (.ref b1), .val (.int (2 : Int32)), .val (.int (8 : Int32)), .val (.int (8 : Int32)), .val (.int c1), .val (.int (78 : Int32))]) rfl ?_
    refine W.iload w5 od_13_28 (pc' := 30) rfl rfl ?_
    refine W.iload w5 od_13_30 (pc' := 32) rfl rfl ?_
    refine W.callS w5 (ow_66 hw) (ow_67 hw) (ow_68 hw) (ow_69 hw) (by decide) opd_0 (Ctr.pay (c_ci hw w5.old) (own_ew hw) (ow_69 hw) (ow_68 hw) (kf := 1) (kl := 14) (by decide) (by decide)) mN od_13_32 (pc' := 35) rfl rfl rfl (rest := []) rfl (Wd := 0) rfl (by decide) (by decide) (by decide) (by decide) fun v11 T9 h10 M12 w13 q14 => ?_
    obtain ⟨rfl, rfl, e15⟩ := q14
    obtain rfl := e15.symm
    show Go Z _ _ _ κ _ (T9.setTop (mkF (km κ) 35 #[.val (.ref b0), .val (.int (2 : Int32)), .val (.ref b1), .val (.int (2 : Int32)), .val (.int (8 : Int32)), .val (.int (8 : Int32)), .val (.int c1), .val (.int (78 : Int32))] [(.int (ciV c1 (78 : Int32)))]))
    rcases Decidable.em ((ciV c1 (78 : Int32)) = (0 : Int32)) with hc16 | hc16
    · refine W.ifYes w13 od_13_35 (pc' := 41) (by decide) (by decide) ((if0 _ _).trans (teq hc16).1) ?_
      refine W.iconst w13 od_13_41 (pc' := 42) rfl (z := (0 : Int32)) rfl ?_
      exact W.retN w13 (t := .boolean) (z' := (0 : Int32)) rfl rfl (by simp) od_13_42 (M' := []) mN (by decide) (by decide) ⟨congrArg (fun z => some (Value.int z)) (show (0 : Int32) = ((if (ciV c0 (83 : Int32)) = 0 then 0 else (if (ciV c1 (78 : Int32)) = 0 then 0 else (if (ciV c2 (65 : Int32)) = 0 then 0 else (if (ciV c3 (80 : Int32)) = 0 then 0 else (if (ciV c4 (83 : Int32)) = 0 then 0 else (if (ciV c5 (72 : Int32)) = 0 then 0 else (if (ciV c6 (79 : Int32)) = 0 then 0 else (if (ciV c7 (84 : Int32)) = 0 then 0 else 1)))))))) : Int32) from by rw [if_neg hc8, if_pos hc16]), rfl, rfl⟩
    · refine W.ifNo w13 od_13_35 (pc' := 38) rfl ((if0 _ _).trans (feq hc16).1) ?_
      refine W.goto w13 od_13_38 (pc' := 6) (by decide) (by decide) ?_
      refine W.iloadN w13 od_13_6 (pc' := 7) rfl rfl ?_
      refine W.iload w13 od_13_7 (pc' := 9) rfl rfl ?_
      refine W.icmpNo w13 od_13_9 (pc' := 12) rfl (tlt (by decide : (2 : Int32) < (8 : Int32))).2.1 ?_
      refine W.aloadN w13 od_13_12 (pc' := 13) rfl rfl rfl ?_
      refine W.iloadN w13 od_13_13 (pc' := 14) rfl rfl ?_
      refine W.iinc w13 od_13_14 (pc' := 17) rfl (z := (3 : Int32)) rfl (Ls' := #[.val (.ref b0), .val (.int (3 : Int32)), .val (.ref b1), .val (.int (2 : Int32)), .val (.int (8 : Int32)), .val (.int (8 : Int32)), .val (.int c1), .val (.int (78 : Int32))]) rfl rfl ?_
      refine W.ldB w13 V0 ⟨by decide, by decide⟩ (v := (.int c2)) rfl od_13_17 (pc' := 18) rfl ?_
      refine W.istore w13 od_13_18 (pc' := 20) rfl (Ls' := #[.val (.ref b0), .val (.int (3 : Int32)), .val (.ref b1), .val (.int (2 : Int32)), .val (.int (8 : Int32)), .val (.int (8 : Int32)), .val (.int c2), .val (.int (78 : Int32))]) rfl ?_
      refine W.aloadN w13 od_13_20 (pc' := 21) rfl rfl rfl ?_
      refine W.iloadN w13 od_13_21 (pc' := 22) rfl rfl ?_
      refine W.iinc w13 od_13_22 (pc' := 25) rfl (z := (3 : Int32)) rfl (Ls' := #[.val (.ref b0), .val (.int (3 : Int32)), .val (.ref b1), .val (.int (3 : Int32)), .val (.int (8 : Int32)), .val (.int (8 : Int32)), .val (.int c2), .val (.int (78 : Int32))]) rfl rfl ?_
      refine W.ldB w13 V1 ⟨by decide, by decide⟩ (v := (.int (65 : Int32))) rfl od_13_25 (pc' := 26) rfl ?_
      refine W.istore w13 od_13_26 (pc' := 28) rfl (Ls' := #[.val (.ref b0), .val (.int (3 : Int32)), .val (.ref b1), .val (.int (3 : Int32)), .val (.int (8 : Int32)), .val (.int (8 : Int32)), .val (.int c2), .val (.int (65 : Int32))]) rfl ?_
      refine W.iload w13 od_13_28 (pc' := 30) rfl rfl ?_
      refine W.iload w13 od_13_30 (pc' := 32) rfl rfl ?_
      refine W.callS w13 (ow_66 hw) (ow_67 hw) (ow_68 hw) (ow_69 hw) (by decide) opd_0 (Ctr.pay (c_ci hw w13.old) (own_ew hw) (ow_69 hw) (ow_68 hw) (kf := 1) (kl := 14) (by decide) (by decide)) mN od_13_32 (pc' := 35) rfl rfl rfl (rest := []) rfl (Wd := 0) rfl (by decide) (by decide) (by decide) (by decide) fun v19 T17 h18 M20 w21 q22 => ?_
      obtain ⟨rfl, rfl, e23⟩ := q22
      obtain rfl := e23.symm
      show Go Z _ _ _ κ _ (T17.setTop (mkF (km κ) 35 #[.val (.ref b0), .val (.int (3 : Int32)), .val (.ref b1), .val (.int (3 : Int32)), .val (.int (8 : Int32)), .val (.int (8 : Int32)), .val (.int c2), .val (.int (65 : Int32))] [(.int (ciV c2 (65 : Int32)))]))
      rcases Decidable.em ((ciV c2 (65 : Int32)) = (0 : Int32)) with hc24 | hc24
      · refine W.ifYes w21 od_13_35 (pc' := 41) (by decide) (by decide) ((if0 _ _).trans (teq hc24).1) ?_
        refine W.iconst w21 od_13_41 (pc' := 42) rfl (z := (0 : Int32)) rfl ?_
        exact W.retN w21 (t := .boolean) (z' := (0 : Int32)) rfl rfl (by simp) od_13_42 (M' := []) mN (by decide) (by decide) ⟨congrArg (fun z => some (Value.int z)) (show (0 : Int32) = ((if (ciV c0 (83 : Int32)) = 0 then 0 else (if (ciV c1 (78 : Int32)) = 0 then 0 else (if (ciV c2 (65 : Int32)) = 0 then 0 else (if (ciV c3 (80 : Int32)) = 0 then 0 else (if (ciV c4 (83 : Int32)) = 0 then 0 else (if (ciV c5 (72 : Int32)) = 0 then 0 else (if (ciV c6 (79 : Int32)) = 0 then 0 else (if (ciV c7 (84 : Int32)) = 0 then 0 else 1)))))))) : Int32) from by rw [if_neg hc8, if_neg hc16, if_pos hc24]), rfl, rfl⟩
      · refine W.ifNo w21 od_13_35 (pc' := 38) rfl ((if0 _ _).trans (feq hc24).1) ?_
        refine W.goto w21 od_13_38 (pc' := 6) (by decide) (by decide) ?_
        refine W.iloadN w21 od_13_6 (pc' := 7) rfl rfl ?_
        refine W.iload w21 od_13_7 (pc' := 9) rfl rfl ?_
        refine W.icmpNo w21 od_13_9 (pc' := 12) rfl (tlt (by decide : (3 : Int32) < (8 : Int32))).2.1 ?_
        refine W.aloadN w21 od_13_12 (pc' := 13) rfl rfl rfl ?_
        refine W.iloadN w21 od_13_13 (pc' := 14) rfl rfl ?_
        refine W.iinc w21 od_13_14 (pc' := 17) rfl (z := (4 : Int32)) rfl (Ls' := #[.val (.ref b0), .val (.int (4 : Int32)), .val (.ref b1), .val (.int (3 : Int32)), .val (.int (8 : Int32)), .val (.int (8 : Int32)), .val (.int c2), .val (.int (65 : Int32))]) rfl rfl ?_
        refine W.ldB w21 V0 ⟨by decide, by decide⟩ (v := (.int c3)) rfl od_13_17 (pc' := 18) rfl ?_
        refine W.istore w21 od_13_18 (pc' := 20) rfl (Ls' := #[.val (.ref b0), .val (.int (4 : Int32)), .val (.ref b1), .val (.int (3 : Int32)), .val (.int (8 : Int32)), .val (.int (8 : Int32)), .val (.int c3), .val (.int (65 : Int32))]) rfl ?_
        refine W.aloadN w21 od_13_20 (pc' := 21) rfl rfl rfl ?_
        refine W.iloadN w21 od_13_21 (pc' := 22) rfl rfl ?_
        refine W.iinc w21 od_13_22 (pc' := 25) rfl (z := (4 : Int32)) rfl (Ls' := #[.val (.ref b0), .val (.int (4 : Int32)), .val (.ref b1), .val (.int (4 : Int32)), .val (.int (8 : Int32)), .val (.int (8 : Int32)), .val (.int c3), .val (.int (65 : Int32))]) rfl rfl ?_
        refine W.ldB w21 V1 ⟨by decide, by decide⟩ (v := (.int (80 : Int32))) rfl od_13_25 (pc' := 26) rfl ?_
        refine W.istore w21 od_13_26 (pc' := 28) rfl (Ls' := #[.val (.ref b0), .val (.int (4 : Int32)), .val (.ref b1), .val (.int (4 : Int32)), .val (.int (8 : Int32)), .val (.int (8 : Int32)), .val (.int c3), .val (.int (80 : Int32))]) rfl ?_
        refine W.iload w21 od_13_28 (pc' := 30) rfl rfl ?_
        refine W.iload w21 od_13_30 (pc' := 32) rfl rfl ?_
        refine W.callS w21 (ow_66 hw) (ow_67 hw) (ow_68 hw) (ow_69 hw) (by decide) opd_0 (Ctr.pay (c_ci hw w21.old) (own_ew hw) (ow_69 hw) (ow_68 hw) (kf := 1) (kl := 14) (by decide) (by decide)) mN od_13_32 (pc' := 35) rfl rfl rfl (rest := []) rfl (Wd := 0) rfl (by decide) (by decide) (by decide) (by decide) fun v27 T25 h26 M28 w29 q30 => ?_
        obtain ⟨rfl, rfl, e31⟩ := q30
        obtain rfl := e31.symm
        show Go Z _ _ _ κ _ (T25.setTop (mkF (km κ) 35 #[.val (.ref b0), .val (.int (4 : Int32)), .val (.ref b1), .val (.int (4 : Int32)), .val (.int (8 : Int32)), .val (.int (8 : Int32)), .val (.int c3), .val (.int (80 : Int32))] [(.int (ciV c3 (80 : Int32)))]))
        rcases Decidable.em ((ciV c3 (80 : Int32)) = (0 : Int32)) with hc32 | hc32
        · refine W.ifYes w29 od_13_35 (pc' := 41) (by decide) (by decide) ((if0 _ _).trans (teq hc32).1) ?_
          refine W.iconst w29 od_13_41 (pc' := 42) rfl (z := (0 : Int32)) rfl ?_
          exact W.retN w29 (t := .boolean) (z' := (0 : Int32)) rfl rfl (by simp) od_13_42 (M' := []) mN (by decide) (by decide) ⟨congrArg (fun z => some (Value.int z)) (show (0 : Int32) = ((if (ciV c0 (83 : Int32)) = 0 then 0 else (if (ciV c1 (78 : Int32)) = 0 then 0 else (if (ciV c2 (65 : Int32)) = 0 then 0 else (if (ciV c3 (80 : Int32)) = 0 then 0 else (if (ciV c4 (83 : Int32)) = 0 then 0 else (if (ciV c5 (72 : Int32)) = 0 then 0 else (if (ciV c6 (79 : Int32)) = 0 then 0 else (if (ciV c7 (84 : Int32)) = 0 then 0 else 1)))))))) : Int32) from by rw [if_neg hc8, if_neg hc16, if_neg hc24, if_pos hc32]), rfl, rfl⟩
        · refine W.ifNo w29 od_13_35 (pc' := 38) rfl ((if0 _ _).trans (feq hc32).1) ?_
          refine W.goto w29 od_13_38 (pc' := 6) (by decide) (by decide) ?_
          refine W.iloadN w29 od_13_6 (pc' := 7) rfl rfl ?_
          refine W.iload w29 od_13_7 (pc' := 9) rfl rfl ?_
          refine W.icmpNo w29 od_13_9 (pc' := 12) rfl (tlt (by decide : (4 : Int32) < (8 : Int32))).2.1 ?_
          refine W.aloadN w29 od_13_12 (pc' := 13) rfl rfl rfl ?_
          refine W.iloadN w29 od_13_13 (pc' := 14) rfl rfl ?_
          refine W.iinc w29 od_13_14 (pc' := 17) rfl (z := (5 : Int32)) rfl (Ls' := #[.val (.ref b0), .val (.int (5 : Int32)), .val (.ref b1), .val (.int (4 : Int32)), .val (.int (8 : Int32)), .val (.int (8 : Int32)), .val (.int c3), .val (.int (80 : Int32))]) rfl rfl ?_
          refine W.ldB w29 V0 ⟨by decide, by decide⟩ (v := (.int c4)) rfl od_13_17 (pc' := 18) rfl ?_
          refine W.istore w29 od_13_18 (pc' := 20) rfl (Ls' := #[.val (.ref b0), .val (.int (5 : Int32)), .val (.ref b1), .val (.int (4 : Int32)), .val (.int (8 : Int32)), .val (.int (8 : Int32)), .val (.int c4), .val (.int (80 : Int32))]) rfl ?_
          refine W.aloadN w29 od_13_20 (pc' := 21) rfl rfl rfl ?_
          refine W.iloadN w29 od_13_21 (pc' := 22) rfl rfl ?_
          refine W.iinc w29 od_13_22 (pc' := 25) rfl (z := (5 : Int32)) rfl (Ls' := #[.val (.ref b0), .val (.int (5 : Int32)), .val (.ref b1), .val (.int (5 : Int32)), .val (.int (8 : Int32)), .val (.int (8 : Int32)), .val (.int c4), .val (.int (80 : Int32))]) rfl rfl ?_
          refine W.ldB w29 V1 ⟨by decide, by decide⟩ (v := (.int (83 : Int32))) rfl od_13_25 (pc' := 26) rfl ?_
          refine W.istore w29 od_13_26 (pc' := 28) rfl (Ls' := #[.val (.ref b0), .val (.int (5 : Int32)), .val (.ref b1), .val (.int (5 : Int32)), .val (.int (8 : Int32)), .val (.int (8 : Int32)), .val (.int c4), .val (.int (83 : Int32))]) rfl ?_
          refine W.iload w29 od_13_28 (pc' := 30) rfl rfl ?_
          refine W.iload w29 od_13_30 (pc' := 32) rfl rfl ?_
          refine W.callS w29 (ow_66 hw) (ow_67 hw) (ow_68 hw) (ow_69 hw) (by decide) opd_0 (Ctr.pay (c_ci hw w29.old) (own_ew hw) (ow_69 hw) (ow_68 hw) (kf := 1) (kl := 14) (by decide) (by decide)) mN od_13_32 (pc' := 35) rfl rfl rfl (rest := []) rfl (Wd := 0) rfl (by decide) (by decide) (by decide) (by decide) fun v35 T33 h34 M36 w37 q38 => ?_
          obtain ⟨rfl, rfl, e39⟩ := q38
          obtain rfl := e39.symm
          show Go Z _ _ _ κ _ (T33.setTop (mkF (km κ) 35 #[.val (.ref b0), .val (.int (5 : Int32)), .val (.ref b1), .val (.int (5 : Int32)), .val (.int (8 : Int32)), .val (.int (8 : Int32)), .val (.int c4), .val (.int (83 : Int32))] [(.int (ciV c4 (83 : Int32)))]))
          rcases Decidable.em ((ciV c4 (83 : Int32)) = (0 : Int32)) with hc40 | hc40
          · refine W.ifYes w37 od_13_35 (pc' := 41) (by decide) (by decide) ((if0 _ _).trans (teq hc40).1) ?_
            refine W.iconst w37 od_13_41 (pc' := 42) rfl (z := (0 : Int32)) rfl ?_
            exact W.retN w37 (t := .boolean) (z' := (0 : Int32)) rfl rfl (by simp) od_13_42 (M' := []) mN (by decide) (by decide) ⟨congrArg (fun z => some (Value.int z)) (show (0 : Int32) = ((if (ciV c0 (83 : Int32)) = 0 then 0 else (if (ciV c1 (78 : Int32)) = 0 then 0 else (if (ciV c2 (65 : Int32)) = 0 then 0 else (if (ciV c3 (80 : Int32)) = 0 then 0 else (if (ciV c4 (83 : Int32)) = 0 then 0 else (if (ciV c5 (72 : Int32)) = 0 then 0 else (if (ciV c6 (79 : Int32)) = 0 then 0 else (if (ciV c7 (84 : Int32)) = 0 then 0 else 1)))))))) : Int32) from by rw [if_neg hc8, if_neg hc16, if_neg hc24, if_neg hc32, if_pos hc40]), rfl, rfl⟩
          · refine W.ifNo w37 od_13_35 (pc' := 38) rfl ((if0 _ _).trans (feq hc40).1) ?_
            refine W.goto w37 od_13_38 (pc' := 6) (by decide) (by decide) ?_
            refine W.iloadN w37 od_13_6 (pc' := 7) rfl rfl ?_
            refine W.iload w37 od_13_7 (pc' := 9) rfl rfl ?_
            refine W.icmpNo w37 od_13_9 (pc' := 12) rfl (tlt (by decide : (5 : Int32) < (8 : Int32))).2.1 ?_
            refine W.aloadN w37 od_13_12 (pc' := 13) rfl rfl rfl ?_
            refine W.iloadN w37 od_13_13 (pc' := 14) rfl rfl ?_
            refine W.iinc w37 od_13_14 (pc' := 17) rfl (z := (6 : Int32)) rfl (Ls' := #[.val (.ref b0), .val (.int (6 : Int32)), .val (.ref b1), .val (.int (5 : Int32)), .val (.int (8 : Int32)), .val (.int (8 : Int32)), .val (.int c4), .val (.int (83 : Int32))]) rfl rfl ?_
            refine W.ldB w37 V0 ⟨by decide, by decide⟩ (v := (.int c5)) rfl od_13_17 (pc' := 18) rfl ?_
            refine W.istore w37 od_13_18 (pc' := 20) rfl (Ls' := #[.val (.ref b0), .val (.int (6 : Int32)), .val (.ref b1), .val (.int (5 : Int32)), .val (.int (8 : Int32)), .val (.int (8 : Int32)), .val (.int c5), .val (.int (83 : Int32))]) rfl ?_
            refine W.aloadN w37 od_13_20 (pc' := 21) rfl rfl rfl ?_
            refine W.iloadN w37 od_13_21 (pc' := 22) rfl rfl ?_
            refine W.iinc w37 od_13_22 (pc' := 25) rfl (z := (6 : Int32)) rfl (Ls' := #[.val (.ref b0), .val (.int (6 : Int32)), .val (.ref b1), .val (.int (6 : Int32)), .val (.int (8 : Int32)), .val (.int (8 : Int32)), .val (.int c5), .val (.int (83 : Int32))]) rfl rfl ?_
            refine W.ldB w37 V1 ⟨by decide, by decide⟩ (v := (.int (72 : Int32))) rfl od_13_25 (pc' := 26) rfl ?_
            refine W.istore w37 od_13_26 (pc' := 28) rfl (Ls' := #[.val (.ref b0), .val (.int (6 : Int32)), .val (.ref b1), .val (.int (6 : Int32)), .val (.int (8 : Int32)), .val (.int (8 : Int32)), .val (.int c5), .val (.int (72 : Int32))]) rfl ?_
            refine W.iload w37 od_13_28 (pc' := 30) rfl rfl ?_
            refine W.iload w37 od_13_30 (pc' := 32) rfl rfl ?_
            refine W.callS w37 (ow_66 hw) (ow_67 hw) (ow_68 hw) (ow_69 hw) (by decide) opd_0 (Ctr.pay (c_ci hw w37.old) (own_ew hw) (ow_69 hw) (ow_68 hw) (kf := 1) (kl := 14) (by decide) (by decide)) mN od_13_32 (pc' := 35) rfl rfl rfl (rest := []) rfl (Wd := 0) rfl (by decide) (by decide) (by decide) (by decide) fun v43 T41 h42 M44 w45 q46 => ?_
            obtain ⟨rfl, rfl, e47⟩ := q46
            obtain rfl := e47.symm
            show Go Z _ _ _ κ _ (T41.setTop (mkF (km κ) 35 #[.val (.ref b0), .val (.int (6 : Int32)), .val (.ref b1), .val (.int (6 : Int32)), .val (.int (8 : Int32)), .val (.int (8 : Int32)), .val (.int c5), .val (.int (72 : Int32))] [(.int (ciV c5 (72 : Int32)))]))
            rcases Decidable.em ((ciV c5 (72 : Int32)) = (0 : Int32)) with hc48 | hc48
            · refine W.ifYes w45 od_13_35 (pc' := 41) (by decide) (by decide) ((if0 _ _).trans (teq hc48).1) ?_
              refine W.iconst w45 od_13_41 (pc' := 42) rfl (z := (0 : Int32)) rfl ?_
              exact W.retN w45 (t := .boolean) (z' := (0 : Int32)) rfl rfl (by simp) od_13_42 (M' := []) mN (by decide) (by decide) ⟨congrArg (fun z => some (Value.int z)) (show (0 : Int32) = ((if (ciV c0 (83 : Int32)) = 0 then 0 else (if (ciV c1 (78 : Int32)) = 0 then 0 else (if (ciV c2 (65 : Int32)) = 0 then 0 else (if (ciV c3 (80 : Int32)) = 0 then 0 else (if (ciV c4 (83 : Int32)) = 0 then 0 else (if (ciV c5 (72 : Int32)) = 0 then 0 else (if (ciV c6 (79 : Int32)) = 0 then 0 else (if (ciV c7 (84 : Int32)) = 0 then 0 else 1)))))))) : Int32) from by rw [if_neg hc8, if_neg hc16, if_neg hc24, if_neg hc32, if_neg hc40, if_pos hc48]), rfl, rfl⟩
            · refine W.ifNo w45 od_13_35 (pc' := 38) rfl ((if0 _ _).trans (feq hc48).1) ?_
              refine W.goto w45 od_13_38 (pc' := 6) (by decide) (by decide) ?_
              refine W.iloadN w45 od_13_6 (pc' := 7) rfl rfl ?_
              refine W.iload w45 od_13_7 (pc' := 9) rfl rfl ?_
              refine W.icmpNo w45 od_13_9 (pc' := 12) rfl (tlt (by decide : (6 : Int32) < (8 : Int32))).2.1 ?_
              refine W.aloadN w45 od_13_12 (pc' := 13) rfl rfl rfl ?_
              refine W.iloadN w45 od_13_13 (pc' := 14) rfl rfl ?_
              refine W.iinc w45 od_13_14 (pc' := 17) rfl (z := (7 : Int32)) rfl (Ls' := #[.val (.ref b0), .val (.int (7 : Int32)), .val (.ref b1), .val (.int (6 : Int32)), .val (.int (8 : Int32)), .val (.int (8 : Int32)), .val (.int c5), .val (.int (72 : Int32))]) rfl rfl ?_
              refine W.ldB w45 V0 ⟨by decide, by decide⟩ (v := (.int c6)) rfl od_13_17 (pc' := 18) rfl ?_
              refine W.istore w45 od_13_18 (pc' := 20) rfl (Ls' := #[.val (.ref b0), .val (.int (7 : Int32)), .val (.ref b1), .val (.int (6 : Int32)), .val (.int (8 : Int32)), .val (.int (8 : Int32)), .val (.int c6), .val (.int (72 : Int32))]) rfl ?_
              refine W.aloadN w45 od_13_20 (pc' := 21) rfl rfl rfl ?_
              refine W.iloadN w45 od_13_21 (pc' := 22) rfl rfl ?_
              refine W.iinc w45 od_13_22 (pc' := 25) rfl (z := (7 : Int32)) rfl (Ls' := #[.val (.ref b0), .val (.int (7 : Int32)), .val (.ref b1), .val (.int (7 : Int32)), .val (.int (8 : Int32)), .val (.int (8 : Int32)), .val (.int c6), .val (.int (72 : Int32))]) rfl rfl ?_
              refine W.ldB w45 V1 ⟨by decide, by decide⟩ (v := (.int (79 : Int32))) rfl od_13_25 (pc' := 26) rfl ?_
              refine W.istore w45 od_13_26 (pc' := 28) rfl (Ls' := #[.val (.ref b0), .val (.int (7 : Int32)), .val (.ref b1), .val (.int (7 : Int32)), .val (.int (8 : Int32)), .val (.int (8 : Int32)), .val (.int c6), .val (.int (79 : Int32))]) rfl ?_
              refine W.iload w45 od_13_28 (pc' := 30) rfl rfl ?_
              refine W.iload w45 od_13_30 (pc' := 32) rfl rfl ?_
              refine W.callS w45 (ow_66 hw) (ow_67 hw) (ow_68 hw) (ow_69 hw) (by decide) opd_0 (Ctr.pay (c_ci hw w45.old) (own_ew hw) (ow_69 hw) (ow_68 hw) (kf := 1) (kl := 14) (by decide) (by decide)) mN od_13_32 (pc' := 35) rfl rfl rfl (rest := []) rfl (Wd := 0) rfl (by decide) (by decide) (by decide) (by decide) fun v51 T49 h50 M52 w53 q54 => ?_
              obtain ⟨rfl, rfl, e55⟩ := q54
              obtain rfl := e55.symm
              show Go Z _ _ _ κ _ (T49.setTop (mkF (km κ) 35 #[.val (.ref b0), .val (.int (7 : Int32)), .val (.ref b1), .val (.int (7 : Int32)), .val (.int (8 : Int32)), .val (.int (8 : Int32)), .val (.int c6), .val (.int (79 : Int32))] [(.int (ciV c6 (79 : Int32)))]))
              rcases Decidable.em ((ciV c6 (79 : Int32)) = (0 : Int32)) with hc56 | hc56
              · refine W.ifYes w53 od_13_35 (pc' := 41) (by decide) (by decide) ((if0 _ _).trans (teq hc56).1) ?_
                refine W.iconst w53 od_13_41 (pc' := 42) rfl (z := (0 : Int32)) rfl ?_
                exact W.retN w53 (t := .boolean) (z' := (0 : Int32)) rfl rfl (by simp) od_13_42 (M' := []) mN (by decide) (by decide) ⟨congrArg (fun z => some (Value.int z)) (show (0 : Int32) = ((if (ciV c0 (83 : Int32)) = 0 then 0 else (if (ciV c1 (78 : Int32)) = 0 then 0 else (if (ciV c2 (65 : Int32)) = 0 then 0 else (if (ciV c3 (80 : Int32)) = 0 then 0 else (if (ciV c4 (83 : Int32)) = 0 then 0 else (if (ciV c5 (72 : Int32)) = 0 then 0 else (if (ciV c6 (79 : Int32)) = 0 then 0 else (if (ciV c7 (84 : Int32)) = 0 then 0 else 1)))))))) : Int32) from by rw [if_neg hc8, if_neg hc16, if_neg hc24, if_neg hc32, if_neg hc40, if_neg hc48, if_pos hc56]), rfl, rfl⟩
              · refine W.ifNo w53 od_13_35 (pc' := 38) rfl ((if0 _ _).trans (feq hc56).1) ?_
                refine W.goto w53 od_13_38 (pc' := 6) (by decide) (by decide) ?_
                refine W.iloadN w53 od_13_6 (pc' := 7) rfl rfl ?_
                refine W.iload w53 od_13_7 (pc' := 9) rfl rfl ?_
                refine W.icmpNo w53 od_13_9 (pc' := 12) rfl (tlt (by decide : (7 : Int32) < (8 : Int32))).2.1 ?_
                refine W.aloadN w53 od_13_12 (pc' := 13) rfl rfl rfl ?_
                refine W.iloadN w53 od_13_13 (pc' := 14) rfl rfl ?_
                refine W.iinc w53 od_13_14 (pc' := 17) rfl (z := (8 : Int32)) rfl (Ls' := #[.val (.ref b0), .val (.int (8 : Int32)), .val (.ref b1), .val (.int (7 : Int32)), .val (.int (8 : Int32)), .val (.int (8 : Int32)), .val (.int c6), .val (.int (79 : Int32))]) rfl rfl ?_
                refine W.ldB w53 V0 ⟨by decide, by decide⟩ (v := (.int c7)) rfl od_13_17 (pc' := 18) rfl ?_
                refine W.istore w53 od_13_18 (pc' := 20) rfl (Ls' := #[.val (.ref b0), .val (.int (8 : Int32)), .val (.ref b1), .val (.int (7 : Int32)), .val (.int (8 : Int32)), .val (.int (8 : Int32)), .val (.int c7), .val (.int (79 : Int32))]) rfl ?_
                refine W.aloadN w53 od_13_20 (pc' := 21) rfl rfl rfl ?_
                refine W.iloadN w53 od_13_21 (pc' := 22) rfl rfl ?_
                refine W.iinc w53 od_13_22 (pc' := 25) rfl (z := (8 : Int32)) rfl (Ls' := #[.val (.ref b0), .val (.int (8 : Int32)), .val (.ref b1), .val (.int (8 : Int32)), .val (.int (8 : Int32)), .val (.int (8 : Int32)), .val (.int c7), .val (.int (79 : Int32))]) rfl rfl ?_
                refine W.ldB w53 V1 ⟨by decide, by decide⟩ (v := (.int (84 : Int32))) rfl od_13_25 (pc' := 26) rfl ?_
                refine W.istore w53 od_13_26 (pc' := 28) rfl (Ls' := #[.val (.ref b0), .val (.int (8 : Int32)), .val (.ref b1), .val (.int (8 : Int32)), .val (.int (8 : Int32)), .val (.int (8 : Int32)), .val (.int c7), .val (.int (84 : Int32))]) rfl ?_
                refine W.iload w53 od_13_28 (pc' := 30) rfl rfl ?_
                refine W.iload w53 od_13_30 (pc' := 32) rfl rfl ?_
                refine W.callS w53 (ow_66 hw) (ow_67 hw) (ow_68 hw) (ow_69 hw) (by decide) opd_0 (Ctr.pay (c_ci hw w53.old) (own_ew hw) (ow_69 hw) (ow_68 hw) (kf := 1) (kl := 14) (by decide) (by decide)) mN od_13_32 (pc' := 35) rfl rfl rfl (rest := []) rfl (Wd := 0) rfl (by decide) (by decide) (by decide) (by decide) fun v59 T57 h58 M60 w61 q62 => ?_
                obtain ⟨rfl, rfl, e63⟩ := q62
                obtain rfl := e63.symm
                show Go Z _ _ _ κ _ (T57.setTop (mkF (km κ) 35 #[.val (.ref b0), .val (.int (8 : Int32)), .val (.ref b1), .val (.int (8 : Int32)), .val (.int (8 : Int32)), .val (.int (8 : Int32)), .val (.int c7), .val (.int (84 : Int32))] [(.int (ciV c7 (84 : Int32)))]))
                rcases Decidable.em ((ciV c7 (84 : Int32)) = (0 : Int32)) with hc64 | hc64
                · refine W.ifYes w61 od_13_35 (pc' := 41) (by decide) (by decide) ((if0 _ _).trans (teq hc64).1) ?_
                  refine W.iconst w61 od_13_41 (pc' := 42) rfl (z := (0 : Int32)) rfl ?_
                  exact W.retN w61 (t := .boolean) (z' := (0 : Int32)) rfl rfl (by simp) od_13_42 (M' := []) mN (by decide) (by decide) ⟨congrArg (fun z => some (Value.int z)) (show (0 : Int32) = ((if (ciV c0 (83 : Int32)) = 0 then 0 else (if (ciV c1 (78 : Int32)) = 0 then 0 else (if (ciV c2 (65 : Int32)) = 0 then 0 else (if (ciV c3 (80 : Int32)) = 0 then 0 else (if (ciV c4 (83 : Int32)) = 0 then 0 else (if (ciV c5 (72 : Int32)) = 0 then 0 else (if (ciV c6 (79 : Int32)) = 0 then 0 else (if (ciV c7 (84 : Int32)) = 0 then 0 else 1)))))))) : Int32) from by rw [if_neg hc8, if_neg hc16, if_neg hc24, if_neg hc32, if_neg hc40, if_neg hc48, if_neg hc56, if_pos hc64]), rfl, rfl⟩
                · refine W.ifNo w61 od_13_35 (pc' := 38) rfl ((if0 _ _).trans (feq hc64).1) ?_
                  refine W.goto w61 od_13_38 (pc' := 6) (by decide) (by decide) ?_
                  refine W.iloadN w61 od_13_6 (pc' := 7) rfl rfl ?_
                  refine W.iload w61 od_13_7 (pc' := 9) rfl rfl ?_
                  refine W.icmpYes w61 od_13_9 (pc' := 43) (by decide) (by decide) (flt (by decide : ¬ ((8 : Int32) < (8 : Int32)))).2.1 ?_
                  refine W.iconst w61 od_13_43 (pc' := 44) rfl (z := (1 : Int32)) rfl ?_
                  exact W.retN w61 (t := .boolean) (z' := (1 : Int32)) rfl rfl (by simp) od_13_44 (M' := []) mN (by decide) (by decide) ⟨congrArg (fun z => some (Value.int z)) (show (1 : Int32) = ((if (ciV c0 (83 : Int32)) = 0 then 0 else (if (ciV c1 (78 : Int32)) = 0 then 0 else (if (ciV c2 (65 : Int32)) = 0 then 0 else (if (ciV c3 (80 : Int32)) = 0 then 0 else (if (ciV c4 (83 : Int32)) = 0 then 0 else (if (ciV c5 (72 : Int32)) = 0 then 0 else (if (ciV c6 (79 : Int32)) = 0 then 0 else (if (ciV c7 (84 : Int32)) = 0 then 0 else 1)))))))) : Int32) from by rw [if_neg hc8, if_neg hc16, if_neg hc24, if_neg hc32, if_neg hc40, if_neg hc48, if_neg hc56, if_neg hc64]), rfl, rfl⟩
set_option maxRecDepth 65536 in
set_option maxHeartbeats 40000000 in
theorem c_rmci9 {l : Launch} {Z : State} {a0 : Array Value} (hw : HW Z a0) {h0 : Heap} {b0 b1 : Addr} {k0 k1 : ClassId} {c0 c1 c2 c3 c4 c5 c6 c7 c8 : Int32} (V0 : Arv Z h0 b0 k0 .byte (9 : Int32) [.int c0, .int c1, .int c2, .int c3, .int c4, .int c5, .int c6, .int c7, .int c8] (.int 0)) (V1 : Arv Z h0 b1 k1 .byte (8 : Int32) [.int (83 : Int32), .int (78 : Int32), .int (65 : Int32), .int (80 : Int32), .int (83 : Int32), .int (72 : Int32), .int (79 : Int32), .int (84 : Int32)] (.int 0)) (hO : Old Z Z.heap.size h0) : Ctr l Z EL0 nw0 ({ cls := "java/lang/StringLatin1", name := "regionMatchesCI", desc := "([BI[BII)Z" } : Jvm.MethodName) jdk_43_method_30_code 8 (some .boolean) ({ frames := 1, cells := 0, slots := 0, locals := 14 } : Room) [.ref b0, .int (1 : Int32), .ref b1, .int 0, .int 8] h0 [] (fun v h M' => v = some (.int (if (ciV c1 (83 : Int32)) = 0 then 0 else (if (ciV c2 (78 : Int32)) = 0 then 0 else (if (ciV c3 (65 : Int32)) = 0 then 0 else (if (ciV c4 (80 : Int32)) = 0 then 0 else (if (ciV c5 (83 : Int32)) = 0 then 0 else (if (ciV c6 (72 : Int32)) = 0 then 0 else (if (ciV c7 (79 : Int32)) = 0 then 0 else (if (ciV c8 (84 : Int32)) = 0 then 0 else 1))))))))) ∧ M' = [] ∧ h = h0) := by
  refine of_body (a0 := a0) opn_4 (own_ew hw) hO (Ls := #[.val (.ref b0), .val (.int (1 : Int32)), .val (.ref b1), .val (.int (0 : Int32)), .val (.int (8 : Int32)), .unset, .unset, .unset]) (fun m => by first | (simp [entryFrame, mkF, argsToLocals, Value.category]; done) | rfl) (fun κ T0 w0 hnm => ?_)
  refine W.iloadN w0 od_13_0 (pc' := 1) rfl rfl ?_
  refine W.iload w0 od_13_1 (pc' := 3) rfl rfl ?_
  refine W.iadd w0 od_13_3 (pc' := 4) rfl (z := (9 : Int32)) rfl ?_
  refine W.istore w0 od_13_4 (pc' := 6) rfl (Ls' := #[.val (.ref b0), .val (.int (1 : Int32)), .val (.ref b1), .val (.int (0 : Int32)), .val (.int (8 : Int32)), .val (.int (9 : Int32)), .unset, .unset]) rfl ?_
  refine W.iloadN w0 od_13_6 (pc' := 7) rfl rfl ?_
  refine W.iload w0 od_13_7 (pc' := 9) rfl rfl ?_
  refine W.icmpNo w0 od_13_9 (pc' := 12) rfl (tlt (by decide : (1 : Int32) < (9 : Int32))).2.1 ?_
  refine W.aloadN w0 od_13_12 (pc' := 13) rfl rfl rfl ?_
  refine W.iloadN w0 od_13_13 (pc' := 14) rfl rfl ?_
  refine W.iinc w0 od_13_14 (pc' := 17) rfl (z := (2 : Int32)) rfl (Ls' := #[.val (.ref b0), .val (.int (2 : Int32)), .val (.ref b1), .val (.int (0 : Int32)), .val (.int (8 : Int32)), .val (.int (9 : Int32)), .unset, .unset]) rfl rfl ?_
  refine W.ldB w0 V0 ⟨by decide, by decide⟩ (v := (.int c1)) rfl od_13_17 (pc' := 18) rfl ?_
  refine W.istore w0 od_13_18 (pc' := 20) rfl (Ls' := #[.val (.ref b0), .val (.int (2 : Int32)), .val (.ref b1), .val (.int (0 : Int32)), .val (.int (8 : Int32)), .val (.int (9 : Int32)), .val (.int c1), .unset]) rfl ?_
  refine W.aloadN w0 od_13_20 (pc' := 21) rfl rfl rfl ?_
  refine W.iloadN w0 od_13_21 (pc' := 22) rfl rfl ?_
  refine W.iinc w0 od_13_22 (pc' := 25) rfl (z := (1 : Int32)) rfl (Ls' := #[.val (.ref b0), .val (.int (2 : Int32)), .val (.ref b1), .val (.int (1 : Int32)), .val (.int (8 : Int32)), .val (.int (9 : Int32)), .val (.int c1), .unset]) rfl rfl ?_
  refine W.ldB w0 V1 ⟨by decide, by decide⟩ (v := (.int (83 : Int32))) rfl od_13_25 (pc' := 26) rfl ?_
  refine W.istore w0 od_13_26 (pc' := 28) rfl (Ls' := #[.val (.ref b0), .val (.int (2 : Int32)), .val (.ref b1), .val (.int (1 : Int32)), .val (.int (8 : Int32)), .val (.int (9 : Int32)), .val (.int c1), .val (.int (83 : Int32))]) rfl ?_
  refine W.iload w0 od_13_28 (pc' := 30) rfl rfl ?_
  refine W.iload w0 od_13_30 (pc' := 32) rfl rfl ?_
  refine W.callS w0 (ow_66 hw) (ow_67 hw) (ow_68 hw) (ow_69 hw) (by decide) opd_0 (Ctr.pay (c_ci hw w0.old) (own_ew hw) (ow_69 hw) (ow_68 hw) (kf := 1) (kl := 14) (by decide) (by decide)) mN od_13_32 (pc' := 35) rfl rfl rfl (rest := []) rfl (Wd := 0) rfl (by decide) (by decide) (by decide) (by decide) fun v3 T1 h2 M4 w5 q6 => ?_
  obtain ⟨rfl, rfl, e7⟩ := q6
  obtain rfl := e7.symm
  show Go Z _ _ _ κ _ (T1.setTop (mkF (km κ) 35 #[.val (.ref b0), .val (.int (2 : Int32)), .val (.ref b1), .val (.int (1 : Int32)), .val (.int (8 : Int32)), .val (.int (9 : Int32)), .val (.int c1), .val (.int (83 : Int32))] [(.int (ciV c1 (83 : Int32)))]))
  rcases Decidable.em ((ciV c1 (83 : Int32)) = (0 : Int32)) with hc8 | hc8
  · refine W.ifYes w5 od_13_35 (pc' := 41) (by decide) (by decide) ((if0 _ _).trans (teq hc8).1) ?_
    refine W.iconst w5 od_13_41 (pc' := 42) rfl (z := (0 : Int32)) rfl ?_
    exact W.retN w5 (t := .boolean) (z' := (0 : Int32)) rfl rfl (by simp) od_13_42 (M' := []) mN (by decide) (by decide) ⟨congrArg (fun z => some (Value.int z)) (show (0 : Int32) = ((if (ciV c1 (83 : Int32)) = 0 then 0 else (if (ciV c2 (78 : Int32)) = 0 then 0 else (if (ciV c3 (65 : Int32)) = 0 then 0 else (if (ciV c4 (80 : Int32)) = 0 then 0 else (if (ciV c5 (83 : Int32)) = 0 then 0 else (if (ciV c6 (72 : Int32)) = 0 then 0 else (if (ciV c7 (79 : Int32)) = 0 then 0 else (if (ciV c8 (84 : Int32)) = 0 then 0 else 1)))))))) : Int32) from by rw [if_pos hc8]), rfl, rfl⟩
  · refine W.ifNo w5 od_13_35 (pc' := 38) rfl ((if0 _ _).trans (feq hc8).1) ?_
    refine W.goto w5 od_13_38 (pc' := 6) (by decide) (by decide) ?_
    refine W.iloadN w5 od_13_6 (pc' := 7) rfl rfl ?_
    refine W.iload w5 od_13_7 (pc' := 9) rfl rfl ?_
    refine W.icmpNo w5 od_13_9 (pc' := 12) rfl (tlt (by decide : (2 : Int32) < (9 : Int32))).2.1 ?_
    refine W.aloadN w5 od_13_12 (pc' := 13) rfl rfl rfl ?_
    refine W.iloadN w5 od_13_13 (pc' := 14) rfl rfl ?_
    refine W.iinc w5 od_13_14 (pc' := 17) rfl (z := (3 : Int32)) rfl (Ls' := #[.val (.ref b0), .val (.int (3 : Int32)), .val (.ref b1), .val (.int (1 : Int32)), .val (.int (8 : Int32)), .val (.int (9 : Int32)), .val (.int c1), .val (.int (83 : Int32))]) rfl rfl ?_
    refine W.ldB w5 V0 ⟨by decide, by decide⟩ (v := (.int c2)) rfl od_13_17 (pc' := 18) rfl ?_
    refine W.istore w5 od_13_18 (pc' := 20) rfl (Ls' := #[.val (.ref b0), .val (.int (3 : Int32)), .val (.ref b1), .val (.int (1 : Int32)), .val (.int (8 : Int32)), .val (.int (9 : Int32)), .val (.int c2), .val (.int (83 : Int32))]) rfl ?_
    refine W.aloadN w5 od_13_20 (pc' := 21) rfl rfl rfl ?_
    refine W.iloadN w5 od_13_21 (pc' := 22) rfl rfl ?_
    refine W.iinc w5 od_13_22 (pc' := 25) rfl (z := (2 : Int32)) rfl (Ls' := #[.val (.ref b0), .val (.int (3 : Int32)), .val (.ref b1), .val (.int (2 : Int32)), .val (.int (8 : Int32)), .val (.int (9 : Int32)), .val (.int c2), .val (.int (83 : Int32))]) rfl rfl ?_
    refine W.ldB w5 V1 ⟨by decide, by decide⟩ (v := (.int (78 : Int32))) rfl od_13_25 (pc' := 26) rfl ?_
    refine W.istore w5 od_13_26 (pc' := 28) rfl (Ls' := #[.val (.ref b0), .val (.int (3 : Int32)), .val (.ref b1), .val (.int (2 : Int32)), .val (.int (8 : Int32)), .val (.int (9 : Int32)), .val (.int c2), .val (.int (78 : Int32))]) rfl ?_
    refine W.iload w5 od_13_28 (pc' := 30) rfl rfl ?_
    refine W.iload w5 od_13_30 (pc' := 32) rfl rfl ?_
    refine W.callS w5 (ow_66 hw) (ow_67 hw) (ow_68 hw) (ow_69 hw) (by decide) opd_0 (Ctr.pay (c_ci hw w5.old) (own_ew hw) (ow_69 hw) (ow_68 hw) (kf := 1) (kl := 14) (by decide) (by decide)) mN od_13_32 (pc' := 35) rfl rfl rfl (rest := []) rfl (Wd := 0) rfl (by decide) (by decide) (by decide) (by decide) fun v11 T9 h10 M12 w13 q14 => ?_
    obtain ⟨rfl, rfl, e15⟩ := q14
    obtain rfl := e15.symm
    show Go Z _ _ _ κ _ (T9.setTop (mkF (km κ) 35 #[.val (.ref b0), .val (.int (3 : Int32)), .val (.ref b1), .val (.int (2 : Int32)), .val (.int (8 : Int32)), .val (.int (9 : Int32)), .val (.int c2), .val (.int (78 : Int32))] [(.int (ciV c2 (78 : Int32)))]))
    rcases Decidable.em ((ciV c2 (78 : Int32)) = (0 : Int32)) with hc16 | hc16
    · refine W.ifYes w13 od_13_35 (pc' := 41) (by decide) (by decide) ((if0 _ _).trans (teq hc16).1) ?_
      refine W.iconst w13 od_13_41 (pc' := 42) rfl (z := (0 : Int32)) rfl ?_
      exact W.retN w13 (t := .boolean) (z' := (0 : Int32)) rfl rfl (by simp) od_13_42 (M' := []) mN (by decide) (by decide) ⟨congrArg (fun z => some (Value.int z)) (show (0 : Int32) = ((if (ciV c1 (83 : Int32)) = 0 then 0 else (if (ciV c2 (78 : Int32)) = 0 then 0 else (if (ciV c3 (65 : Int32)) = 0 then 0 else (if (ciV c4 (80 : Int32)) = 0 then 0 else (if (ciV c5 (83 : Int32)) = 0 then 0 else (if (ciV c6 (72 : Int32)) = 0 then 0 else (if (ciV c7 (79 : Int32)) = 0 then 0 else (if (ciV c8 (84 : Int32)) = 0 then 0 else 1)))))))) : Int32) from by rw [if_neg hc8, if_pos hc16]), rfl, rfl⟩
    · refine W.ifNo w13 od_13_35 (pc' := 38) rfl ((if0 _ _).trans (feq hc16).1) ?_
      refine W.goto w13 od_13_38 (pc' := 6) (by decide) (by decide) ?_
      refine W.iloadN w13 od_13_6 (pc' := 7) rfl rfl ?_
      refine W.iload w13 od_13_7 (pc' := 9) rfl rfl ?_
      refine W.icmpNo w13 od_13_9 (pc' := 12) rfl (tlt (by decide : (3 : Int32) < (9 : Int32))).2.1 ?_
      refine W.aloadN w13 od_13_12 (pc' := 13) rfl rfl rfl ?_
      refine W.iloadN w13 od_13_13 (pc' := 14) rfl rfl ?_
      refine W.iinc w13 od_13_14 (pc' := 17) rfl (z := (4 : Int32)) rfl (Ls' := #[.val (.ref b0), .val (.int (4 : Int32)), .val (.ref b1), .val (.int (2 : Int32)), .val (.int (8 : Int32)), .val (.int (9 : Int32)), .val (.int c2), .val (.int (78 : Int32))]) rfl rfl ?_
      refine W.ldB w13 V0 ⟨by decide, by decide⟩ (v := (.int c3)) rfl od_13_17 (pc' := 18) rfl ?_
      refine W.istore w13 od_13_18 (pc' := 20) rfl (Ls' := #[.val (.ref b0), .val (.int (4 : Int32)), .val (.ref b1), .val (.int (2 : Int32)), .val (.int (8 : Int32)), .val (.int (9 : Int32)), .val (.int c3), .val (.int (78 : Int32))]) rfl ?_
      refine W.aloadN w13 od_13_20 (pc' := 21) rfl rfl rfl ?_
      refine W.iloadN w13 od_13_21 (pc' := 22) rfl rfl ?_
      refine W.iinc w13 od_13_22 (pc' := 25) rfl (z := (3 : Int32)) rfl (Ls' := #[.val (.ref b0), .val (.int (4 : Int32)), .val (.ref b1), .val (.int (3 : Int32)), .val (.int (8 : Int32)), .val (.int (9 : Int32)), .val (.int c3), .val (.int (78 : Int32))]) rfl rfl ?_
      refine W.ldB w13 V1 ⟨by decide, by decide⟩ (v := (.int (65 : Int32))) rfl od_13_25 (pc' := 26) rfl ?_
      refine W.istore w13 od_13_26 (pc' := 28) rfl (Ls' := #[.val (.ref b0), .val (.int (4 : Int32)), .val (.ref b1), .val (.int (3 : Int32)), .val (.int (8 : Int32)), .val (.int (9 : Int32)), .val (.int c3), .val (.int (65 : Int32))]) rfl ?_
      refine W.iload w13 od_13_28 (pc' := 30) rfl rfl ?_
      refine W.iload w13 od_13_30 (pc' := 32) rfl rfl ?_
      refine W.callS w13 (ow_66 hw) (ow_67 hw) (ow_68 hw) (ow_69 hw) (by decide) opd_0 (Ctr.pay (c_ci hw w13.old) (own_ew hw) (ow_69 hw) (ow_68 hw) (kf := 1) (kl := 14) (by decide) (by decide)) mN od_13_32 (pc' := 35) rfl rfl rfl (rest := []) rfl (Wd := 0) rfl (by decide) (by decide) (by decide) (by decide) fun v19 T17 h18 M20 w21 q22 => ?_
      obtain ⟨rfl, rfl, e23⟩ := q22
      obtain rfl := e23.symm
      show Go Z _ _ _ κ _ (T17.setTop (mkF (km κ) 35 #[.val (.ref b0), .val (.int (4 : Int32)), .val (.ref b1), .val (.int (3 : Int32)), .val (.int (8 : Int32)), .val (.int (9 : Int32)), .val (.int c3), .val (.int (65 : Int32))] [(.int (ciV c3 (65 : Int32)))]))
      rcases Decidable.em ((ciV c3 (65 : Int32)) = (0 : Int32)) with hc24 | hc24
      · refine W.ifYes w21 od_13_35 (pc' := 41) (by decide) (by decide) ((if0 _ _).trans (teq hc24).1) ?_
        refine W.iconst w21 od_13_41 (pc' := 42) rfl (z := (0 : Int32)) rfl ?_
        exact W.retN w21 (t := .boolean) (z' := (0 : Int32)) rfl rfl (by simp) od_13_42 (M' := []) mN (by decide) (by decide) ⟨congrArg (fun z => some (Value.int z)) (show (0 : Int32) = ((if (ciV c1 (83 : Int32)) = 0 then 0 else (if (ciV c2 (78 : Int32)) = 0 then 0 else (if (ciV c3 (65 : Int32)) = 0 then 0 else (if (ciV c4 (80 : Int32)) = 0 then 0 else (if (ciV c5 (83 : Int32)) = 0 then 0 else (if (ciV c6 (72 : Int32)) = 0 then 0 else (if (ciV c7 (79 : Int32)) = 0 then 0 else (if (ciV c8 (84 : Int32)) = 0 then 0 else 1)))))))) : Int32) from by rw [if_neg hc8, if_neg hc16, if_pos hc24]), rfl, rfl⟩
      · refine W.ifNo w21 od_13_35 (pc' := 38) rfl ((if0 _ _).trans (feq hc24).1) ?_
        refine W.goto w21 od_13_38 (pc' := 6) (by decide) (by decide) ?_
        refine W.iloadN w21 od_13_6 (pc' := 7) rfl rfl ?_
        refine W.iload w21 od_13_7 (pc' := 9) rfl rfl ?_
        refine W.icmpNo w21 od_13_9 (pc' := 12) rfl (tlt (by decide : (4 : Int32) < (9 : Int32))).2.1 ?_
        refine W.aloadN w21 od_13_12 (pc' := 13) rfl rfl rfl ?_
        refine W.iloadN w21 od_13_13 (pc' := 14) rfl rfl ?_
        refine W.iinc w21 od_13_14 (pc' := 17) rfl (z := (5 : Int32)) rfl (Ls' := #[.val (.ref b0), .val (.int (5 : Int32)), .val (.ref b1), .val (.int (3 : Int32)), .val (.int (8 : Int32)), .val (.int (9 : Int32)), .val (.int c3), .val (.int (65 : Int32))]) rfl rfl ?_
        refine W.ldB w21 V0 ⟨by decide, by decide⟩ (v := (.int c4)) rfl od_13_17 (pc' := 18) rfl ?_
        refine W.istore w21 od_13_18 (pc' := 20) rfl (Ls' := #[.val (.ref b0), .val (.int (5 : Int32)), .val (.ref b1), .val (.int (3 : Int32)), .val (.int (8 : Int32)), .val (.int (9 : Int32)), .val (.int c4), .val (.int (65 : Int32))]) rfl ?_
        refine W.aloadN w21 od_13_20 (pc' := 21) rfl rfl rfl ?_
        refine W.iloadN w21 od_13_21 (pc' := 22) rfl rfl ?_
        refine W.iinc w21 od_13_22 (pc' := 25) rfl (z := (4 : Int32)) rfl (Ls' := #[.val (.ref b0), .val (.int (5 : Int32)), .val (.ref b1), .val (.int (4 : Int32)), .val (.int (8 : Int32)), .val (.int (9 : Int32)), .val (.int c4), .val (.int (65 : Int32))]) rfl rfl ?_
        refine W.ldB w21 V1 ⟨by decide, by decide⟩ (v := (.int (80 : Int32))) rfl od_13_25 (pc' := 26) rfl ?_
        refine W.istore w21 od_13_26 (pc' := 28) rfl (Ls' := #[.val (.ref b0), .val (.int (5 : Int32)), .val (.ref b1), .val (.int (4 : Int32)), .val (.int (8 : Int32)), .val (.int (9 : Int32)), .val (.int c4), .val (.int (80 : Int32))]) rfl ?_
        refine W.iload w21 od_13_28 (pc' := 30) rfl rfl ?_
        refine W.iload w21 od_13_30 (pc' := 32) rfl rfl ?_
        refine W.callS w21 (ow_66 hw) (ow_67 hw) (ow_68 hw) (ow_69 hw) (by decide) opd_0 (Ctr.pay (c_ci hw w21.old) (own_ew hw) (ow_69 hw) (ow_68 hw) (kf := 1) (kl := 14) (by decide) (by decide)) mN od_13_32 (pc' := 35) rfl rfl rfl (rest := []) rfl (Wd := 0) rfl (by decide) (by decide) (by decide) (by decide) fun v27 T25 h26 M28 w29 q30 => ?_
        obtain ⟨rfl, rfl, e31⟩ := q30
        obtain rfl := e31.symm
        show Go Z _ _ _ κ _ (T25.setTop (mkF (km κ) 35 #[.val (.ref b0), .val (.int (5 : Int32)), .val (.ref b1), .val (.int (4 : Int32)), .val (.int (8 : Int32)), .val (.int (9 : Int32)), .val (.int c4), .val (.int (80 : Int32))] [(.int (ciV c4 (80 : Int32)))]))
        rcases Decidable.em ((ciV c4 (80 : Int32)) = (0 : Int32)) with hc32 | hc32
        · refine W.ifYes w29 od_13_35 (pc' := 41) (by decide) (by decide) ((if0 _ _).trans (teq hc32).1) ?_
          refine W.iconst w29 od_13_41 (pc' := 42) rfl (z := (0 : Int32)) rfl ?_
          exact W.retN w29 (t := .boolean) (z' := (0 : Int32)) rfl rfl (by simp) od_13_42 (M' := []) mN (by decide) (by decide) ⟨congrArg (fun z => some (Value.int z)) (show (0 : Int32) = ((if (ciV c1 (83 : Int32)) = 0 then 0 else (if (ciV c2 (78 : Int32)) = 0 then 0 else (if (ciV c3 (65 : Int32)) = 0 then 0 else (if (ciV c4 (80 : Int32)) = 0 then 0 else (if (ciV c5 (83 : Int32)) = 0 then 0 else (if (ciV c6 (72 : Int32)) = 0 then 0 else (if (ciV c7 (79 : Int32)) = 0 then 0 else (if (ciV c8 (84 : Int32)) = 0 then 0 else 1)))))))) : Int32) from by rw [if_neg hc8, if_neg hc16, if_neg hc24, if_pos hc32]), rfl, rfl⟩
        · refine W.ifNo w29 od_13_35 (pc' := 38) rfl ((if0 _ _).trans (feq hc32).1) ?_
          refine W.goto w29 od_13_38 (pc' := 6) (by decide) (by decide) ?_
          refine W.iloadN w29 od_13_6 (pc' := 7) rfl rfl ?_
          refine W.iload w29 od_13_7 (pc' := 9) rfl rfl ?_
          refine W.icmpNo w29 od_13_9 (pc' := 12) rfl (tlt (by decide : (5 : Int32) < (9 : Int32))).2.1 ?_
          refine W.aloadN w29 od_13_12 (pc' := 13) rfl rfl rfl ?_
          refine W.iloadN w29 od_13_13 (pc' := 14) rfl rfl ?_
          refine W.iinc w29 od_13_14 (pc' := 17) rfl (z := (6 : Int32)) rfl (Ls' := #[.val (.ref b0), .val (.int (6 : Int32)), .val (.ref b1), .val (.int (4 : Int32)), .val (.int (8 : Int32)), .val (.int (9 : Int32)), .val (.int c4), .val (.int (80 : Int32))]) rfl rfl ?_
          refine W.ldB w29 V0 ⟨by decide, by decide⟩ (v := (.int c5)) rfl od_13_17 (pc' := 18) rfl ?_
          refine W.istore w29 od_13_18 (pc' := 20) rfl (Ls' := #[.val (.ref b0), .val (.int (6 : Int32)), .val (.ref b1), .val (.int (4 : Int32)), .val (.int (8 : Int32)), .val (.int (9 : Int32)), .val (.int c5), .val (.int (80 : Int32))]) rfl ?_
          refine W.aloadN w29 od_13_20 (pc' := 21) rfl rfl rfl ?_
          refine W.iloadN w29 od_13_21 (pc' := 22) rfl rfl ?_
          refine W.iinc w29 od_13_22 (pc' := 25) rfl (z := (5 : Int32)) rfl (Ls' := #[.val (.ref b0), .val (.int (6 : Int32)), .val (.ref b1), .val (.int (5 : Int32)), .val (.int (8 : Int32)), .val (.int (9 : Int32)), .val (.int c5), .val (.int (80 : Int32))]) rfl rfl ?_
          refine W.ldB w29 V1 ⟨by decide, by decide⟩ (v := (.int (83 : Int32))) rfl od_13_25 (pc' := 26) rfl ?_
          refine W.istore w29 od_13_26 (pc' := 28) rfl (Ls' := #[.val (.ref b0), .val (.int (6 : Int32)), .val (.ref b1), .val (.int (5 : Int32)), .val (.int (8 : Int32)), .val (.int (9 : Int32)), .val (.int c5), .val (.int (83 : Int32))]) rfl ?_
          refine W.iload w29 od_13_28 (pc' := 30) rfl rfl ?_
          refine W.iload w29 od_13_30 (pc' := 32) rfl rfl ?_
          refine W.callS w29 (ow_66 hw) (ow_67 hw) (ow_68 hw) (ow_69 hw) (by decide) opd_0 (Ctr.pay (c_ci hw w29.old) (own_ew hw) (ow_69 hw) (ow_68 hw) (kf := 1) (kl := 14) (by decide) (by decide)) mN od_13_32 (pc' := 35) rfl rfl rfl (rest := []) rfl (Wd := 0) rfl (by decide) (by decide) (by decide) (by decide) fun v35 T33 h34 M36 w37 q38 => ?_
          obtain ⟨rfl, rfl, e39⟩ := q38
          obtain rfl := e39.symm
          show Go Z _ _ _ κ _ (T33.setTop (mkF (km κ) 35 #[.val (.ref b0), .val (.int (6 : Int32)), .val (.ref b1), .val (.int (5 : Int32)), .val (.int (8 : Int32)), .val (.int (9 : Int32)), .val (.int c5), .val (.int (83 : Int32))] [(.int (ciV c5 (83 : Int32)))]))
          rcases Decidable.em ((ciV c5 (83 : Int32)) = (0 : Int32)) with hc40 | hc40
          · refine W.ifYes w37 od_13_35 (pc' := 41) (by decide) (by decide) ((if0 _ _).trans (teq hc40).1) ?_
            refine W.iconst w37 od_13_41 (pc' := 42) rfl (z := (0 : Int32)) rfl ?_
            exact W.retN w37 (t := .boolean) (z' := (0 : Int32)) rfl rfl (by simp) od_13_42 (M' := []) mN (by decide) (by decide) ⟨congrArg (fun z => some (Value.int z)) (show (0 : Int32) = ((if (ciV c1 (83 : Int32)) = 0 then 0 else (if (ciV c2 (78 : Int32)) = 0 then 0 else (if (ciV c3 (65 : Int32)) = 0 then 0 else (if (ciV c4 (80 : Int32)) = 0 then 0 else (if (ciV c5 (83 : Int32)) = 0 then 0 else (if (ciV c6 (72 : Int32)) = 0 then 0 else (if (ciV c7 (79 : Int32)) = 0 then 0 else (if (ciV c8 (84 : Int32)) = 0 then 0 else 1)))))))) : Int32) from by rw [if_neg hc8, if_neg hc16, if_neg hc24, if_neg hc32, if_pos hc40]), rfl, rfl⟩
          · refine W.ifNo w37 od_13_35 (pc' := 38) rfl ((if0 _ _).trans (feq hc40).1) ?_
            refine W.goto w37 od_13_38 (pc' := 6) (by decide) (by decide) ?_
            refine W.iloadN w37 od_13_6 (pc' := 7) rfl rfl ?_
            refine W.iload w37 od_13_7 (pc' := 9) rfl rfl ?_
            refine W.icmpNo w37 od_13_9 (pc' := 12) rfl (tlt (by decide : (6 : Int32) < (9 : Int32))).2.1 ?_
            refine W.aloadN w37 od_13_12 (pc' := 13) rfl rfl rfl ?_
            refine W.iloadN w37 od_13_13 (pc' := 14) rfl rfl ?_
            refine W.iinc w37 od_13_14 (pc' := 17) rfl (z := (7 : Int32)) rfl (Ls' := #[.val (.ref b0), .val (.int (7 : Int32)), .val (.ref b1), .val (.int (5 : Int32)), .val (.int (8 : Int32)), .val (.int (9 : Int32)), .val (.int c5), .val (.int (83 : Int32))]) rfl rfl ?_
            refine W.ldB w37 V0 ⟨by decide, by decide⟩ (v := (.int c6)) rfl od_13_17 (pc' := 18) rfl ?_
            refine W.istore w37 od_13_18 (pc' := 20) rfl (Ls' := #[.val (.ref b0), .val (.int (7 : Int32)), .val (.ref b1), .val (.int (5 : Int32)), .val (.int (8 : Int32)), .val (.int (9 : Int32)), .val (.int c6), .val (.int (83 : Int32))]) rfl ?_
            refine W.aloadN w37 od_13_20 (pc' := 21) rfl rfl rfl ?_
            refine W.iloadN w37 od_13_21 (pc' := 22) rfl rfl ?_
            refine W.iinc w37 od_13_22 (pc' := 25) rfl (z := (6 : Int32)) rfl (Ls' := #[.val (.ref b0), .val (.int (7 : Int32)), .val (.ref b1), .val (.int (6 : Int32)), .val (.int (8 : Int32)), .val (.int (9 : Int32)), .val (.int c6), .val (.int (83 : Int32))]) rfl rfl ?_
            refine W.ldB w37 V1 ⟨by decide, by decide⟩ (v := (.int (72 : Int32))) rfl od_13_25 (pc' := 26) rfl ?_
            refine W.istore w37 od_13_26 (pc' := 28) rfl (Ls' := #[.val (.ref b0), .val (.int (7 : Int32)), .val (.ref b1), .val (.int (6 : Int32)), .val (.int (8 : Int32)), .val (.int (9 : Int32)), .val (.int c6), .val (.int (72 : Int32))]) rfl ?_
            refine W.iload w37 od_13_28 (pc' := 30) rfl rfl ?_
            refine W.iload w37 od_13_30 (pc' := 32) rfl rfl ?_
            refine W.callS w37 (ow_66 hw) (ow_67 hw) (ow_68 hw) (ow_69 hw) (by decide) opd_0 (Ctr.pay (c_ci hw w37.old) (own_ew hw) (ow_69 hw) (ow_68 hw) (kf := 1) (kl := 14) (by decide) (by decide)) mN od_13_32 (pc' := 35) rfl rfl rfl (rest := []) rfl (Wd := 0) rfl (by decide) (by decide) (by decide) (by decide) fun v43 T41 h42 M44 w45 q46 => ?_
            obtain ⟨rfl, rfl, e47⟩ := q46
            obtain rfl := e47.symm
            show Go Z _ _ _ κ _ (T41.setTop (mkF (km κ) 35 #[.val (.ref b0), .val (.int (7 : Int32)), .val (.ref b1), .val (.int (6 : Int32)), .val (.int (8 : Int32)), .val (.int (9 : Int32)), .val (.int c6), .val (.int (72 : Int32))] [(.int (ciV c6 (72 : Int32)))]))
            rcases Decidable.em ((ciV c6 (72 : Int32)) = (0 : Int32)) with hc48 | hc48
            · refine W.ifYes w45 od_13_35 (pc' := 41) (by decide) (by decide) ((if0 _ _).trans (teq hc48).1) ?_
              refine W.iconst w45 od_13_41 (pc' := 42) rfl (z := (0 : Int32)) rfl ?_
              exact W.retN w45 (t := .boolean) (z' := (0 : Int32)) rfl rfl (by simp) od_13_42 (M' := []) mN (by decide) (by decide) ⟨congrArg (fun z => some (Value.int z)) (show (0 : Int32) = ((if (ciV c1 (83 : Int32)) = 0 then 0 else (if (ciV c2 (78 : Int32)) = 0 then 0 else (if (ciV c3 (65 : Int32)) = 0 then 0 else (if (ciV c4 (80 : Int32)) = 0 then 0 else (if (ciV c5 (83 : Int32)) = 0 then 0 else (if (ciV c6 (72 : Int32)) = 0 then 0 else (if (ciV c7 (79 : Int32)) = 0 then 0 else (if (ciV c8 (84 : Int32)) = 0 then 0 else 1)))))))) : Int32) from by rw [if_neg hc8, if_neg hc16, if_neg hc24, if_neg hc32, if_neg hc40, if_pos hc48]), rfl, rfl⟩
            · refine W.ifNo w45 od_13_35 (pc' := 38) rfl ((if0 _ _).trans (feq hc48).1) ?_
              refine W.goto w45 od_13_38 (pc' := 6) (by decide) (by decide) ?_
              refine W.iloadN w45 od_13_6 (pc' := 7) rfl rfl ?_
              refine W.iload w45 od_13_7 (pc' := 9) rfl rfl ?_
              refine W.icmpNo w45 od_13_9 (pc' := 12) rfl (tlt (by decide : (7 : Int32) < (9 : Int32))).2.1 ?_
              refine W.aloadN w45 od_13_12 (pc' := 13) rfl rfl rfl ?_
              refine W.iloadN w45 od_13_13 (pc' := 14) rfl rfl ?_
              refine W.iinc w45 od_13_14 (pc' := 17) rfl (z := (8 : Int32)) rfl (Ls' := #[.val (.ref b0), .val (.int (8 : Int32)), .val (.ref b1), .val (.int (6 : Int32)), .val (.int (8 : Int32)), .val (.int (9 : Int32)), .val (.int c6), .val (.int (72 : Int32))]) rfl rfl ?_
              refine W.ldB w45 V0 ⟨by decide, by decide⟩ (v := (.int c7)) rfl od_13_17 (pc' := 18) rfl ?_
              refine W.istore w45 od_13_18 (pc' := 20) rfl (Ls' := #[.val (.ref b0), .val (.int (8 : Int32)), .val (.ref b1), .val (.int (6 : Int32)), .val (.int (8 : Int32)), .val (.int (9 : Int32)), .val (.int c7), .val (.int (72 : Int32))]) rfl ?_
              refine W.aloadN w45 od_13_20 (pc' := 21) rfl rfl rfl ?_
              refine W.iloadN w45 od_13_21 (pc' := 22) rfl rfl ?_
              refine W.iinc w45 od_13_22 (pc' := 25) rfl (z := (7 : Int32)) rfl (Ls' := #[.val (.ref b0), .val (.int (8 : Int32)), .val (.ref b1), .val (.int (7 : Int32)), .val (.int (8 : Int32)), .val (.int (9 : Int32)), .val (.int c7), .val (.int (72 : Int32))]) rfl rfl ?_
              refine W.ldB w45 V1 ⟨by decide, by decide⟩ (v := (.int (79 : Int32))) rfl od_13_25 (pc' := 26) rfl ?_
              refine W.istore w45 od_13_26 (pc' := 28) rfl (Ls' := #[.val (.ref b0), .val (.int (8 : Int32)), .val (.ref b1), .val (.int (7 : Int32)), .val (.int (8 : Int32)), .val (.int (9 : Int32)), .val (.int c7), .val (.int (79 : Int32))]) rfl ?_
              refine W.iload w45 od_13_28 (pc' := 30) rfl rfl ?_
              refine W.iload w45 od_13_30 (pc' := 32) rfl rfl ?_
              refine W.callS w45 (ow_66 hw) (ow_67 hw) (ow_68 hw) (ow_69 hw) (by decide) opd_0 (Ctr.pay (c_ci hw w45.old) (own_ew hw) (ow_69 hw) (ow_68 hw) (kf := 1) (kl := 14) (by decide) (by decide)) mN od_13_32 (pc' := 35) rfl rfl rfl (rest := []) rfl (Wd := 0) rfl (by decide) (by decide) (by decide) (by decide) fun v51 T49 h50 M52 w53 q54 => ?_
              obtain ⟨rfl, rfl, e55⟩ := q54
              obtain rfl := e55.symm
              show Go Z _ _ _ κ _ (T49.setTop (mkF (km κ) 35 #[.val (.ref b0), .val (.int (8 : Int32)), .val (.ref b1), .val (.int (7 : Int32)), .val (.int (8 : Int32)), .val (.int (9 : Int32)), .val (.int c7), .val (.int (79 : Int32))] [(.int (ciV c7 (79 : Int32)))]))
              rcases Decidable.em ((ciV c7 (79 : Int32)) = (0 : Int32)) with hc56 | hc56
              · refine W.ifYes w53 od_13_35 (pc' := 41) (by decide) (by decide) ((if0 _ _).trans (teq hc56).1) ?_
                refine W.iconst w53 od_13_41 (pc' := 42) rfl (z := (0 : Int32)) rfl ?_
                exact W.retN w53 (t := .boolean) (z' := (0 : Int32)) rfl rfl (by simp) od_13_42 (M' := []) mN (by decide) (by decide) ⟨congrArg (fun z => some (Value.int z)) (show (0 : Int32) = ((if (ciV c1 (83 : Int32)) = 0 then 0 else (if (ciV c2 (78 : Int32)) = 0 then 0 else (if (ciV c3 (65 : Int32)) = 0 then 0 else (if (ciV c4 (80 : Int32)) = 0 then 0 else (if (ciV c5 (83 : Int32)) = 0 then 0 else (if (ciV c6 (72 : Int32)) = 0 then 0 else (if (ciV c7 (79 : Int32)) = 0 then 0 else (if (ciV c8 (84 : Int32)) = 0 then 0 else 1)))))))) : Int32) from by rw [if_neg hc8, if_neg hc16, if_neg hc24, if_neg hc32, if_neg hc40, if_neg hc48, if_pos hc56]), rfl, rfl⟩
              · refine W.ifNo w53 od_13_35 (pc' := 38) rfl ((if0 _ _).trans (feq hc56).1) ?_
                refine W.goto w53 od_13_38 (pc' := 6) (by decide) (by decide) ?_
                refine W.iloadN w53 od_13_6 (pc' := 7) rfl rfl ?_
                refine W.iload w53 od_13_7 (pc' := 9) rfl rfl ?_
                refine W.icmpNo w53 od_13_9 (pc' := 12) rfl (tlt (by decide : (8 : Int32) < (9 : Int32))).2.1 ?_
                refine W.aloadN w53 od_13_12 (pc' := 13) rfl rfl rfl ?_
                refine W.iloadN w53 od_13_13 (pc' := 14) rfl rfl ?_
                refine W.iinc w53 od_13_14 (pc' := 17) rfl (z := (9 : Int32)) rfl (Ls' := #[.val (.ref b0), .val (.int (9 : Int32)), .val (.ref b1), .val (.int (7 : Int32)), .val (.int (8 : Int32)), .val (.int (9 : Int32)), .val (.int c7), .val (.int (79 : Int32))]) rfl rfl ?_
                refine W.ldB w53 V0 ⟨by decide, by decide⟩ (v := (.int c8)) rfl od_13_17 (pc' := 18) rfl ?_
                refine W.istore w53 od_13_18 (pc' := 20) rfl (Ls' := #[.val (.ref b0), .val (.int (9 : Int32)), .val (.ref b1), .val (.int (7 : Int32)), .val (.int (8 : Int32)), .val (.int (9 : Int32)), .val (.int c8), .val (.int (79 : Int32))]) rfl ?_
                refine W.aloadN w53 od_13_20 (pc' := 21) rfl rfl rfl ?_
                refine W.iloadN w53 od_13_21 (pc' := 22) rfl rfl ?_
                refine W.iinc w53 od_13_22 (pc' := 25) rfl (z := (8 : Int32)) rfl (Ls' := #[.val (.ref b0), .val (.int (9 : Int32)), .val (.ref b1), .val (.int (8 : Int32)), .val (.int (8 : Int32)), .val (.int (9 : Int32)), .val (.int c8), .val (.int (79 : Int32))]) rfl rfl ?_
                refine W.ldB w53 V1 ⟨by decide, by decide⟩ (v := (.int (84 : Int32))) rfl od_13_25 (pc' := 26) rfl ?_
                refine W.istore w53 od_13_26 (pc' := 28) rfl (Ls' := #[.val (.ref b0), .val (.int (9 : Int32)), .val (.ref b1), .val (.int (8 : Int32)), .val (.int (8 : Int32)), .val (.int (9 : Int32)), .val (.int c8), .val (.int (84 : Int32))]) rfl ?_
                refine W.iload w53 od_13_28 (pc' := 30) rfl rfl ?_
                refine W.iload w53 od_13_30 (pc' := 32) rfl rfl ?_
                refine W.callS w53 (ow_66 hw) (ow_67 hw) (ow_68 hw) (ow_69 hw) (by decide) opd_0 (Ctr.pay (c_ci hw w53.old) (own_ew hw) (ow_69 hw) (ow_68 hw) (kf := 1) (kl := 14) (by decide) (by decide)) mN od_13_32 (pc' := 35) rfl rfl rfl (rest := []) rfl (Wd := 0) rfl (by decide) (by decide) (by decide) (by decide) fun v59 T57 h58 M60 w61 q62 => ?_
                obtain ⟨rfl, rfl, e63⟩ := q62
                obtain rfl := e63.symm
                show Go Z _ _ _ κ _ (T57.setTop (mkF (km κ) 35 #[.val (.ref b0), .val (.int (9 : Int32)), .val (.ref b1), .val (.int (8 : Int32)), .val (.int (8 : Int32)), .val (.int (9 : Int32)), .val (.int c8), .val (.int (84 : Int32))] [(.int (ciV c8 (84 : Int32)))]))
                rcases Decidable.em ((ciV c8 (84 : Int32)) = (0 : Int32)) with hc64 | hc64
                · refine W.ifYes w61 od_13_35 (pc' := 41) (by decide) (by decide) ((if0 _ _).trans (teq hc64).1) ?_
                  refine W.iconst w61 od_13_41 (pc' := 42) rfl (z := (0 : Int32)) rfl ?_
                  exact W.retN w61 (t := .boolean) (z' := (0 : Int32)) rfl rfl (by simp) od_13_42 (M' := []) mN (by decide) (by decide) ⟨congrArg (fun z => some (Value.int z)) (show (0 : Int32) = ((if (ciV c1 (83 : Int32)) = 0 then 0 else (if (ciV c2 (78 : Int32)) = 0 then 0 else (if (ciV c3 (65 : Int32)) = 0 then 0 else (if (ciV c4 (80 : Int32)) = 0 then 0 else (if (ciV c5 (83 : Int32)) = 0 then 0 else (if (ciV c6 (72 : Int32)) = 0 then 0 else (if (ciV c7 (79 : Int32)) = 0 then 0 else (if (ciV c8 (84 : Int32)) = 0 then 0 else 1)))))))) : Int32) from by rw [if_neg hc8, if_neg hc16, if_neg hc24, if_neg hc32, if_neg hc40, if_neg hc48, if_neg hc56, if_pos hc64]), rfl, rfl⟩
                · refine W.ifNo w61 od_13_35 (pc' := 38) rfl ((if0 _ _).trans (feq hc64).1) ?_
                  refine W.goto w61 od_13_38 (pc' := 6) (by decide) (by decide) ?_
                  refine W.iloadN w61 od_13_6 (pc' := 7) rfl rfl ?_
                  refine W.iload w61 od_13_7 (pc' := 9) rfl rfl ?_
                  refine W.icmpYes w61 od_13_9 (pc' := 43) (by decide) (by decide) (flt (by decide : ¬ ((9 : Int32) < (9 : Int32)))).2.1 ?_
                  refine W.iconst w61 od_13_43 (pc' := 44) rfl (z := (1 : Int32)) rfl ?_
                  exact W.retN w61 (t := .boolean) (z' := (1 : Int32)) rfl rfl (by simp) od_13_44 (M' := []) mN (by decide) (by decide) ⟨congrArg (fun z => some (Value.int z)) (show (1 : Int32) = ((if (ciV c1 (83 : Int32)) = 0 then 0 else (if (ciV c2 (78 : Int32)) = 0 then 0 else (if (ciV c3 (65 : Int32)) = 0 then 0 else (if (ciV c4 (80 : Int32)) = 0 then 0 else (if (ciV c5 (83 : Int32)) = 0 then 0 else (if (ciV c6 (72 : Int32)) = 0 then 0 else (if (ciV c7 (79 : Int32)) = 0 then 0 else (if (ciV c8 (84 : Int32)) = 0 then 0 else 1)))))))) : Int32) from by rw [if_neg hc8, if_neg hc16, if_neg hc24, if_neg hc32, if_neg hc40, if_neg hc48, if_neg hc56, if_neg hc64]), rfl, rfl⟩
set_option maxRecDepth 65536 in
set_option maxHeartbeats 40000000 in
theorem c_rmci12 {l : Launch} {Z : State} {a0 : Array Value} (hw : HW Z a0) {h0 : Heap} {b0 b1 : Addr} {k0 k1 : ClassId} {c0 c1 c2 c3 c4 c5 c6 c7 c8 c9 c10 c11 : Int32} (V0 : Arv Z h0 b0 k0 .byte (12 : Int32) [.int c0, .int c1, .int c2, .int c3, .int c4, .int c5, .int c6, .int c7, .int c8, .int c9, .int c10, .int c11] (.int 0)) (V1 : Arv Z h0 b1 k1 .byte (8 : Int32) [.int (83 : Int32), .int (78 : Int32), .int (65 : Int32), .int (80 : Int32), .int (83 : Int32), .int (72 : Int32), .int (79 : Int32), .int (84 : Int32)] (.int 0)) (hO : Old Z Z.heap.size h0) : Ctr l Z EL0 nw0 ({ cls := "java/lang/StringLatin1", name := "regionMatchesCI", desc := "([BI[BII)Z" } : Jvm.MethodName) jdk_43_method_30_code 8 (some .boolean) ({ frames := 1, cells := 0, slots := 0, locals := 14 } : Room) [.ref b0, .int (4 : Int32), .ref b1, .int 0, .int 8] h0 [] (fun v h M' => v = some (.int (if (ciV c4 (83 : Int32)) = 0 then 0 else (if (ciV c5 (78 : Int32)) = 0 then 0 else (if (ciV c6 (65 : Int32)) = 0 then 0 else (if (ciV c7 (80 : Int32)) = 0 then 0 else (if (ciV c8 (83 : Int32)) = 0 then 0 else (if (ciV c9 (72 : Int32)) = 0 then 0 else (if (ciV c10 (79 : Int32)) = 0 then 0 else (if (ciV c11 (84 : Int32)) = 0 then 0 else 1))))))))) ∧ M' = [] ∧ h = h0) := by
  refine of_body (a0 := a0) opn_4 (own_ew hw) hO (Ls := #[.val (.ref b0), .val (.int (4 : Int32)), .val (.ref b1), .val (.int (0 : Int32)), .val (.int (8 : Int32)), .unset, .unset, .unset]) (fun m => by first | (simp [entryFrame, mkF, argsToLocals, Value.category]; done) | rfl) (fun κ T0 w0 hnm => ?_)
  refine W.iloadN w0 od_13_0 (pc' := 1) rfl rfl ?_
  refine W.iload w0 od_13_1 (pc' := 3) rfl rfl ?_
  refine W.iadd w0 od_13_3 (pc' := 4) rfl (z := (12 : Int32)) rfl ?_
  refine W.istore w0 od_13_4 (pc' := 6) rfl (Ls' := #[.val (.ref b0), .val (.int (4 : Int32)), .val (.ref b1), .val (.int (0 : Int32)), .val (.int (8 : Int32)), .val (.int (12 : Int32)), .unset, .unset]) rfl ?_
  refine W.iloadN w0 od_13_6 (pc' := 7) rfl rfl ?_
  refine W.iload w0 od_13_7 (pc' := 9) rfl rfl ?_
  refine W.icmpNo w0 od_13_9 (pc' := 12) rfl (tlt (by decide : (4 : Int32) < (12 : Int32))).2.1 ?_
  refine W.aloadN w0 od_13_12 (pc' := 13) rfl rfl rfl ?_
  refine W.iloadN w0 od_13_13 (pc' := 14) rfl rfl ?_
  refine W.iinc w0 od_13_14 (pc' := 17) rfl (z := (5 : Int32)) rfl (Ls' := #[.val (.ref b0), .val (.int (5 : Int32)), .val (.ref b1), .val (.int (0 : Int32)), .val (.int (8 : Int32)), .val (.int (12 : Int32)), .unset, .unset]) rfl rfl ?_
  refine W.ldB w0 V0 ⟨by decide, by decide⟩ (v := (.int c4)) rfl od_13_17 (pc' := 18) rfl ?_
  refine W.istore w0 od_13_18 (pc' := 20) rfl (Ls' := #[.val (.ref b0), .val (.int (5 : Int32)), .val (.ref b1), .val (.int (0 : Int32)), .val (.int (8 : Int32)), .val (.int (12 : Int32)), .val (.int c4), .unset]) rfl ?_
  refine W.aloadN w0 od_13_20 (pc' := 21) rfl rfl rfl ?_
  refine W.iloadN w0 od_13_21 (pc' := 22) rfl rfl ?_
  refine W.iinc w0 od_13_22 (pc' := 25) rfl (z := (1 : Int32)) rfl (Ls' := #[.val (.ref b0), .val (.int (5 : Int32)), .val (.ref b1), .val (.int (1 : Int32)), .val (.int (8 : Int32)), .val (.int (12 : Int32)), .val (.int c4), .unset]) rfl rfl ?_
  refine W.ldB w0 V1 ⟨by decide, by decide⟩ (v := (.int (83 : Int32))) rfl od_13_25 (pc' := 26) rfl ?_
  refine W.istore w0 od_13_26 (pc' := 28) rfl (Ls' := #[.val (.ref b0), .val (.int (5 : Int32)), .val (.ref b1), .val (.int (1 : Int32)), .val (.int (8 : Int32)), .val (.int (12 : Int32)), .val (.int c4), .val (.int (83 : Int32))]) rfl ?_
  refine W.iload w0 od_13_28 (pc' := 30) rfl rfl ?_
  refine W.iload w0 od_13_30 (pc' := 32) rfl rfl ?_
  refine W.callS w0 (ow_66 hw) (ow_67 hw) (ow_68 hw) (ow_69 hw) (by decide) opd_0 (Ctr.pay (c_ci hw w0.old) (own_ew hw) (ow_69 hw) (ow_68 hw) (kf := 1) (kl := 14) (by decide) (by decide)) mN od_13_32 (pc' := 35) rfl rfl rfl (rest := []) rfl (Wd := 0) rfl (by decide) (by decide) (by decide) (by decide) fun v3 T1 h2 M4 w5 q6 => ?_
  obtain ⟨rfl, rfl, e7⟩ := q6
  obtain rfl := e7.symm
  show Go Z _ _ _ κ _ (T1.setTop (mkF (km κ) 35 #[.val (.ref b0), .val (.int (5 : Int32)), .val (.ref b1), .val (.int (1 : Int32)), .val (.int (8 : Int32)), .val (.int (12 : Int32)), .val (.int c4), .val (.int (83 : Int32))] [(.int (ciV c4 (83 : Int32)))]))
  rcases Decidable.em ((ciV c4 (83 : Int32)) = (0 : Int32)) with hc8 | hc8
  · refine W.ifYes w5 od_13_35 (pc' := 41) (by decide) (by decide) ((if0 _ _).trans (teq hc8).1) ?_
    refine W.iconst w5 od_13_41 (pc' := 42) rfl (z := (0 : Int32)) rfl ?_
    exact W.retN w5 (t := .boolean) (z' := (0 : Int32)) rfl rfl (by simp) od_13_42 (M' := []) mN (by decide) (by decide) ⟨congrArg (fun z => some (Value.int z)) (show (0 : Int32) = ((if (ciV c4 (83 : Int32)) = 0 then 0 else (if (ciV c5 (78 : Int32)) = 0 then 0 else (if (ciV c6 (65 : Int32)) = 0 then 0 else (if (ciV c7 (80 : Int32)) = 0 then 0 else (if (ciV c8 (83 : Int32)) = 0 then 0 else (if (ciV c9 (72 : Int32)) = 0 then 0 else (if (ciV c10 (79 : Int32)) = 0 then 0 else (if (ciV c11 (84 : Int32)) = 0 then 0 else 1)))))))) : Int32) from by rw [if_pos hc8]), rfl, rfl⟩
  · refine W.ifNo w5 od_13_35 (pc' := 38) rfl ((if0 _ _).trans (feq hc8).1) ?_
    refine W.goto w5 od_13_38 (pc' := 6) (by decide) (by decide) ?_
    refine W.iloadN w5 od_13_6 (pc' := 7) rfl rfl ?_
    refine W.iload w5 od_13_7 (pc' := 9) rfl rfl ?_
    refine W.icmpNo w5 od_13_9 (pc' := 12) rfl (tlt (by decide : (5 : Int32) < (12 : Int32))).2.1 ?_
    refine W.aloadN w5 od_13_12 (pc' := 13) rfl rfl rfl ?_
    refine W.iloadN w5 od_13_13 (pc' := 14) rfl rfl ?_
    refine W.iinc w5 od_13_14 (pc' := 17) rfl (z := (6 : Int32)) rfl (Ls' := #[.val (.ref b0), .val (.int (6 : Int32)), .val (.ref b1), .val (.int (1 : Int32)), .val (.int (8 : Int32)), .val (.int (12 : Int32)), .val (.int c4), .val (.int (83 : Int32))]) rfl rfl ?_
    refine W.ldB w5 V0 ⟨by decide, by decide⟩ (v := (.int c5)) rfl od_13_17 (pc' := 18) rfl ?_
    refine W.istore w5 od_13_18 (pc' := 20) rfl (Ls' := #[.val (.ref b0), .val (.int (6 : Int32)), .val (.ref b1), .val (.int (1 : Int32)), .val (.int (8 : Int32)), .val (.int (12 : Int32)), .val (.int c5), .val (.int (83 : Int32))]) rfl ?_
    refine W.aloadN w5 od_13_20 (pc' := 21) rfl rfl rfl ?_
    refine W.iloadN w5 od_13_21 (pc' := 22) rfl rfl ?_
    refine W.iinc w5 od_13_22 (pc' := 25) rfl (z := (2 : Int32)) rfl (Ls' := #[.val (.ref b0), .val (.int (6 : Int32)), .val (.ref b1), .val (.int (2 : Int32)), .val (.int (8 : Int32)), .val (.int (12 : Int32)), .val (.int c5), .val (.int (83 : Int32))]) rfl rfl ?_
    refine W.ldB w5 V1 ⟨by decide, by decide⟩ (v := (.int (78 : Int32))) rfl od_13_25 (pc' := 26) rfl ?_
    refine W.istore w5 od_13_26 (pc' := 28) rfl (Ls' := #[.val (.ref b0), .val (.int (6 : Int32)), .val (.ref b1), .val (.int (2 : Int32)), .val (.int (8 : Int32)), .val (.int (12 : Int32)), .val (.int c5), .val (.int (78 : Int32))]) rfl ?_
    refine W.iload w5 od_13_28 (pc' := 30) rfl rfl ?_
    refine W.iload w5 od_13_30 (pc' := 32) rfl rfl ?_
    refine W.callS w5 (ow_66 hw) (ow_67 hw) (ow_68 hw) (ow_69 hw) (by decide) opd_0 (Ctr.pay (c_ci hw w5.old) (own_ew hw) (ow_69 hw) (ow_68 hw) (kf := 1) (kl := 14) (by decide) (by decide)) mN od_13_32 (pc' := 35) rfl rfl rfl (rest := []) rfl (Wd := 0) rfl (by decide) (by decide) (by decide) (by decide) fun v11 T9 h10 M12 w13 q14 => ?_
    obtain ⟨rfl, rfl, e15⟩ := q14
    obtain rfl := e15.symm
    show Go Z _ _ _ κ _ (T9.setTop (mkF (km κ) 35 #[.val (.ref b0), .val (.int (6 : Int32)), .val (.ref b1), .val (.int (2 : Int32)), .val (.int (8 : Int32)), .val (.int (12 : Int32)), .val (.int c5), .val (.int (78 : Int32))] [(.int (ciV c5 (78 : Int32)))]))
    rcases Decidable.em ((ciV c5 (78 : Int32)) = (0 : Int32)) with hc16 | hc16
    · refine W.ifYes w13 od_13_35 (pc' := 41) (by decide) (by decide) ((if0 _ _).trans (teq hc16).1) ?_
      refine W.iconst w13 od_13_41 (pc' := 42) rfl (z := (0 : Int32)) rfl ?_
      exact W.retN w13 (t := .boolean) (z' := (0 : Int32)) rfl rfl (by simp) od_13_42 (M' := []) mN (by decide) (by decide) ⟨congrArg (fun z => some (Value.int z)) (show (0 : Int32) = ((if (ciV c4 (83 : Int32)) = 0 then 0 else (if (ciV c5 (78 : Int32)) = 0 then 0 else (if (ciV c6 (65 : Int32)) = 0 then 0 else (if (ciV c7 (80 : Int32)) = 0 then 0 else (if (ciV c8 (83 : Int32)) = 0 then 0 else (if (ciV c9 (72 : Int32)) = 0 then 0 else (if (ciV c10 (79 : Int32)) = 0 then 0 else (if (ciV c11 (84 : Int32)) = 0 then 0 else 1)))))))) : Int32) from by rw [if_neg hc8, if_pos hc16]), rfl, rfl⟩
    · refine W.ifNo w13 od_13_35 (pc' := 38) rfl ((if0 _ _).trans (feq hc16).1) ?_
      refine W.goto w13 od_13_38 (pc' := 6) (by decide) (by decide) ?_
      refine W.iloadN w13 od_13_6 (pc' := 7) rfl rfl ?_
      refine W.iload w13 od_13_7 (pc' := 9) rfl rfl ?_
      refine W.icmpNo w13 od_13_9 (pc' := 12) rfl (tlt (by decide : (6 : Int32) < (12 : Int32))).2.1 ?_
      refine W.aloadN w13 od_13_12 (pc' := 13) rfl rfl rfl ?_
      refine W.iloadN w13 od_13_13 (pc' := 14) rfl rfl ?_
      refine W.iinc w13 od_13_14 (pc' := 17) rfl (z := (7 : Int32)) rfl (Ls' := #[.val (.ref b0), .val (.int (7 : Int32)), .val (.ref b1), .val (.int (2 : Int32)), .val (.int (8 : Int32)), .val (.int (12 : Int32)), .val (.int c5), .val (.int (78 : Int32))]) rfl rfl ?_
      refine W.ldB w13 V0 ⟨by decide, by decide⟩ (v := (.int c6)) rfl od_13_17 (pc' := 18) rfl ?_
      refine W.istore w13 od_13_18 (pc' := 20) rfl (Ls' := #[.val (.ref b0), .val (.int (7 : Int32)), .val (.ref b1), .val (.int (2 : Int32)), .val (.int (8 : Int32)), .val (.int (12 : Int32)), .val (.int c6), .val (.int (78 : Int32))]) rfl ?_
      refine W.aloadN w13 od_13_20 (pc' := 21) rfl rfl rfl ?_
      refine W.iloadN w13 od_13_21 (pc' := 22) rfl rfl ?_
      refine W.iinc w13 od_13_22 (pc' := 25) rfl (z := (3 : Int32)) rfl (Ls' := #[.val (.ref b0), .val (.int (7 : Int32)), .val (.ref b1), .val (.int (3 : Int32)), .val (.int (8 : Int32)), .val (.int (12 : Int32)), .val (.int c6), .val (.int (78 : Int32))]) rfl rfl ?_
      refine W.ldB w13 V1 ⟨by decide, by decide⟩ (v := (.int (65 : Int32))) rfl od_13_25 (pc' := 26) rfl ?_
      refine W.istore w13 od_13_26 (pc' := 28) rfl (Ls' := #[.val (.ref b0), .val (.int (7 : Int32)), .val (.ref b1), .val (.int (3 : Int32)), .val (.int (8 : Int32)), .val (.int (12 : Int32)), .val (.int c6), .val (.int (65 : Int32))]) rfl ?_
      refine W.iload w13 od_13_28 (pc' := 30) rfl rfl ?_
      refine W.iload w13 od_13_30 (pc' := 32) rfl rfl ?_
      refine W.callS w13 (ow_66 hw) (ow_67 hw) (ow_68 hw) (ow_69 hw) (by decide) opd_0 (Ctr.pay (c_ci hw w13.old) (own_ew hw) (ow_69 hw) (ow_68 hw) (kf := 1) (kl := 14) (by decide) (by decide)) mN od_13_32 (pc' := 35) rfl rfl rfl (rest := []) rfl (Wd := 0) rfl (by decide) (by decide) (by decide) (by decide) fun v19 T17 h18 M20 w21 q22 => ?_
      obtain ⟨rfl, rfl, e23⟩ := q22
      obtain rfl := e23.symm
      show Go Z _ _ _ κ _ (T17.setTop (mkF (km κ) 35 #[.val (.ref b0), .val (.int (7 : Int32)), .val (.ref b1), .val (.int (3 : Int32)), .val (.int (8 : Int32)), .val (.int (12 : Int32)), .val (.int c6), .val (.int (65 : Int32))] [(.int (ciV c6 (65 : Int32)))]))
      rcases Decidable.em ((ciV c6 (65 : Int32)) = (0 : Int32)) with hc24 | hc24
      · refine W.ifYes w21 od_13_35 (pc' := 41) (by decide) (by decide) ((if0 _ _).trans (teq hc24).1) ?_
        refine W.iconst w21 od_13_41 (pc' := 42) rfl (z := (0 : Int32)) rfl ?_
        exact W.retN w21 (t := .boolean) (z' := (0 : Int32)) rfl rfl (by simp) od_13_42 (M' := []) mN (by decide) (by decide) ⟨congrArg (fun z => some (Value.int z)) (show (0 : Int32) = ((if (ciV c4 (83 : Int32)) = 0 then 0 else (if (ciV c5 (78 : Int32)) = 0 then 0 else (if (ciV c6 (65 : Int32)) = 0 then 0 else (if (ciV c7 (80 : Int32)) = 0 then 0 else (if (ciV c8 (83 : Int32)) = 0 then 0 else (if (ciV c9 (72 : Int32)) = 0 then 0 else (if (ciV c10 (79 : Int32)) = 0 then 0 else (if (ciV c11 (84 : Int32)) = 0 then 0 else 1)))))))) : Int32) from by rw [if_neg hc8, if_neg hc16, if_pos hc24]), rfl, rfl⟩
      · refine W.ifNo w21 od_13_35 (pc' := 38) rfl ((if0 _ _).trans (feq hc24).1) ?_
        refine W.goto w21 od_13_38 (pc' := 6) (by decide) (by decide) ?_
        refine W.iloadN w21 od_13_6 (pc' := 7) rfl rfl ?_
        refine W.iload w21 od_13_7 (pc' := 9) rfl rfl ?_
        refine W.icmpNo w21 od_13_9 (pc' := 12) rfl (tlt (by decide : (7 : Int32) < (12 : Int32))).2.1 ?_
        refine W.aloadN w21 od_13_12 (pc' := 13) rfl rfl rfl ?_
        refine W.iloadN w21 od_13_13 (pc' := 14) rfl rfl ?_
        refine W.iinc w21 od_13_14 (pc' := 17) rfl (z := (8 : Int32)) rfl (Ls' := #[.val (.ref b0), .val (.int (8 : Int32)), .val (.ref b1), .val (.int (3 : Int32)), .val (.int (8 : Int32)), .val (.int (12 : Int32)), .val (.int c6), .val (.int (65 : Int32))]) rfl rfl ?_
        refine W.ldB w21 V0 ⟨by decide, by decide⟩ (v := (.int c7)) rfl od_13_17 (pc' := 18) rfl ?_
        refine W.istore w21 od_13_18 (pc' := 20) rfl (Ls' := #[.val (.ref b0), .val (.int (8 : Int32)), .val (.ref b1), .val (.int (3 : Int32)), .val (.int (8 : Int32)), .val (.int (12 : Int32)), .val (.int c7), .val (.int (65 : Int32))]) rfl ?_
        refine W.aloadN w21 od_13_20 (pc' := 21) rfl rfl rfl ?_
        refine W.iloadN w21 od_13_21 (pc' := 22) rfl rfl ?_
        refine W.iinc w21 od_13_22 (pc' := 25) rfl (z := (4 : Int32)) rfl (Ls' := #[.val (.ref b0), .val (.int (8 : Int32)), .val (.ref b1), .val (.int (4 : Int32)), .val (.int (8 : Int32)), .val (.int (12 : Int32)), .val (.int c7), .val (.int (65 : Int32))]) rfl rfl ?_
        refine W.ldB w21 V1 ⟨by decide, by decide⟩ (v := (.int (80 : Int32))) rfl od_13_25 (pc' := 26) rfl ?_
        refine W.istore w21 od_13_26 (pc' := 28) rfl (Ls' := #[.val (.ref b0), .val (.int (8 : Int32)), .val (.ref b1), .val (.int (4 : Int32)), .val (.int (8 : Int32)), .val (.int (12 : Int32)), .val (.int c7), .val (.int (80 : Int32))]) rfl ?_
        refine W.iload w21 od_13_28 (pc' := 30) rfl rfl ?_
        refine W.iload w21 od_13_30 (pc' := 32) rfl rfl ?_
        refine W.callS w21 (ow_66 hw) (ow_67 hw) (ow_68 hw) (ow_69 hw) (by decide) opd_0 (Ctr.pay (c_ci hw w21.old) (own_ew hw) (ow_69 hw) (ow_68 hw) (kf := 1) (kl := 14) (by decide) (by decide)) mN od_13_32 (pc' := 35) rfl rfl rfl (rest := []) rfl (Wd := 0) rfl (by decide) (by decide) (by decide) (by decide) fun v27 T25 h26 M28 w29 q30 => ?_
        obtain ⟨rfl, rfl, e31⟩ := q30
        obtain rfl := e31.symm
        show Go Z _ _ _ κ _ (T25.setTop (mkF (km κ) 35 #[.val (.ref b0), .val (.int (8 : Int32)), .val (.ref b1), .val (.int (4 : Int32)), .val (.int (8 : Int32)), .val (.int (12 : Int32)), .val (.int c7), .val (.int (80 : Int32))] [(.int (ciV c7 (80 : Int32)))]))
        rcases Decidable.em ((ciV c7 (80 : Int32)) = (0 : Int32)) with hc32 | hc32
        · refine W.ifYes w29 od_13_35 (pc' := 41) (by decide) (by decide) ((if0 _ _).trans (teq hc32).1) ?_
          refine W.iconst w29 od_13_41 (pc' := 42) rfl (z := (0 : Int32)) rfl ?_
          exact W.retN w29 (t := .boolean) (z' := (0 : Int32)) rfl rfl (by simp) od_13_42 (M' := []) mN (by decide) (by decide) ⟨congrArg (fun z => some (Value.int z)) (show (0 : Int32) = ((if (ciV c4 (83 : Int32)) = 0 then 0 else (if (ciV c5 (78 : Int32)) = 0 then 0 else (if (ciV c6 (65 : Int32)) = 0 then 0 else (if (ciV c7 (80 : Int32)) = 0 then 0 else (if (ciV c8 (83 : Int32)) = 0 then 0 else (if (ciV c9 (72 : Int32)) = 0 then 0 else (if (ciV c10 (79 : Int32)) = 0 then 0 else (if (ciV c11 (84 : Int32)) = 0 then 0 else 1)))))))) : Int32) from by rw [if_neg hc8, if_neg hc16, if_neg hc24, if_pos hc32]), rfl, rfl⟩
        · refine W.ifNo w29 od_13_35 (pc' := 38) rfl ((if0 _ _).trans (feq hc32).1) ?_
          refine W.goto w29 od_13_38 (pc' := 6) (by decide) (by decide) ?_
          refine W.iloadN w29 od_13_6 (pc' := 7) rfl rfl ?_
          refine W.iload w29 od_13_7 (pc' := 9) rfl rfl ?_
          refine W.icmpNo w29 od_13_9 (pc' := 12) rfl (tlt (by decide : (8 : Int32) < (12 : Int32))).2.1 ?_
          refine W.aloadN w29 od_13_12 (pc' := 13) rfl rfl rfl ?_
          refine W.iloadN w29 od_13_13 (pc' := 14) rfl rfl ?_
          refine W.iinc w29 od_13_14 (pc' := 17) rfl (z := (9 : Int32)) rfl (Ls' := #[.val (.ref b0), .val (.int (9 : Int32)), .val (.ref b1), .val (.int (4 : Int32)), .val (.int (8 : Int32)), .val (.int (12 : Int32)), .val (.int c7), .val (.int (80 : Int32))]) rfl rfl ?_
          refine W.ldB w29 V0 ⟨by decide, by decide⟩ (v := (.int c8)) rfl od_13_17 (pc' := 18) rfl ?_
          refine W.istore w29 od_13_18 (pc' := 20) rfl (Ls' := #[.val (.ref b0), .val (.int (9 : Int32)), .val (.ref b1), .val (.int (4 : Int32)), .val (.int (8 : Int32)), .val (.int (12 : Int32)), .val (.int c8), .val (.int (80 : Int32))]) rfl ?_
          refine W.aloadN w29 od_13_20 (pc' := 21) rfl rfl rfl ?_
          refine W.iloadN w29 od_13_21 (pc' := 22) rfl rfl ?_
          refine W.iinc w29 od_13_22 (pc' := 25) rfl (z := (5 : Int32)) rfl (Ls' := #[.val (.ref b0), .val (.int (9 : Int32)), .val (.ref b1), .val (.int (5 : Int32)), .val (.int (8 : Int32)), .val (.int (12 : Int32)), .val (.int c8), .val (.int (80 : Int32))]) rfl rfl ?_
          refine W.ldB w29 V1 ⟨by decide, by decide⟩ (v := (.int (83 : Int32))) rfl od_13_25 (pc' := 26) rfl ?_
          refine W.istore w29 od_13_26 (pc' := 28) rfl (Ls' := #[.val (.ref b0), .val (.int (9 : Int32)), .val (.ref b1), .val (.int (5 : Int32)), .val (.int (8 : Int32)), .val (.int (12 : Int32)), .val (.int c8), .val (.int (83 : Int32))]) rfl ?_
          refine W.iload w29 od_13_28 (pc' := 30) rfl rfl ?_
          refine W.iload w29 od_13_30 (pc' := 32) rfl rfl ?_
          refine W.callS w29 (ow_66 hw) (ow_67 hw) (ow_68 hw) (ow_69 hw) (by decide) opd_0 (Ctr.pay (c_ci hw w29.old) (own_ew hw) (ow_69 hw) (ow_68 hw) (kf := 1) (kl := 14) (by decide) (by decide)) mN od_13_32 (pc' := 35) rfl rfl rfl (rest := []) rfl (Wd := 0) rfl (by decide) (by decide) (by decide) (by decide) fun v35 T33 h34 M36 w37 q38 => ?_
          obtain ⟨rfl, rfl, e39⟩ := q38
          obtain rfl := e39.symm
          show Go Z _ _ _ κ _ (T33.setTop (mkF (km κ) 35 #[.val (.ref b0), .val (.int (9 : Int32)), .val (.ref b1), .val (.int (5 : Int32)), .val (.int (8 : Int32)), .val (.int (12 : Int32)), .val (.int c8), .val (.int (83 : Int32))] [(.int (ciV c8 (83 : Int32)))]))
          rcases Decidable.em ((ciV c8 (83 : Int32)) = (0 : Int32)) with hc40 | hc40
          · refine W.ifYes w37 od_13_35 (pc' := 41) (by decide) (by decide) ((if0 _ _).trans (teq hc40).1) ?_
            refine W.iconst w37 od_13_41 (pc' := 42) rfl (z := (0 : Int32)) rfl ?_
            exact W.retN w37 (t := .boolean) (z' := (0 : Int32)) rfl rfl (by simp) od_13_42 (M' := []) mN (by decide) (by decide) ⟨congrArg (fun z => some (Value.int z)) (show (0 : Int32) = ((if (ciV c4 (83 : Int32)) = 0 then 0 else (if (ciV c5 (78 : Int32)) = 0 then 0 else (if (ciV c6 (65 : Int32)) = 0 then 0 else (if (ciV c7 (80 : Int32)) = 0 then 0 else (if (ciV c8 (83 : Int32)) = 0 then 0 else (if (ciV c9 (72 : Int32)) = 0 then 0 else (if (ciV c10 (79 : Int32)) = 0 then 0 else (if (ciV c11 (84 : Int32)) = 0 then 0 else 1)))))))) : Int32) from by rw [if_neg hc8, if_neg hc16, if_neg hc24, if_neg hc32, if_pos hc40]), rfl, rfl⟩
          · refine W.ifNo w37 od_13_35 (pc' := 38) rfl ((if0 _ _).trans (feq hc40).1) ?_
            refine W.goto w37 od_13_38 (pc' := 6) (by decide) (by decide) ?_
            refine W.iloadN w37 od_13_6 (pc' := 7) rfl rfl ?_
            refine W.iload w37 od_13_7 (pc' := 9) rfl rfl ?_
            refine W.icmpNo w37 od_13_9 (pc' := 12) rfl (tlt (by decide : (9 : Int32) < (12 : Int32))).2.1 ?_
            refine W.aloadN w37 od_13_12 (pc' := 13) rfl rfl rfl ?_
            refine W.iloadN w37 od_13_13 (pc' := 14) rfl rfl ?_
            refine W.iinc w37 od_13_14 (pc' := 17) rfl (z := (10 : Int32)) rfl (Ls' := #[.val (.ref b0), .val (.int (10 : Int32)), .val (.ref b1), .val (.int (5 : Int32)), .val (.int (8 : Int32)), .val (.int (12 : Int32)), .val (.int c8), .val (.int (83 : Int32))]) rfl rfl ?_
            refine W.ldB w37 V0 ⟨by decide, by decide⟩ (v := (.int c9)) rfl od_13_17 (pc' := 18) rfl ?_
            refine W.istore w37 od_13_18 (pc' := 20) rfl (Ls' := #[.val (.ref b0), .val (.int (10 : Int32)), .val (.ref b1), .val (.int (5 : Int32)), .val (.int (8 : Int32)), .val (.int (12 : Int32)), .val (.int c9), .val (.int (83 : Int32))]) rfl ?_
            refine W.aloadN w37 od_13_20 (pc' := 21) rfl rfl rfl ?_
            refine W.iloadN w37 od_13_21 (pc' := 22) rfl rfl ?_
            refine W.iinc w37 od_13_22 (pc' := 25) rfl (z := (6 : Int32)) rfl (Ls' := #[.val (.ref b0), .val (.int (10 : Int32)), .val (.ref b1), .val (.int (6 : Int32)), .val (.int (8 : Int32)), .val (.int (12 : Int32)), .val (.int c9), .val (.int (83 : Int32))]) rfl rfl ?_
            refine W.ldB w37 V1 ⟨by decide, by decide⟩ (v := (.int (72 : Int32))) rfl od_13_25 (pc' := 26) rfl ?_
            refine W.istore w37 od_13_26 (pc' := 28) rfl (Ls' := #[.val (.ref b0), .val (.int (10 : Int32)), .val (.ref b1), .val (.int (6 : Int32)), .val (.int (8 : Int32)), .val (.int (12 : Int32)), .val (.int c9), .val (.int (72 : Int32))]) rfl ?_
            refine W.iload w37 od_13_28 (pc' := 30) rfl rfl ?_
            refine W.iload w37 od_13_30 (pc' := 32) rfl rfl ?_
            refine W.callS w37 (ow_66 hw) (ow_67 hw) (ow_68 hw) (ow_69 hw) (by decide) opd_0 (Ctr.pay (c_ci hw w37.old) (own_ew hw) (ow_69 hw) (ow_68 hw) (kf := 1) (kl := 14) (by decide) (by decide)) mN od_13_32 (pc' := 35) rfl rfl rfl (rest := []) rfl (Wd := 0) rfl (by decide) (by decide) (by decide) (by decide) fun v43 T41 h42 M44 w45 q46 => ?_
            obtain ⟨rfl, rfl, e47⟩ := q46
            obtain rfl := e47.symm
            show Go Z _ _ _ κ _ (T41.setTop (mkF (km κ) 35 #[.val (.ref b0), .val (.int (10 : Int32)), .val (.ref b1), .val (.int (6 : Int32)), .val (.int (8 : Int32)), .val (.int (12 : Int32)), .val (.int c9), .val (.int (72 : Int32))] [(.int (ciV c9 (72 : Int32)))]))
            rcases Decidable.em ((ciV c9 (72 : Int32)) = (0 : Int32)) with hc48 | hc48
            · refine W.ifYes w45 od_13_35 (pc' := 41) (by decide) (by decide) ((if0 _ _).trans (teq hc48).1) ?_
              refine W.iconst w45 od_13_41 (pc' := 42) rfl (z := (0 : Int32)) rfl ?_
              exact W.retN w45 (t := .boolean) (z' := (0 : Int32)) rfl rfl (by simp) od_13_42 (M' := []) mN (by decide) (by decide) ⟨congrArg (fun z => some (Value.int z)) (show (0 : Int32) = ((if (ciV c4 (83 : Int32)) = 0 then 0 else (if (ciV c5 (78 : Int32)) = 0 then 0 else (if (ciV c6 (65 : Int32)) = 0 then 0 else (if (ciV c7 (80 : Int32)) = 0 then 0 else (if (ciV c8 (83 : Int32)) = 0 then 0 else (if (ciV c9 (72 : Int32)) = 0 then 0 else (if (ciV c10 (79 : Int32)) = 0 then 0 else (if (ciV c11 (84 : Int32)) = 0 then 0 else 1)))))))) : Int32) from by rw [if_neg hc8, if_neg hc16, if_neg hc24, if_neg hc32, if_neg hc40, if_pos hc48]), rfl, rfl⟩
            · refine W.ifNo w45 od_13_35 (pc' := 38) rfl ((if0 _ _).trans (feq hc48).1) ?_
              refine W.goto w45 od_13_38 (pc' := 6) (by decide) (by decide) ?_
              refine W.iloadN w45 od_13_6 (pc' := 7) rfl rfl ?_
              refine W.iload w45 od_13_7 (pc' := 9) rfl rfl ?_
              refine W.icmpNo w45 od_13_9 (pc' := 12) rfl (tlt (by decide : (10 : Int32) < (12 : Int32))).2.1 ?_
              refine W.aloadN w45 od_13_12 (pc' := 13) rfl rfl rfl ?_
              refine W.iloadN w45 od_13_13 (pc' := 14) rfl rfl ?_
              refine W.iinc w45 od_13_14 (pc' := 17) rfl (z := (11 : Int32)) rfl (Ls' := #[.val (.ref b0), .val (.int (11 : Int32)), .val (.ref b1), .val (.int (6 : Int32)), .val (.int (8 : Int32)), .val (.int (12 : Int32)), .val (.int c9), .val (.int (72 : Int32))]) rfl rfl ?_
              refine W.ldB w45 V0 ⟨by decide, by decide⟩ (v := (.int c10)) rfl od_13_17 (pc' := 18) rfl ?_
              refine W.istore w45 od_13_18 (pc' := 20) rfl (Ls' := #[.val (.ref b0), .val (.int (11 : Int32)), .val (.ref b1), .val (.int (6 : Int32)), .val (.int (8 : Int32)), .val (.int (12 : Int32)), .val (.int c10), .val (.int (72 : Int32))]) rfl ?_
              refine W.aloadN w45 od_13_20 (pc' := 21) rfl rfl rfl ?_
              refine W.iloadN w45 od_13_21 (pc' := 22) rfl rfl ?_
              refine W.iinc w45 od_13_22 (pc' := 25) rfl (z := (7 : Int32)) rfl (Ls' := #[.val (.ref b0), .val (.int (11 : Int32)), .val (.ref b1), .val (.int (7 : Int32)), .val (.int (8 : Int32)), .val (.int (12 : Int32)), .val (.int c10), .val (.int (72 : Int32))]) rfl rfl ?_
              refine W.ldB w45 V1 ⟨by decide, by decide⟩ (v := (.int (79 : Int32))) rfl od_13_25 (pc' := 26) rfl ?_
              refine W.istore w45 od_13_26 (pc' := 28) rfl (Ls' := #[.val (.ref b0), .val (.int (11 : Int32)), .val (.ref b1), .val (.int (7 : Int32)), .val (.int (8 : Int32)), .val (.int (12 : Int32)), .val (.int c10), .val (.int (79 : Int32))]) rfl ?_
              refine W.iload w45 od_13_28 (pc' := 30) rfl rfl ?_
              refine W.iload w45 od_13_30 (pc' := 32) rfl rfl ?_
              refine W.callS w45 (ow_66 hw) (ow_67 hw) (ow_68 hw) (ow_69 hw) (by decide) opd_0 (Ctr.pay (c_ci hw w45.old) (own_ew hw) (ow_69 hw) (ow_68 hw) (kf := 1) (kl := 14) (by decide) (by decide)) mN od_13_32 (pc' := 35) rfl rfl rfl (rest := []) rfl (Wd := 0) rfl (by decide) (by decide) (by decide) (by decide) fun v51 T49 h50 M52 w53 q54 => ?_
              obtain ⟨rfl, rfl, e55⟩ := q54
              obtain rfl := e55.symm
              show Go Z _ _ _ κ _ (T49.setTop (mkF (km κ) 35 #[.val (.ref b0), .val (.int (11 : Int32)), .val (.ref b1), .val (.int (7 : Int32)), .val (.int (8 : Int32)), .val (.int (12 : Int32)), .val (.int c10), .val (.int (79 : Int32))] [(.int (ciV c10 (79 : Int32)))]))
              rcases Decidable.em ((ciV c10 (79 : Int32)) = (0 : Int32)) with hc56 | hc56
              · refine W.ifYes w53 od_13_35 (pc' := 41) (by decide) (by decide) ((if0 _ _).trans (teq hc56).1) ?_
                refine W.iconst w53 od_13_41 (pc' := 42) rfl (z := (0 : Int32)) rfl ?_
                exact W.retN w53 (t := .boolean) (z' := (0 : Int32)) rfl rfl (by simp) od_13_42 (M' := []) mN (by decide) (by decide) ⟨congrArg (fun z => some (Value.int z)) (show (0 : Int32) = ((if (ciV c4 (83 : Int32)) = 0 then 0 else (if (ciV c5 (78 : Int32)) = 0 then 0 else (if (ciV c6 (65 : Int32)) = 0 then 0 else (if (ciV c7 (80 : Int32)) = 0 then 0 else (if (ciV c8 (83 : Int32)) = 0 then 0 else (if (ciV c9 (72 : Int32)) = 0 then 0 else (if (ciV c10 (79 : Int32)) = 0 then 0 else (if (ciV c11 (84 : Int32)) = 0 then 0 else 1)))))))) : Int32) from by rw [if_neg hc8, if_neg hc16, if_neg hc24, if_neg hc32, if_neg hc40, if_neg hc48, if_pos hc56]), rfl, rfl⟩
              · refine W.ifNo w53 od_13_35 (pc' := 38) rfl ((if0 _ _).trans (feq hc56).1) ?_
                refine W.goto w53 od_13_38 (pc' := 6) (by decide) (by decide) ?_
                refine W.iloadN w53 od_13_6 (pc' := 7) rfl rfl ?_
                refine W.iload w53 od_13_7 (pc' := 9) rfl rfl ?_
                refine W.icmpNo w53 od_13_9 (pc' := 12) rfl (tlt (by decide : (11 : Int32) < (12 : Int32))).2.1 ?_
                refine W.aloadN w53 od_13_12 (pc' := 13) rfl rfl rfl ?_
                refine W.iloadN w53 od_13_13 (pc' := 14) rfl rfl ?_
                refine W.iinc w53 od_13_14 (pc' := 17) rfl (z := (12 : Int32)) rfl (Ls' := #[.val (.ref b0), .val (.int (12 : Int32)), .val (.ref b1), .val (.int (7 : Int32)), .val (.int (8 : Int32)), .val (.int (12 : Int32)), .val (.int c10), .val (.int (79 : Int32))]) rfl rfl ?_
                refine W.ldB w53 V0 ⟨by decide, by decide⟩ (v := (.int c11)) rfl od_13_17 (pc' := 18) rfl ?_
                refine W.istore w53 od_13_18 (pc' := 20) rfl (Ls' := #[.val (.ref b0), .val (.int (12 : Int32)), .val (.ref b1), .val (.int (7 : Int32)), .val (.int (8 : Int32)), .val (.int (12 : Int32)), .val (.int c11), .val (.int (79 : Int32))]) rfl ?_
                refine W.aloadN w53 od_13_20 (pc' := 21) rfl rfl rfl ?_
                refine W.iloadN w53 od_13_21 (pc' := 22) rfl rfl ?_
                refine W.iinc w53 od_13_22 (pc' := 25) rfl (z := (8 : Int32)) rfl (Ls' := #[.val (.ref b0), .val (.int (12 : Int32)), .val (.ref b1), .val (.int (8 : Int32)), .val (.int (8 : Int32)), .val (.int (12 : Int32)), .val (.int c11), .val (.int (79 : Int32))]) rfl rfl ?_
                refine W.ldB w53 V1 ⟨by decide, by decide⟩ (v := (.int (84 : Int32))) rfl od_13_25 (pc' := 26) rfl ?_
                refine W.istore w53 od_13_26 (pc' := 28) rfl (Ls' := #[.val (.ref b0), .val (.int (12 : Int32)), .val (.ref b1), .val (.int (8 : Int32)), .val (.int (8 : Int32)), .val (.int (12 : Int32)), .val (.int c11), .val (.int (84 : Int32))]) rfl ?_
                refine W.iload w53 od_13_28 (pc' := 30) rfl rfl ?_
                refine W.iload w53 od_13_30 (pc' := 32) rfl rfl ?_
                refine W.callS w53 (ow_66 hw) (ow_67 hw) (ow_68 hw) (ow_69 hw) (by decide) opd_0 (Ctr.pay (c_ci hw w53.old) (own_ew hw) (ow_69 hw) (ow_68 hw) (kf := 1) (kl := 14) (by decide) (by decide)) mN od_13_32 (pc' := 35) rfl rfl rfl (rest := []) rfl (Wd := 0) rfl (by decide) (by decide) (by decide) (by decide) fun v59 T57 h58 M60 w61 q62 => ?_
                obtain ⟨rfl, rfl, e63⟩ := q62
                obtain rfl := e63.symm
                show Go Z _ _ _ κ _ (T57.setTop (mkF (km κ) 35 #[.val (.ref b0), .val (.int (12 : Int32)), .val (.ref b1), .val (.int (8 : Int32)), .val (.int (8 : Int32)), .val (.int (12 : Int32)), .val (.int c11), .val (.int (84 : Int32))] [(.int (ciV c11 (84 : Int32)))]))
                rcases Decidable.em ((ciV c11 (84 : Int32)) = (0 : Int32)) with hc64 | hc64
                · refine W.ifYes w61 od_13_35 (pc' := 41) (by decide) (by decide) ((if0 _ _).trans (teq hc64).1) ?_
                  refine W.iconst w61 od_13_41 (pc' := 42) rfl (z := (0 : Int32)) rfl ?_
                  exact W.retN w61 (t := .boolean) (z' := (0 : Int32)) rfl rfl (by simp) od_13_42 (M' := []) mN (by decide) (by decide) ⟨congrArg (fun z => some (Value.int z)) (show (0 : Int32) = ((if (ciV c4 (83 : Int32)) = 0 then 0 else (if (ciV c5 (78 : Int32)) = 0 then 0 else (if (ciV c6 (65 : Int32)) = 0 then 0 else (if (ciV c7 (80 : Int32)) = 0 then 0 else (if (ciV c8 (83 : Int32)) = 0 then 0 else (if (ciV c9 (72 : Int32)) = 0 then 0 else (if (ciV c10 (79 : Int32)) = 0 then 0 else (if (ciV c11 (84 : Int32)) = 0 then 0 else 1)))))))) : Int32) from by rw [if_neg hc8, if_neg hc16, if_neg hc24, if_neg hc32, if_neg hc40, if_neg hc48, if_neg hc56, if_pos hc64]), rfl, rfl⟩
                · refine W.ifNo w61 od_13_35 (pc' := 38) rfl ((if0 _ _).trans (feq hc64).1) ?_
                  refine W.goto w61 od_13_38 (pc' := 6) (by decide) (by decide) ?_
                  refine W.iloadN w61 od_13_6 (pc' := 7) rfl rfl ?_
                  refine W.iload w61 od_13_7 (pc' := 9) rfl rfl ?_
                  refine W.icmpYes w61 od_13_9 (pc' := 43) (by decide) (by decide) (flt (by decide : ¬ ((12 : Int32) < (12 : Int32)))).2.1 ?_
                  refine W.iconst w61 od_13_43 (pc' := 44) rfl (z := (1 : Int32)) rfl ?_
                  exact W.retN w61 (t := .boolean) (z' := (1 : Int32)) rfl rfl (by simp) od_13_44 (M' := []) mN (by decide) (by decide) ⟨congrArg (fun z => some (Value.int z)) (show (1 : Int32) = ((if (ciV c4 (83 : Int32)) = 0 then 0 else (if (ciV c5 (78 : Int32)) = 0 then 0 else (if (ciV c6 (65 : Int32)) = 0 then 0 else (if (ciV c7 (80 : Int32)) = 0 then 0 else (if (ciV c8 (83 : Int32)) = 0 then 0 else (if (ciV c9 (72 : Int32)) = 0 then 0 else (if (ciV c10 (79 : Int32)) = 0 then 0 else (if (ciV c11 (84 : Int32)) = 0 then 0 else 1)))))))) : Int32) from by rw [if_neg hc8, if_neg hc16, if_neg hc24, if_neg hc32, if_neg hc40, if_neg hc48, if_neg hc56, if_neg hc64]), rfl, rfl⟩
set_option maxRecDepth 65536 in
set_option maxHeartbeats 40000000 in
theorem c_rm0 {l : Launch} {Z : State} {a0 : Array Value} (hw : HW Z a0) {h0 : Heap} {x0 t0 x1 t1 : Addr} (F0 : Str8 Z h0 x0 t0 []) (F1 : Str8 Z h0 x1 t1 [(83 : Int32), (78 : Int32), (65 : Int32), (80 : Int32), (83 : Int32), (72 : Int32), (79 : Int32), (84 : Int32)]) (hO : Old Z Z.heap.size h0) : Ctr l Z EL0 nw0 ({ cls := "java/lang/String", name := "regionMatches", desc := "(ZILjava/lang/String;II)Z" } : Jvm.MethodName) jdk_42_method_74_code 9 (some .boolean) ({ frames := 0, cells := 0, slots := 0, locals := 0 } : Room) [.ref x0, .int 1, .int (-8 : Int32), .ref x1, .int 0, .int 8] h0 [] (fun v h M' => v = some (.int 0) ∧ M' = [] ∧ h = h0) := by
  refine of_body (a0 := a0) opn_5 (own_ew hw) hO (Ls := #[.val (.ref x0), .val (.int (1 : Int32)), .val (.int (-8 : Int32)), .val (.ref x1), .val (.int (0 : Int32)), .val (.int (8 : Int32)), .unset, .unset, .unset]) (fun m => by first | (simp [entryFrame, mkF, argsToLocals, Value.category]; done) | rfl) (fun κ T0 w0 hnm => ?_)
  refine W.iloadN w0 od_12_0 (pc' := 1) rfl rfl ?_
  refine W.ifYes w0 od_12_1 (pc' := 15) (by decide) (by decide) ((if0 _ _).trans (feq (by decide : ¬ ((1 : Int32) = (0 : Int32)))).2) ?_
  refine W.iload w0 od_12_15 (pc' := 17) rfl rfl ?_
  refine W.ifNo w0 od_12_17 (pc' := 20) rfl ((if0 _ _).trans (flt (by decide : ¬ ((0 : Int32) < (0 : Int32)))).1) ?_
  refine W.iloadN w0 od_12_20 (pc' := 21) rfl rfl ?_
  refine W.ifYes w0 od_12_21 (pc' := 55) (by decide) (by decide) ((if0 _ _).trans (tlt (by decide : (-8 : Int32) < (0 : Int32))).1) ?_
  refine W.iconst w0 od_12_55 (pc' := 56) rfl (z := (0 : Int32)) rfl ?_
  exact W.retN w0 (t := .boolean) (z' := (0 : Int32)) rfl rfl (by simp) od_12_56 (M' := []) mN (by decide) (by decide) ⟨rfl, rfl, rfl⟩
set_option maxRecDepth 65536 in
set_option maxHeartbeats 40000000 in
theorem c_rm1 {l : Launch} {Z : State} {a0 : Array Value} (hw : HW Z a0) {h0 : Heap} {x0 t0 x1 t1 : Addr} {c0 : Int32} (F0 : Str8 Z h0 x0 t0 [c0]) (F1 : Str8 Z h0 x1 t1 [(83 : Int32), (78 : Int32), (65 : Int32), (80 : Int32), (83 : Int32), (72 : Int32), (79 : Int32), (84 : Int32)]) (hO : Old Z Z.heap.size h0) : Ctr l Z EL0 nw0 ({ cls := "java/lang/String", name := "regionMatches", desc := "(ZILjava/lang/String;II)Z" } : Jvm.MethodName) jdk_42_method_74_code 9 (some .boolean) ({ frames := 0, cells := 0, slots := 0, locals := 0 } : Room) [.ref x0, .int 1, .int (-7 : Int32), .ref x1, .int 0, .int 8] h0 [] (fun v h M' => v = some (.int 0) ∧ M' = [] ∧ h = h0) := by
  refine of_body (a0 := a0) opn_5 (own_ew hw) hO (Ls := #[.val (.ref x0), .val (.int (1 : Int32)), .val (.int (-7 : Int32)), .val (.ref x1), .val (.int (0 : Int32)), .val (.int (8 : Int32)), .unset, .unset, .unset]) (fun m => by first | (simp [entryFrame, mkF, argsToLocals, Value.category]; done) | rfl) (fun κ T0 w0 hnm => ?_)
  refine W.iloadN w0 od_12_0 (pc' := 1) rfl rfl ?_
  refine W.ifYes w0 od_12_1 (pc' := 15) (by decide) (by decide) ((if0 _ _).trans (feq (by decide : ¬ ((1 : Int32) = (0 : Int32)))).2) ?_
  refine W.iload w0 od_12_15 (pc' := 17) rfl rfl ?_
  refine W.ifNo w0 od_12_17 (pc' := 20) rfl ((if0 _ _).trans (flt (by decide : ¬ ((0 : Int32) < (0 : Int32)))).1) ?_
  refine W.iloadN w0 od_12_20 (pc' := 21) rfl rfl ?_
  refine W.ifYes w0 od_12_21 (pc' := 55) (by decide) (by decide) ((if0 _ _).trans (tlt (by decide : (-7 : Int32) < (0 : Int32))).1) ?_
  refine W.iconst w0 od_12_55 (pc' := 56) rfl (z := (0 : Int32)) rfl ?_
  exact W.retN w0 (t := .boolean) (z' := (0 : Int32)) rfl rfl (by simp) od_12_56 (M' := []) mN (by decide) (by decide) ⟨rfl, rfl, rfl⟩
set_option maxRecDepth 65536 in
set_option maxHeartbeats 40000000 in
theorem c_rm7 {l : Launch} {Z : State} {a0 : Array Value} (hw : HW Z a0) {h0 : Heap} {x0 t0 x1 t1 : Addr} {c0 c1 c2 c3 c4 c5 c6 : Int32} (F0 : Str8 Z h0 x0 t0 [c0, c1, c2, c3, c4, c5, c6]) (F1 : Str8 Z h0 x1 t1 [(83 : Int32), (78 : Int32), (65 : Int32), (80 : Int32), (83 : Int32), (72 : Int32), (79 : Int32), (84 : Int32)]) (hO : Old Z Z.heap.size h0) : Ctr l Z EL0 nw0 ({ cls := "java/lang/String", name := "regionMatches", desc := "(ZILjava/lang/String;II)Z" } : Jvm.MethodName) jdk_42_method_74_code 9 (some .boolean) ({ frames := 0, cells := 0, slots := 0, locals := 0 } : Room) [.ref x0, .int 1, .int (-1 : Int32), .ref x1, .int 0, .int 8] h0 [] (fun v h M' => v = some (.int 0) ∧ M' = [] ∧ h = h0) := by
  refine of_body (a0 := a0) opn_5 (own_ew hw) hO (Ls := #[.val (.ref x0), .val (.int (1 : Int32)), .val (.int (-1 : Int32)), .val (.ref x1), .val (.int (0 : Int32)), .val (.int (8 : Int32)), .unset, .unset, .unset]) (fun m => by first | (simp [entryFrame, mkF, argsToLocals, Value.category]; done) | rfl) (fun κ T0 w0 hnm => ?_)
  refine W.iloadN w0 od_12_0 (pc' := 1) rfl rfl ?_
  refine W.ifYes w0 od_12_1 (pc' := 15) (by decide) (by decide) ((if0 _ _).trans (feq (by decide : ¬ ((1 : Int32) = (0 : Int32)))).2) ?_
  refine W.iload w0 od_12_15 (pc' := 17) rfl rfl ?_
  refine W.ifNo w0 od_12_17 (pc' := 20) rfl ((if0 _ _).trans (flt (by decide : ¬ ((0 : Int32) < (0 : Int32)))).1) ?_
  refine W.iloadN w0 od_12_20 (pc' := 21) rfl rfl ?_
  refine W.ifYes w0 od_12_21 (pc' := 55) (by decide) (by decide) ((if0 _ _).trans (tlt (by decide : (-1 : Int32) < (0 : Int32))).1) ?_
  refine W.iconst w0 od_12_55 (pc' := 56) rfl (z := (0 : Int32)) rfl ?_
  exact W.retN w0 (t := .boolean) (z' := (0 : Int32)) rfl rfl (by simp) od_12_56 (M' := []) mN (by decide) (by decide) ⟨rfl, rfl, rfl⟩
set_option maxRecDepth 65536 in
set_option maxHeartbeats 40000000 in
theorem c_rm8 {l : Launch} {Z : State} {a0 : Array Value} (hw : HW Z a0) {h0 : Heap} {x0 t0 x1 t1 : Addr} {c0 c1 c2 c3 c4 c5 c6 c7 : Int32} (F0 : Str8 Z h0 x0 t0 [c0, c1, c2, c3, c4, c5, c6, c7]) (F1 : Str8 Z h0 x1 t1 [(83 : Int32), (78 : Int32), (65 : Int32), (80 : Int32), (83 : Int32), (72 : Int32), (79 : Int32), (84 : Int32)]) (hO : Old Z Z.heap.size h0) : Ctr l Z EL0 nw0 ({ cls := "java/lang/String", name := "regionMatches", desc := "(ZILjava/lang/String;II)Z" } : Jvm.MethodName) jdk_42_method_74_code 9 (some .boolean) ({ frames := 2, cells := 0, slots := 0, locals := 33 } : Room) [.ref x0, .int 1, .int (0 : Int32), .ref x1, .int 0, .int 8] h0 [] (fun v h M' => v = some (.int (if (ciV c0.toInt8.toInt32 (83 : Int32)) = 0 then 0 else (if (ciV c1.toInt8.toInt32 (78 : Int32)) = 0 then 0 else (if (ciV c2.toInt8.toInt32 (65 : Int32)) = 0 then 0 else (if (ciV c3.toInt8.toInt32 (80 : Int32)) = 0 then 0 else (if (ciV c4.toInt8.toInt32 (83 : Int32)) = 0 then 0 else (if (ciV c5.toInt8.toInt32 (72 : Int32)) = 0 then 0 else (if (ciV c6.toInt8.toInt32 (79 : Int32)) = 0 then 0 else (if (ciV c7.toInt8.toInt32 (84 : Int32)) = 0 then 0 else 1))))))))) ∧ M' = [] ∧ h = h0) := by
  refine of_body (a0 := a0) opn_5 (own_ew hw) hO (Ls := #[.val (.ref x0), .val (.int (1 : Int32)), .val (.int (0 : Int32)), .val (.ref x1), .val (.int (0 : Int32)), .val (.int (8 : Int32)), .unset, .unset, .unset]) (fun m => by first | (simp [entryFrame, mkF, argsToLocals, Value.category]; done) | rfl) (fun κ T0 w0 hnm => ?_)
  refine W.iloadN w0 od_12_0 (pc' := 1) rfl rfl ?_
  refine W.ifYes w0 od_12_1 (pc' := 15) (by decide) (by decide) ((if0 _ _).trans (feq (by decide : ¬ ((1 : Int32) = (0 : Int32)))).2) ?_
  refine W.iload w0 od_12_15 (pc' := 17) rfl rfl ?_
  refine W.ifNo w0 od_12_17 (pc' := 20) rfl ((if0 _ _).trans (flt (by decide : ¬ ((0 : Int32) < (0 : Int32)))).1) ?_
  refine W.iloadN w0 od_12_20 (pc' := 21) rfl rfl ?_
  refine W.ifNo w0 od_12_21 (pc' := 24) rfl ((if0 _ _).trans (flt (by decide : ¬ ((0 : Int32) < (0 : Int32)))).1) ?_
  refine W.iloadN w0 od_12_24 (pc' := 25) rfl rfl ?_
  refine W.i2l w0 od_12_25 (pc' := 26) rfl (z := (0 : Int64)) rfl ?_
  refine W.aloadN w0 od_12_26 (pc' := 27) rfl rfl rfl ?_
  refine W.callV w0 (ow_61 hw) (ow_44 hw) (nfSel (ow_46 hw)) (ow_46 hw) (ow_45 hw) (by decide) opd_1 F0.1 (own_len hw w0.old F0) mN od_12_27 (pc' := 30) rfl rfl rfl (rest := [(.long (0 : Int64))]) rfl (Wd := 2) rfl (by decide) (by decide) (by decide) (by decide) fun v3 T1 h2 M4 w5 q6 => ?_
  obtain ⟨rfl, rfl, e7⟩ := q6
  obtain rfl := e7.symm
  show Go Z _ _ _ κ _ (T1.setTop (mkF (km κ) 30 #[.val (.ref x0), .val (.int (1 : Int32)), .val (.int (0 : Int32)), .val (.ref x1), .val (.int (0 : Int32)), .val (.int (8 : Int32)), .unset, .unset, .unset] [(.int (8 : Int32)), (.long (0 : Int64))]))
  refine W.i2l w5 od_12_30 (pc' := 31) rfl (z := (8 : Int64)) rfl ?_
  refine W.iload w5 od_12_31 (pc' := 33) rfl rfl ?_
  refine W.i2l w5 od_12_33 (pc' := 34) rfl (z := (8 : Int64)) rfl ?_
  refine W.lsub w5 od_12_34 (pc' := 35) rfl (z := (0 : Int64)) rfl ?_
  refine W.lcmp w5 od_12_35 (pc' := 36) rfl (z := (0 : Int32)) (by decide) ?_
  refine W.ifNo w5 od_12_36 (pc' := 39) rfl ((if0 _ _).trans (flt (by decide : ¬ ((0 : Int32) < (0 : Int32)))).2.2.1) ?_
  refine W.iload w5 od_12_39 (pc' := 41) rfl rfl ?_
  refine W.i2l w5 od_12_41 (pc' := 42) rfl (z := (0 : Int64)) rfl ?_
  refine W.aloadN w5 od_12_42 (pc' := 43) rfl rfl rfl ?_
  refine W.callV w5 (ow_61 hw) (ow_44 hw) (nfSel (ow_46 hw)) (ow_46 hw) (ow_45 hw) (by decide) opd_1 F1.1 (own_len hw w5.old F1) mN od_12_43 (pc' := 46) rfl rfl rfl (rest := [(.long (0 : Int64))]) rfl (Wd := 2) rfl (by decide) (by decide) (by decide) (by decide) fun v10 T8 h9 M11 w12 q13 => ?_
  obtain ⟨rfl, rfl, e14⟩ := q13
  obtain rfl := e14.symm
  show Go Z _ _ _ κ _ (T8.setTop (mkF (km κ) 46 #[.val (.ref x0), .val (.int (1 : Int32)), .val (.int (0 : Int32)), .val (.ref x1), .val (.int (0 : Int32)), .val (.int (8 : Int32)), .unset, .unset, .unset] [(.int (8 : Int32)), (.long (0 : Int64))]))
  refine W.i2l w12 od_12_46 (pc' := 47) rfl (z := (8 : Int64)) rfl ?_
  refine W.iload w12 od_12_47 (pc' := 49) rfl rfl ?_
  refine W.i2l w12 od_12_49 (pc' := 50) rfl (z := (8 : Int64)) rfl ?_
  refine W.lsub w12 od_12_50 (pc' := 51) rfl (z := (0 : Int64)) rfl ?_
  refine W.lcmp w12 od_12_51 (pc' := 52) rfl (z := (0 : Int32)) (by decide) ?_
  refine W.ifYes w12 od_12_52 (pc' := 57) (by decide) (by decide) ((if0 _ _).trans (flt (by decide : ¬ ((0 : Int32) < (0 : Int32)))).2.2.2) ?_
  refine W.aloadN w12 od_12_57 (pc' := 58) rfl rfl rfl ?_
  refine W.getF w12 (host := "") (Or.inl (ow_37 hw)) Via.refl F0.2.2.1 od_12_58 (pc' := 61) rfl fun T15 w16 => ?_
  refine W.astore w16 od_12_61 (pc' := 63) rfl (Ls' := #[.val (.ref x0), .val (.int (1 : Int32)), .val (.int (0 : Int32)), .val (.ref x1), .val (.int (0 : Int32)), .val (.int (8 : Int32)), .val (.ref t0), .unset, .unset]) rfl rfl ?_
  refine W.aloadN w16 od_12_63 (pc' := 64) rfl rfl rfl ?_
  refine W.getF w16 (host := "") (Or.inl (ow_37 hw)) Via.refl F1.2.2.1 od_12_64 (pc' := 67) rfl fun T17 w18 => ?_
  refine W.astore w18 od_12_67 (pc' := 69) rfl (Ls' := #[.val (.ref x0), .val (.int (1 : Int32)), .val (.int (0 : Int32)), .val (.ref x1), .val (.int (0 : Int32)), .val (.int (8 : Int32)), .val (.ref t0), .val (.ref t1), .unset]) rfl rfl ?_
  refine W.aloadN w18 od_12_69 (pc' := 70) rfl rfl rfl ?_
  refine W.callV w18 (ow_48 hw) (ow_49 hw) (nfSel (ow_51 hw)) (ow_51 hw) (ow_50 hw) (by decide) opd_2 F0.1 (Ctr.pay (c_coder hw F0.2.1 w18.old) (own_ew hw) (ow_52 hw) (ow_11 hw) (kf := 1) (kl := 12) (by decide) (by decide)) mN od_12_70 (pc' := 73) rfl rfl rfl (rest := []) rfl (Wd := 0) rfl (by decide) (by decide) (by decide) (by decide) fun v21 T19 h20 M22 w23 q24 => ?_
  obtain ⟨rfl, rfl, e25⟩ := q24
  obtain rfl := e25.symm
  show Go Z _ _ _ κ _ (T19.setTop (mkF (km κ) 73 #[.val (.ref x0), .val (.int (1 : Int32)), .val (.int (0 : Int32)), .val (.ref x1), .val (.int (0 : Int32)), .val (.int (8 : Int32)), .val (.ref t0), .val (.ref t1), .unset] [(.int (0 : Int32))]))
  refine W.istore w23 od_12_73 (pc' := 75) rfl (Ls' := #[.val (.ref x0), .val (.int (1 : Int32)), .val (.int (0 : Int32)), .val (.ref x1), .val (.int (0 : Int32)), .val (.int (8 : Int32)), .val (.ref t0), .val (.ref t1), .val (.int (0 : Int32))]) rfl ?_
  refine W.iload w23 od_12_75 (pc' := 77) rfl rfl ?_
  refine W.aloadN w23 od_12_77 (pc' := 78) rfl rfl rfl ?_
  refine W.callV w23 (ow_48 hw) (ow_49 hw) (nfSel (ow_51 hw)) (ow_51 hw) (ow_50 hw) (by decide) opd_2 F1.1 (Ctr.pay (c_coder hw F1.2.1 w23.old) (own_ew hw) (ow_52 hw) (ow_11 hw) (kf := 1) (kl := 12) (by decide) (by decide)) mN od_12_78 (pc' := 81) rfl rfl rfl (rest := [(.int (0 : Int32))]) rfl (Wd := 1) rfl (by decide) (by decide) (by decide) (by decide) fun v28 T26 h27 M29 w30 q31 => ?_
  obtain ⟨rfl, rfl, e32⟩ := q31
  obtain rfl := e32.symm
  show Go Z _ _ _ κ _ (T26.setTop (mkF (km κ) 81 #[.val (.ref x0), .val (.int (1 : Int32)), .val (.int (0 : Int32)), .val (.ref x1), .val (.int (0 : Int32)), .val (.int (8 : Int32)), .val (.ref t0), .val (.ref t1), .val (.int (0 : Int32))] [(.int (0 : Int32)), (.int (0 : Int32))]))
  refine W.icmpNo w30 od_12_81 (pc' := 84) rfl (teq (by decide : (0 : Int32) = (0 : Int32))).2 ?_
  refine W.iload w30 od_12_84 (pc' := 86) rfl rfl ?_
  refine W.ifNo w30 od_12_86 (pc' := 89) rfl ((if0 _ _).trans (teq (by decide : (0 : Int32) = (0 : Int32))).2) ?_
  refine W.aload w30 od_12_89 (pc' := 91) rfl rfl rfl ?_
  refine W.iloadN w30 od_12_91 (pc' := 92) rfl rfl ?_
  refine W.aload w30 od_12_92 (pc' := 94) rfl rfl rfl ?_
  refine W.iload w30 od_12_94 (pc' := 96) rfl rfl ?_
  refine W.iload w30 od_12_96 (pc' := 98) rfl rfl ?_
  obtain ⟨k0, A0⟩ := F0.2.2.2.1
  obtain ⟨k1, A1⟩ := F1.2.2.2.1
  refine W.callS w30 (ow_62 hw) (ow_63 hw) (ow_64 hw) (ow_65 hw) (by decide) opd_3 (Ctr.pay (c_rmci8 hw A0 A1 w30.old) (own_ew hw) (ow_65 hw) (ow_64 hw) (kf := 2) (kl := 33) (by decide) (by decide)) mN od_12_98 (pc' := 101) rfl rfl rfl (rest := []) rfl (Wd := 0) rfl (by decide) (by decide) (by decide) (by decide) fun v35 T33 h34 M36 w37 q38 => ?_
  obtain ⟨rfl, rfl, e39⟩ := q38
  obtain rfl := e39.symm
  show Go Z _ _ _ κ _ (T33.setTop (mkF (km κ) 101 #[.val (.ref x0), .val (.int (1 : Int32)), .val (.int (0 : Int32)), .val (.ref x1), .val (.int (0 : Int32)), .val (.int (8 : Int32)), .val (.ref t0), .val (.ref t1), .val (.int (0 : Int32))] [(.int (if (ciV c0.toInt8.toInt32 (83 : Int32)) = 0 then 0 else (if (ciV c1.toInt8.toInt32 (78 : Int32)) = 0 then 0 else (if (ciV c2.toInt8.toInt32 (65 : Int32)) = 0 then 0 else (if (ciV c3.toInt8.toInt32 (80 : Int32)) = 0 then 0 else (if (ciV c4.toInt8.toInt32 (83 : Int32)) = 0 then 0 else (if (ciV c5.toInt8.toInt32 (72 : Int32)) = 0 then 0 else (if (ciV c6.toInt8.toInt32 (79 : Int32)) = 0 then 0 else (if (ciV c7.toInt8.toInt32 (84 : Int32)) = 0 then 0 else 1)))))))))]))
  refine W.goto w37 od_12_101 (pc' := 116) (by decide) (by decide) ?_
  exact W.retN w37 (t := .boolean) (z' := (if (ciV c0.toInt8.toInt32 (83 : Int32)) = 0 then 0 else (if (ciV c1.toInt8.toInt32 (78 : Int32)) = 0 then 0 else (if (ciV c2.toInt8.toInt32 (65 : Int32)) = 0 then 0 else (if (ciV c3.toInt8.toInt32 (80 : Int32)) = 0 then 0 else (if (ciV c4.toInt8.toInt32 (83 : Int32)) = 0 then 0 else (if (ciV c5.toInt8.toInt32 (72 : Int32)) = 0 then 0 else (if (ciV c6.toInt8.toInt32 (79 : Int32)) = 0 then 0 else (if (ciV c7.toInt8.toInt32 (84 : Int32)) = 0 then 0 else 1))))))))) rfl (chain01 _ _ _ _ _ _ _ _) (by simp) od_12_116 (M' := []) mN (by decide) (by decide) ⟨rfl, rfl, rfl⟩
set_option maxRecDepth 65536 in
set_option maxHeartbeats 40000000 in
theorem c_rm9 {l : Launch} {Z : State} {a0 : Array Value} (hw : HW Z a0) {h0 : Heap} {x0 t0 x1 t1 : Addr} {c0 c1 c2 c3 c4 c5 c6 c7 c8 : Int32} (F0 : Str8 Z h0 x0 t0 [c0, c1, c2, c3, c4, c5, c6, c7, c8]) (F1 : Str8 Z h0 x1 t1 [(83 : Int32), (78 : Int32), (65 : Int32), (80 : Int32), (83 : Int32), (72 : Int32), (79 : Int32), (84 : Int32)]) (hO : Old Z Z.heap.size h0) : Ctr l Z EL0 nw0 ({ cls := "java/lang/String", name := "regionMatches", desc := "(ZILjava/lang/String;II)Z" } : Jvm.MethodName) jdk_42_method_74_code 9 (some .boolean) ({ frames := 2, cells := 0, slots := 0, locals := 33 } : Room) [.ref x0, .int 1, .int (1 : Int32), .ref x1, .int 0, .int 8] h0 [] (fun v h M' => v = some (.int (if (ciV c1.toInt8.toInt32 (83 : Int32)) = 0 then 0 else (if (ciV c2.toInt8.toInt32 (78 : Int32)) = 0 then 0 else (if (ciV c3.toInt8.toInt32 (65 : Int32)) = 0 then 0 else (if (ciV c4.toInt8.toInt32 (80 : Int32)) = 0 then 0 else (if (ciV c5.toInt8.toInt32 (83 : Int32)) = 0 then 0 else (if (ciV c6.toInt8.toInt32 (72 : Int32)) = 0 then 0 else (if (ciV c7.toInt8.toInt32 (79 : Int32)) = 0 then 0 else (if (ciV c8.toInt8.toInt32 (84 : Int32)) = 0 then 0 else 1))))))))) ∧ M' = [] ∧ h = h0) := by
  refine of_body (a0 := a0) opn_5 (own_ew hw) hO (Ls := #[.val (.ref x0), .val (.int (1 : Int32)), .val (.int (1 : Int32)), .val (.ref x1), .val (.int (0 : Int32)), .val (.int (8 : Int32)), .unset, .unset, .unset]) (fun m => by first | (simp [entryFrame, mkF, argsToLocals, Value.category]; done) | rfl) (fun κ T0 w0 hnm => ?_)
  refine W.iloadN w0 od_12_0 (pc' := 1) rfl rfl ?_
  refine W.ifYes w0 od_12_1 (pc' := 15) (by decide) (by decide) ((if0 _ _).trans (feq (by decide : ¬ ((1 : Int32) = (0 : Int32)))).2) ?_
  refine W.iload w0 od_12_15 (pc' := 17) rfl rfl ?_
  refine W.ifNo w0 od_12_17 (pc' := 20) rfl ((if0 _ _).trans (flt (by decide : ¬ ((0 : Int32) < (0 : Int32)))).1) ?_
  refine W.iloadN w0 od_12_20 (pc' := 21) rfl rfl ?_
  refine W.ifNo w0 od_12_21 (pc' := 24) rfl ((if0 _ _).trans (flt (by decide : ¬ ((1 : Int32) < (0 : Int32)))).1) ?_
  refine W.iloadN w0 od_12_24 (pc' := 25) rfl rfl ?_
  refine W.i2l w0 od_12_25 (pc' := 26) rfl (z := (1 : Int64)) rfl ?_
  refine W.aloadN w0 od_12_26 (pc' := 27) rfl rfl rfl ?_
  refine W.callV w0 (ow_61 hw) (ow_44 hw) (nfSel (ow_46 hw)) (ow_46 hw) (ow_45 hw) (by decide) opd_1 F0.1 (own_len hw w0.old F0) mN od_12_27 (pc' := 30) rfl rfl rfl (rest := [(.long (1 : Int64))]) rfl (Wd := 2) rfl (by decide) (by decide) (by decide) (by decide) fun v3 T1 h2 M4 w5 q6 => ?_
  obtain ⟨rfl, rfl, e7⟩ := q6
  obtain rfl := e7.symm
  show Go Z _ _ _ κ _ (T1.setTop (mkF (km κ) 30 #[.val (.ref x0), .val (.int (1 : Int32)), .val (.int (1 : Int32)), .val (.ref x1), .val (.int (0 : Int32)), .val (.int (8 : Int32)), .unset, .unset, .unset] [(.int (9 : Int32)), (.long (1 : Int64))]))
  refine W.i2l w5 od_12_30 (pc' := 31) rfl (z := (9 : Int64)) rfl ?_
  refine W.iload w5 od_12_31 (pc' := 33) rfl rfl ?_
  refine W.i2l w5 od_12_33 (pc' := 34) rfl (z := (8 : Int64)) rfl ?_
  refine W.lsub w5 od_12_34 (pc' := 35) rfl (z := (1 : Int64)) rfl ?_
  refine W.lcmp w5 od_12_35 (pc' := 36) rfl (z := (0 : Int32)) (by decide) ?_
  refine W.ifNo w5 od_12_36 (pc' := 39) rfl ((if0 _ _).trans (flt (by decide : ¬ ((0 : Int32) < (0 : Int32)))).2.2.1) ?_
  refine W.iload w5 od_12_39 (pc' := 41) rfl rfl ?_
  refine W.i2l w5 od_12_41 (pc' := 42) rfl (z := (0 : Int64)) rfl ?_
  refine W.aloadN w5 od_12_42 (pc' := 43) rfl rfl rfl ?_
  refine W.callV w5 (ow_61 hw) (ow_44 hw) (nfSel (ow_46 hw)) (ow_46 hw) (ow_45 hw) (by decide) opd_1 F1.1 (own_len hw w5.old F1) mN od_12_43 (pc' := 46) rfl rfl rfl (rest := [(.long (0 : Int64))]) rfl (Wd := 2) rfl (by decide) (by decide) (by decide) (by decide) fun v10 T8 h9 M11 w12 q13 => ?_
  obtain ⟨rfl, rfl, e14⟩ := q13
  obtain rfl := e14.symm
  show Go Z _ _ _ κ _ (T8.setTop (mkF (km κ) 46 #[.val (.ref x0), .val (.int (1 : Int32)), .val (.int (1 : Int32)), .val (.ref x1), .val (.int (0 : Int32)), .val (.int (8 : Int32)), .unset, .unset, .unset] [(.int (8 : Int32)), (.long (0 : Int64))]))
  refine W.i2l w12 od_12_46 (pc' := 47) rfl (z := (8 : Int64)) rfl ?_
  refine W.iload w12 od_12_47 (pc' := 49) rfl rfl ?_
  refine W.i2l w12 od_12_49 (pc' := 50) rfl (z := (8 : Int64)) rfl ?_
  refine W.lsub w12 od_12_50 (pc' := 51) rfl (z := (0 : Int64)) rfl ?_
  refine W.lcmp w12 od_12_51 (pc' := 52) rfl (z := (0 : Int32)) (by decide) ?_
  refine W.ifYes w12 od_12_52 (pc' := 57) (by decide) (by decide) ((if0 _ _).trans (flt (by decide : ¬ ((0 : Int32) < (0 : Int32)))).2.2.2) ?_
  refine W.aloadN w12 od_12_57 (pc' := 58) rfl rfl rfl ?_
  refine W.getF w12 (host := "") (Or.inl (ow_37 hw)) Via.refl F0.2.2.1 od_12_58 (pc' := 61) rfl fun T15 w16 => ?_
  refine W.astore w16 od_12_61 (pc' := 63) rfl (Ls' := #[.val (.ref x0), .val (.int (1 : Int32)), .val (.int (1 : Int32)), .val (.ref x1), .val (.int (0 : Int32)), .val (.int (8 : Int32)), .val (.ref t0), .unset, .unset]) rfl rfl ?_
  refine W.aloadN w16 od_12_63 (pc' := 64) rfl rfl rfl ?_
  refine W.getF w16 (host := "") (Or.inl (ow_37 hw)) Via.refl F1.2.2.1 od_12_64 (pc' := 67) rfl fun T17 w18 => ?_
  refine W.astore w18 od_12_67 (pc' := 69) rfl (Ls' := #[.val (.ref x0), .val (.int (1 : Int32)), .val (.int (1 : Int32)), .val (.ref x1), .val (.int (0 : Int32)), .val (.int (8 : Int32)), .val (.ref t0), .val (.ref t1), .unset]) rfl rfl ?_
  refine W.aloadN w18 od_12_69 (pc' := 70) rfl rfl rfl ?_
  refine W.callV w18 (ow_48 hw) (ow_49 hw) (nfSel (ow_51 hw)) (ow_51 hw) (ow_50 hw) (by decide) opd_2 F0.1 (Ctr.pay (c_coder hw F0.2.1 w18.old) (own_ew hw) (ow_52 hw) (ow_11 hw) (kf := 1) (kl := 12) (by decide) (by decide)) mN od_12_70 (pc' := 73) rfl rfl rfl (rest := []) rfl (Wd := 0) rfl (by decide) (by decide) (by decide) (by decide) fun v21 T19 h20 M22 w23 q24 => ?_
  obtain ⟨rfl, rfl, e25⟩ := q24
  obtain rfl := e25.symm
  show Go Z _ _ _ κ _ (T19.setTop (mkF (km κ) 73 #[.val (.ref x0), .val (.int (1 : Int32)), .val (.int (1 : Int32)), .val (.ref x1), .val (.int (0 : Int32)), .val (.int (8 : Int32)), .val (.ref t0), .val (.ref t1), .unset] [(.int (0 : Int32))]))
  refine W.istore w23 od_12_73 (pc' := 75) rfl (Ls' := #[.val (.ref x0), .val (.int (1 : Int32)), .val (.int (1 : Int32)), .val (.ref x1), .val (.int (0 : Int32)), .val (.int (8 : Int32)), .val (.ref t0), .val (.ref t1), .val (.int (0 : Int32))]) rfl ?_
  refine W.iload w23 od_12_75 (pc' := 77) rfl rfl ?_
  refine W.aloadN w23 od_12_77 (pc' := 78) rfl rfl rfl ?_
  refine W.callV w23 (ow_48 hw) (ow_49 hw) (nfSel (ow_51 hw)) (ow_51 hw) (ow_50 hw) (by decide) opd_2 F1.1 (Ctr.pay (c_coder hw F1.2.1 w23.old) (own_ew hw) (ow_52 hw) (ow_11 hw) (kf := 1) (kl := 12) (by decide) (by decide)) mN od_12_78 (pc' := 81) rfl rfl rfl (rest := [(.int (0 : Int32))]) rfl (Wd := 1) rfl (by decide) (by decide) (by decide) (by decide) fun v28 T26 h27 M29 w30 q31 => ?_
  obtain ⟨rfl, rfl, e32⟩ := q31
  obtain rfl := e32.symm
  show Go Z _ _ _ κ _ (T26.setTop (mkF (km κ) 81 #[.val (.ref x0), .val (.int (1 : Int32)), .val (.int (1 : Int32)), .val (.ref x1), .val (.int (0 : Int32)), .val (.int (8 : Int32)), .val (.ref t0), .val (.ref t1), .val (.int (0 : Int32))] [(.int (0 : Int32)), (.int (0 : Int32))]))
  refine W.icmpNo w30 od_12_81 (pc' := 84) rfl (teq (by decide : (0 : Int32) = (0 : Int32))).2 ?_
  refine W.iload w30 od_12_84 (pc' := 86) rfl rfl ?_
  refine W.ifNo w30 od_12_86 (pc' := 89) rfl ((if0 _ _).trans (teq (by decide : (0 : Int32) = (0 : Int32))).2) ?_
  refine W.aload w30 od_12_89 (pc' := 91) rfl rfl rfl ?_
  refine W.iloadN w30 od_12_91 (pc' := 92) rfl rfl ?_
  refine W.aload w30 od_12_92 (pc' := 94) rfl rfl rfl ?_
  refine W.iload w30 od_12_94 (pc' := 96) rfl rfl ?_
  refine W.iload w30 od_12_96 (pc' := 98) rfl rfl ?_
  obtain ⟨k0, A0⟩ := F0.2.2.2.1
  obtain ⟨k1, A1⟩ := F1.2.2.2.1
  refine W.callS w30 (ow_62 hw) (ow_63 hw) (ow_64 hw) (ow_65 hw) (by decide) opd_3 (Ctr.pay (c_rmci9 hw A0 A1 w30.old) (own_ew hw) (ow_65 hw) (ow_64 hw) (kf := 2) (kl := 33) (by decide) (by decide)) mN od_12_98 (pc' := 101) rfl rfl rfl (rest := []) rfl (Wd := 0) rfl (by decide) (by decide) (by decide) (by decide) fun v35 T33 h34 M36 w37 q38 => ?_
  obtain ⟨rfl, rfl, e39⟩ := q38
  obtain rfl := e39.symm
  show Go Z _ _ _ κ _ (T33.setTop (mkF (km κ) 101 #[.val (.ref x0), .val (.int (1 : Int32)), .val (.int (1 : Int32)), .val (.ref x1), .val (.int (0 : Int32)), .val (.int (8 : Int32)), .val (.ref t0), .val (.ref t1), .val (.int (0 : Int32))] [(.int (if (ciV c1.toInt8.toInt32 (83 : Int32)) = 0 then 0 else (if (ciV c2.toInt8.toInt32 (78 : Int32)) = 0 then 0 else (if (ciV c3.toInt8.toInt32 (65 : Int32)) = 0 then 0 else (if (ciV c4.toInt8.toInt32 (80 : Int32)) = 0 then 0 else (if (ciV c5.toInt8.toInt32 (83 : Int32)) = 0 then 0 else (if (ciV c6.toInt8.toInt32 (72 : Int32)) = 0 then 0 else (if (ciV c7.toInt8.toInt32 (79 : Int32)) = 0 then 0 else (if (ciV c8.toInt8.toInt32 (84 : Int32)) = 0 then 0 else 1)))))))))]))
  refine W.goto w37 od_12_101 (pc' := 116) (by decide) (by decide) ?_
  exact W.retN w37 (t := .boolean) (z' := (if (ciV c1.toInt8.toInt32 (83 : Int32)) = 0 then 0 else (if (ciV c2.toInt8.toInt32 (78 : Int32)) = 0 then 0 else (if (ciV c3.toInt8.toInt32 (65 : Int32)) = 0 then 0 else (if (ciV c4.toInt8.toInt32 (80 : Int32)) = 0 then 0 else (if (ciV c5.toInt8.toInt32 (83 : Int32)) = 0 then 0 else (if (ciV c6.toInt8.toInt32 (72 : Int32)) = 0 then 0 else (if (ciV c7.toInt8.toInt32 (79 : Int32)) = 0 then 0 else (if (ciV c8.toInt8.toInt32 (84 : Int32)) = 0 then 0 else 1))))))))) rfl (chain01 _ _ _ _ _ _ _ _) (by simp) od_12_116 (M' := []) mN (by decide) (by decide) ⟨rfl, rfl, rfl⟩
set_option maxRecDepth 65536 in
set_option maxHeartbeats 40000000 in
theorem c_rm12 {l : Launch} {Z : State} {a0 : Array Value} (hw : HW Z a0) {h0 : Heap} {x0 t0 x1 t1 : Addr} {c0 c1 c2 c3 c4 c5 c6 c7 c8 c9 c10 c11 : Int32} (F0 : Str8 Z h0 x0 t0 [c0, c1, c2, c3, c4, c5, c6, c7, c8, c9, c10, c11]) (F1 : Str8 Z h0 x1 t1 [(83 : Int32), (78 : Int32), (65 : Int32), (80 : Int32), (83 : Int32), (72 : Int32), (79 : Int32), (84 : Int32)]) (hO : Old Z Z.heap.size h0) : Ctr l Z EL0 nw0 ({ cls := "java/lang/String", name := "regionMatches", desc := "(ZILjava/lang/String;II)Z" } : Jvm.MethodName) jdk_42_method_74_code 9 (some .boolean) ({ frames := 2, cells := 0, slots := 0, locals := 33 } : Room) [.ref x0, .int 1, .int (4 : Int32), .ref x1, .int 0, .int 8] h0 [] (fun v h M' => v = some (.int (if (ciV c4.toInt8.toInt32 (83 : Int32)) = 0 then 0 else (if (ciV c5.toInt8.toInt32 (78 : Int32)) = 0 then 0 else (if (ciV c6.toInt8.toInt32 (65 : Int32)) = 0 then 0 else (if (ciV c7.toInt8.toInt32 (80 : Int32)) = 0 then 0 else (if (ciV c8.toInt8.toInt32 (83 : Int32)) = 0 then 0 else (if (ciV c9.toInt8.toInt32 (72 : Int32)) = 0 then 0 else (if (ciV c10.toInt8.toInt32 (79 : Int32)) = 0 then 0 else (if (ciV c11.toInt8.toInt32 (84 : Int32)) = 0 then 0 else 1))))))))) ∧ M' = [] ∧ h = h0) := by
  refine of_body (a0 := a0) opn_5 (own_ew hw) hO (Ls := #[.val (.ref x0), .val (.int (1 : Int32)), .val (.int (4 : Int32)), .val (.ref x1), .val (.int (0 : Int32)), .val (.int (8 : Int32)), .unset, .unset, .unset]) (fun m => by first | (simp [entryFrame, mkF, argsToLocals, Value.category]; done) | rfl) (fun κ T0 w0 hnm => ?_)
  refine W.iloadN w0 od_12_0 (pc' := 1) rfl rfl ?_
  refine W.ifYes w0 od_12_1 (pc' := 15) (by decide) (by decide) ((if0 _ _).trans (feq (by decide : ¬ ((1 : Int32) = (0 : Int32)))).2) ?_
  refine W.iload w0 od_12_15 (pc' := 17) rfl rfl ?_
  refine W.ifNo w0 od_12_17 (pc' := 20) rfl ((if0 _ _).trans (flt (by decide : ¬ ((0 : Int32) < (0 : Int32)))).1) ?_
  refine W.iloadN w0 od_12_20 (pc' := 21) rfl rfl ?_
  refine W.ifNo w0 od_12_21 (pc' := 24) rfl ((if0 _ _).trans (flt (by decide : ¬ ((4 : Int32) < (0 : Int32)))).1) ?_
  refine W.iloadN w0 od_12_24 (pc' := 25) rfl rfl ?_
  refine W.i2l w0 od_12_25 (pc' := 26) rfl (z := (4 : Int64)) rfl ?_
  refine W.aloadN w0 od_12_26 (pc' := 27) rfl rfl rfl ?_
  refine W.callV w0 (ow_61 hw) (ow_44 hw) (nfSel (ow_46 hw)) (ow_46 hw) (ow_45 hw) (by decide) opd_1 F0.1 (own_len hw w0.old F0) mN od_12_27 (pc' := 30) rfl rfl rfl (rest := [(.long (4 : Int64))]) rfl (Wd := 2) rfl (by decide) (by decide) (by decide) (by decide) fun v3 T1 h2 M4 w5 q6 => ?_
  obtain ⟨rfl, rfl, e7⟩ := q6
  obtain rfl := e7.symm
  show Go Z _ _ _ κ _ (T1.setTop (mkF (km κ) 30 #[.val (.ref x0), .val (.int (1 : Int32)), .val (.int (4 : Int32)), .val (.ref x1), .val (.int (0 : Int32)), .val (.int (8 : Int32)), .unset, .unset, .unset] [(.int (12 : Int32)), (.long (4 : Int64))]))
  refine W.i2l w5 od_12_30 (pc' := 31) rfl (z := (12 : Int64)) rfl ?_
  refine W.iload w5 od_12_31 (pc' := 33) rfl rfl ?_
  refine W.i2l w5 od_12_33 (pc' := 34) rfl (z := (8 : Int64)) rfl ?_
  refine W.lsub w5 od_12_34 (pc' := 35) rfl (z := (4 : Int64)) rfl ?_
  refine W.lcmp w5 od_12_35 (pc' := 36) rfl (z := (0 : Int32)) (by decide) ?_
  refine W.ifNo w5 od_12_36 (pc' := 39) rfl ((if0 _ _).trans (flt (by decide : ¬ ((0 : Int32) < (0 : Int32)))).2.2.1) ?_
  refine W.iload w5 od_12_39 (pc' := 41) rfl rfl ?_
  refine W.i2l w5 od_12_41 (pc' := 42) rfl (z := (0 : Int64)) rfl ?_
  refine W.aloadN w5 od_12_42 (pc' := 43) rfl rfl rfl ?_
  refine W.callV w5 (ow_61 hw) (ow_44 hw) (nfSel (ow_46 hw)) (ow_46 hw) (ow_45 hw) (by decide) opd_1 F1.1 (own_len hw w5.old F1) mN od_12_43 (pc' := 46) rfl rfl rfl (rest := [(.long (0 : Int64))]) rfl (Wd := 2) rfl (by decide) (by decide) (by decide) (by decide) fun v10 T8 h9 M11 w12 q13 => ?_
  obtain ⟨rfl, rfl, e14⟩ := q13
  obtain rfl := e14.symm
  show Go Z _ _ _ κ _ (T8.setTop (mkF (km κ) 46 #[.val (.ref x0), .val (.int (1 : Int32)), .val (.int (4 : Int32)), .val (.ref x1), .val (.int (0 : Int32)), .val (.int (8 : Int32)), .unset, .unset, .unset] [(.int (8 : Int32)), (.long (0 : Int64))]))
  refine W.i2l w12 od_12_46 (pc' := 47) rfl (z := (8 : Int64)) rfl ?_
  refine W.iload w12 od_12_47 (pc' := 49) rfl rfl ?_
  refine W.i2l w12 od_12_49 (pc' := 50) rfl (z := (8 : Int64)) rfl ?_
  refine W.lsub w12 od_12_50 (pc' := 51) rfl (z := (0 : Int64)) rfl ?_
  refine W.lcmp w12 od_12_51 (pc' := 52) rfl (z := (0 : Int32)) (by decide) ?_
  refine W.ifYes w12 od_12_52 (pc' := 57) (by decide) (by decide) ((if0 _ _).trans (flt (by decide : ¬ ((0 : Int32) < (0 : Int32)))).2.2.2) ?_
  refine W.aloadN w12 od_12_57 (pc' := 58) rfl rfl rfl ?_
  refine W.getF w12 (host := "") (Or.inl (ow_37 hw)) Via.refl F0.2.2.1 od_12_58 (pc' := 61) rfl fun T15 w16 => ?_
  refine W.astore w16 od_12_61 (pc' := 63) rfl (Ls' := #[.val (.ref x0), .val (.int (1 : Int32)), .val (.int (4 : Int32)), .val (.ref x1), .val (.int (0 : Int32)), .val (.int (8 : Int32)), .val (.ref t0), .unset, .unset]) rfl rfl ?_
  refine W.aloadN w16 od_12_63 (pc' := 64) rfl rfl rfl ?_
  refine W.getF w16 (host := "") (Or.inl (ow_37 hw)) Via.refl F1.2.2.1 od_12_64 (pc' := 67) rfl fun T17 w18 => ?_
  refine W.astore w18 od_12_67 (pc' := 69) rfl (Ls' := #[.val (.ref x0), .val (.int (1 : Int32)), .val (.int (4 : Int32)), .val (.ref x1), .val (.int (0 : Int32)), .val (.int (8 : Int32)), .val (.ref t0), .val (.ref t1), .unset]) rfl rfl ?_
  refine W.aloadN w18 od_12_69 (pc' := 70) rfl rfl rfl ?_
  refine W.callV w18 (ow_48 hw) (ow_49 hw) (nfSel (ow_51 hw)) (ow_51 hw) (ow_50 hw) (by decide) opd_2 F0.1 (Ctr.pay (c_coder hw F0.2.1 w18.old) (own_ew hw) (ow_52 hw) (ow_11 hw) (kf := 1) (kl := 12) (by decide) (by decide)) mN od_12_70 (pc' := 73) rfl rfl rfl (rest := []) rfl (Wd := 0) rfl (by decide) (by decide) (by decide) (by decide) fun v21 T19 h20 M22 w23 q24 => ?_
  obtain ⟨rfl, rfl, e25⟩ := q24
  obtain rfl := e25.symm
  show Go Z _ _ _ κ _ (T19.setTop (mkF (km κ) 73 #[.val (.ref x0), .val (.int (1 : Int32)), .val (.int (4 : Int32)), .val (.ref x1), .val (.int (0 : Int32)), .val (.int (8 : Int32)), .val (.ref t0), .val (.ref t1), .unset] [(.int (0 : Int32))]))
  refine W.istore w23 od_12_73 (pc' := 75) rfl (Ls' := #[.val (.ref x0), .val (.int (1 : Int32)), .val (.int (4 : Int32)), .val (.ref x1), .val (.int (0 : Int32)), .val (.int (8 : Int32)), .val (.ref t0), .val (.ref t1), .val (.int (0 : Int32))]) rfl ?_
  refine W.iload w23 od_12_75 (pc' := 77) rfl rfl ?_
  refine W.aloadN w23 od_12_77 (pc' := 78) rfl rfl rfl ?_
  refine W.callV w23 (ow_48 hw) (ow_49 hw) (nfSel (ow_51 hw)) (ow_51 hw) (ow_50 hw) (by decide) opd_2 F1.1 (Ctr.pay (c_coder hw F1.2.1 w23.old) (own_ew hw) (ow_52 hw) (ow_11 hw) (kf := 1) (kl := 12) (by decide) (by decide)) mN od_12_78 (pc' := 81) rfl rfl rfl (rest := [(.int (0 : Int32))]) rfl (Wd := 1) rfl (by decide) (by decide) (by decide) (by decide) fun v28 T26 h27 M29 w30 q31 => ?_
  obtain ⟨rfl, rfl, e32⟩ := q31
  obtain rfl := e32.symm
  show Go Z _ _ _ κ _ (T26.setTop (mkF (km κ) 81 #[.val (.ref x0), .val (.int (1 : Int32)), .val (.int (4 : Int32)), .val (.ref x1), .val (.int (0 : Int32)), .val (.int (8 : Int32)), .val (.ref t0), .val (.ref t1), .val (.int (0 : Int32))] [(.int (0 : Int32)), (.int (0 : Int32))]))
  refine W.icmpNo w30 od_12_81 (pc' := 84) rfl (teq (by decide : (0 : Int32) = (0 : Int32))).2 ?_
  refine W.iload w30 od_12_84 (pc' := 86) rfl rfl ?_
  refine W.ifNo w30 od_12_86 (pc' := 89) rfl ((if0 _ _).trans (teq (by decide : (0 : Int32) = (0 : Int32))).2) ?_
  refine W.aload w30 od_12_89 (pc' := 91) rfl rfl rfl ?_
  refine W.iloadN w30 od_12_91 (pc' := 92) rfl rfl ?_
  refine W.aload w30 od_12_92 (pc' := 94) rfl rfl rfl ?_
  refine W.iload w30 od_12_94 (pc' := 96) rfl rfl ?_
  refine W.iload w30 od_12_96 (pc' := 98) rfl rfl ?_
  obtain ⟨k0, A0⟩ := F0.2.2.2.1
  obtain ⟨k1, A1⟩ := F1.2.2.2.1
  refine W.callS w30 (ow_62 hw) (ow_63 hw) (ow_64 hw) (ow_65 hw) (by decide) opd_3 (Ctr.pay (c_rmci12 hw A0 A1 w30.old) (own_ew hw) (ow_65 hw) (ow_64 hw) (kf := 2) (kl := 33) (by decide) (by decide)) mN od_12_98 (pc' := 101) rfl rfl rfl (rest := []) rfl (Wd := 0) rfl (by decide) (by decide) (by decide) (by decide) fun v35 T33 h34 M36 w37 q38 => ?_
  obtain ⟨rfl, rfl, e39⟩ := q38
  obtain rfl := e39.symm
  show Go Z _ _ _ κ _ (T33.setTop (mkF (km κ) 101 #[.val (.ref x0), .val (.int (1 : Int32)), .val (.int (4 : Int32)), .val (.ref x1), .val (.int (0 : Int32)), .val (.int (8 : Int32)), .val (.ref t0), .val (.ref t1), .val (.int (0 : Int32))] [(.int (if (ciV c4.toInt8.toInt32 (83 : Int32)) = 0 then 0 else (if (ciV c5.toInt8.toInt32 (78 : Int32)) = 0 then 0 else (if (ciV c6.toInt8.toInt32 (65 : Int32)) = 0 then 0 else (if (ciV c7.toInt8.toInt32 (80 : Int32)) = 0 then 0 else (if (ciV c8.toInt8.toInt32 (83 : Int32)) = 0 then 0 else (if (ciV c9.toInt8.toInt32 (72 : Int32)) = 0 then 0 else (if (ciV c10.toInt8.toInt32 (79 : Int32)) = 0 then 0 else (if (ciV c11.toInt8.toInt32 (84 : Int32)) = 0 then 0 else 1)))))))))]))
  refine W.goto w37 od_12_101 (pc' := 116) (by decide) (by decide) ?_
  exact W.retN w37 (t := .boolean) (z' := (if (ciV c4.toInt8.toInt32 (83 : Int32)) = 0 then 0 else (if (ciV c5.toInt8.toInt32 (78 : Int32)) = 0 then 0 else (if (ciV c6.toInt8.toInt32 (65 : Int32)) = 0 then 0 else (if (ciV c7.toInt8.toInt32 (80 : Int32)) = 0 then 0 else (if (ciV c8.toInt8.toInt32 (83 : Int32)) = 0 then 0 else (if (ciV c9.toInt8.toInt32 (72 : Int32)) = 0 then 0 else (if (ciV c10.toInt8.toInt32 (79 : Int32)) = 0 then 0 else (if (ciV c11.toInt8.toInt32 (84 : Int32)) = 0 then 0 else 1))))))))) rfl (chain01 _ _ _ _ _ _ _ _) (by simp) od_12_116 (M' := []) mN (by decide) (by decide) ⟨rfl, rfl, rfl⟩
set_option maxRecDepth 65536 in
set_option maxHeartbeats 40000000 in
theorem c_snap0 {l : Launch} {Z : State} {a0 : Array Value} (hw : HW Z a0) {h0 : Heap} {x0 t0 : Addr} (F0 : Str8 Z h0 x0 t0 []) (hO : Old Z Z.heap.size h0) : Ctr l Z EL0 nw0 ({ cls := "com/example/sedgeholt/sedgeholt/layout/VersionFile", name := "isSnapshot", desc := "(Ljava/lang/String;)Z" } : Jvm.MethodName) prog_9_method_2_code 1 (some .boolean) ({ frames := 2, cells := 6, slots := 108, locals := 30 } : Room) [.ref x0] h0 [] (fun v h M' => v = some (.int 0) ∧ M' = [] ∧ Keep h0 h []) := by
  refine of_body (a0 := a0) opn_6 (own_ew hw) hO (Ls := #[.val (.ref x0)]) (fun m => by first | (simp [entryFrame, mkF, argsToLocals, Value.category]; done) | rfl) (fun κ T0 w0 hnm => ?_)
  refine W.aloadN w0 od_9_0 (pc' := 1) rfl rfl rfl ?_
  refine W.iconst w0 od_9_1 (pc' := 2) rfl (z := (1 : Int32)) rfl ?_
  refine W.aloadN w0 od_9_2 (pc' := 3) rfl rfl rfl ?_
  refine W.callV w0 (ow_43 hw) (ow_44 hw) (nfSel (ow_46 hw)) (ow_46 hw) (ow_45 hw) (by decide) opd_1 F0.1 (own_len hw w0.old F0) mN od_9_3 (pc' := 6) rfl rfl rfl (rest := [(.int (1 : Int32)), (.ref x0)]) rfl (Wd := 2) rfl (by decide) (by decide) (by decide) (by decide) fun v3 T1 h2 M4 w5 q6 => ?_
  obtain ⟨rfl, rfl, e7⟩ := q6
  obtain rfl := e7.symm
  show Go Z _ _ _ κ _ (T1.setTop (mkF (km κ) 6 #[.val (.ref x0)] [(.int (0 : Int32)), (.int (1 : Int32)), (.ref x0)]))
  refine W.ldcS w5 rfl (ow_53 hw) (own_sA hw) (List.mem_of_getElem? (i := 0) rfl) (vs := [(.int (83 : Int32)), (.int (78 : Int32)), (.int (65 : Int32)), (.int (80 : Int32)), (.int (83 : Int32)), (.int (72 : Int32)), (.int (79 : Int32)), (.int (84 : Int32))]) (z := (8 : Int32)) ⟨by decide, by decide⟩ (by decide) (by decide) od_9_6 (pc' := 8) rfl (n := 32) (by decide) (by decide) (by decide) (by decide) fun T8 h9 a10 a11 k12 w13 K14 E15 F16 F17 V18 Q19 => ?_
  have F20 : Str8 Z h9 a10 a11 [(83 : Int32), (78 : Int32), (65 : Int32), (80 : Int32), (83 : Int32), (72 : Int32), (79 : Int32), (84 : Int32)] := ⟨E15, F16, F17, ⟨_, V18⟩, by decide, by decide⟩
  refine W.callV w13 (ow_43 hw) (ow_44 hw) (nfSel (ow_46 hw)) (ow_46 hw) (ow_45 hw) (by decide) opd_1 E15 (own_len hw w13.old F20) mN od_9_8 (pc' := 11) rfl rfl rfl (rest := [(.int (0 : Int32)), (.int (1 : Int32)), (.ref x0)]) rfl (Wd := 3) rfl (by decide) (by decide) (by decide) (by decide) fun v23 T21 h22 M24 w25 q26 => ?_
  obtain ⟨rfl, rfl, e27⟩ := q26
  obtain rfl := e27.symm
  show Go Z _ _ _ κ _ (T21.setTop (mkF (km κ) 11 #[.val (.ref x0)] [(.int (8 : Int32)), (.int (0 : Int32)), (.int (1 : Int32)), (.ref x0)]))
  refine W.isub w25 od_9_11 (pc' := 12) rfl (z := (-8 : Int32)) rfl ?_
  refine W.ldcS w25 rfl (ow_53 hw) (own_sA hw) (List.mem_of_getElem? (i := 0) rfl) (vs := [(.int (83 : Int32)), (.int (78 : Int32)), (.int (65 : Int32)), (.int (80 : Int32)), (.int (83 : Int32)), (.int (72 : Int32)), (.int (79 : Int32)), (.int (84 : Int32))]) (z := (8 : Int32)) ⟨by decide, by decide⟩ (by decide) (by decide) od_9_12 (pc' := 14) rfl (n := 32) (by decide) (by decide) (by decide) (by decide) fun T28 h29 a30 a31 k32 w33 K34 E35 F36 F37 V38 Q39 => ?_
  have F40 : Str8 Z h29 a30 a31 [(83 : Int32), (78 : Int32), (65 : Int32), (80 : Int32), (83 : Int32), (72 : Int32), (79 : Int32), (84 : Int32)] := ⟨E35, F36, F37, ⟨_, V38⟩, by decide, by decide⟩
  refine W.iconst w33 od_9_14 (pc' := 15) rfl (z := (0 : Int32)) rfl ?_
  refine W.ldcS w33 rfl (ow_53 hw) (own_sA hw) (List.mem_of_getElem? (i := 0) rfl) (vs := [(.int (83 : Int32)), (.int (78 : Int32)), (.int (65 : Int32)), (.int (80 : Int32)), (.int (83 : Int32)), (.int (72 : Int32)), (.int (79 : Int32)), (.int (84 : Int32))]) (z := (8 : Int32)) ⟨by decide, by decide⟩ (by decide) (by decide) od_9_15 (pc' := 17) rfl (n := 32) (by decide) (by decide) (by decide) (by decide) fun T41 h42 a43 a44 k45 w46 K47 E48 F49 F50 V51 Q52 => ?_
  have F53 : Str8 Z h42 a43 a44 [(83 : Int32), (78 : Int32), (65 : Int32), (80 : Int32), (83 : Int32), (72 : Int32), (79 : Int32), (84 : Int32)] := ⟨E48, F49, F50, ⟨_, V51⟩, by decide, by decide⟩
  refine W.callV w46 (ow_43 hw) (ow_44 hw) (nfSel (ow_46 hw)) (ow_46 hw) (ow_45 hw) (by decide) opd_1 E48 (own_len hw w46.old F53) mN od_9_17 (pc' := 20) rfl rfl rfl (rest := [(.int (0 : Int32)), (.ref a30), (.int (-8 : Int32)), (.int (1 : Int32)), (.ref x0)]) rfl (Wd := 5) rfl (by decide) (by decide) (by decide) (by decide) fun v56 T54 h55 M57 w58 q59 => ?_
  obtain ⟨rfl, rfl, e60⟩ := q59
  obtain rfl := e60.symm
  show Go Z _ _ _ κ _ (T54.setTop (mkF (km κ) 20 #[.val (.ref x0)] [(.int (8 : Int32)), (.int (0 : Int32)), (.ref a30), (.int (-8 : Int32)), (.int (1 : Int32)), (.ref x0)]))
  have f61 := (((F0.keep K14 nin0 nin0).keep K34 nin0 nin0).keep K47 nin0 nin0)
  have f62 := (F40.keep K47 nin0 nin0)
  have f69 := (((F0.1.keep K14).keep K34).keep K47)
  refine W.callV w58 (ow_56 hw) (ow_57 hw) (nfSel (ow_59 hw)) (ow_59 hw) (ow_58 hw) (by decide) opd_4 f69 (Ctr.pay (c_rm0 hw f61 f62 w58.old) (own_ew hw) (ow_60 hw) (ow_11 hw) (kf := 1) (kl := 20) (by decide) (by decide)) mN od_9_20 (pc' := 23) rfl rfl rfl (rest := []) rfl (Wd := 0) rfl (by decide) (by decide) (by decide) (by decide) fun v65 T63 h64 M66 w67 q68 => ?_
  obtain ⟨rfl, rfl, e70⟩ := q68
  obtain rfl := e70.symm
  show Go Z _ _ _ κ _ (T63.setTop (mkF (km κ) 23 #[.val (.ref x0)] [(.int 0)]))
  have C71 := Keep.refl h0 []
  have C72 := C71.trans K14 RoadKit.all0
  have C73 := C72.trans K34 RoadKit.all0
  have C74 := C73.trans K47 RoadKit.all0
  exact W.retN w67 (t := .boolean) (z' := 0) rfl rfl (by simp) od_9_23 (M' := []) mN (by decide) (by decide) ⟨rfl, rfl, C74⟩
set_option maxRecDepth 65536 in
set_option maxHeartbeats 40000000 in
theorem c_snap1 {l : Launch} {Z : State} {a0 : Array Value} (hw : HW Z a0) {h0 : Heap} {x0 t0 : Addr} {c0 : Int32} (F0 : Str8 Z h0 x0 t0 [c0]) (hO : Old Z Z.heap.size h0) : Ctr l Z EL0 nw0 ({ cls := "com/example/sedgeholt/sedgeholt/layout/VersionFile", name := "isSnapshot", desc := "(Ljava/lang/String;)Z" } : Jvm.MethodName) prog_9_method_2_code 1 (some .boolean) ({ frames := 2, cells := 6, slots := 108, locals := 30 } : Room) [.ref x0] h0 [] (fun v h M' => v = some (.int 0) ∧ M' = [] ∧ Keep h0 h []) := by
  refine of_body (a0 := a0) opn_6 (own_ew hw) hO (Ls := #[.val (.ref x0)]) (fun m => by first | (simp [entryFrame, mkF, argsToLocals, Value.category]; done) | rfl) (fun κ T0 w0 hnm => ?_)
  refine W.aloadN w0 od_9_0 (pc' := 1) rfl rfl rfl ?_
  refine W.iconst w0 od_9_1 (pc' := 2) rfl (z := (1 : Int32)) rfl ?_
  refine W.aloadN w0 od_9_2 (pc' := 3) rfl rfl rfl ?_
  refine W.callV w0 (ow_43 hw) (ow_44 hw) (nfSel (ow_46 hw)) (ow_46 hw) (ow_45 hw) (by decide) opd_1 F0.1 (own_len hw w0.old F0) mN od_9_3 (pc' := 6) rfl rfl rfl (rest := [(.int (1 : Int32)), (.ref x0)]) rfl (Wd := 2) rfl (by decide) (by decide) (by decide) (by decide) fun v3 T1 h2 M4 w5 q6 => ?_
  obtain ⟨rfl, rfl, e7⟩ := q6
  obtain rfl := e7.symm
  show Go Z _ _ _ κ _ (T1.setTop (mkF (km κ) 6 #[.val (.ref x0)] [(.int (1 : Int32)), (.int (1 : Int32)), (.ref x0)]))
  refine W.ldcS w5 rfl (ow_53 hw) (own_sA hw) (List.mem_of_getElem? (i := 0) rfl) (vs := [(.int (83 : Int32)), (.int (78 : Int32)), (.int (65 : Int32)), (.int (80 : Int32)), (.int (83 : Int32)), (.int (72 : Int32)), (.int (79 : Int32)), (.int (84 : Int32))]) (z := (8 : Int32)) ⟨by decide, by decide⟩ (by decide) (by decide) od_9_6 (pc' := 8) rfl (n := 32) (by decide) (by decide) (by decide) (by decide) fun T8 h9 a10 a11 k12 w13 K14 E15 F16 F17 V18 Q19 => ?_
  have F20 : Str8 Z h9 a10 a11 [(83 : Int32), (78 : Int32), (65 : Int32), (80 : Int32), (83 : Int32), (72 : Int32), (79 : Int32), (84 : Int32)] := ⟨E15, F16, F17, ⟨_, V18⟩, by decide, by decide⟩
  refine W.callV w13 (ow_43 hw) (ow_44 hw) (nfSel (ow_46 hw)) (ow_46 hw) (ow_45 hw) (by decide) opd_1 E15 (own_len hw w13.old F20) mN od_9_8 (pc' := 11) rfl rfl rfl (rest := [(.int (1 : Int32)), (.int (1 : Int32)), (.ref x0)]) rfl (Wd := 3) rfl (by decide) (by decide) (by decide) (by decide) fun v23 T21 h22 M24 w25 q26 => ?_
  obtain ⟨rfl, rfl, e27⟩ := q26
  obtain rfl := e27.symm
  show Go Z _ _ _ κ _ (T21.setTop (mkF (km κ) 11 #[.val (.ref x0)] [(.int (8 : Int32)), (.int (1 : Int32)), (.int (1 : Int32)), (.ref x0)]))
  refine W.isub w25 od_9_11 (pc' := 12) rfl (z := (-7 : Int32)) rfl ?_
  refine W.ldcS w25 rfl (ow_53 hw) (own_sA hw) (List.mem_of_getElem? (i := 0) rfl) (vs := [(.int (83 : Int32)), (.int (78 : Int32)), (.int (65 : Int32)), (.int (80 : Int32)), (.int (83 : Int32)), (.int (72 : Int32)), (.int (79 : Int32)), (.int (84 : Int32))]) (z := (8 : Int32)) ⟨by decide, by decide⟩ (by decide) (by decide) od_9_12 (pc' := 14) rfl (n := 32) (by decide) (by decide) (by decide) (by decide) fun T28 h29 a30 a31 k32 w33 K34 E35 F36 F37 V38 Q39 => ?_
  have F40 : Str8 Z h29 a30 a31 [(83 : Int32), (78 : Int32), (65 : Int32), (80 : Int32), (83 : Int32), (72 : Int32), (79 : Int32), (84 : Int32)] := ⟨E35, F36, F37, ⟨_, V38⟩, by decide, by decide⟩
  refine W.iconst w33 od_9_14 (pc' := 15) rfl (z := (0 : Int32)) rfl ?_
  refine W.ldcS w33 rfl (ow_53 hw) (own_sA hw) (List.mem_of_getElem? (i := 0) rfl) (vs := [(.int (83 : Int32)), (.int (78 : Int32)), (.int (65 : Int32)), (.int (80 : Int32)), (.int (83 : Int32)), (.int (72 : Int32)), (.int (79 : Int32)), (.int (84 : Int32))]) (z := (8 : Int32)) ⟨by decide, by decide⟩ (by decide) (by decide) od_9_15 (pc' := 17) rfl (n := 32) (by decide) (by decide) (by decide) (by decide) fun T41 h42 a43 a44 k45 w46 K47 E48 F49 F50 V51 Q52 => ?_
  have F53 : Str8 Z h42 a43 a44 [(83 : Int32), (78 : Int32), (65 : Int32), (80 : Int32), (83 : Int32), (72 : Int32), (79 : Int32), (84 : Int32)] := ⟨E48, F49, F50, ⟨_, V51⟩, by decide, by decide⟩
  refine W.callV w46 (ow_43 hw) (ow_44 hw) (nfSel (ow_46 hw)) (ow_46 hw) (ow_45 hw) (by decide) opd_1 E48 (own_len hw w46.old F53) mN od_9_17 (pc' := 20) rfl rfl rfl (rest := [(.int (0 : Int32)), (.ref a30), (.int (-7 : Int32)), (.int (1 : Int32)), (.ref x0)]) rfl (Wd := 5) rfl (by decide) (by decide) (by decide) (by decide) fun v56 T54 h55 M57 w58 q59 => ?_
  obtain ⟨rfl, rfl, e60⟩ := q59
  obtain rfl := e60.symm
  show Go Z _ _ _ κ _ (T54.setTop (mkF (km κ) 20 #[.val (.ref x0)] [(.int (8 : Int32)), (.int (0 : Int32)), (.ref a30), (.int (-7 : Int32)), (.int (1 : Int32)), (.ref x0)]))
  have f61 := (((F0.keep K14 nin0 nin0).keep K34 nin0 nin0).keep K47 nin0 nin0)
  have f62 := (F40.keep K47 nin0 nin0)
  have f69 := (((F0.1.keep K14).keep K34).keep K47)
  refine W.callV w58 (ow_56 hw) (ow_57 hw) (nfSel (ow_59 hw)) (ow_59 hw) (ow_58 hw) (by decide) opd_4 f69 (Ctr.pay (c_rm1 hw f61 f62 w58.old) (own_ew hw) (ow_60 hw) (ow_11 hw) (kf := 1) (kl := 20) (by decide) (by decide)) mN od_9_20 (pc' := 23) rfl rfl rfl (rest := []) rfl (Wd := 0) rfl (by decide) (by decide) (by decide) (by decide) fun v65 T63 h64 M66 w67 q68 => ?_
  obtain ⟨rfl, rfl, e70⟩ := q68
  obtain rfl := e70.symm
  show Go Z _ _ _ κ _ (T63.setTop (mkF (km κ) 23 #[.val (.ref x0)] [(.int 0)]))
  have C71 := Keep.refl h0 []
  have C72 := C71.trans K14 RoadKit.all0
  have C73 := C72.trans K34 RoadKit.all0
  have C74 := C73.trans K47 RoadKit.all0
  exact W.retN w67 (t := .boolean) (z' := 0) rfl rfl (by simp) od_9_23 (M' := []) mN (by decide) (by decide) ⟨rfl, rfl, C74⟩
set_option maxRecDepth 65536 in
set_option maxHeartbeats 40000000 in
theorem c_snap7 {l : Launch} {Z : State} {a0 : Array Value} (hw : HW Z a0) {h0 : Heap} {x0 t0 : Addr} {c0 c1 c2 c3 c4 c5 c6 : Int32} (F0 : Str8 Z h0 x0 t0 [c0, c1, c2, c3, c4, c5, c6]) (hO : Old Z Z.heap.size h0) : Ctr l Z EL0 nw0 ({ cls := "com/example/sedgeholt/sedgeholt/layout/VersionFile", name := "isSnapshot", desc := "(Ljava/lang/String;)Z" } : Jvm.MethodName) prog_9_method_2_code 1 (some .boolean) ({ frames := 2, cells := 6, slots := 108, locals := 30 } : Room) [.ref x0] h0 [] (fun v h M' => v = some (.int 0) ∧ M' = [] ∧ Keep h0 h []) := by
  refine of_body (a0 := a0) opn_6 (own_ew hw) hO (Ls := #[.val (.ref x0)]) (fun m => by first | (simp [entryFrame, mkF, argsToLocals, Value.category]; done) | rfl) (fun κ T0 w0 hnm => ?_)
  refine W.aloadN w0 od_9_0 (pc' := 1) rfl rfl rfl ?_
  refine W.iconst w0 od_9_1 (pc' := 2) rfl (z := (1 : Int32)) rfl ?_
  refine W.aloadN w0 od_9_2 (pc' := 3) rfl rfl rfl ?_
  refine W.callV w0 (ow_43 hw) (ow_44 hw) (nfSel (ow_46 hw)) (ow_46 hw) (ow_45 hw) (by decide) opd_1 F0.1 (own_len hw w0.old F0) mN od_9_3 (pc' := 6) rfl rfl rfl (rest := [(.int (1 : Int32)), (.ref x0)]) rfl (Wd := 2) rfl (by decide) (by decide) (by decide) (by decide) fun v3 T1 h2 M4 w5 q6 => ?_
  obtain ⟨rfl, rfl, e7⟩ := q6
  obtain rfl := e7.symm
  show Go Z _ _ _ κ _ (T1.setTop (mkF (km κ) 6 #[.val (.ref x0)] [(.int (7 : Int32)), (.int (1 : Int32)), (.ref x0)]))
  refine W.ldcS w5 rfl (ow_53 hw) (own_sA hw) (List.mem_of_getElem? (i := 0) rfl) (vs := [(.int (83 : Int32)), (.int (78 : Int32)), (.int (65 : Int32)), (.int (80 : Int32)), (.int (83 : Int32)), (.int (72 : Int32)), (.int (79 : Int32)), (.int (84 : Int32))]) (z := (8 : Int32)) ⟨by decide, by decide⟩ (by decide) (by decide) od_9_6 (pc' := 8) rfl (n := 32) (by decide) (by decide) (by decide) (by decide) fun T8 h9 a10 a11 k12 w13 K14 E15 F16 F17 V18 Q19 => ?_
  have F20 : Str8 Z h9 a10 a11 [(83 : Int32), (78 : Int32), (65 : Int32), (80 : Int32), (83 : Int32), (72 : Int32), (79 : Int32), (84 : Int32)] := ⟨E15, F16, F17, ⟨_, V18⟩, by decide, by decide⟩
  refine W.callV w13 (ow_43 hw) (ow_44 hw) (nfSel (ow_46 hw)) (ow_46 hw) (ow_45 hw) (by decide) opd_1 E15 (own_len hw w13.old F20) mN od_9_8 (pc' := 11) rfl rfl rfl (rest := [(.int (7 : Int32)), (.int (1 : Int32)), (.ref x0)]) rfl (Wd := 3) rfl (by decide) (by decide) (by decide) (by decide) fun v23 T21 h22 M24 w25 q26 => ?_
  obtain ⟨rfl, rfl, e27⟩ := q26
  obtain rfl := e27.symm
  show Go Z _ _ _ κ _ (T21.setTop (mkF (km κ) 11 #[.val (.ref x0)] [(.int (8 : Int32)), (.int (7 : Int32)), (.int (1 : Int32)), (.ref x0)]))
  refine W.isub w25 od_9_11 (pc' := 12) rfl (z := (-1 : Int32)) rfl ?_
  refine W.ldcS w25 rfl (ow_53 hw) (own_sA hw) (List.mem_of_getElem? (i := 0) rfl) (vs := [(.int (83 : Int32)), (.int (78 : Int32)), (.int (65 : Int32)), (.int (80 : Int32)), (.int (83 : Int32)), (.int (72 : Int32)), (.int (79 : Int32)), (.int (84 : Int32))]) (z := (8 : Int32)) ⟨by decide, by decide⟩ (by decide) (by decide) od_9_12 (pc' := 14) rfl (n := 32) (by decide) (by decide) (by decide) (by decide) fun T28 h29 a30 a31 k32 w33 K34 E35 F36 F37 V38 Q39 => ?_
  have F40 : Str8 Z h29 a30 a31 [(83 : Int32), (78 : Int32), (65 : Int32), (80 : Int32), (83 : Int32), (72 : Int32), (79 : Int32), (84 : Int32)] := ⟨E35, F36, F37, ⟨_, V38⟩, by decide, by decide⟩
  refine W.iconst w33 od_9_14 (pc' := 15) rfl (z := (0 : Int32)) rfl ?_
  refine W.ldcS w33 rfl (ow_53 hw) (own_sA hw) (List.mem_of_getElem? (i := 0) rfl) (vs := [(.int (83 : Int32)), (.int (78 : Int32)), (.int (65 : Int32)), (.int (80 : Int32)), (.int (83 : Int32)), (.int (72 : Int32)), (.int (79 : Int32)), (.int (84 : Int32))]) (z := (8 : Int32)) ⟨by decide, by decide⟩ (by decide) (by decide) od_9_15 (pc' := 17) rfl (n := 32) (by decide) (by decide) (by decide) (by decide) fun T41 h42 a43 a44 k45 w46 K47 E48 F49 F50 V51 Q52 => ?_
  have F53 : Str8 Z h42 a43 a44 [(83 : Int32), (78 : Int32), (65 : Int32), (80 : Int32), (83 : Int32), (72 : Int32), (79 : Int32), (84 : Int32)] := ⟨E48, F49, F50, ⟨_, V51⟩, by decide, by decide⟩
  refine W.callV w46 (ow_43 hw) (ow_44 hw) (nfSel (ow_46 hw)) (ow_46 hw) (ow_45 hw) (by decide) opd_1 E48 (own_len hw w46.old F53) mN od_9_17 (pc' := 20) rfl rfl rfl (rest := [(.int (0 : Int32)), (.ref a30), (.int (-1 : Int32)), (.int (1 : Int32)), (.ref x0)]) rfl (Wd := 5) rfl (by decide) (by decide) (by decide) (by decide) fun v56 T54 h55 M57 w58 q59 => ?_
  obtain ⟨rfl, rfl, e60⟩ := q59
  obtain rfl := e60.symm
  show Go Z _ _ _ κ _ (T54.setTop (mkF (km κ) 20 #[.val (.ref x0)] [(.int (8 : Int32)), (.int (0 : Int32)), (.ref a30), (.int (-1 : Int32)), (.int (1 : Int32)), (.ref x0)]))
  have f61 := (((F0.keep K14 nin0 nin0).keep K34 nin0 nin0).keep K47 nin0 nin0)
  have f62 := (F40.keep K47 nin0 nin0)
  have f69 := (((F0.1.keep K14).keep K34).keep K47)
  refine W.callV w58 (ow_56 hw) (ow_57 hw) (nfSel (ow_59 hw)) (ow_59 hw) (ow_58 hw) (by decide) opd_4 f69 (Ctr.pay (c_rm7 hw f61 f62 w58.old) (own_ew hw) (ow_60 hw) (ow_11 hw) (kf := 1) (kl := 20) (by decide) (by decide)) mN od_9_20 (pc' := 23) rfl rfl rfl (rest := []) rfl (Wd := 0) rfl (by decide) (by decide) (by decide) (by decide) fun v65 T63 h64 M66 w67 q68 => ?_
  obtain ⟨rfl, rfl, e70⟩ := q68
  obtain rfl := e70.symm
  show Go Z _ _ _ κ _ (T63.setTop (mkF (km κ) 23 #[.val (.ref x0)] [(.int 0)]))
  have C71 := Keep.refl h0 []
  have C72 := C71.trans K14 RoadKit.all0
  have C73 := C72.trans K34 RoadKit.all0
  have C74 := C73.trans K47 RoadKit.all0
  exact W.retN w67 (t := .boolean) (z' := 0) rfl rfl (by simp) od_9_23 (M' := []) mN (by decide) (by decide) ⟨rfl, rfl, C74⟩
set_option maxRecDepth 65536 in
set_option maxHeartbeats 40000000 in
theorem c_snap8 {l : Launch} {Z : State} {a0 : Array Value} (hw : HW Z a0) {h0 : Heap} {x0 t0 : Addr} {c0 c1 c2 c3 c4 c5 c6 c7 : Int32} (F0 : Str8 Z h0 x0 t0 [c0, c1, c2, c3, c4, c5, c6, c7]) (hO : Old Z Z.heap.size h0) : Ctr l Z EL0 nw0 ({ cls := "com/example/sedgeholt/sedgeholt/layout/VersionFile", name := "isSnapshot", desc := "(Ljava/lang/String;)Z" } : Jvm.MethodName) prog_9_method_2_code 1 (some .boolean) ({ frames := 3, cells := 6, slots := 108, locals := 53 } : Room) [.ref x0] h0 [] (fun v h M' => v = some (.int (if (ciV c0.toInt8.toInt32 (83 : Int32)) = 0 then 0 else (if (ciV c1.toInt8.toInt32 (78 : Int32)) = 0 then 0 else (if (ciV c2.toInt8.toInt32 (65 : Int32)) = 0 then 0 else (if (ciV c3.toInt8.toInt32 (80 : Int32)) = 0 then 0 else (if (ciV c4.toInt8.toInt32 (83 : Int32)) = 0 then 0 else (if (ciV c5.toInt8.toInt32 (72 : Int32)) = 0 then 0 else (if (ciV c6.toInt8.toInt32 (79 : Int32)) = 0 then 0 else (if (ciV c7.toInt8.toInt32 (84 : Int32)) = 0 then 0 else 1))))))))) ∧ M' = [] ∧ Keep h0 h []) := by
  refine of_body (a0 := a0) opn_6 (own_ew hw) hO (Ls := #[.val (.ref x0)]) (fun m => by first | (simp [entryFrame, mkF, argsToLocals, Value.category]; done) | rfl) (fun κ T0 w0 hnm => ?_)
  refine W.aloadN w0 od_9_0 (pc' := 1) rfl rfl rfl ?_
  refine W.iconst w0 od_9_1 (pc' := 2) rfl (z := (1 : Int32)) rfl ?_
  refine W.aloadN w0 od_9_2 (pc' := 3) rfl rfl rfl ?_
  refine W.callV w0 (ow_43 hw) (ow_44 hw) (nfSel (ow_46 hw)) (ow_46 hw) (ow_45 hw) (by decide) opd_1 F0.1 (own_len hw w0.old F0) mN od_9_3 (pc' := 6) rfl rfl rfl (rest := [(.int (1 : Int32)), (.ref x0)]) rfl (Wd := 2) rfl (by decide) (by decide) (by decide) (by decide) fun v3 T1 h2 M4 w5 q6 => ?_
  obtain ⟨rfl, rfl, e7⟩ := q6
  obtain rfl := e7.symm
  show Go Z _ _ _ κ _ (T1.setTop (mkF (km κ) 6 #[.val (.ref x0)] [(.int (8 : Int32)), (.int (1 : Int32)), (.ref x0)]))
  refine W.ldcS w5 rfl (ow_53 hw) (own_sA hw) (List.mem_of_getElem? (i := 0) rfl) (vs := [(.int (83 : Int32)), (.int (78 : Int32)), (.int (65 : Int32)), (.int (80 : Int32)), (.int (83 : Int32)), (.int (72 : Int32)), (.int (79 : Int32)), (.int (84 : Int32))]) (z := (8 : Int32)) ⟨by decide, by decide⟩ (by decide) (by decide) od_9_6 (pc' := 8) rfl (n := 32) (by decide) (by decide) (by decide) (by decide) fun T8 h9 a10 a11 k12 w13 K14 E15 F16 F17 V18 Q19 => ?_
  have F20 : Str8 Z h9 a10 a11 [(83 : Int32), (78 : Int32), (65 : Int32), (80 : Int32), (83 : Int32), (72 : Int32), (79 : Int32), (84 : Int32)] := ⟨E15, F16, F17, ⟨_, V18⟩, by decide, by decide⟩
  refine W.callV w13 (ow_43 hw) (ow_44 hw) (nfSel (ow_46 hw)) (ow_46 hw) (ow_45 hw) (by decide) opd_1 E15 (own_len hw w13.old F20) mN od_9_8 (pc' := 11) rfl rfl rfl (rest := [(.int (8 : Int32)), (.int (1 : Int32)), (.ref x0)]) rfl (Wd := 3) rfl (by decide) (by decide) (by decide) (by decide) fun v23 T21 h22 M24 w25 q26 => ?_
  obtain ⟨rfl, rfl, e27⟩ := q26
  obtain rfl := e27.symm
  show Go Z _ _ _ κ _ (T21.setTop (mkF (km κ) 11 #[.val (.ref x0)] [(.int (8 : Int32)), (.int (8 : Int32)), (.int (1 : Int32)), (.ref x0)]))
  refine W.isub w25 od_9_11 (pc' := 12) rfl (z := (0 : Int32)) rfl ?_
  refine W.ldcS w25 rfl (ow_53 hw) (own_sA hw) (List.mem_of_getElem? (i := 0) rfl) (vs := [(.int (83 : Int32)), (.int (78 : Int32)), (.int (65 : Int32)), (.int (80 : Int32)), (.int (83 : Int32)), (.int (72 : Int32)), (.int (79 : Int32)), (.int (84 : Int32))]) (z := (8 : Int32)) ⟨by decide, by decide⟩ (by decide) (by decide) od_9_12 (pc' := 14) rfl (n := 32) (by decide) (by decide) (by decide) (by decide) fun T28 h29 a30 a31 k32 w33 K34 E35 F36 F37 V38 Q39 => ?_
  have F40 : Str8 Z h29 a30 a31 [(83 : Int32), (78 : Int32), (65 : Int32), (80 : Int32), (83 : Int32), (72 : Int32), (79 : Int32), (84 : Int32)] := ⟨E35, F36, F37, ⟨_, V38⟩, by decide, by decide⟩
  refine W.iconst w33 od_9_14 (pc' := 15) rfl (z := (0 : Int32)) rfl ?_
  refine W.ldcS w33 rfl (ow_53 hw) (own_sA hw) (List.mem_of_getElem? (i := 0) rfl) (vs := [(.int (83 : Int32)), (.int (78 : Int32)), (.int (65 : Int32)), (.int (80 : Int32)), (.int (83 : Int32)), (.int (72 : Int32)), (.int (79 : Int32)), (.int (84 : Int32))]) (z := (8 : Int32)) ⟨by decide, by decide⟩ (by decide) (by decide) od_9_15 (pc' := 17) rfl (n := 32) (by decide) (by decide) (by decide) (by decide) fun T41 h42 a43 a44 k45 w46 K47 E48 F49 F50 V51 Q52 => ?_
  have F53 : Str8 Z h42 a43 a44 [(83 : Int32), (78 : Int32), (65 : Int32), (80 : Int32), (83 : Int32), (72 : Int32), (79 : Int32), (84 : Int32)] := ⟨E48, F49, F50, ⟨_, V51⟩, by decide, by decide⟩
  refine W.callV w46 (ow_43 hw) (ow_44 hw) (nfSel (ow_46 hw)) (ow_46 hw) (ow_45 hw) (by decide) opd_1 E48 (own_len hw w46.old F53) mN od_9_17 (pc' := 20) rfl rfl rfl (rest := [(.int (0 : Int32)), (.ref a30), (.int (0 : Int32)), (.int (1 : Int32)), (.ref x0)]) rfl (Wd := 5) rfl (by decide) (by decide) (by decide) (by decide) fun v56 T54 h55 M57 w58 q59 => ?_
  obtain ⟨rfl, rfl, e60⟩ := q59
  obtain rfl := e60.symm
  show Go Z _ _ _ κ _ (T54.setTop (mkF (km κ) 20 #[.val (.ref x0)] [(.int (8 : Int32)), (.int (0 : Int32)), (.ref a30), (.int (0 : Int32)), (.int (1 : Int32)), (.ref x0)]))
  have f61 := (((F0.keep K14 nin0 nin0).keep K34 nin0 nin0).keep K47 nin0 nin0)
  have f62 := (F40.keep K47 nin0 nin0)
  have f69 := (((F0.1.keep K14).keep K34).keep K47)
  refine W.callV w58 (ow_56 hw) (ow_57 hw) (nfSel (ow_59 hw)) (ow_59 hw) (ow_58 hw) (by decide) opd_4 f69 (Ctr.pay (c_rm8 hw f61 f62 w58.old) (own_ew hw) (ow_60 hw) (ow_11 hw) (kf := 3) (kl := 53) (by decide) (by decide)) mN od_9_20 (pc' := 23) rfl rfl rfl (rest := []) rfl (Wd := 0) rfl (by decide) (by decide) (by decide) (by decide) fun v65 T63 h64 M66 w67 q68 => ?_
  obtain ⟨rfl, rfl, e70⟩ := q68
  obtain rfl := e70.symm
  show Go Z _ _ _ κ _ (T63.setTop (mkF (km κ) 23 #[.val (.ref x0)] [(.int (if (ciV c0.toInt8.toInt32 (83 : Int32)) = 0 then 0 else (if (ciV c1.toInt8.toInt32 (78 : Int32)) = 0 then 0 else (if (ciV c2.toInt8.toInt32 (65 : Int32)) = 0 then 0 else (if (ciV c3.toInt8.toInt32 (80 : Int32)) = 0 then 0 else (if (ciV c4.toInt8.toInt32 (83 : Int32)) = 0 then 0 else (if (ciV c5.toInt8.toInt32 (72 : Int32)) = 0 then 0 else (if (ciV c6.toInt8.toInt32 (79 : Int32)) = 0 then 0 else (if (ciV c7.toInt8.toInt32 (84 : Int32)) = 0 then 0 else 1)))))))))]))
  have C71 := Keep.refl h0 []
  have C72 := C71.trans K14 RoadKit.all0
  have C73 := C72.trans K34 RoadKit.all0
  have C74 := C73.trans K47 RoadKit.all0
  exact W.retN w67 (t := .boolean) (z' := (if (ciV c0.toInt8.toInt32 (83 : Int32)) = 0 then 0 else (if (ciV c1.toInt8.toInt32 (78 : Int32)) = 0 then 0 else (if (ciV c2.toInt8.toInt32 (65 : Int32)) = 0 then 0 else (if (ciV c3.toInt8.toInt32 (80 : Int32)) = 0 then 0 else (if (ciV c4.toInt8.toInt32 (83 : Int32)) = 0 then 0 else (if (ciV c5.toInt8.toInt32 (72 : Int32)) = 0 then 0 else (if (ciV c6.toInt8.toInt32 (79 : Int32)) = 0 then 0 else (if (ciV c7.toInt8.toInt32 (84 : Int32)) = 0 then 0 else 1))))))))) rfl (chain01 _ _ _ _ _ _ _ _) (by simp) od_9_23 (M' := []) mN (by decide) (by decide) ⟨rfl, rfl, C74⟩
set_option maxRecDepth 65536 in
set_option maxHeartbeats 40000000 in
theorem c_snap9 {l : Launch} {Z : State} {a0 : Array Value} (hw : HW Z a0) {h0 : Heap} {x0 t0 : Addr} {c0 c1 c2 c3 c4 c5 c6 c7 c8 : Int32} (F0 : Str8 Z h0 x0 t0 [c0, c1, c2, c3, c4, c5, c6, c7, c8]) (hO : Old Z Z.heap.size h0) : Ctr l Z EL0 nw0 ({ cls := "com/example/sedgeholt/sedgeholt/layout/VersionFile", name := "isSnapshot", desc := "(Ljava/lang/String;)Z" } : Jvm.MethodName) prog_9_method_2_code 1 (some .boolean) ({ frames := 3, cells := 6, slots := 108, locals := 53 } : Room) [.ref x0] h0 [] (fun v h M' => v = some (.int (if (ciV c1.toInt8.toInt32 (83 : Int32)) = 0 then 0 else (if (ciV c2.toInt8.toInt32 (78 : Int32)) = 0 then 0 else (if (ciV c3.toInt8.toInt32 (65 : Int32)) = 0 then 0 else (if (ciV c4.toInt8.toInt32 (80 : Int32)) = 0 then 0 else (if (ciV c5.toInt8.toInt32 (83 : Int32)) = 0 then 0 else (if (ciV c6.toInt8.toInt32 (72 : Int32)) = 0 then 0 else (if (ciV c7.toInt8.toInt32 (79 : Int32)) = 0 then 0 else (if (ciV c8.toInt8.toInt32 (84 : Int32)) = 0 then 0 else 1))))))))) ∧ M' = [] ∧ Keep h0 h []) := by
  refine of_body (a0 := a0) opn_6 (own_ew hw) hO (Ls := #[.val (.ref x0)]) (fun m => by first | (simp [entryFrame, mkF, argsToLocals, Value.category]; done) | rfl) (fun κ T0 w0 hnm => ?_)
  refine W.aloadN w0 od_9_0 (pc' := 1) rfl rfl rfl ?_
  refine W.iconst w0 od_9_1 (pc' := 2) rfl (z := (1 : Int32)) rfl ?_
  refine W.aloadN w0 od_9_2 (pc' := 3) rfl rfl rfl ?_
  refine W.callV w0 (ow_43 hw) (ow_44 hw) (nfSel (ow_46 hw)) (ow_46 hw) (ow_45 hw) (by decide) opd_1 F0.1 (own_len hw w0.old F0) mN od_9_3 (pc' := 6) rfl rfl rfl (rest := [(.int (1 : Int32)), (.ref x0)]) rfl (Wd := 2) rfl (by decide) (by decide) (by decide) (by decide) fun v3 T1 h2 M4 w5 q6 => ?_
  obtain ⟨rfl, rfl, e7⟩ := q6
  obtain rfl := e7.symm
  show Go Z _ _ _ κ _ (T1.setTop (mkF (km κ) 6 #[.val (.ref x0)] [(.int (9 : Int32)), (.int (1 : Int32)), (.ref x0)]))
  refine W.ldcS w5 rfl (ow_53 hw) (own_sA hw) (List.mem_of_getElem? (i := 0) rfl) (vs := [(.int (83 : Int32)), (.int (78 : Int32)), (.int (65 : Int32)), (.int (80 : Int32)), (.int (83 : Int32)), (.int (72 : Int32)), (.int (79 : Int32)), (.int (84 : Int32))]) (z := (8 : Int32)) ⟨by decide, by decide⟩ (by decide) (by decide) od_9_6 (pc' := 8) rfl (n := 32) (by decide) (by decide) (by decide) (by decide) fun T8 h9 a10 a11 k12 w13 K14 E15 F16 F17 V18 Q19 => ?_
  have F20 : Str8 Z h9 a10 a11 [(83 : Int32), (78 : Int32), (65 : Int32), (80 : Int32), (83 : Int32), (72 : Int32), (79 : Int32), (84 : Int32)] := ⟨E15, F16, F17, ⟨_, V18⟩, by decide, by decide⟩
  refine W.callV w13 (ow_43 hw) (ow_44 hw) (nfSel (ow_46 hw)) (ow_46 hw) (ow_45 hw) (by decide) opd_1 E15 (own_len hw w13.old F20) mN od_9_8 (pc' := 11) rfl rfl rfl (rest := [(.int (9 : Int32)), (.int (1 : Int32)), (.ref x0)]) rfl (Wd := 3) rfl (by decide) (by decide) (by decide) (by decide) fun v23 T21 h22 M24 w25 q26 => ?_
  obtain ⟨rfl, rfl, e27⟩ := q26
  obtain rfl := e27.symm
  show Go Z _ _ _ κ _ (T21.setTop (mkF (km κ) 11 #[.val (.ref x0)] [(.int (8 : Int32)), (.int (9 : Int32)), (.int (1 : Int32)), (.ref x0)]))
  refine W.isub w25 od_9_11 (pc' := 12) rfl (z := (1 : Int32)) rfl ?_
  refine W.ldcS w25 rfl (ow_53 hw) (own_sA hw) (List.mem_of_getElem? (i := 0) rfl) (vs := [(.int (83 : Int32)), (.int (78 : Int32)), (.int (65 : Int32)), (.int (80 : Int32)), (.int (83 : Int32)), (.int (72 : Int32)), (.int (79 : Int32)), (.int (84 : Int32))]) (z := (8 : Int32)) ⟨by decide, by decide⟩ (by decide) (by decide) od_9_12 (pc' := 14) rfl (n := 32) (by decide) (by decide) (by decide) (by decide) fun T28 h29 a30 a31 k32 w33 K34 E35 F36 F37 V38 Q39 => ?_
  have F40 : Str8 Z h29 a30 a31 [(83 : Int32), (78 : Int32), (65 : Int32), (80 : Int32), (83 : Int32), (72 : Int32), (79 : Int32), (84 : Int32)] := ⟨E35, F36, F37, ⟨_, V38⟩, by decide, by decide⟩
  refine W.iconst w33 od_9_14 (pc' := 15) rfl (z := (0 : Int32)) rfl ?_
  refine W.ldcS w33 rfl (ow_53 hw) (own_sA hw) (List.mem_of_getElem? (i := 0) rfl) (vs := [(.int (83 : Int32)), (.int (78 : Int32)), (.int (65 : Int32)), (.int (80 : Int32)), (.int (83 : Int32)), (.int (72 : Int32)), (.int (79 : Int32)), (.int (84 : Int32))]) (z := (8 : Int32)) ⟨by decide, by decide⟩ (by decide) (by decide) od_9_15 (pc' := 17) rfl (n := 32) (by decide) (by decide) (by decide) (by decide) fun T41 h42 a43 a44 k45 w46 K47 E48 F49 F50 V51 Q52 => ?_
  have F53 : Str8 Z h42 a43 a44 [(83 : Int32), (78 : Int32), (65 : Int32), (80 : Int32), (83 : Int32), (72 : Int32), (79 : Int32), (84 : Int32)] := ⟨E48, F49, F50, ⟨_, V51⟩, by decide, by decide⟩
  refine W.callV w46 (ow_43 hw) (ow_44 hw) (nfSel (ow_46 hw)) (ow_46 hw) (ow_45 hw) (by decide) opd_1 E48 (own_len hw w46.old F53) mN od_9_17 (pc' := 20) rfl rfl rfl (rest := [(.int (0 : Int32)), (.ref a30), (.int (1 : Int32)), (.int (1 : Int32)), (.ref x0)]) rfl (Wd := 5) rfl (by decide) (by decide) (by decide) (by decide) fun v56 T54 h55 M57 w58 q59 => ?_
  obtain ⟨rfl, rfl, e60⟩ := q59
  obtain rfl := e60.symm
  show Go Z _ _ _ κ _ (T54.setTop (mkF (km κ) 20 #[.val (.ref x0)] [(.int (8 : Int32)), (.int (0 : Int32)), (.ref a30), (.int (1 : Int32)), (.int (1 : Int32)), (.ref x0)]))
  have f61 := (((F0.keep K14 nin0 nin0).keep K34 nin0 nin0).keep K47 nin0 nin0)
  have f62 := (F40.keep K47 nin0 nin0)
  have f69 := (((F0.1.keep K14).keep K34).keep K47)
  refine W.callV w58 (ow_56 hw) (ow_57 hw) (nfSel (ow_59 hw)) (ow_59 hw) (ow_58 hw) (by decide) opd_4 f69 (Ctr.pay (c_rm9 hw f61 f62 w58.old) (own_ew hw) (ow_60 hw) (ow_11 hw) (kf := 3) (kl := 53) (by decide) (by decide)) mN od_9_20 (pc' := 23) rfl rfl rfl (rest := []) rfl (Wd := 0) rfl (by decide) (by decide) (by decide) (by decide) fun v65 T63 h64 M66 w67 q68 => ?_
  obtain ⟨rfl, rfl, e70⟩ := q68
  obtain rfl := e70.symm
  show Go Z _ _ _ κ _ (T63.setTop (mkF (km κ) 23 #[.val (.ref x0)] [(.int (if (ciV c1.toInt8.toInt32 (83 : Int32)) = 0 then 0 else (if (ciV c2.toInt8.toInt32 (78 : Int32)) = 0 then 0 else (if (ciV c3.toInt8.toInt32 (65 : Int32)) = 0 then 0 else (if (ciV c4.toInt8.toInt32 (80 : Int32)) = 0 then 0 else (if (ciV c5.toInt8.toInt32 (83 : Int32)) = 0 then 0 else (if (ciV c6.toInt8.toInt32 (72 : Int32)) = 0 then 0 else (if (ciV c7.toInt8.toInt32 (79 : Int32)) = 0 then 0 else (if (ciV c8.toInt8.toInt32 (84 : Int32)) = 0 then 0 else 1)))))))))]))
  have C71 := Keep.refl h0 []
  have C72 := C71.trans K14 RoadKit.all0
  have C73 := C72.trans K34 RoadKit.all0
  have C74 := C73.trans K47 RoadKit.all0
  exact W.retN w67 (t := .boolean) (z' := (if (ciV c1.toInt8.toInt32 (83 : Int32)) = 0 then 0 else (if (ciV c2.toInt8.toInt32 (78 : Int32)) = 0 then 0 else (if (ciV c3.toInt8.toInt32 (65 : Int32)) = 0 then 0 else (if (ciV c4.toInt8.toInt32 (80 : Int32)) = 0 then 0 else (if (ciV c5.toInt8.toInt32 (83 : Int32)) = 0 then 0 else (if (ciV c6.toInt8.toInt32 (72 : Int32)) = 0 then 0 else (if (ciV c7.toInt8.toInt32 (79 : Int32)) = 0 then 0 else (if (ciV c8.toInt8.toInt32 (84 : Int32)) = 0 then 0 else 1))))))))) rfl (chain01 _ _ _ _ _ _ _ _) (by simp) od_9_23 (M' := []) mN (by decide) (by decide) ⟨rfl, rfl, C74⟩
set_option maxRecDepth 65536 in
set_option maxHeartbeats 40000000 in
theorem c_snap12 {l : Launch} {Z : State} {a0 : Array Value} (hw : HW Z a0) {h0 : Heap} {x0 t0 : Addr} {c0 c1 c2 c3 c4 c5 c6 c7 c8 c9 c10 c11 : Int32} (F0 : Str8 Z h0 x0 t0 [c0, c1, c2, c3, c4, c5, c6, c7, c8, c9, c10, c11]) (hO : Old Z Z.heap.size h0) : Ctr l Z EL0 nw0 ({ cls := "com/example/sedgeholt/sedgeholt/layout/VersionFile", name := "isSnapshot", desc := "(Ljava/lang/String;)Z" } : Jvm.MethodName) prog_9_method_2_code 1 (some .boolean) ({ frames := 3, cells := 6, slots := 108, locals := 53 } : Room) [.ref x0] h0 [] (fun v h M' => v = some (.int (if (ciV c4.toInt8.toInt32 (83 : Int32)) = 0 then 0 else (if (ciV c5.toInt8.toInt32 (78 : Int32)) = 0 then 0 else (if (ciV c6.toInt8.toInt32 (65 : Int32)) = 0 then 0 else (if (ciV c7.toInt8.toInt32 (80 : Int32)) = 0 then 0 else (if (ciV c8.toInt8.toInt32 (83 : Int32)) = 0 then 0 else (if (ciV c9.toInt8.toInt32 (72 : Int32)) = 0 then 0 else (if (ciV c10.toInt8.toInt32 (79 : Int32)) = 0 then 0 else (if (ciV c11.toInt8.toInt32 (84 : Int32)) = 0 then 0 else 1))))))))) ∧ M' = [] ∧ Keep h0 h []) := by
  refine of_body (a0 := a0) opn_6 (own_ew hw) hO (Ls := #[.val (.ref x0)]) (fun m => by first | (simp [entryFrame, mkF, argsToLocals, Value.category]; done) | rfl) (fun κ T0 w0 hnm => ?_)
  refine W.aloadN w0 od_9_0 (pc' := 1) rfl rfl rfl ?_
  refine W.iconst w0 od_9_1 (pc' := 2) rfl (z := (1 : Int32)) rfl ?_
  refine W.aloadN w0 od_9_2 (pc' := 3) rfl rfl rfl ?_
  refine W.callV w0 (ow_43 hw) (ow_44 hw) (nfSel (ow_46 hw)) (ow_46 hw) (ow_45 hw) (by decide) opd_1 F0.1 (own_len hw w0.old F0) mN od_9_3 (pc' := 6) rfl rfl rfl (rest := [(.int (1 : Int32)), (.ref x0)]) rfl (Wd := 2) rfl (by decide) (by decide) (by decide) (by decide) fun v3 T1 h2 M4 w5 q6 => ?_
  obtain ⟨rfl, rfl, e7⟩ := q6
  obtain rfl := e7.symm
  show Go Z _ _ _ κ _ (T1.setTop (mkF (km κ) 6 #[.val (.ref x0)] [(.int (12 : Int32)), (.int (1 : Int32)), (.ref x0)]))
  refine W.ldcS w5 rfl (ow_53 hw) (own_sA hw) (List.mem_of_getElem? (i := 0) rfl) (vs := [(.int (83 : Int32)), (.int (78 : Int32)), (.int (65 : Int32)), (.int (80 : Int32)), (.int (83 : Int32)), (.int (72 : Int32)), (.int (79 : Int32)), (.int (84 : Int32))]) (z := (8 : Int32)) ⟨by decide, by decide⟩ (by decide) (by decide) od_9_6 (pc' := 8) rfl (n := 32) (by decide) (by decide) (by decide) (by decide) fun T8 h9 a10 a11 k12 w13 K14 E15 F16 F17 V18 Q19 => ?_
  have F20 : Str8 Z h9 a10 a11 [(83 : Int32), (78 : Int32), (65 : Int32), (80 : Int32), (83 : Int32), (72 : Int32), (79 : Int32), (84 : Int32)] := ⟨E15, F16, F17, ⟨_, V18⟩, by decide, by decide⟩
  refine W.callV w13 (ow_43 hw) (ow_44 hw) (nfSel (ow_46 hw)) (ow_46 hw) (ow_45 hw) (by decide) opd_1 E15 (own_len hw w13.old F20) mN od_9_8 (pc' := 11) rfl rfl rfl (rest := [(.int (12 : Int32)), (.int (1 : Int32)), (.ref x0)]) rfl (Wd := 3) rfl (by decide) (by decide) (by decide) (by decide) fun v23 T21 h22 M24 w25 q26 => ?_
  obtain ⟨rfl, rfl, e27⟩ := q26
  obtain rfl := e27.symm
  show Go Z _ _ _ κ _ (T21.setTop (mkF (km κ) 11 #[.val (.ref x0)] [(.int (8 : Int32)), (.int (12 : Int32)), (.int (1 : Int32)), (.ref x0)]))
  refine W.isub w25 od_9_11 (pc' := 12) rfl (z := (4 : Int32)) rfl ?_
  refine W.ldcS w25 rfl (ow_53 hw) (own_sA hw) (List.mem_of_getElem? (i := 0) rfl) (vs := [(.int (83 : Int32)), (.int (78 : Int32)), (.int (65 : Int32)), (.int (80 : Int32)), (.int (83 : Int32)), (.int (72 : Int32)), (.int (79 : Int32)), (.int (84 : Int32))]) (z := (8 : Int32)) ⟨by decide, by decide⟩ (by decide) (by decide) od_9_12 (pc' := 14) rfl (n := 32) (by decide) (by decide) (by decide) (by decide) fun T28 h29 a30 a31 k32 w33 K34 E35 F36 F37 V38 Q39 => ?_
  have F40 : Str8 Z h29 a30 a31 [(83 : Int32), (78 : Int32), (65 : Int32), (80 : Int32), (83 : Int32), (72 : Int32), (79 : Int32), (84 : Int32)] := ⟨E35, F36, F37, ⟨_, V38⟩, by decide, by decide⟩
  refine W.iconst w33 od_9_14 (pc' := 15) rfl (z := (0 : Int32)) rfl ?_
  refine W.ldcS w33 rfl (ow_53 hw) (own_sA hw) (List.mem_of_getElem? (i := 0) rfl) (vs := [(.int (83 : Int32)), (.int (78 : Int32)), (.int (65 : Int32)), (.int (80 : Int32)), (.int (83 : Int32)), (.int (72 : Int32)), (.int (79 : Int32)), (.int (84 : Int32))]) (z := (8 : Int32)) ⟨by decide, by decide⟩ (by decide) (by decide) od_9_15 (pc' := 17) rfl (n := 32) (by decide) (by decide) (by decide) (by decide) fun T41 h42 a43 a44 k45 w46 K47 E48 F49 F50 V51 Q52 => ?_
  have F53 : Str8 Z h42 a43 a44 [(83 : Int32), (78 : Int32), (65 : Int32), (80 : Int32), (83 : Int32), (72 : Int32), (79 : Int32), (84 : Int32)] := ⟨E48, F49, F50, ⟨_, V51⟩, by decide, by decide⟩
  refine W.callV w46 (ow_43 hw) (ow_44 hw) (nfSel (ow_46 hw)) (ow_46 hw) (ow_45 hw) (by decide) opd_1 E48 (own_len hw w46.old F53) mN od_9_17 (pc' := 20) rfl rfl rfl (rest := [(.int (0 : Int32)), (.ref a30), (.int (4 : Int32)), (.int (1 : Int32)), (.ref x0)]) rfl (Wd := 5) rfl (by decide) (by decide) (by decide) (by decide) fun v56 T54 h55 M57 w58 q59 => ?_
  obtain ⟨rfl, rfl, e60⟩ := q59
  obtain rfl := e60.symm
  show Go Z _ _ _ κ _ (T54.setTop (mkF (km κ) 20 #[.val (.ref x0)] [(.int (8 : Int32)), (.int (0 : Int32)), (.ref a30), (.int (4 : Int32)), (.int (1 : Int32)), (.ref x0)]))
  have f61 := (((F0.keep K14 nin0 nin0).keep K34 nin0 nin0).keep K47 nin0 nin0)
  have f62 := (F40.keep K47 nin0 nin0)
  have f69 := (((F0.1.keep K14).keep K34).keep K47)
  refine W.callV w58 (ow_56 hw) (ow_57 hw) (nfSel (ow_59 hw)) (ow_59 hw) (ow_58 hw) (by decide) opd_4 f69 (Ctr.pay (c_rm12 hw f61 f62 w58.old) (own_ew hw) (ow_60 hw) (ow_11 hw) (kf := 3) (kl := 53) (by decide) (by decide)) mN od_9_20 (pc' := 23) rfl rfl rfl (rest := []) rfl (Wd := 0) rfl (by decide) (by decide) (by decide) (by decide) fun v65 T63 h64 M66 w67 q68 => ?_
  obtain ⟨rfl, rfl, e70⟩ := q68
  obtain rfl := e70.symm
  show Go Z _ _ _ κ _ (T63.setTop (mkF (km κ) 23 #[.val (.ref x0)] [(.int (if (ciV c4.toInt8.toInt32 (83 : Int32)) = 0 then 0 else (if (ciV c5.toInt8.toInt32 (78 : Int32)) = 0 then 0 else (if (ciV c6.toInt8.toInt32 (65 : Int32)) = 0 then 0 else (if (ciV c7.toInt8.toInt32 (80 : Int32)) = 0 then 0 else (if (ciV c8.toInt8.toInt32 (83 : Int32)) = 0 then 0 else (if (ciV c9.toInt8.toInt32 (72 : Int32)) = 0 then 0 else (if (ciV c10.toInt8.toInt32 (79 : Int32)) = 0 then 0 else (if (ciV c11.toInt8.toInt32 (84 : Int32)) = 0 then 0 else 1)))))))))]))
  have C71 := Keep.refl h0 []
  have C72 := C71.trans K14 RoadKit.all0
  have C73 := C72.trans K34 RoadKit.all0
  have C74 := C73.trans K47 RoadKit.all0
  exact W.retN w67 (t := .boolean) (z' := (if (ciV c4.toInt8.toInt32 (83 : Int32)) = 0 then 0 else (if (ciV c5.toInt8.toInt32 (78 : Int32)) = 0 then 0 else (if (ciV c6.toInt8.toInt32 (65 : Int32)) = 0 then 0 else (if (ciV c7.toInt8.toInt32 (80 : Int32)) = 0 then 0 else (if (ciV c8.toInt8.toInt32 (83 : Int32)) = 0 then 0 else (if (ciV c9.toInt8.toInt32 (72 : Int32)) = 0 then 0 else (if (ciV c10.toInt8.toInt32 (79 : Int32)) = 0 then 0 else (if (ciV c11.toInt8.toInt32 (84 : Int32)) = 0 then 0 else 1))))))))) rfl (chain01 _ _ _ _ _ _ _ _) (by simp) od_9_23 (M' := []) mN (by decide) (by decide) ⟨rfl, rfl, C74⟩
set_option maxRecDepth 65536 in
set_option maxHeartbeats 40000000 in
theorem c_law {l : Launch} {Z : State} {a0 : Array Value} (hw : HW Z a0) {h0 : Heap} {p0 p3 : Int32} {p1 p2 : Int64} (hO : Old Z Z.heap.size h0) : Ctr l Z EL0 nw0 x code maxLocals ret room_1 [.int p0, .long p1, .long p2, .int p3] h0 [] (fun v h M' => v = some (.int 1)) := by
  refine of_body (a0 := a0) opn_7 (own_ew hw) hO (Ls := #[.val (.int p0), .val (.long p1), .second, .val (.long p2), .second, .val (.int p3), .unset, .unset, .unset, .unset, .unset, .unset, .unset, .unset, .unset, .unset, .unset, .unset, .unset, .unset, .unset, .unset]) (fun m => by first | (simp [entryFrame, mkF, argsToLocals, Value.category, maxLocals]; done) | rfl) (fun κ T0 w0 hnm => ?_)
  refine W.iloadN w0 od_0_0 (pc' := 1) rfl rfl ?_
  refine W.iconst w0 od_0_1 (pc' := 2) rfl (z := (0 : Int32)) rfl ?_
  refine W.lloadN w0 od_0_2 (pc' := 3) rfl rfl ?_
  refine W.bipush w0 od_0_3 (pc' := 5) rfl (z := (83 : Int32)) rfl ?_
  refine W.bipush w0 od_0_5 (pc' := 7) rfl (z := (115 : Int32)) rfl ?_
  refine W.callS w0 (ow_0 hw) (ow_1 hw) (ow_2 hw) (ow_3 hw) (by decide) opd_5 (Ctr.pay (c_pick hw (by decide) (by decide) w0.old) (own_ew hw) (ow_3 hw) (ow_2 hw) (kf := 1) (kl := 18) (by decide) (by decide)) mN od_0_7 (pc' := 10) rfl rfl rfl (rest := []) rfl (Wd := 0) rfl (by decide) (by decide) (by decide) (by decide) fun v3 T1 h2 M4 w5 q6 => ?_
  obtain ⟨t0, rfl, rfl, e7, ht0⟩ := q6
  obtain rfl := e7.symm
  show Go Z _ _ _ κ _ (T1.setTop (mkF (km κ) 10 #[.val (.int p0), .val (.long p1), .second, .val (.long p2), .second, .val (.int p3), .unset, .unset, .unset, .unset, .unset, .unset, .unset, .unset, .unset, .unset, .unset, .unset, .unset, .unset, .unset, .unset] [(.int t0)]))
  refine W.istore w5 od_0_10 (pc' := 12) rfl (Ls' := #[.val (.int p0), .val (.long p1), .second, .val (.long p2), .second, .val (.int p3), .val (.int t0), .unset, .unset, .unset, .unset, .unset, .unset, .unset, .unset, .unset, .unset, .unset, .unset, .unset, .unset, .unset]) rfl ?_
  refine W.iloadN w5 od_0_12 (pc' := 13) rfl rfl ?_
  refine W.iconst w5 od_0_13 (pc' := 14) rfl (z := (1 : Int32)) rfl ?_
  refine W.lloadN w5 od_0_14 (pc' := 15) rfl rfl ?_
  refine W.bipush w5 od_0_15 (pc' := 17) rfl (z := (78 : Int32)) rfl ?_
  refine W.bipush w5 od_0_17 (pc' := 19) rfl (z := (110 : Int32)) rfl ?_
  refine W.callS w5 (ow_0 hw) (ow_1 hw) (ow_2 hw) (ow_3 hw) (by decide) opd_5 (Ctr.pay (c_pick hw (by decide) (by decide) w5.old) (own_ew hw) (ow_3 hw) (ow_2 hw) (kf := 1) (kl := 18) (by decide) (by decide)) mN od_0_19 (pc' := 22) rfl rfl rfl (rest := []) rfl (Wd := 0) rfl (by decide) (by decide) (by decide) (by decide) fun v10 T8 h9 M11 w12 q13 => ?_
  obtain ⟨t1, rfl, rfl, e14, ht1⟩ := q13
  obtain rfl := e14.symm
  show Go Z _ _ _ κ _ (T8.setTop (mkF (km κ) 22 #[.val (.int p0), .val (.long p1), .second, .val (.long p2), .second, .val (.int p3), .val (.int t0), .unset, .unset, .unset, .unset, .unset, .unset, .unset, .unset, .unset, .unset, .unset, .unset, .unset, .unset, .unset] [(.int t1)]))
  refine W.istore w12 od_0_22 (pc' := 24) rfl (Ls' := #[.val (.int p0), .val (.long p1), .second, .val (.long p2), .second, .val (.int p3), .val (.int t0), .val (.int t1), .unset, .unset, .unset, .unset, .unset, .unset, .unset, .unset, .unset, .unset, .unset, .unset, .unset, .unset]) rfl ?_
  refine W.iloadN w12 od_0_24 (pc' := 25) rfl rfl ?_
  refine W.iconst w12 od_0_25 (pc' := 26) rfl (z := (2 : Int32)) rfl ?_
  refine W.lloadN w12 od_0_26 (pc' := 27) rfl rfl ?_
  refine W.bipush w12 od_0_27 (pc' := 29) rfl (z := (65 : Int32)) rfl ?_
  refine W.bipush w12 od_0_29 (pc' := 31) rfl (z := (97 : Int32)) rfl ?_
  refine W.callS w12 (ow_0 hw) (ow_1 hw) (ow_2 hw) (ow_3 hw) (by decide) opd_5 (Ctr.pay (c_pick hw (by decide) (by decide) w12.old) (own_ew hw) (ow_3 hw) (ow_2 hw) (kf := 1) (kl := 18) (by decide) (by decide)) mN od_0_31 (pc' := 34) rfl rfl rfl (rest := []) rfl (Wd := 0) rfl (by decide) (by decide) (by decide) (by decide) fun v17 T15 h16 M18 w19 q20 => ?_
  obtain ⟨t2, rfl, rfl, e21, ht2⟩ := q20
  obtain rfl := e21.symm
  show Go Z _ _ _ κ _ (T15.setTop (mkF (km κ) 34 #[.val (.int p0), .val (.long p1), .second, .val (.long p2), .second, .val (.int p3), .val (.int t0), .val (.int t1), .unset, .unset, .unset, .unset, .unset, .unset, .unset, .unset, .unset, .unset, .unset, .unset, .unset, .unset] [(.int t2)]))
  refine W.istore w19 od_0_34 (pc' := 36) rfl (Ls' := #[.val (.int p0), .val (.long p1), .second, .val (.long p2), .second, .val (.int p3), .val (.int t0), .val (.int t1), .val (.int t2), .unset, .unset, .unset, .unset, .unset, .unset, .unset, .unset, .unset, .unset, .unset, .unset, .unset]) rfl ?_
  refine W.iloadN w19 od_0_36 (pc' := 37) rfl rfl ?_
  refine W.iconst w19 od_0_37 (pc' := 38) rfl (z := (3 : Int32)) rfl ?_
  refine W.lloadN w19 od_0_38 (pc' := 39) rfl rfl ?_
  refine W.bipush w19 od_0_39 (pc' := 41) rfl (z := (80 : Int32)) rfl ?_
  refine W.bipush w19 od_0_41 (pc' := 43) rfl (z := (112 : Int32)) rfl ?_
  refine W.callS w19 (ow_0 hw) (ow_1 hw) (ow_2 hw) (ow_3 hw) (by decide) opd_5 (Ctr.pay (c_pick hw (by decide) (by decide) w19.old) (own_ew hw) (ow_3 hw) (ow_2 hw) (kf := 1) (kl := 18) (by decide) (by decide)) mN od_0_43 (pc' := 46) rfl rfl rfl (rest := []) rfl (Wd := 0) rfl (by decide) (by decide) (by decide) (by decide) fun v24 T22 h23 M25 w26 q27 => ?_
  obtain ⟨t3, rfl, rfl, e28, ht3⟩ := q27
  obtain rfl := e28.symm
  show Go Z _ _ _ κ _ (T22.setTop (mkF (km κ) 46 #[.val (.int p0), .val (.long p1), .second, .val (.long p2), .second, .val (.int p3), .val (.int t0), .val (.int t1), .val (.int t2), .unset, .unset, .unset, .unset, .unset, .unset, .unset, .unset, .unset, .unset, .unset, .unset, .unset] [(.int t3)]))
  refine W.istore w26 od_0_46 (pc' := 48) rfl (Ls' := #[.val (.int p0), .val (.long p1), .second, .val (.long p2), .second, .val (.int p3), .val (.int t0), .val (.int t1), .val (.int t2), .val (.int t3), .unset, .unset, .unset, .unset, .unset, .unset, .unset, .unset, .unset, .unset, .unset, .unset]) rfl ?_
  refine W.iloadN w26 od_0_48 (pc' := 49) rfl rfl ?_
  refine W.iconst w26 od_0_49 (pc' := 50) rfl (z := (4 : Int32)) rfl ?_
  refine W.lloadN w26 od_0_50 (pc' := 51) rfl rfl ?_
  refine W.bipush w26 od_0_51 (pc' := 53) rfl (z := (83 : Int32)) rfl ?_
  refine W.bipush w26 od_0_53 (pc' := 55) rfl (z := (115 : Int32)) rfl ?_
  refine W.callS w26 (ow_0 hw) (ow_1 hw) (ow_2 hw) (ow_3 hw) (by decide) opd_5 (Ctr.pay (c_pick hw (by decide) (by decide) w26.old) (own_ew hw) (ow_3 hw) (ow_2 hw) (kf := 1) (kl := 18) (by decide) (by decide)) mN od_0_55 (pc' := 58) rfl rfl rfl (rest := []) rfl (Wd := 0) rfl (by decide) (by decide) (by decide) (by decide) fun v31 T29 h30 M32 w33 q34 => ?_
  obtain ⟨t4, rfl, rfl, e35, ht4⟩ := q34
  obtain rfl := e35.symm
  show Go Z _ _ _ κ _ (T29.setTop (mkF (km κ) 58 #[.val (.int p0), .val (.long p1), .second, .val (.long p2), .second, .val (.int p3), .val (.int t0), .val (.int t1), .val (.int t2), .val (.int t3), .unset, .unset, .unset, .unset, .unset, .unset, .unset, .unset, .unset, .unset, .unset, .unset] [(.int t4)]))
  refine W.istore w33 od_0_58 (pc' := 60) rfl (Ls' := #[.val (.int p0), .val (.long p1), .second, .val (.long p2), .second, .val (.int p3), .val (.int t0), .val (.int t1), .val (.int t2), .val (.int t3), .val (.int t4), .unset, .unset, .unset, .unset, .unset, .unset, .unset, .unset, .unset, .unset, .unset]) rfl ?_
  refine W.iloadN w33 od_0_60 (pc' := 61) rfl rfl ?_
  refine W.iconst w33 od_0_61 (pc' := 62) rfl (z := (5 : Int32)) rfl ?_
  refine W.lloadN w33 od_0_62 (pc' := 63) rfl rfl ?_
  refine W.bipush w33 od_0_63 (pc' := 65) rfl (z := (72 : Int32)) rfl ?_
  refine W.bipush w33 od_0_65 (pc' := 67) rfl (z := (104 : Int32)) rfl ?_
  refine W.callS w33 (ow_0 hw) (ow_1 hw) (ow_2 hw) (ow_3 hw) (by decide) opd_5 (Ctr.pay (c_pick hw (by decide) (by decide) w33.old) (own_ew hw) (ow_3 hw) (ow_2 hw) (kf := 1) (kl := 18) (by decide) (by decide)) mN od_0_67 (pc' := 70) rfl rfl rfl (rest := []) rfl (Wd := 0) rfl (by decide) (by decide) (by decide) (by decide) fun v38 T36 h37 M39 w40 q41 => ?_
  obtain ⟨t5, rfl, rfl, e42, ht5⟩ := q41
  obtain rfl := e42.symm
  show Go Z _ _ _ κ _ (T36.setTop (mkF (km κ) 70 #[.val (.int p0), .val (.long p1), .second, .val (.long p2), .second, .val (.int p3), .val (.int t0), .val (.int t1), .val (.int t2), .val (.int t3), .val (.int t4), .unset, .unset, .unset, .unset, .unset, .unset, .unset, .unset, .unset, .unset, .unset] [(.int t5)]))
  refine W.istore w40 od_0_70 (pc' := 72) rfl (Ls' := #[.val (.int p0), .val (.long p1), .second, .val (.long p2), .second, .val (.int p3), .val (.int t0), .val (.int t1), .val (.int t2), .val (.int t3), .val (.int t4), .val (.int t5), .unset, .unset, .unset, .unset, .unset, .unset, .unset, .unset, .unset, .unset]) rfl ?_
  refine W.iloadN w40 od_0_72 (pc' := 73) rfl rfl ?_
  refine W.bipush w40 od_0_73 (pc' := 75) rfl (z := (6 : Int32)) rfl ?_
  refine W.lloadN w40 od_0_75 (pc' := 76) rfl rfl ?_
  refine W.bipush w40 od_0_76 (pc' := 78) rfl (z := (79 : Int32)) rfl ?_
  refine W.bipush w40 od_0_78 (pc' := 80) rfl (z := (111 : Int32)) rfl ?_
  refine W.callS w40 (ow_0 hw) (ow_1 hw) (ow_2 hw) (ow_3 hw) (by decide) opd_5 (Ctr.pay (c_pick hw (by decide) (by decide) w40.old) (own_ew hw) (ow_3 hw) (ow_2 hw) (kf := 1) (kl := 18) (by decide) (by decide)) mN od_0_80 (pc' := 83) rfl rfl rfl (rest := []) rfl (Wd := 0) rfl (by decide) (by decide) (by decide) (by decide) fun v45 T43 h44 M46 w47 q48 => ?_
  obtain ⟨t6, rfl, rfl, e49, ht6⟩ := q48
  obtain rfl := e49.symm
  show Go Z _ _ _ κ _ (T43.setTop (mkF (km κ) 83 #[.val (.int p0), .val (.long p1), .second, .val (.long p2), .second, .val (.int p3), .val (.int t0), .val (.int t1), .val (.int t2), .val (.int t3), .val (.int t4), .val (.int t5), .unset, .unset, .unset, .unset, .unset, .unset, .unset, .unset, .unset, .unset] [(.int t6)]))
  refine W.istore w47 od_0_83 (pc' := 85) rfl (Ls' := #[.val (.int p0), .val (.long p1), .second, .val (.long p2), .second, .val (.int p3), .val (.int t0), .val (.int t1), .val (.int t2), .val (.int t3), .val (.int t4), .val (.int t5), .val (.int t6), .unset, .unset, .unset, .unset, .unset, .unset, .unset, .unset, .unset]) rfl ?_
  refine W.iloadN w47 od_0_85 (pc' := 86) rfl rfl ?_
  refine W.bipush w47 od_0_86 (pc' := 88) rfl (z := (7 : Int32)) rfl ?_
  refine W.lloadN w47 od_0_88 (pc' := 89) rfl rfl ?_
  refine W.bipush w47 od_0_89 (pc' := 91) rfl (z := (84 : Int32)) rfl ?_
  refine W.bipush w47 od_0_91 (pc' := 93) rfl (z := (116 : Int32)) rfl ?_
  refine W.callS w47 (ow_0 hw) (ow_1 hw) (ow_2 hw) (ow_3 hw) (by decide) opd_5 (Ctr.pay (c_pick hw (by decide) (by decide) w47.old) (own_ew hw) (ow_3 hw) (ow_2 hw) (kf := 1) (kl := 18) (by decide) (by decide)) mN od_0_93 (pc' := 96) rfl rfl rfl (rest := []) rfl (Wd := 0) rfl (by decide) (by decide) (by decide) (by decide) fun v52 T50 h51 M53 w54 q55 => ?_
  obtain ⟨t7, rfl, rfl, e56, ht7⟩ := q55
  obtain rfl := e56.symm
  show Go Z _ _ _ κ _ (T50.setTop (mkF (km κ) 96 #[.val (.int p0), .val (.long p1), .second, .val (.long p2), .second, .val (.int p3), .val (.int t0), .val (.int t1), .val (.int t2), .val (.int t3), .val (.int t4), .val (.int t5), .val (.int t6), .unset, .unset, .unset, .unset, .unset, .unset, .unset, .unset, .unset] [(.int t7)]))
  refine W.istore w54 od_0_96 (pc' := 98) rfl (Ls' := #[.val (.int p0), .val (.long p1), .second, .val (.long p2), .second, .val (.int p3), .val (.int t0), .val (.int t1), .val (.int t2), .val (.int t3), .val (.int t4), .val (.int t5), .val (.int t6), .val (.int t7), .unset, .unset, .unset, .unset, .unset, .unset, .unset, .unset]) rfl ?_
  refine W.lloadN w54 od_0_98 (pc' := 99) rfl rfl ?_
  refine W.ldcJ w54 (ow_4 hw) od_0_99 (pc' := 102) rfl ?_
  refine W.land w54 od_0_102 (pc' := 103) rfl (z := (p2 &&& (255 : Int64))) rfl ?_
  refine W.l2i w54 od_0_103 (pc' := 104) rfl (z := ((p2 &&& (255 : Int64))).toInt32) rfl ?_
  obtain ⟨u0, eu0, hu0⟩ : ∃ z, (((p2 &&& (255 : Int64))).toInt32).toUInt32.toUInt16.toUInt32.toInt32 = z ∧ (¬ z < 0 ∧ ¬ (255 : Int32) < z) := ⟨_, i2c_lat (l255 _), l255 _⟩
  refine W.i2c w54 od_0_104 (pc' := 105) rfl (z := u0) eu0 ?_
  refine W.istore w54 od_0_105 (pc' := 107) rfl (Ls' := #[.val (.int p0), .val (.long p1), .second, .val (.long p2), .second, .val (.int p3), .val (.int t0), .val (.int t1), .val (.int t2), .val (.int t3), .val (.int t4), .val (.int t5), .val (.int t6), .val (.int t7), .val (.int u0), .unset, .unset, .unset, .unset, .unset, .unset, .unset]) rfl ?_
  refine W.lloadN w54 od_0_107 (pc' := 108) rfl rfl ?_
  refine W.bipush w54 od_0_108 (pc' := 110) rfl (z := (8 : Int32)) rfl ?_
  refine W.lushr w54 od_0_110 (pc' := 111) rfl (z := (XT.ushrL p2 (8 : Int32))) rfl ?_
  refine W.ldcJ w54 (ow_4 hw) od_0_111 (pc' := 114) rfl ?_
  refine W.land w54 od_0_114 (pc' := 115) rfl (z := ((XT.ushrL p2 (8 : Int32)) &&& (255 : Int64))) rfl ?_
  refine W.l2i w54 od_0_115 (pc' := 116) rfl (z := (((XT.ushrL p2 (8 : Int32)) &&& (255 : Int64))).toInt32) rfl ?_
  obtain ⟨u1, eu1, hu1⟩ : ∃ z, ((((XT.ushrL p2 (8 : Int32)) &&& (255 : Int64))).toInt32).toUInt32.toUInt16.toUInt32.toInt32 = z ∧ (¬ z < 0 ∧ ¬ (255 : Int32) < z) := ⟨_, i2c_lat (l255 _), l255 _⟩
  refine W.i2c w54 od_0_116 (pc' := 117) rfl (z := u1) eu1 ?_
  refine W.istore w54 od_0_117 (pc' := 119) rfl (Ls' := #[.val (.int p0), .val (.long p1), .second, .val (.long p2), .second, .val (.int p3), .val (.int t0), .val (.int t1), .val (.int t2), .val (.int t3), .val (.int t4), .val (.int t5), .val (.int t6), .val (.int t7), .val (.int u0), .val (.int u1), .unset, .unset, .unset, .unset, .unset, .unset]) rfl ?_
  refine W.lloadN w54 od_0_119 (pc' := 120) rfl rfl ?_
  refine W.bipush w54 od_0_120 (pc' := 122) rfl (z := (16 : Int32)) rfl ?_
  refine W.lushr w54 od_0_122 (pc' := 123) rfl (z := (XT.ushrL p2 (16 : Int32))) rfl ?_
  refine W.ldcJ w54 (ow_4 hw) od_0_123 (pc' := 126) rfl ?_
  refine W.land w54 od_0_126 (pc' := 127) rfl (z := ((XT.ushrL p2 (16 : Int32)) &&& (255 : Int64))) rfl ?_
  refine W.l2i w54 od_0_127 (pc' := 128) rfl (z := (((XT.ushrL p2 (16 : Int32)) &&& (255 : Int64))).toInt32) rfl ?_
  obtain ⟨u2, eu2, hu2⟩ : ∃ z, ((((XT.ushrL p2 (16 : Int32)) &&& (255 : Int64))).toInt32).toUInt32.toUInt16.toUInt32.toInt32 = z ∧ (¬ z < 0 ∧ ¬ (255 : Int32) < z) := ⟨_, i2c_lat (l255 _), l255 _⟩
  refine W.i2c w54 od_0_128 (pc' := 129) rfl (z := u2) eu2 ?_
  refine W.istore w54 od_0_129 (pc' := 131) rfl (Ls' := #[.val (.int p0), .val (.long p1), .second, .val (.long p2), .second, .val (.int p3), .val (.int t0), .val (.int t1), .val (.int t2), .val (.int t3), .val (.int t4), .val (.int t5), .val (.int t6), .val (.int t7), .val (.int u0), .val (.int u1), .val (.int u2), .unset, .unset, .unset, .unset, .unset]) rfl ?_
  refine W.lloadN w54 od_0_131 (pc' := 132) rfl rfl ?_
  refine W.bipush w54 od_0_132 (pc' := 134) rfl (z := (24 : Int32)) rfl ?_
  refine W.lushr w54 od_0_134 (pc' := 135) rfl (z := (XT.ushrL p2 (24 : Int32))) rfl ?_
  refine W.ldcJ w54 (ow_4 hw) od_0_135 (pc' := 138) rfl ?_
  refine W.land w54 od_0_138 (pc' := 139) rfl (z := ((XT.ushrL p2 (24 : Int32)) &&& (255 : Int64))) rfl ?_
  refine W.l2i w54 od_0_139 (pc' := 140) rfl (z := (((XT.ushrL p2 (24 : Int32)) &&& (255 : Int64))).toInt32) rfl ?_
  obtain ⟨u3, eu3, hu3⟩ : ∃ z, ((((XT.ushrL p2 (24 : Int32)) &&& (255 : Int64))).toInt32).toUInt32.toUInt16.toUInt32.toInt32 = z ∧ (¬ z < 0 ∧ ¬ (255 : Int32) < z) := ⟨_, i2c_lat (l255 _), l255 _⟩
  refine W.i2c w54 od_0_140 (pc' := 141) rfl (z := u3) eu3 ?_
  refine W.istore w54 od_0_141 (pc' := 143) rfl (Ls' := #[.val (.int p0), .val (.long p1), .second, .val (.long p2), .second, .val (.int p3), .val (.int t0), .val (.int t1), .val (.int t2), .val (.int t3), .val (.int t4), .val (.int t5), .val (.int t6), .val (.int t7), .val (.int u0), .val (.int u1), .val (.int u2), .val (.int u3), .unset, .unset, .unset, .unset]) rfl ?_
  have J : ∀ (T : State) (al : Int32), W l Z a0 EL0 nw0 x.cls code maxLocals ret room_1 κ T h0 [] 0 0 → al = (if (okV t0 (83 : Int32) (115 : Int32)) = 0 then 0 else (if (okV t1 (78 : Int32) (110 : Int32)) = 0 then 0 else (if (okV t2 (65 : Int32) (97 : Int32)) = 0 then 0 else (if (okV t3 (80 : Int32) (112 : Int32)) = 0 then 0 else (if (okV t4 (83 : Int32) (115 : Int32)) = 0 then 0 else (if (okV t5 (72 : Int32) (104 : Int32)) = 0 then 0 else (if (okV t6 (79 : Int32) (111 : Int32)) = 0 then 0 else (if (okV t7 (84 : Int32) (116 : Int32)) = 0 then 0 else 1)))))))) → Go Z EL0 nw0 room_1 κ (fun v h M' => v = some (.int 1)) (T.setTop (mkF (km κ) 244 #[.val (.int p0), .val (.long p1), .second, .val (.long p2), .second, .val (.int p3), .val (.int t0), .val (.int t1), .val (.int t2), .val (.int t3), .val (.int t4), .val (.int t5), .val (.int t6), .val (.int t7), .val (.int u0), .val (.int u1), .val (.int u2), .val (.int u3), .unset, .unset, .unset, .unset] [.int al])) := by
    intro T al wJ hal
    refine W.istore wJ od_0_244 (pc' := 246) rfl (Ls' := #[.val (.int p0), .val (.long p1), .second, .val (.long p2), .second, .val (.int p3), .val (.int t0), .val (.int t1), .val (.int t2), .val (.int t3), .val (.int t4), .val (.int t5), .val (.int t6), .val (.int t7), .val (.int u0), .val (.int u1), .val (.int u2), .val (.int u3), .val (.int al), .unset, .unset, .unset]) rfl ?_
    refine W.iload wJ od_0_246 (pc' := 248) rfl rfl ?_
    refine W.ldcI wJ (ow_8 hw) od_0_248 (pc' := 250) rfl ?_
    refine W.iand wJ od_0_250 (pc' := 251) rfl (z := (p3 &&& (2147483647 : Int32))) rfl ?_
    refine W.bipush wJ od_0_251 (pc' := 253) rfl (z := (6 : Int32)) rfl ?_
    refine W.irem wJ od_0_253 (pc' := 254) rfl (z := ((p3 &&& (2147483647 : Int32)) - ((p3 &&& (2147483647 : Int32)) / (6 : Int32)) * (6 : Int32))) rfl (by decide) ?_
    refine W.istore wJ od_0_254 (pc' := 256) rfl (Ls' := #[.val (.int p0), .val (.long p1), .second, .val (.long p2), .second, .val (.int p3), .val (.int t0), .val (.int t1), .val (.int t2), .val (.int t3), .val (.int t4), .val (.int t5), .val (.int t6), .val (.int t7), .val (.int u0), .val (.int u1), .val (.int u2), .val (.int u3), .val (.int al), .val (.int ((p3 &&& (2147483647 : Int32)) - ((p3 &&& (2147483647 : Int32)) / (6 : Int32)) * (6 : Int32))), .unset, .unset]) rfl ?_
    refine W.iload wJ od_0_256 (pc' := 258) rfl rfl ?_
    rcases Decidable.em (((p3 &&& (2147483647 : Int32)) - ((p3 &&& (2147483647 : Int32)) / (6 : Int32)) * (6 : Int32)) = (0 : Int32)) with hc57 | hc57
    · refine W.ifNo wJ od_0_258 (pc' := 261) rfl ((if0 _ _).trans (teq hc57).2) ?_
      refine W.newO wJ (ow_9 hw) (ow_10 hw) (ow_11 hw) od_0_261 (pc' := 264) rfl (by decide) (by decide) fun T58 h59 a60 w61 K62 B63 E64 D65 => ?_
      have F66 : Fld Z h59 a60 "java/lang/String" "coder" "B" (.int (0 : Int32)) := D65 (Or.inr (ow_36 hw)) (ty := .byte) (by decide)
      have F67 : Fld Z h59 a60 "java/lang/String" "value" "[B" .null := D65 (Or.inr (ow_38 hw)) (ty := (.array .byte)) (by decide)
      refine Jvm.Own.W.dup w61 od_0_264 rfl rfl ?_
      refine W.bipush w61 od_0_265 (pc' := 267) rfl (z := (12 : Int32)) rfl ?_
      refine W.newP w61 (ty := .char) rfl (ow_12 hw) od_0_267 (pc' := 269) rfl (by decide) (cap := 12) (by decide) (by decide) (by decide) (by decide) fun T68 h69 a70 k71 w72 K73 B74 V75 => ?_
      have ne76 : a60 ≠ a70 := neL E64.lt B74
      have V77 : Arv Z h69 a70 k71 .char (12 : Int32) [(.int (0 : Int32)), (.int (0 : Int32)), (.int (0 : Int32)), (.int (0 : Int32)), (.int (0 : Int32)), (.int (0 : Int32)), (.int (0 : Int32)), (.int (0 : Int32)), (.int (0 : Int32)), (.int (0 : Int32)), (.int (0 : Int32)), (.int (0 : Int32))] (.int (0 : Int32)) := V75
      refine Jvm.Own.W.dup w72 od_0_269 rfl rfl ?_
      refine W.iconst w72 od_0_270 (pc' := 271) rfl (z := (0 : Int32)) rfl ?_
      refine W.iload w72 od_0_271 (pc' := 273) rfl rfl ?_
      refine W.stC w72 (x' := u0) (nar_lat hu0) V77 (i := 0) (by decide) ⟨by decide, by decide⟩ (Nat.le_of_ble_eq_true rfl) mem0 od_0_273 (pc' := 274) rfl fun T78 h79 w80 K81 V82 => ?_
      have V83 : Arv Z h79 a70 k71 .char (12 : Int32) [(.int u0), (.int (0 : Int32)), (.int (0 : Int32)), (.int (0 : Int32)), (.int (0 : Int32)), (.int (0 : Int32)), (.int (0 : Int32)), (.int (0 : Int32)), (.int (0 : Int32)), (.int (0 : Int32)), (.int (0 : Int32)), (.int (0 : Int32))] (.int (0 : Int32)) := V82
      refine Jvm.Own.W.dup w80 od_0_274 rfl rfl ?_
      refine W.iconst w80 od_0_275 (pc' := 276) rfl (z := (1 : Int32)) rfl ?_
      refine W.iload w80 od_0_276 (pc' := 278) rfl rfl ?_
      refine W.stC w80 (x' := u1) (nar_lat hu1) V83 (i := 1) (by decide) ⟨by decide, by decide⟩ (Nat.le_of_ble_eq_true rfl) mem0 od_0_278 (pc' := 279) rfl fun T84 h85 w86 K87 V88 => ?_
      have V89 : Arv Z h85 a70 k71 .char (12 : Int32) [(.int u0), (.int u1), (.int (0 : Int32)), (.int (0 : Int32)), (.int (0 : Int32)), (.int (0 : Int32)), (.int (0 : Int32)), (.int (0 : Int32)), (.int (0 : Int32)), (.int (0 : Int32)), (.int (0 : Int32)), (.int (0 : Int32))] (.int (0 : Int32)) := V88
      refine Jvm.Own.W.dup w86 od_0_279 rfl rfl ?_
      refine W.iconst w86 od_0_280 (pc' := 281) rfl (z := (2 : Int32)) rfl ?_
      refine W.iload w86 od_0_281 (pc' := 283) rfl rfl ?_
      refine W.stC w86 (x' := u2) (nar_lat hu2) V89 (i := 2) (by decide) ⟨by decide, by decide⟩ (Nat.le_of_ble_eq_true rfl) mem0 od_0_283 (pc' := 284) rfl fun T90 h91 w92 K93 V94 => ?_
      have V95 : Arv Z h91 a70 k71 .char (12 : Int32) [(.int u0), (.int u1), (.int u2), (.int (0 : Int32)), (.int (0 : Int32)), (.int (0 : Int32)), (.int (0 : Int32)), (.int (0 : Int32)), (.int (0 : Int32)), (.int (0 : Int32)), (.int (0 : Int32)), (.int (0 : Int32))] (.int (0 : Int32)) := V94
      refine Jvm.Own.W.dup w92 od_0_284 rfl rfl ?_
      refine W.iconst w92 od_0_285 (pc' := 286) rfl (z := (3 : Int32)) rfl ?_
      refine W.iload w92 od_0_286 (pc' := 288) rfl rfl ?_
      refine W.stC w92 (x' := u3) (nar_lat hu3) V95 (i := 3) (by decide) ⟨by decide, by decide⟩ (Nat.le_of_ble_eq_true rfl) mem0 od_0_288 (pc' := 289) rfl fun T96 h97 w98 K99 V100 => ?_
      have V101 : Arv Z h97 a70 k71 .char (12 : Int32) [(.int u0), (.int u1), (.int u2), (.int u3), (.int (0 : Int32)), (.int (0 : Int32)), (.int (0 : Int32)), (.int (0 : Int32)), (.int (0 : Int32)), (.int (0 : Int32)), (.int (0 : Int32)), (.int (0 : Int32))] (.int (0 : Int32)) := V100
      refine Jvm.Own.W.dup w98 od_0_289 rfl rfl ?_
      refine W.iconst w98 od_0_290 (pc' := 291) rfl (z := (4 : Int32)) rfl ?_
      refine W.iload w98 od_0_291 (pc' := 293) rfl rfl ?_
      refine W.stC w98 (x' := t0) (nar_lat ht0) V101 (i := 4) (by decide) ⟨by decide, by decide⟩ (Nat.le_of_ble_eq_true rfl) mem0 od_0_293 (pc' := 294) rfl fun T102 h103 w104 K105 V106 => ?_
      have V107 : Arv Z h103 a70 k71 .char (12 : Int32) [(.int u0), (.int u1), (.int u2), (.int u3), (.int t0), (.int (0 : Int32)), (.int (0 : Int32)), (.int (0 : Int32)), (.int (0 : Int32)), (.int (0 : Int32)), (.int (0 : Int32)), (.int (0 : Int32))] (.int (0 : Int32)) := V106
      refine Jvm.Own.W.dup w104 od_0_294 rfl rfl ?_
      refine W.iconst w104 od_0_295 (pc' := 296) rfl (z := (5 : Int32)) rfl ?_
      refine W.iload w104 od_0_296 (pc' := 298) rfl rfl ?_
      refine W.stC w104 (x' := t1) (nar_lat ht1) V107 (i := 5) (by decide) ⟨by decide, by decide⟩ (Nat.le_of_ble_eq_true rfl) mem0 od_0_298 (pc' := 299) rfl fun T108 h109 w110 K111 V112 => ?_
      have V113 : Arv Z h109 a70 k71 .char (12 : Int32) [(.int u0), (.int u1), (.int u2), (.int u3), (.int t0), (.int t1), (.int (0 : Int32)), (.int (0 : Int32)), (.int (0 : Int32)), (.int (0 : Int32)), (.int (0 : Int32)), (.int (0 : Int32))] (.int (0 : Int32)) := V112
      refine Jvm.Own.W.dup w110 od_0_299 rfl rfl ?_
      refine W.bipush w110 od_0_300 (pc' := 302) rfl (z := (6 : Int32)) rfl ?_
      refine W.iload w110 od_0_302 (pc' := 304) rfl rfl ?_
      refine W.stC w110 (x' := t2) (nar_lat ht2) V113 (i := 6) (by decide) ⟨by decide, by decide⟩ (Nat.le_of_ble_eq_true rfl) mem0 od_0_304 (pc' := 305) rfl fun T114 h115 w116 K117 V118 => ?_
      have V119 : Arv Z h115 a70 k71 .char (12 : Int32) [(.int u0), (.int u1), (.int u2), (.int u3), (.int t0), (.int t1), (.int t2), (.int (0 : Int32)), (.int (0 : Int32)), (.int (0 : Int32)), (.int (0 : Int32)), (.int (0 : Int32))] (.int (0 : Int32)) := V118
      refine Jvm.Own.W.dup w116 od_0_305 rfl rfl ?_
      refine W.bipush w116 od_0_306 (pc' := 308) rfl (z := (7 : Int32)) rfl ?_
      refine W.iload w116 od_0_308 (pc' := 310) rfl rfl ?_
      refine W.stC w116 (x' := t3) (nar_lat ht3) V119 (i := 7) (by decide) ⟨by decide, by decide⟩ (Nat.le_of_ble_eq_true rfl) mem0 od_0_310 (pc' := 311) rfl fun T120 h121 w122 K123 V124 => ?_
      have V125 : Arv Z h121 a70 k71 .char (12 : Int32) [(.int u0), (.int u1), (.int u2), (.int u3), (.int t0), (.int t1), (.int t2), (.int t3), (.int (0 : Int32)), (.int (0 : Int32)), (.int (0 : Int32)), (.int (0 : Int32))] (.int (0 : Int32)) := V124
      refine Jvm.Own.W.dup w122 od_0_311 rfl rfl ?_
      refine W.bipush w122 od_0_312 (pc' := 314) rfl (z := (8 : Int32)) rfl ?_
      refine W.iload w122 od_0_314 (pc' := 316) rfl rfl ?_
      refine W.stC w122 (x' := t4) (nar_lat ht4) V125 (i := 8) (by decide) ⟨by decide, by decide⟩ (Nat.le_of_ble_eq_true rfl) mem0 od_0_316 (pc' := 317) rfl fun T126 h127 w128 K129 V130 => ?_
      have V131 : Arv Z h127 a70 k71 .char (12 : Int32) [(.int u0), (.int u1), (.int u2), (.int u3), (.int t0), (.int t1), (.int t2), (.int t3), (.int t4), (.int (0 : Int32)), (.int (0 : Int32)), (.int (0 : Int32))] (.int (0 : Int32)) := V130
      refine Jvm.Own.W.dup w128 od_0_317 rfl rfl ?_
      refine W.bipush w128 od_0_318 (pc' := 320) rfl (z := (9 : Int32)) rfl ?_
      refine W.iload w128 od_0_320 (pc' := 322) rfl rfl ?_
      refine W.stC w128 (x' := t5) (nar_lat ht5) V131 (i := 9) (by decide) ⟨by decide, by decide⟩ (Nat.le_of_ble_eq_true rfl) mem0 od_0_322 (pc' := 323) rfl fun T132 h133 w134 K135 V136 => ?_
      have V137 : Arv Z h133 a70 k71 .char (12 : Int32) [(.int u0), (.int u1), (.int u2), (.int u3), (.int t0), (.int t1), (.int t2), (.int t3), (.int t4), (.int t5), (.int (0 : Int32)), (.int (0 : Int32))] (.int (0 : Int32)) := V136
      refine Jvm.Own.W.dup w134 od_0_323 rfl rfl ?_
      refine W.bipush w134 od_0_324 (pc' := 326) rfl (z := (10 : Int32)) rfl ?_
      refine W.iload w134 od_0_326 (pc' := 328) rfl rfl ?_
      refine W.stC w134 (x' := t6) (nar_lat ht6) V137 (i := 10) (by decide) ⟨by decide, by decide⟩ (Nat.le_of_ble_eq_true rfl) mem0 od_0_328 (pc' := 329) rfl fun T138 h139 w140 K141 V142 => ?_
      have V143 : Arv Z h139 a70 k71 .char (12 : Int32) [(.int u0), (.int u1), (.int u2), (.int u3), (.int t0), (.int t1), (.int t2), (.int t3), (.int t4), (.int t5), (.int t6), (.int (0 : Int32))] (.int (0 : Int32)) := V142
      refine Jvm.Own.W.dup w140 od_0_329 rfl rfl ?_
      refine W.bipush w140 od_0_330 (pc' := 332) rfl (z := (11 : Int32)) rfl ?_
      refine W.iload w140 od_0_332 (pc' := 334) rfl rfl ?_
      refine W.stC w140 (x' := t7) (nar_lat ht7) V143 (i := 11) (by decide) ⟨by decide, by decide⟩ (Nat.le_of_ble_eq_true rfl) mem0 od_0_334 (pc' := 335) rfl fun T144 h145 w146 K147 V148 => ?_
      have V149 : Arv Z h145 a70 k71 .char (12 : Int32) [(.int u0), (.int u1), (.int u2), (.int u3), (.int t0), (.int t1), (.int t2), (.int t3), (.int t4), (.int t5), (.int t6), (.int t7)] (.int (0 : Int32)) := V148
      have f150 := (((((((((((((E64.keep K73).keep K81).keep K87).keep K93).keep K99).keep K105).keep K111).keep K117).keep K123).keep K129).keep K135).keep K141).keep K147)
      have f151 := (((((((((((((F67.keep K73 nin0).keep K81 (ninS ne76 nin0)).keep K87 (ninS ne76 nin0)).keep K93 (ninS ne76 nin0)).keep K99 (ninS ne76 nin0)).keep K105 (ninS ne76 nin0)).keep K111 (ninS ne76 nin0)).keep K117 (ninS ne76 nin0)).keep K123 (ninS ne76 nin0)).keep K129 (ninS ne76 nin0)).keep K135 (ninS ne76 nin0)).keep K141 (ninS ne76 nin0)).keep K147 (ninS ne76 nin0))
      have f152 := (((((((((((((F66.keep K73 nin0).keep K81 (ninS ne76 nin0)).keep K87 (ninS ne76 nin0)).keep K93 (ninS ne76 nin0)).keep K99 (ninS ne76 nin0)).keep K105 (ninS ne76 nin0)).keep K111 (ninS ne76 nin0)).keep K117 (ninS ne76 nin0)).keep K123 (ninS ne76 nin0)).keep K129 (ninS ne76 nin0)).keep K135 (ninS ne76 nin0)).keep K141 (ninS ne76 nin0)).keep K147 (ninS ne76 nin0))
      refine W.callI w146 (ow_13 hw) (ow_14 hw) (ow_15 hw) rfl (by decide) opd_6 (own_init hw w146.old (w146.mut (memS mem0)).1 f150 f151 f152 (cs := [u0, u1, u2, u3, t0, t1, t2, t3, t4, t5, t6, t7]) V149 (n := 12) rfl rfl (by decide) (by decide) (faS hu0 (faS hu1 (faS hu2 (faS hu3 (faS ht0 (faS ht1 (faS ht2 (faS ht3 (faS ht4 (faS ht5 (faS ht6 (faS ht7 fa0))))))))))))) (mC (memS mem0) mN) od_0_335 (pc' := 338) rfl rfl rfl (rest := [(.ref a60)]) rfl (Wd := 1) rfl (by decide) (by decide) (by decide) (by decide) fun v155 T153 h154 M156 w157 q158 => ?_
      obtain ⟨rfl, rfl, K159, t160, B161, F162⟩ := q158
      have ne163 : a60 ≠ t160 := neL f150.lt B161
      have ne164 : a70 ≠ t160 := neL V149.lt B161
      show Go Z _ _ _ κ _ (T153.setTop (mkF (km κ) 338 #[.val (.int p0), .val (.long p1), .second, .val (.long p2), .second, .val (.int p3), .val (.int t0), .val (.int t1), .val (.int t2), .val (.int t3), .val (.int t4), .val (.int t5), .val (.int t6), .val (.int t7), .val (.int u0), .val (.int u1), .val (.int u2), .val (.int u3), .val (.int al), .val (.int ((p3 &&& (2147483647 : Int32)) - ((p3 &&& (2147483647 : Int32)) / (6 : Int32)) * (6 : Int32))), .unset, .unset] [(.ref a60)]))
      refine W.astore w157 od_0_338 (pc' := 340) rfl (Ls' := #[.val (.int p0), .val (.long p1), .second, .val (.long p2), .second, .val (.int p3), .val (.int t0), .val (.int t1), .val (.int t2), .val (.int t3), .val (.int t4), .val (.int t5), .val (.int t6), .val (.int t7), .val (.int u0), .val (.int u1), .val (.int u2), .val (.int u3), .val (.int al), .val (.int ((p3 &&& (2147483647 : Int32)) - ((p3 &&& (2147483647 : Int32)) / (6 : Int32)) * (6 : Int32))), .val (.ref a60), .unset]) rfl rfl ?_
      refine W.iload w157 od_0_340 (pc' := 342) rfl rfl ?_
      refine W.istore w157 od_0_342 (pc' := 344) rfl (Ls' := #[.val (.int p0), .val (.long p1), .second, .val (.long p2), .second, .val (.int p3), .val (.int t0), .val (.int t1), .val (.int t2), .val (.int t3), .val (.int t4), .val (.int t5), .val (.int t6), .val (.int t7), .val (.int u0), .val (.int u1), .val (.int u2), .val (.int u3), .val (.int al), .val (.int ((p3 &&& (2147483647 : Int32)) - ((p3 &&& (2147483647 : Int32)) / (6 : Int32)) * (6 : Int32))), .val (.ref a60), .val (.int al)]) rfl ?_
      refine W.goto w157 od_0_344 (pc' := 586) (by decide) (by decide) ?_
      refine W.aload w157 od_0_586 (pc' := 588) rfl rfl rfl ?_
      refine W.callS w157 (ow_39 hw) (ow_40 hw) (ow_41 hw) (ow_42 hw) (by decide) opd_7 (Ctr.pay (c_snap12 hw F162 w157.old) (own_ew hw) (ow_42 hw) (ow_41 hw) (kf := 4) (kl := 65) (by decide) (by decide)) mN od_0_588 (pc' := 591) rfl rfl rfl (rest := []) rfl (Wd := 0) rfl (by decide) (by decide) (by decide) (by decide) fun v167 T165 h166 M168 w169 q170 => ?_
      obtain ⟨rfl, rfl, K171⟩ := q170
      show Go Z _ _ _ κ _ (T165.setTop (mkF (km κ) 591 #[.val (.int p0), .val (.long p1), .second, .val (.long p2), .second, .val (.int p3), .val (.int t0), .val (.int t1), .val (.int t2), .val (.int t3), .val (.int t4), .val (.int t5), .val (.int t6), .val (.int t7), .val (.int u0), .val (.int u1), .val (.int u2), .val (.int u3), .val (.int al), .val (.int ((p3 &&& (2147483647 : Int32)) - ((p3 &&& (2147483647 : Int32)) / (6 : Int32)) * (6 : Int32))), .val (.ref a60), .val (.int al)] [(.int (if (ciV t0.toInt8.toInt32 (83 : Int32)) = 0 then 0 else (if (ciV t1.toInt8.toInt32 (78 : Int32)) = 0 then 0 else (if (ciV t2.toInt8.toInt32 (65 : Int32)) = 0 then 0 else (if (ciV t3.toInt8.toInt32 (80 : Int32)) = 0 then 0 else (if (ciV t4.toInt8.toInt32 (83 : Int32)) = 0 then 0 else (if (ciV t5.toInt8.toInt32 (72 : Int32)) = 0 then 0 else (if (ciV t6.toInt8.toInt32 (79 : Int32)) = 0 then 0 else (if (ciV t7.toInt8.toInt32 (84 : Int32)) = 0 then 0 else 1)))))))))]))
      refine W.iload w169 od_0_591 (pc' := 593) rfl rfl ?_
      have hfin : ((if (ciV t0.toInt8.toInt32 (83 : Int32)) = 0 then 0 else (if (ciV t1.toInt8.toInt32 (78 : Int32)) = 0 then 0 else (if (ciV t2.toInt8.toInt32 (65 : Int32)) = 0 then 0 else (if (ciV t3.toInt8.toInt32 (80 : Int32)) = 0 then 0 else (if (ciV t4.toInt8.toInt32 (83 : Int32)) = 0 then 0 else (if (ciV t5.toInt8.toInt32 (72 : Int32)) = 0 then 0 else (if (ciV t6.toInt8.toInt32 (79 : Int32)) = 0 then 0 else (if (ciV t7.toInt8.toInt32 (84 : Int32)) = 0 then 0 else 1)))))))) : Int32) = (if (okV t0 (83 : Int32) (115 : Int32)) = 0 then 0 else (if (okV t1 (78 : Int32) (110 : Int32)) = 0 then 0 else (if (okV t2 (65 : Int32) (97 : Int32)) = 0 then 0 else (if (okV t3 (80 : Int32) (112 : Int32)) = 0 then 0 else (if (okV t4 (83 : Int32) (115 : Int32)) = 0 then 0 else (if (okV t5 (72 : Int32) (104 : Int32)) = 0 then 0 else (if (okV t6 (79 : Int32) (111 : Int32)) = 0 then 0 else (if (okV t7 (84 : Int32) (116 : Int32)) = 0 then 0 else 1)))))))) := by rw [(show ciV t0.toInt8.toInt32 (83 : Int32) = okV t0 (83 : Int32) (115 : Int32) from ok_ci (83, 115) (by decide) ht0), (show ciV t1.toInt8.toInt32 (78 : Int32) = okV t1 (78 : Int32) (110 : Int32) from ok_ci (78, 110) (by decide) ht1), (show ciV t2.toInt8.toInt32 (65 : Int32) = okV t2 (65 : Int32) (97 : Int32) from ok_ci (65, 97) (by decide) ht2), (show ciV t3.toInt8.toInt32 (80 : Int32) = okV t3 (80 : Int32) (112 : Int32) from ok_ci (80, 112) (by decide) ht3), (show ciV t4.toInt8.toInt32 (83 : Int32) = okV t4 (83 : Int32) (115 : Int32) from ok_ci (83, 115) (by decide) ht4), (show ciV t5.toInt8.toInt32 (72 : Int32) = okV t5 (72 : Int32) (104 : Int32) from ok_ci (72, 104) (by decide) ht5), (show ciV t6.toInt8.toInt32 (79 : Int32) = okV t6 (79 : Int32) (111 : Int32) from ok_ci (79, 111) (by decide) ht6), (show ciV t7.toInt8.toInt32 (84 : Int32) = okV t7 (84 : Int32) (116 : Int32) from ok_ci (84, 116) (by decide) ht7)]
      refine W.icmpNo w169 od_0_593 (pc' := 596) rfl (teq (hfin.trans hal.symm)).2 ?_
      refine W.iconst w169 od_0_596 (pc' := 597) rfl (z := (1 : Int32)) rfl ?_
      refine W.goto w169 od_0_597 (pc' := 601) (by decide) (by decide) ?_
      exact W.retN w169 (t := .boolean) (z' := (1 : Int32)) rfl rfl (by simp) od_0_601 (M' := []) mN (by decide) (by decide) rfl
    · refine W.ifYes wJ od_0_258 (pc' := 347) (by decide) (by decide) ((if0 _ _).trans (feq hc57).2) ?_
      refine W.iload wJ od_0_347 (pc' := 349) rfl rfl ?_
      refine W.iconst wJ od_0_349 (pc' := 350) rfl (z := (1 : Int32)) rfl ?_
      rcases Decidable.em (((p3 &&& (2147483647 : Int32)) - ((p3 &&& (2147483647 : Int32)) / (6 : Int32)) * (6 : Int32)) = (1 : Int32)) with hc172 | hc172
      · refine W.icmpNo wJ od_0_350 (pc' := 353) rfl (teq hc172).2 ?_
        refine W.newO wJ (ow_9 hw) (ow_10 hw) (ow_11 hw) od_0_353 (pc' := 356) rfl (by decide) (by decide) fun T173 h174 a175 w176 K177 B178 E179 D180 => ?_
        have F181 : Fld Z h174 a175 "java/lang/String" "coder" "B" (.int (0 : Int32)) := D180 (Or.inr (ow_36 hw)) (ty := .byte) (by decide)
        have F182 : Fld Z h174 a175 "java/lang/String" "value" "[B" .null := D180 (Or.inr (ow_38 hw)) (ty := (.array .byte)) (by decide)
        refine Jvm.Own.W.dup w176 od_0_356 rfl rfl ?_
        refine W.bipush w176 od_0_357 (pc' := 359) rfl (z := (9 : Int32)) rfl ?_
        refine W.newP w176 (ty := .char) rfl (ow_12 hw) od_0_359 (pc' := 361) rfl (by decide) (cap := 9) (by decide) (by decide) (by decide) (by decide) fun T183 h184 a185 k186 w187 K188 B189 V190 => ?_
        have ne191 : a175 ≠ a185 := neL E179.lt B189
        have V192 : Arv Z h184 a185 k186 .char (9 : Int32) [(.int (0 : Int32)), (.int (0 : Int32)), (.int (0 : Int32)), (.int (0 : Int32)), (.int (0 : Int32)), (.int (0 : Int32)), (.int (0 : Int32)), (.int (0 : Int32)), (.int (0 : Int32))] (.int (0 : Int32)) := V190
        refine Jvm.Own.W.dup w187 od_0_361 rfl rfl ?_
        refine W.iconst w187 od_0_362 (pc' := 363) rfl (z := (0 : Int32)) rfl ?_
        refine W.iload w187 od_0_363 (pc' := 365) rfl rfl ?_
        refine W.stC w187 (x' := u0) (nar_lat hu0) V192 (i := 0) (by decide) ⟨by decide, by decide⟩ (Nat.le_of_ble_eq_true rfl) mem0 od_0_365 (pc' := 366) rfl fun T193 h194 w195 K196 V197 => ?_
        have V198 : Arv Z h194 a185 k186 .char (9 : Int32) [(.int u0), (.int (0 : Int32)), (.int (0 : Int32)), (.int (0 : Int32)), (.int (0 : Int32)), (.int (0 : Int32)), (.int (0 : Int32)), (.int (0 : Int32)), (.int (0 : Int32))] (.int (0 : Int32)) := V197
        refine Jvm.Own.W.dup w195 od_0_366 rfl rfl ?_
        refine W.iconst w195 od_0_367 (pc' := 368) rfl (z := (1 : Int32)) rfl ?_
        refine W.iload w195 od_0_368 (pc' := 370) rfl rfl ?_
        refine W.stC w195 (x' := t0) (nar_lat ht0) V198 (i := 1) (by decide) ⟨by decide, by decide⟩ (Nat.le_of_ble_eq_true rfl) mem0 od_0_370 (pc' := 371) rfl fun T199 h200 w201 K202 V203 => ?_
        have V204 : Arv Z h200 a185 k186 .char (9 : Int32) [(.int u0), (.int t0), (.int (0 : Int32)), (.int (0 : Int32)), (.int (0 : Int32)), (.int (0 : Int32)), (.int (0 : Int32)), (.int (0 : Int32)), (.int (0 : Int32))] (.int (0 : Int32)) := V203
        refine Jvm.Own.W.dup w201 od_0_371 rfl rfl ?_
        refine W.iconst w201 od_0_372 (pc' := 373) rfl (z := (2 : Int32)) rfl ?_
        refine W.iload w201 od_0_373 (pc' := 375) rfl rfl ?_
        refine W.stC w201 (x' := t1) (nar_lat ht1) V204 (i := 2) (by decide) ⟨by decide, by decide⟩ (Nat.le_of_ble_eq_true rfl) mem0 od_0_375 (pc' := 376) rfl fun T205 h206 w207 K208 V209 => ?_
        have V210 : Arv Z h206 a185 k186 .char (9 : Int32) [(.int u0), (.int t0), (.int t1), (.int (0 : Int32)), (.int (0 : Int32)), (.int (0 : Int32)), (.int (0 : Int32)), (.int (0 : Int32)), (.int (0 : Int32))] (.int (0 : Int32)) := V209
        refine Jvm.Own.W.dup w207 od_0_376 rfl rfl ?_
        refine W.iconst w207 od_0_377 (pc' := 378) rfl (z := (3 : Int32)) rfl ?_
        refine W.iload w207 od_0_378 (pc' := 380) rfl rfl ?_
        refine W.stC w207 (x' := t2) (nar_lat ht2) V210 (i := 3) (by decide) ⟨by decide, by decide⟩ (Nat.le_of_ble_eq_true rfl) mem0 od_0_380 (pc' := 381) rfl fun T211 h212 w213 K214 V215 => ?_
        have V216 : Arv Z h212 a185 k186 .char (9 : Int32) [(.int u0), (.int t0), (.int t1), (.int t2), (.int (0 : Int32)), (.int (0 : Int32)), (.int (0 : Int32)), (.int (0 : Int32)), (.int (0 : Int32))] (.int (0 : Int32)) := V215
        refine Jvm.Own.W.dup w213 od_0_381 rfl rfl ?_
        refine W.iconst w213 od_0_382 (pc' := 383) rfl (z := (4 : Int32)) rfl ?_
        refine W.iload w213 od_0_383 (pc' := 385) rfl rfl ?_
        refine W.stC w213 (x' := t3) (nar_lat ht3) V216 (i := 4) (by decide) ⟨by decide, by decide⟩ (Nat.le_of_ble_eq_true rfl) mem0 od_0_385 (pc' := 386) rfl fun T217 h218 w219 K220 V221 => ?_
        have V222 : Arv Z h218 a185 k186 .char (9 : Int32) [(.int u0), (.int t0), (.int t1), (.int t2), (.int t3), (.int (0 : Int32)), (.int (0 : Int32)), (.int (0 : Int32)), (.int (0 : Int32))] (.int (0 : Int32)) := V221
        refine Jvm.Own.W.dup w219 od_0_386 rfl rfl ?_
        refine W.iconst w219 od_0_387 (pc' := 388) rfl (z := (5 : Int32)) rfl ?_
        refine W.iload w219 od_0_388 (pc' := 390) rfl rfl ?_
        refine W.stC w219 (x' := t4) (nar_lat ht4) V222 (i := 5) (by decide) ⟨by decide, by decide⟩ (Nat.le_of_ble_eq_true rfl) mem0 od_0_390 (pc' := 391) rfl fun T223 h224 w225 K226 V227 => ?_
        have V228 : Arv Z h224 a185 k186 .char (9 : Int32) [(.int u0), (.int t0), (.int t1), (.int t2), (.int t3), (.int t4), (.int (0 : Int32)), (.int (0 : Int32)), (.int (0 : Int32))] (.int (0 : Int32)) := V227
        refine Jvm.Own.W.dup w225 od_0_391 rfl rfl ?_
        refine W.bipush w225 od_0_392 (pc' := 394) rfl (z := (6 : Int32)) rfl ?_
        refine W.iload w225 od_0_394 (pc' := 396) rfl rfl ?_
        refine W.stC w225 (x' := t5) (nar_lat ht5) V228 (i := 6) (by decide) ⟨by decide, by decide⟩ (Nat.le_of_ble_eq_true rfl) mem0 od_0_396 (pc' := 397) rfl fun T229 h230 w231 K232 V233 => ?_
        have V234 : Arv Z h230 a185 k186 .char (9 : Int32) [(.int u0), (.int t0), (.int t1), (.int t2), (.int t3), (.int t4), (.int t5), (.int (0 : Int32)), (.int (0 : Int32))] (.int (0 : Int32)) := V233
        refine Jvm.Own.W.dup w231 od_0_397 rfl rfl ?_
        refine W.bipush w231 od_0_398 (pc' := 400) rfl (z := (7 : Int32)) rfl ?_
        refine W.iload w231 od_0_400 (pc' := 402) rfl rfl ?_
        refine W.stC w231 (x' := t6) (nar_lat ht6) V234 (i := 7) (by decide) ⟨by decide, by decide⟩ (Nat.le_of_ble_eq_true rfl) mem0 od_0_402 (pc' := 403) rfl fun T235 h236 w237 K238 V239 => ?_
        have V240 : Arv Z h236 a185 k186 .char (9 : Int32) [(.int u0), (.int t0), (.int t1), (.int t2), (.int t3), (.int t4), (.int t5), (.int t6), (.int (0 : Int32))] (.int (0 : Int32)) := V239
        refine Jvm.Own.W.dup w237 od_0_403 rfl rfl ?_
        refine W.bipush w237 od_0_404 (pc' := 406) rfl (z := (8 : Int32)) rfl ?_
        refine W.iload w237 od_0_406 (pc' := 408) rfl rfl ?_
        refine W.stC w237 (x' := t7) (nar_lat ht7) V240 (i := 8) (by decide) ⟨by decide, by decide⟩ (Nat.le_of_ble_eq_true rfl) mem0 od_0_408 (pc' := 409) rfl fun T241 h242 w243 K244 V245 => ?_
        have V246 : Arv Z h242 a185 k186 .char (9 : Int32) [(.int u0), (.int t0), (.int t1), (.int t2), (.int t3), (.int t4), (.int t5), (.int t6), (.int t7)] (.int (0 : Int32)) := V245
        have f247 := ((((((((((E179.keep K188).keep K196).keep K202).keep K208).keep K214).keep K220).keep K226).keep K232).keep K238).keep K244)
        have f248 := ((((((((((F182.keep K188 nin0).keep K196 (ninS ne191 nin0)).keep K202 (ninS ne191 nin0)).keep K208 (ninS ne191 nin0)).keep K214 (ninS ne191 nin0)).keep K220 (ninS ne191 nin0)).keep K226 (ninS ne191 nin0)).keep K232 (ninS ne191 nin0)).keep K238 (ninS ne191 nin0)).keep K244 (ninS ne191 nin0))
        have f249 := ((((((((((F181.keep K188 nin0).keep K196 (ninS ne191 nin0)).keep K202 (ninS ne191 nin0)).keep K208 (ninS ne191 nin0)).keep K214 (ninS ne191 nin0)).keep K220 (ninS ne191 nin0)).keep K226 (ninS ne191 nin0)).keep K232 (ninS ne191 nin0)).keep K238 (ninS ne191 nin0)).keep K244 (ninS ne191 nin0))
        refine W.callI w243 (ow_13 hw) (ow_14 hw) (ow_15 hw) rfl (by decide) opd_6 (own_init hw w243.old (w243.mut (memS mem0)).1 f247 f248 f249 (cs := [u0, t0, t1, t2, t3, t4, t5, t6, t7]) V246 (n := 9) rfl rfl (by decide) (by decide) (faS hu0 (faS ht0 (faS ht1 (faS ht2 (faS ht3 (faS ht4 (faS ht5 (faS ht6 (faS ht7 fa0)))))))))) (mC (memS mem0) mN) od_0_409 (pc' := 412) rfl rfl rfl (rest := [(.ref a175)]) rfl (Wd := 1) rfl (by decide) (by decide) (by decide) (by decide) fun v252 T250 h251 M253 w254 q255 => ?_
        obtain ⟨rfl, rfl, K256, t257, B258, F259⟩ := q255
        have ne260 : a175 ≠ t257 := neL f247.lt B258
        have ne261 : a185 ≠ t257 := neL V246.lt B258
        show Go Z _ _ _ κ _ (T250.setTop (mkF (km κ) 412 #[.val (.int p0), .val (.long p1), .second, .val (.long p2), .second, .val (.int p3), .val (.int t0), .val (.int t1), .val (.int t2), .val (.int t3), .val (.int t4), .val (.int t5), .val (.int t6), .val (.int t7), .val (.int u0), .val (.int u1), .val (.int u2), .val (.int u3), .val (.int al), .val (.int ((p3 &&& (2147483647 : Int32)) - ((p3 &&& (2147483647 : Int32)) / (6 : Int32)) * (6 : Int32))), .unset, .unset] [(.ref a175)]))
        refine W.astore w254 od_0_412 (pc' := 414) rfl (Ls' := #[.val (.int p0), .val (.long p1), .second, .val (.long p2), .second, .val (.int p3), .val (.int t0), .val (.int t1), .val (.int t2), .val (.int t3), .val (.int t4), .val (.int t5), .val (.int t6), .val (.int t7), .val (.int u0), .val (.int u1), .val (.int u2), .val (.int u3), .val (.int al), .val (.int ((p3 &&& (2147483647 : Int32)) - ((p3 &&& (2147483647 : Int32)) / (6 : Int32)) * (6 : Int32))), .val (.ref a175), .unset]) rfl rfl ?_
        refine W.iload w254 od_0_414 (pc' := 416) rfl rfl ?_
        refine W.istore w254 od_0_416 (pc' := 418) rfl (Ls' := #[.val (.int p0), .val (.long p1), .second, .val (.long p2), .second, .val (.int p3), .val (.int t0), .val (.int t1), .val (.int t2), .val (.int t3), .val (.int t4), .val (.int t5), .val (.int t6), .val (.int t7), .val (.int u0), .val (.int u1), .val (.int u2), .val (.int u3), .val (.int al), .val (.int ((p3 &&& (2147483647 : Int32)) - ((p3 &&& (2147483647 : Int32)) / (6 : Int32)) * (6 : Int32))), .val (.ref a175), .val (.int al)]) rfl ?_
        refine W.goto w254 od_0_418 (pc' := 586) (by decide) (by decide) ?_
        refine W.aload w254 od_0_586 (pc' := 588) rfl rfl rfl ?_
        refine W.callS w254 (ow_39 hw) (ow_40 hw) (ow_41 hw) (ow_42 hw) (by decide) opd_7 (Ctr.pay (c_snap9 hw F259 w254.old) (own_ew hw) (ow_42 hw) (ow_41 hw) (kf := 4) (kl := 65) (by decide) (by decide)) mN od_0_588 (pc' := 591) rfl rfl rfl (rest := []) rfl (Wd := 0) rfl (by decide) (by decide) (by decide) (by decide) fun v264 T262 h263 M265 w266 q267 => ?_
        obtain ⟨rfl, rfl, K268⟩ := q267
        show Go Z _ _ _ κ _ (T262.setTop (mkF (km κ) 591 #[.val (.int p0), .val (.long p1), .second, .val (.long p2), .second, .val (.int p3), .val (.int t0), .val (.int t1), .val (.int t2), .val (.int t3), .val (.int t4), .val (.int t5), .val (.int t6), .val (.int t7), .val (.int u0), .val (.int u1), .val (.int u2), .val (.int u3), .val (.int al), .val (.int ((p3 &&& (2147483647 : Int32)) - ((p3 &&& (2147483647 : Int32)) / (6 : Int32)) * (6 : Int32))), .val (.ref a175), .val (.int al)] [(.int (if (ciV t0.toInt8.toInt32 (83 : Int32)) = 0 then 0 else (if (ciV t1.toInt8.toInt32 (78 : Int32)) = 0 then 0 else (if (ciV t2.toInt8.toInt32 (65 : Int32)) = 0 then 0 else (if (ciV t3.toInt8.toInt32 (80 : Int32)) = 0 then 0 else (if (ciV t4.toInt8.toInt32 (83 : Int32)) = 0 then 0 else (if (ciV t5.toInt8.toInt32 (72 : Int32)) = 0 then 0 else (if (ciV t6.toInt8.toInt32 (79 : Int32)) = 0 then 0 else (if (ciV t7.toInt8.toInt32 (84 : Int32)) = 0 then 0 else 1)))))))))]))
        refine W.iload w266 od_0_591 (pc' := 593) rfl rfl ?_
        have hfin : ((if (ciV t0.toInt8.toInt32 (83 : Int32)) = 0 then 0 else (if (ciV t1.toInt8.toInt32 (78 : Int32)) = 0 then 0 else (if (ciV t2.toInt8.toInt32 (65 : Int32)) = 0 then 0 else (if (ciV t3.toInt8.toInt32 (80 : Int32)) = 0 then 0 else (if (ciV t4.toInt8.toInt32 (83 : Int32)) = 0 then 0 else (if (ciV t5.toInt8.toInt32 (72 : Int32)) = 0 then 0 else (if (ciV t6.toInt8.toInt32 (79 : Int32)) = 0 then 0 else (if (ciV t7.toInt8.toInt32 (84 : Int32)) = 0 then 0 else 1)))))))) : Int32) = (if (okV t0 (83 : Int32) (115 : Int32)) = 0 then 0 else (if (okV t1 (78 : Int32) (110 : Int32)) = 0 then 0 else (if (okV t2 (65 : Int32) (97 : Int32)) = 0 then 0 else (if (okV t3 (80 : Int32) (112 : Int32)) = 0 then 0 else (if (okV t4 (83 : Int32) (115 : Int32)) = 0 then 0 else (if (okV t5 (72 : Int32) (104 : Int32)) = 0 then 0 else (if (okV t6 (79 : Int32) (111 : Int32)) = 0 then 0 else (if (okV t7 (84 : Int32) (116 : Int32)) = 0 then 0 else 1)))))))) := by rw [(show ciV t0.toInt8.toInt32 (83 : Int32) = okV t0 (83 : Int32) (115 : Int32) from ok_ci (83, 115) (by decide) ht0), (show ciV t1.toInt8.toInt32 (78 : Int32) = okV t1 (78 : Int32) (110 : Int32) from ok_ci (78, 110) (by decide) ht1), (show ciV t2.toInt8.toInt32 (65 : Int32) = okV t2 (65 : Int32) (97 : Int32) from ok_ci (65, 97) (by decide) ht2), (show ciV t3.toInt8.toInt32 (80 : Int32) = okV t3 (80 : Int32) (112 : Int32) from ok_ci (80, 112) (by decide) ht3), (show ciV t4.toInt8.toInt32 (83 : Int32) = okV t4 (83 : Int32) (115 : Int32) from ok_ci (83, 115) (by decide) ht4), (show ciV t5.toInt8.toInt32 (72 : Int32) = okV t5 (72 : Int32) (104 : Int32) from ok_ci (72, 104) (by decide) ht5), (show ciV t6.toInt8.toInt32 (79 : Int32) = okV t6 (79 : Int32) (111 : Int32) from ok_ci (79, 111) (by decide) ht6), (show ciV t7.toInt8.toInt32 (84 : Int32) = okV t7 (84 : Int32) (116 : Int32) from ok_ci (84, 116) (by decide) ht7)]
        refine W.icmpNo w266 od_0_593 (pc' := 596) rfl (teq (hfin.trans hal.symm)).2 ?_
        refine W.iconst w266 od_0_596 (pc' := 597) rfl (z := (1 : Int32)) rfl ?_
        refine W.goto w266 od_0_597 (pc' := 601) (by decide) (by decide) ?_
        exact W.retN w266 (t := .boolean) (z' := (1 : Int32)) rfl rfl (by simp) od_0_601 (M' := []) mN (by decide) (by decide) rfl
      · refine W.icmpYes wJ od_0_350 (pc' := 421) (by decide) (by decide) (feq hc172).2 ?_
        refine W.iload wJ od_0_421 (pc' := 423) rfl rfl ?_
        refine W.iconst wJ od_0_423 (pc' := 424) rfl (z := (2 : Int32)) rfl ?_
        rcases Decidable.em (((p3 &&& (2147483647 : Int32)) - ((p3 &&& (2147483647 : Int32)) / (6 : Int32)) * (6 : Int32)) = (2 : Int32)) with hc269 | hc269
        · refine W.icmpNo wJ od_0_424 (pc' := 427) rfl (teq hc269).2 ?_
          refine W.newO wJ (ow_9 hw) (ow_10 hw) (ow_11 hw) od_0_427 (pc' := 430) rfl (by decide) (by decide) fun T270 h271 a272 w273 K274 B275 E276 D277 => ?_
          have F278 : Fld Z h271 a272 "java/lang/String" "coder" "B" (.int (0 : Int32)) := D277 (Or.inr (ow_36 hw)) (ty := .byte) (by decide)
          have F279 : Fld Z h271 a272 "java/lang/String" "value" "[B" .null := D277 (Or.inr (ow_38 hw)) (ty := (.array .byte)) (by decide)
          refine Jvm.Own.W.dup w273 od_0_430 rfl rfl ?_
          refine W.bipush w273 od_0_431 (pc' := 433) rfl (z := (8 : Int32)) rfl ?_
          refine W.newP w273 (ty := .char) rfl (ow_12 hw) od_0_433 (pc' := 435) rfl (by decide) (cap := 8) (by decide) (by decide) (by decide) (by decide) fun T280 h281 a282 k283 w284 K285 B286 V287 => ?_
          have ne288 : a272 ≠ a282 := neL E276.lt B286
          have V289 : Arv Z h281 a282 k283 .char (8 : Int32) [(.int (0 : Int32)), (.int (0 : Int32)), (.int (0 : Int32)), (.int (0 : Int32)), (.int (0 : Int32)), (.int (0 : Int32)), (.int (0 : Int32)), (.int (0 : Int32))] (.int (0 : Int32)) := V287
          refine Jvm.Own.W.dup w284 od_0_435 rfl rfl ?_
          refine W.iconst w284 od_0_436 (pc' := 437) rfl (z := (0 : Int32)) rfl ?_
          refine W.iload w284 od_0_437 (pc' := 439) rfl rfl ?_
          refine W.stC w284 (x' := t0) (nar_lat ht0) V289 (i := 0) (by decide) ⟨by decide, by decide⟩ (Nat.le_of_ble_eq_true rfl) mem0 od_0_439 (pc' := 440) rfl fun T290 h291 w292 K293 V294 => ?_
          have V295 : Arv Z h291 a282 k283 .char (8 : Int32) [(.int t0), (.int (0 : Int32)), (.int (0 : Int32)), (.int (0 : Int32)), (.int (0 : Int32)), (.int (0 : Int32)), (.int (0 : Int32)), (.int (0 : Int32))] (.int (0 : Int32)) := V294
          refine Jvm.Own.W.dup w292 od_0_440 rfl rfl ?_
          refine W.iconst w292 od_0_441 (pc' := 442) rfl (z := (1 : Int32)) rfl ?_
          refine W.iload w292 od_0_442 (pc' := 444) rfl rfl ?_
          refine W.stC w292 (x' := t1) (nar_lat ht1) V295 (i := 1) (by decide) ⟨by decide, by decide⟩ (Nat.le_of_ble_eq_true rfl) mem0 od_0_444 (pc' := 445) rfl fun T296 h297 w298 K299 V300 => ?_
          have V301 : Arv Z h297 a282 k283 .char (8 : Int32) [(.int t0), (.int t1), (.int (0 : Int32)), (.int (0 : Int32)), (.int (0 : Int32)), (.int (0 : Int32)), (.int (0 : Int32)), (.int (0 : Int32))] (.int (0 : Int32)) := V300
          refine Jvm.Own.W.dup w298 od_0_445 rfl rfl ?_
          refine W.iconst w298 od_0_446 (pc' := 447) rfl (z := (2 : Int32)) rfl ?_
          refine W.iload w298 od_0_447 (pc' := 449) rfl rfl ?_
          refine W.stC w298 (x' := t2) (nar_lat ht2) V301 (i := 2) (by decide) ⟨by decide, by decide⟩ (Nat.le_of_ble_eq_true rfl) mem0 od_0_449 (pc' := 450) rfl fun T302 h303 w304 K305 V306 => ?_
          have V307 : Arv Z h303 a282 k283 .char (8 : Int32) [(.int t0), (.int t1), (.int t2), (.int (0 : Int32)), (.int (0 : Int32)), (.int (0 : Int32)), (.int (0 : Int32)), (.int (0 : Int32))] (.int (0 : Int32)) := V306
          refine Jvm.Own.W.dup w304 od_0_450 rfl rfl ?_
          refine W.iconst w304 od_0_451 (pc' := 452) rfl (z := (3 : Int32)) rfl ?_
          refine W.iload w304 od_0_452 (pc' := 454) rfl rfl ?_
          refine W.stC w304 (x' := t3) (nar_lat ht3) V307 (i := 3) (by decide) ⟨by decide, by decide⟩ (Nat.le_of_ble_eq_true rfl) mem0 od_0_454 (pc' := 455) rfl fun T308 h309 w310 K311 V312 => ?_
          have V313 : Arv Z h309 a282 k283 .char (8 : Int32) [(.int t0), (.int t1), (.int t2), (.int t3), (.int (0 : Int32)), (.int (0 : Int32)), (.int (0 : Int32)), (.int (0 : Int32))] (.int (0 : Int32)) := V312
          refine Jvm.Own.W.dup w310 od_0_455 rfl rfl ?_
          refine W.iconst w310 od_0_456 (pc' := 457) rfl (z := (4 : Int32)) rfl ?_
          refine W.iload w310 od_0_457 (pc' := 459) rfl rfl ?_
          refine W.stC w310 (x' := t4) (nar_lat ht4) V313 (i := 4) (by decide) ⟨by decide, by decide⟩ (Nat.le_of_ble_eq_true rfl) mem0 od_0_459 (pc' := 460) rfl fun T314 h315 w316 K317 V318 => ?_
          have V319 : Arv Z h315 a282 k283 .char (8 : Int32) [(.int t0), (.int t1), (.int t2), (.int t3), (.int t4), (.int (0 : Int32)), (.int (0 : Int32)), (.int (0 : Int32))] (.int (0 : Int32)) := V318
          refine Jvm.Own.W.dup w316 od_0_460 rfl rfl ?_
          refine W.iconst w316 od_0_461 (pc' := 462) rfl (z := (5 : Int32)) rfl ?_
          refine W.iload w316 od_0_462 (pc' := 464) rfl rfl ?_
          refine W.stC w316 (x' := t5) (nar_lat ht5) V319 (i := 5) (by decide) ⟨by decide, by decide⟩ (Nat.le_of_ble_eq_true rfl) mem0 od_0_464 (pc' := 465) rfl fun T320 h321 w322 K323 V324 => ?_
          have V325 : Arv Z h321 a282 k283 .char (8 : Int32) [(.int t0), (.int t1), (.int t2), (.int t3), (.int t4), (.int t5), (.int (0 : Int32)), (.int (0 : Int32))] (.int (0 : Int32)) := V324
          refine Jvm.Own.W.dup w322 od_0_465 rfl rfl ?_
          refine W.bipush w322 od_0_466 (pc' := 468) rfl (z := (6 : Int32)) rfl ?_
          refine W.iload w322 od_0_468 (pc' := 470) rfl rfl ?_
          refine W.stC w322 (x' := t6) (nar_lat ht6) V325 (i := 6) (by decide) ⟨by decide, by decide⟩ (Nat.le_of_ble_eq_true rfl) mem0 od_0_470 (pc' := 471) rfl fun T326 h327 w328 K329 V330 => ?_
          have V331 : Arv Z h327 a282 k283 .char (8 : Int32) [(.int t0), (.int t1), (.int t2), (.int t3), (.int t4), (.int t5), (.int t6), (.int (0 : Int32))] (.int (0 : Int32)) := V330
          refine Jvm.Own.W.dup w328 od_0_471 rfl rfl ?_
          refine W.bipush w328 od_0_472 (pc' := 474) rfl (z := (7 : Int32)) rfl ?_
          refine W.iload w328 od_0_474 (pc' := 476) rfl rfl ?_
          refine W.stC w328 (x' := t7) (nar_lat ht7) V331 (i := 7) (by decide) ⟨by decide, by decide⟩ (Nat.le_of_ble_eq_true rfl) mem0 od_0_476 (pc' := 477) rfl fun T332 h333 w334 K335 V336 => ?_
          have V337 : Arv Z h333 a282 k283 .char (8 : Int32) [(.int t0), (.int t1), (.int t2), (.int t3), (.int t4), (.int t5), (.int t6), (.int t7)] (.int (0 : Int32)) := V336
          have f338 := (((((((((E276.keep K285).keep K293).keep K299).keep K305).keep K311).keep K317).keep K323).keep K329).keep K335)
          have f339 := (((((((((F279.keep K285 nin0).keep K293 (ninS ne288 nin0)).keep K299 (ninS ne288 nin0)).keep K305 (ninS ne288 nin0)).keep K311 (ninS ne288 nin0)).keep K317 (ninS ne288 nin0)).keep K323 (ninS ne288 nin0)).keep K329 (ninS ne288 nin0)).keep K335 (ninS ne288 nin0))
          have f340 := (((((((((F278.keep K285 nin0).keep K293 (ninS ne288 nin0)).keep K299 (ninS ne288 nin0)).keep K305 (ninS ne288 nin0)).keep K311 (ninS ne288 nin0)).keep K317 (ninS ne288 nin0)).keep K323 (ninS ne288 nin0)).keep K329 (ninS ne288 nin0)).keep K335 (ninS ne288 nin0))
          refine W.callI w334 (ow_13 hw) (ow_14 hw) (ow_15 hw) rfl (by decide) opd_6 (own_init hw w334.old (w334.mut (memS mem0)).1 f338 f339 f340 (cs := [t0, t1, t2, t3, t4, t5, t6, t7]) V337 (n := 8) rfl rfl (by decide) (by decide) (faS ht0 (faS ht1 (faS ht2 (faS ht3 (faS ht4 (faS ht5 (faS ht6 (faS ht7 fa0))))))))) (mC (memS mem0) mN) od_0_477 (pc' := 480) rfl rfl rfl (rest := [(.ref a272)]) rfl (Wd := 1) rfl (by decide) (by decide) (by decide) (by decide) fun v343 T341 h342 M344 w345 q346 => ?_
          obtain ⟨rfl, rfl, K347, t348, B349, F350⟩ := q346
          have ne351 : a272 ≠ t348 := neL f338.lt B349
          have ne352 : a282 ≠ t348 := neL V337.lt B349
          show Go Z _ _ _ κ _ (T341.setTop (mkF (km κ) 480 #[.val (.int p0), .val (.long p1), .second, .val (.long p2), .second, .val (.int p3), .val (.int t0), .val (.int t1), .val (.int t2), .val (.int t3), .val (.int t4), .val (.int t5), .val (.int t6), .val (.int t7), .val (.int u0), .val (.int u1), .val (.int u2), .val (.int u3), .val (.int al), .val (.int ((p3 &&& (2147483647 : Int32)) - ((p3 &&& (2147483647 : Int32)) / (6 : Int32)) * (6 : Int32))), .unset, .unset] [(.ref a272)]))
          refine W.astore w345 od_0_480 (pc' := 482) rfl (Ls' := #[.val (.int p0), .val (.long p1), .second, .val (.long p2), .second, .val (.int p3), .val (.int t0), .val (.int t1), .val (.int t2), .val (.int t3), .val (.int t4), .val (.int t5), .val (.int t6), .val (.int t7), .val (.int u0), .val (.int u1), .val (.int u2), .val (.int u3), .val (.int al), .val (.int ((p3 &&& (2147483647 : Int32)) - ((p3 &&& (2147483647 : Int32)) / (6 : Int32)) * (6 : Int32))), .val (.ref a272), .unset]) rfl rfl ?_
          refine W.iload w345 od_0_482 (pc' := 484) rfl rfl ?_
          refine W.istore w345 od_0_484 (pc' := 486) rfl (Ls' := #[.val (.int p0), .val (.long p1), .second, .val (.long p2), .second, .val (.int p3), .val (.int t0), .val (.int t1), .val (.int t2), .val (.int t3), .val (.int t4), .val (.int t5), .val (.int t6), .val (.int t7), .val (.int u0), .val (.int u1), .val (.int u2), .val (.int u3), .val (.int al), .val (.int ((p3 &&& (2147483647 : Int32)) - ((p3 &&& (2147483647 : Int32)) / (6 : Int32)) * (6 : Int32))), .val (.ref a272), .val (.int al)]) rfl ?_
          refine W.goto w345 od_0_486 (pc' := 586) (by decide) (by decide) ?_
          refine W.aload w345 od_0_586 (pc' := 588) rfl rfl rfl ?_
          refine W.callS w345 (ow_39 hw) (ow_40 hw) (ow_41 hw) (ow_42 hw) (by decide) opd_7 (Ctr.pay (c_snap8 hw F350 w345.old) (own_ew hw) (ow_42 hw) (ow_41 hw) (kf := 4) (kl := 65) (by decide) (by decide)) mN od_0_588 (pc' := 591) rfl rfl rfl (rest := []) rfl (Wd := 0) rfl (by decide) (by decide) (by decide) (by decide) fun v355 T353 h354 M356 w357 q358 => ?_
          obtain ⟨rfl, rfl, K359⟩ := q358
          show Go Z _ _ _ κ _ (T353.setTop (mkF (km κ) 591 #[.val (.int p0), .val (.long p1), .second, .val (.long p2), .second, .val (.int p3), .val (.int t0), .val (.int t1), .val (.int t2), .val (.int t3), .val (.int t4), .val (.int t5), .val (.int t6), .val (.int t7), .val (.int u0), .val (.int u1), .val (.int u2), .val (.int u3), .val (.int al), .val (.int ((p3 &&& (2147483647 : Int32)) - ((p3 &&& (2147483647 : Int32)) / (6 : Int32)) * (6 : Int32))), .val (.ref a272), .val (.int al)] [(.int (if (ciV t0.toInt8.toInt32 (83 : Int32)) = 0 then 0 else (if (ciV t1.toInt8.toInt32 (78 : Int32)) = 0 then 0 else (if (ciV t2.toInt8.toInt32 (65 : Int32)) = 0 then 0 else (if (ciV t3.toInt8.toInt32 (80 : Int32)) = 0 then 0 else (if (ciV t4.toInt8.toInt32 (83 : Int32)) = 0 then 0 else (if (ciV t5.toInt8.toInt32 (72 : Int32)) = 0 then 0 else (if (ciV t6.toInt8.toInt32 (79 : Int32)) = 0 then 0 else (if (ciV t7.toInt8.toInt32 (84 : Int32)) = 0 then 0 else 1)))))))))]))
          refine W.iload w357 od_0_591 (pc' := 593) rfl rfl ?_
          have hfin : ((if (ciV t0.toInt8.toInt32 (83 : Int32)) = 0 then 0 else (if (ciV t1.toInt8.toInt32 (78 : Int32)) = 0 then 0 else (if (ciV t2.toInt8.toInt32 (65 : Int32)) = 0 then 0 else (if (ciV t3.toInt8.toInt32 (80 : Int32)) = 0 then 0 else (if (ciV t4.toInt8.toInt32 (83 : Int32)) = 0 then 0 else (if (ciV t5.toInt8.toInt32 (72 : Int32)) = 0 then 0 else (if (ciV t6.toInt8.toInt32 (79 : Int32)) = 0 then 0 else (if (ciV t7.toInt8.toInt32 (84 : Int32)) = 0 then 0 else 1)))))))) : Int32) = (if (okV t0 (83 : Int32) (115 : Int32)) = 0 then 0 else (if (okV t1 (78 : Int32) (110 : Int32)) = 0 then 0 else (if (okV t2 (65 : Int32) (97 : Int32)) = 0 then 0 else (if (okV t3 (80 : Int32) (112 : Int32)) = 0 then 0 else (if (okV t4 (83 : Int32) (115 : Int32)) = 0 then 0 else (if (okV t5 (72 : Int32) (104 : Int32)) = 0 then 0 else (if (okV t6 (79 : Int32) (111 : Int32)) = 0 then 0 else (if (okV t7 (84 : Int32) (116 : Int32)) = 0 then 0 else 1)))))))) := by rw [(show ciV t0.toInt8.toInt32 (83 : Int32) = okV t0 (83 : Int32) (115 : Int32) from ok_ci (83, 115) (by decide) ht0), (show ciV t1.toInt8.toInt32 (78 : Int32) = okV t1 (78 : Int32) (110 : Int32) from ok_ci (78, 110) (by decide) ht1), (show ciV t2.toInt8.toInt32 (65 : Int32) = okV t2 (65 : Int32) (97 : Int32) from ok_ci (65, 97) (by decide) ht2), (show ciV t3.toInt8.toInt32 (80 : Int32) = okV t3 (80 : Int32) (112 : Int32) from ok_ci (80, 112) (by decide) ht3), (show ciV t4.toInt8.toInt32 (83 : Int32) = okV t4 (83 : Int32) (115 : Int32) from ok_ci (83, 115) (by decide) ht4), (show ciV t5.toInt8.toInt32 (72 : Int32) = okV t5 (72 : Int32) (104 : Int32) from ok_ci (72, 104) (by decide) ht5), (show ciV t6.toInt8.toInt32 (79 : Int32) = okV t6 (79 : Int32) (111 : Int32) from ok_ci (79, 111) (by decide) ht6), (show ciV t7.toInt8.toInt32 (84 : Int32) = okV t7 (84 : Int32) (116 : Int32) from ok_ci (84, 116) (by decide) ht7)]
          refine W.icmpNo w357 od_0_593 (pc' := 596) rfl (teq (hfin.trans hal.symm)).2 ?_
          refine W.iconst w357 od_0_596 (pc' := 597) rfl (z := (1 : Int32)) rfl ?_
          refine W.goto w357 od_0_597 (pc' := 601) (by decide) (by decide) ?_
          exact W.retN w357 (t := .boolean) (z' := (1 : Int32)) rfl rfl (by simp) od_0_601 (M' := []) mN (by decide) (by decide) rfl
        · refine W.icmpYes wJ od_0_424 (pc' := 489) (by decide) (by decide) (feq hc269).2 ?_
          refine W.iload wJ od_0_489 (pc' := 491) rfl rfl ?_
          refine W.iconst wJ od_0_491 (pc' := 492) rfl (z := (3 : Int32)) rfl ?_
          rcases Decidable.em (((p3 &&& (2147483647 : Int32)) - ((p3 &&& (2147483647 : Int32)) / (6 : Int32)) * (6 : Int32)) = (3 : Int32)) with hc360 | hc360
          · refine W.icmpNo wJ od_0_492 (pc' := 495) rfl (teq hc360).2 ?_
            refine W.newO wJ (ow_9 hw) (ow_10 hw) (ow_11 hw) od_0_495 (pc' := 498) rfl (by decide) (by decide) fun T361 h362 a363 w364 K365 B366 E367 D368 => ?_
            have F369 : Fld Z h362 a363 "java/lang/String" "coder" "B" (.int (0 : Int32)) := D368 (Or.inr (ow_36 hw)) (ty := .byte) (by decide)
            have F370 : Fld Z h362 a363 "java/lang/String" "value" "[B" .null := D368 (Or.inr (ow_38 hw)) (ty := (.array .byte)) (by decide)
            refine Jvm.Own.W.dup w364 od_0_498 rfl rfl ?_
            refine W.bipush w364 od_0_499 (pc' := 501) rfl (z := (7 : Int32)) rfl ?_
            refine W.newP w364 (ty := .char) rfl (ow_12 hw) od_0_501 (pc' := 503) rfl (by decide) (cap := 7) (by decide) (by decide) (by decide) (by decide) fun T371 h372 a373 k374 w375 K376 B377 V378 => ?_
            have ne379 : a363 ≠ a373 := neL E367.lt B377
            have V380 : Arv Z h372 a373 k374 .char (7 : Int32) [(.int (0 : Int32)), (.int (0 : Int32)), (.int (0 : Int32)), (.int (0 : Int32)), (.int (0 : Int32)), (.int (0 : Int32)), (.int (0 : Int32))] (.int (0 : Int32)) := V378
            refine Jvm.Own.W.dup w375 od_0_503 rfl rfl ?_
            refine W.iconst w375 od_0_504 (pc' := 505) rfl (z := (0 : Int32)) rfl ?_
            refine W.iload w375 od_0_505 (pc' := 507) rfl rfl ?_
            refine W.stC w375 (x' := t1) (nar_lat ht1) V380 (i := 0) (by decide) ⟨by decide, by decide⟩ (Nat.le_of_ble_eq_true rfl) mem0 od_0_507 (pc' := 508) rfl fun T381 h382 w383 K384 V385 => ?_
            have V386 : Arv Z h382 a373 k374 .char (7 : Int32) [(.int t1), (.int (0 : Int32)), (.int (0 : Int32)), (.int (0 : Int32)), (.int (0 : Int32)), (.int (0 : Int32)), (.int (0 : Int32))] (.int (0 : Int32)) := V385
            refine Jvm.Own.W.dup w383 od_0_508 rfl rfl ?_
            refine W.iconst w383 od_0_509 (pc' := 510) rfl (z := (1 : Int32)) rfl ?_
            refine W.iload w383 od_0_510 (pc' := 512) rfl rfl ?_
            refine W.stC w383 (x' := t2) (nar_lat ht2) V386 (i := 1) (by decide) ⟨by decide, by decide⟩ (Nat.le_of_ble_eq_true rfl) mem0 od_0_512 (pc' := 513) rfl fun T387 h388 w389 K390 V391 => ?_
            have V392 : Arv Z h388 a373 k374 .char (7 : Int32) [(.int t1), (.int t2), (.int (0 : Int32)), (.int (0 : Int32)), (.int (0 : Int32)), (.int (0 : Int32)), (.int (0 : Int32))] (.int (0 : Int32)) := V391
            refine Jvm.Own.W.dup w389 od_0_513 rfl rfl ?_
            refine W.iconst w389 od_0_514 (pc' := 515) rfl (z := (2 : Int32)) rfl ?_
            refine W.iload w389 od_0_515 (pc' := 517) rfl rfl ?_
            refine W.stC w389 (x' := t3) (nar_lat ht3) V392 (i := 2) (by decide) ⟨by decide, by decide⟩ (Nat.le_of_ble_eq_true rfl) mem0 od_0_517 (pc' := 518) rfl fun T393 h394 w395 K396 V397 => ?_
            have V398 : Arv Z h394 a373 k374 .char (7 : Int32) [(.int t1), (.int t2), (.int t3), (.int (0 : Int32)), (.int (0 : Int32)), (.int (0 : Int32)), (.int (0 : Int32))] (.int (0 : Int32)) := V397
            refine Jvm.Own.W.dup w395 od_0_518 rfl rfl ?_
            refine W.iconst w395 od_0_519 (pc' := 520) rfl (z := (3 : Int32)) rfl ?_
            refine W.iload w395 od_0_520 (pc' := 522) rfl rfl ?_
            refine W.stC w395 (x' := t4) (nar_lat ht4) V398 (i := 3) (by decide) ⟨by decide, by decide⟩ (Nat.le_of_ble_eq_true rfl) mem0 od_0_522 (pc' := 523) rfl fun T399 h400 w401 K402 V403 => ?_
            have V404 : Arv Z h400 a373 k374 .char (7 : Int32) [(.int t1), (.int t2), (.int t3), (.int t4), (.int (0 : Int32)), (.int (0 : Int32)), (.int (0 : Int32))] (.int (0 : Int32)) := V403
            refine Jvm.Own.W.dup w401 od_0_523 rfl rfl ?_
            refine W.iconst w401 od_0_524 (pc' := 525) rfl (z := (4 : Int32)) rfl ?_
            refine W.iload w401 od_0_525 (pc' := 527) rfl rfl ?_
            refine W.stC w401 (x' := t5) (nar_lat ht5) V404 (i := 4) (by decide) ⟨by decide, by decide⟩ (Nat.le_of_ble_eq_true rfl) mem0 od_0_527 (pc' := 528) rfl fun T405 h406 w407 K408 V409 => ?_
            have V410 : Arv Z h406 a373 k374 .char (7 : Int32) [(.int t1), (.int t2), (.int t3), (.int t4), (.int t5), (.int (0 : Int32)), (.int (0 : Int32))] (.int (0 : Int32)) := V409
            refine Jvm.Own.W.dup w407 od_0_528 rfl rfl ?_
            refine W.iconst w407 od_0_529 (pc' := 530) rfl (z := (5 : Int32)) rfl ?_
            refine W.iload w407 od_0_530 (pc' := 532) rfl rfl ?_
            refine W.stC w407 (x' := t6) (nar_lat ht6) V410 (i := 5) (by decide) ⟨by decide, by decide⟩ (Nat.le_of_ble_eq_true rfl) mem0 od_0_532 (pc' := 533) rfl fun T411 h412 w413 K414 V415 => ?_
            have V416 : Arv Z h412 a373 k374 .char (7 : Int32) [(.int t1), (.int t2), (.int t3), (.int t4), (.int t5), (.int t6), (.int (0 : Int32))] (.int (0 : Int32)) := V415
            refine Jvm.Own.W.dup w413 od_0_533 rfl rfl ?_
            refine W.bipush w413 od_0_534 (pc' := 536) rfl (z := (6 : Int32)) rfl ?_
            refine W.iload w413 od_0_536 (pc' := 538) rfl rfl ?_
            refine W.stC w413 (x' := t7) (nar_lat ht7) V416 (i := 6) (by decide) ⟨by decide, by decide⟩ (Nat.le_of_ble_eq_true rfl) mem0 od_0_538 (pc' := 539) rfl fun T417 h418 w419 K420 V421 => ?_
            have V422 : Arv Z h418 a373 k374 .char (7 : Int32) [(.int t1), (.int t2), (.int t3), (.int t4), (.int t5), (.int t6), (.int t7)] (.int (0 : Int32)) := V421
            have f423 := ((((((((E367.keep K376).keep K384).keep K390).keep K396).keep K402).keep K408).keep K414).keep K420)
            have f424 := ((((((((F370.keep K376 nin0).keep K384 (ninS ne379 nin0)).keep K390 (ninS ne379 nin0)).keep K396 (ninS ne379 nin0)).keep K402 (ninS ne379 nin0)).keep K408 (ninS ne379 nin0)).keep K414 (ninS ne379 nin0)).keep K420 (ninS ne379 nin0))
            have f425 := ((((((((F369.keep K376 nin0).keep K384 (ninS ne379 nin0)).keep K390 (ninS ne379 nin0)).keep K396 (ninS ne379 nin0)).keep K402 (ninS ne379 nin0)).keep K408 (ninS ne379 nin0)).keep K414 (ninS ne379 nin0)).keep K420 (ninS ne379 nin0))
            refine W.callI w419 (ow_13 hw) (ow_14 hw) (ow_15 hw) rfl (by decide) opd_6 (own_init hw w419.old (w419.mut (memS mem0)).1 f423 f424 f425 (cs := [t1, t2, t3, t4, t5, t6, t7]) V422 (n := 7) rfl rfl (by decide) (by decide) (faS ht1 (faS ht2 (faS ht3 (faS ht4 (faS ht5 (faS ht6 (faS ht7 fa0)))))))) (mC (memS mem0) mN) od_0_539 (pc' := 542) rfl rfl rfl (rest := [(.ref a363)]) rfl (Wd := 1) rfl (by decide) (by decide) (by decide) (by decide) fun v428 T426 h427 M429 w430 q431 => ?_
            obtain ⟨rfl, rfl, K432, t433, B434, F435⟩ := q431
            have ne436 : a363 ≠ t433 := neL f423.lt B434
            have ne437 : a373 ≠ t433 := neL V422.lt B434
            show Go Z _ _ _ κ _ (T426.setTop (mkF (km κ) 542 #[.val (.int p0), .val (.long p1), .second, .val (.long p2), .second, .val (.int p3), .val (.int t0), .val (.int t1), .val (.int t2), .val (.int t3), .val (.int t4), .val (.int t5), .val (.int t6), .val (.int t7), .val (.int u0), .val (.int u1), .val (.int u2), .val (.int u3), .val (.int al), .val (.int ((p3 &&& (2147483647 : Int32)) - ((p3 &&& (2147483647 : Int32)) / (6 : Int32)) * (6 : Int32))), .unset, .unset] [(.ref a363)]))
            refine W.astore w430 od_0_542 (pc' := 544) rfl (Ls' := #[.val (.int p0), .val (.long p1), .second, .val (.long p2), .second, .val (.int p3), .val (.int t0), .val (.int t1), .val (.int t2), .val (.int t3), .val (.int t4), .val (.int t5), .val (.int t6), .val (.int t7), .val (.int u0), .val (.int u1), .val (.int u2), .val (.int u3), .val (.int al), .val (.int ((p3 &&& (2147483647 : Int32)) - ((p3 &&& (2147483647 : Int32)) / (6 : Int32)) * (6 : Int32))), .val (.ref a363), .unset]) rfl rfl ?_
            refine W.iconst w430 od_0_544 (pc' := 545) rfl (z := (0 : Int32)) rfl ?_
            refine W.istore w430 od_0_545 (pc' := 547) rfl (Ls' := #[.val (.int p0), .val (.long p1), .second, .val (.long p2), .second, .val (.int p3), .val (.int t0), .val (.int t1), .val (.int t2), .val (.int t3), .val (.int t4), .val (.int t5), .val (.int t6), .val (.int t7), .val (.int u0), .val (.int u1), .val (.int u2), .val (.int u3), .val (.int al), .val (.int ((p3 &&& (2147483647 : Int32)) - ((p3 &&& (2147483647 : Int32)) / (6 : Int32)) * (6 : Int32))), .val (.ref a363), .val (.int (0 : Int32))]) rfl ?_
            refine W.goto w430 od_0_547 (pc' := 586) (by decide) (by decide) ?_
            refine W.aload w430 od_0_586 (pc' := 588) rfl rfl rfl ?_
            refine W.callS w430 (ow_39 hw) (ow_40 hw) (ow_41 hw) (ow_42 hw) (by decide) opd_7 (Ctr.pay (c_snap7 hw F435 w430.old) (own_ew hw) (ow_42 hw) (ow_41 hw) (kf := 3) (kl := 42) (by decide) (by decide)) mN od_0_588 (pc' := 591) rfl rfl rfl (rest := []) rfl (Wd := 0) rfl (by decide) (by decide) (by decide) (by decide) fun v440 T438 h439 M441 w442 q443 => ?_
            obtain ⟨rfl, rfl, K444⟩ := q443
            show Go Z _ _ _ κ _ (T438.setTop (mkF (km κ) 591 #[.val (.int p0), .val (.long p1), .second, .val (.long p2), .second, .val (.int p3), .val (.int t0), .val (.int t1), .val (.int t2), .val (.int t3), .val (.int t4), .val (.int t5), .val (.int t6), .val (.int t7), .val (.int u0), .val (.int u1), .val (.int u2), .val (.int u3), .val (.int al), .val (.int ((p3 &&& (2147483647 : Int32)) - ((p3 &&& (2147483647 : Int32)) / (6 : Int32)) * (6 : Int32))), .val (.ref a363), .val (.int (0 : Int32))] [(.int (0 : Int32))]))
            refine W.iload w442 od_0_591 (pc' := 593) rfl rfl ?_
            refine W.icmpNo w442 od_0_593 (pc' := 596) rfl (teq (by decide : (0 : Int32) = (0 : Int32))).2 ?_
            refine W.iconst w442 od_0_596 (pc' := 597) rfl (z := (1 : Int32)) rfl ?_
            refine W.goto w442 od_0_597 (pc' := 601) (by decide) (by decide) ?_
            exact W.retN w442 (t := .boolean) (z' := (1 : Int32)) rfl rfl (by simp) od_0_601 (M' := []) mN (by decide) (by decide) rfl
          · refine W.icmpYes wJ od_0_492 (pc' := 550) (by decide) (by decide) (feq hc360).2 ?_
            refine W.iload wJ od_0_550 (pc' := 552) rfl rfl ?_
            refine W.iconst wJ od_0_552 (pc' := 553) rfl (z := (4 : Int32)) rfl ?_
            rcases Decidable.em (((p3 &&& (2147483647 : Int32)) - ((p3 &&& (2147483647 : Int32)) / (6 : Int32)) * (6 : Int32)) = (4 : Int32)) with hc445 | hc445
            · refine W.icmpNo wJ od_0_553 (pc' := 556) rfl (teq hc445).2 ?_
              refine W.newO wJ (ow_9 hw) (ow_10 hw) (ow_11 hw) od_0_556 (pc' := 559) rfl (by decide) (by decide) fun T446 h447 a448 w449 K450 B451 E452 D453 => ?_
              have F454 : Fld Z h447 a448 "java/lang/String" "coder" "B" (.int (0 : Int32)) := D453 (Or.inr (ow_36 hw)) (ty := .byte) (by decide)
              have F455 : Fld Z h447 a448 "java/lang/String" "value" "[B" .null := D453 (Or.inr (ow_38 hw)) (ty := (.array .byte)) (by decide)
              refine Jvm.Own.W.dup w449 od_0_559 rfl rfl ?_
              refine W.iconst w449 od_0_560 (pc' := 561) rfl (z := (1 : Int32)) rfl ?_
              refine W.newP w449 (ty := .char) rfl (ow_12 hw) od_0_561 (pc' := 563) rfl (by decide) (cap := 1) (by decide) (by decide) (by decide) (by decide) fun T456 h457 a458 k459 w460 K461 B462 V463 => ?_
              have ne464 : a448 ≠ a458 := neL E452.lt B462
              have V465 : Arv Z h457 a458 k459 .char (1 : Int32) [(.int (0 : Int32))] (.int (0 : Int32)) := V463
              refine Jvm.Own.W.dup w460 od_0_563 rfl rfl ?_
              refine W.iconst w460 od_0_564 (pc' := 565) rfl (z := (0 : Int32)) rfl ?_
              refine W.iload w460 od_0_565 (pc' := 567) rfl rfl ?_
              refine W.stC w460 (x' := u0) (nar_lat hu0) V465 (i := 0) (by decide) ⟨by decide, by decide⟩ (Nat.le_of_ble_eq_true rfl) mem0 od_0_567 (pc' := 568) rfl fun T466 h467 w468 K469 V470 => ?_
              have V471 : Arv Z h467 a458 k459 .char (1 : Int32) [(.int u0)] (.int (0 : Int32)) := V470
              have f472 := ((E452.keep K461).keep K469)
              have f473 := ((F455.keep K461 nin0).keep K469 (ninS ne464 nin0))
              have f474 := ((F454.keep K461 nin0).keep K469 (ninS ne464 nin0))
              refine W.callI w468 (ow_13 hw) (ow_14 hw) (ow_15 hw) rfl (by decide) opd_6 (own_init hw w468.old (w468.mut (memS mem0)).1 f472 f473 f474 (cs := [u0]) V471 (n := 1) rfl rfl (by decide) (by decide) (faS hu0 fa0)) (mC (memS mem0) mN) od_0_568 (pc' := 571) rfl rfl rfl (rest := [(.ref a448)]) rfl (Wd := 1) rfl (by decide) (by decide) (by decide) (by decide) fun v477 T475 h476 M478 w479 q480 => ?_
              obtain ⟨rfl, rfl, K481, t482, B483, F484⟩ := q480
              have ne485 : a448 ≠ t482 := neL f472.lt B483
              have ne486 : a458 ≠ t482 := neL V471.lt B483
              show Go Z _ _ _ κ _ (T475.setTop (mkF (km κ) 571 #[.val (.int p0), .val (.long p1), .second, .val (.long p2), .second, .val (.int p3), .val (.int t0), .val (.int t1), .val (.int t2), .val (.int t3), .val (.int t4), .val (.int t5), .val (.int t6), .val (.int t7), .val (.int u0), .val (.int u1), .val (.int u2), .val (.int u3), .val (.int al), .val (.int ((p3 &&& (2147483647 : Int32)) - ((p3 &&& (2147483647 : Int32)) / (6 : Int32)) * (6 : Int32))), .unset, .unset] [(.ref a448)]))
              refine W.astore w479 od_0_571 (pc' := 573) rfl (Ls' := #[.val (.int p0), .val (.long p1), .second, .val (.long p2), .second, .val (.int p3), .val (.int t0), .val (.int t1), .val (.int t2), .val (.int t3), .val (.int t4), .val (.int t5), .val (.int t6), .val (.int t7), .val (.int u0), .val (.int u1), .val (.int u2), .val (.int u3), .val (.int al), .val (.int ((p3 &&& (2147483647 : Int32)) - ((p3 &&& (2147483647 : Int32)) / (6 : Int32)) * (6 : Int32))), .val (.ref a448), .unset]) rfl rfl ?_
              refine W.iconst w479 od_0_573 (pc' := 574) rfl (z := (0 : Int32)) rfl ?_
              refine W.istore w479 od_0_574 (pc' := 576) rfl (Ls' := #[.val (.int p0), .val (.long p1), .second, .val (.long p2), .second, .val (.int p3), .val (.int t0), .val (.int t1), .val (.int t2), .val (.int t3), .val (.int t4), .val (.int t5), .val (.int t6), .val (.int t7), .val (.int u0), .val (.int u1), .val (.int u2), .val (.int u3), .val (.int al), .val (.int ((p3 &&& (2147483647 : Int32)) - ((p3 &&& (2147483647 : Int32)) / (6 : Int32)) * (6 : Int32))), .val (.ref a448), .val (.int (0 : Int32))]) rfl ?_
              refine W.goto w479 od_0_576 (pc' := 586) (by decide) (by decide) ?_
              refine W.aload w479 od_0_586 (pc' := 588) rfl rfl rfl ?_
              refine W.callS w479 (ow_39 hw) (ow_40 hw) (ow_41 hw) (ow_42 hw) (by decide) opd_7 (Ctr.pay (c_snap1 hw F484 w479.old) (own_ew hw) (ow_42 hw) (ow_41 hw) (kf := 3) (kl := 42) (by decide) (by decide)) mN od_0_588 (pc' := 591) rfl rfl rfl (rest := []) rfl (Wd := 0) rfl (by decide) (by decide) (by decide) (by decide) fun v489 T487 h488 M490 w491 q492 => ?_
              obtain ⟨rfl, rfl, K493⟩ := q492
              show Go Z _ _ _ κ _ (T487.setTop (mkF (km κ) 591 #[.val (.int p0), .val (.long p1), .second, .val (.long p2), .second, .val (.int p3), .val (.int t0), .val (.int t1), .val (.int t2), .val (.int t3), .val (.int t4), .val (.int t5), .val (.int t6), .val (.int t7), .val (.int u0), .val (.int u1), .val (.int u2), .val (.int u3), .val (.int al), .val (.int ((p3 &&& (2147483647 : Int32)) - ((p3 &&& (2147483647 : Int32)) / (6 : Int32)) * (6 : Int32))), .val (.ref a448), .val (.int (0 : Int32))] [(.int (0 : Int32))]))
              refine W.iload w491 od_0_591 (pc' := 593) rfl rfl ?_
              refine W.icmpNo w491 od_0_593 (pc' := 596) rfl (teq (by decide : (0 : Int32) = (0 : Int32))).2 ?_
              refine W.iconst w491 od_0_596 (pc' := 597) rfl (z := (1 : Int32)) rfl ?_
              refine W.goto w491 od_0_597 (pc' := 601) (by decide) (by decide) ?_
              exact W.retN w491 (t := .boolean) (z' := (1 : Int32)) rfl rfl (by simp) od_0_601 (M' := []) mN (by decide) (by decide) rfl
            · refine W.icmpYes wJ od_0_553 (pc' := 579) (by decide) (by decide) (feq hc445).2 ?_
              refine W.ldcS wJ rfl (ow_70 hw) (own_sA hw) (List.mem_of_getElem? (i := 1) rfl) (vs := []) (z := (0 : Int32)) ⟨by decide, by decide⟩ (by decide) (by decide) od_0_579 (pc' := 581) rfl (n := 0) (by decide) (by decide) (by decide) (by decide) fun T494 h495 a496 a497 k498 w499 K500 E501 F502 F503 V504 Q505 => ?_
              have F506 : Str8 Z h495 a496 a497 [] := ⟨E501, F502, F503, ⟨_, V504⟩, by decide, by decide⟩
              refine W.astore w499 od_0_581 (pc' := 583) rfl (Ls' := #[.val (.int p0), .val (.long p1), .second, .val (.long p2), .second, .val (.int p3), .val (.int t0), .val (.int t1), .val (.int t2), .val (.int t3), .val (.int t4), .val (.int t5), .val (.int t6), .val (.int t7), .val (.int u0), .val (.int u1), .val (.int u2), .val (.int u3), .val (.int al), .val (.int ((p3 &&& (2147483647 : Int32)) - ((p3 &&& (2147483647 : Int32)) / (6 : Int32)) * (6 : Int32))), .val (.ref a496), .unset]) rfl rfl ?_
              refine W.iconst w499 od_0_583 (pc' := 584) rfl (z := (0 : Int32)) rfl ?_
              refine W.istore w499 od_0_584 (pc' := 586) rfl (Ls' := #[.val (.int p0), .val (.long p1), .second, .val (.long p2), .second, .val (.int p3), .val (.int t0), .val (.int t1), .val (.int t2), .val (.int t3), .val (.int t4), .val (.int t5), .val (.int t6), .val (.int t7), .val (.int u0), .val (.int u1), .val (.int u2), .val (.int u3), .val (.int al), .val (.int ((p3 &&& (2147483647 : Int32)) - ((p3 &&& (2147483647 : Int32)) / (6 : Int32)) * (6 : Int32))), .val (.ref a496), .val (.int (0 : Int32))]) rfl ?_
              refine W.aload w499 od_0_586 (pc' := 588) rfl rfl rfl ?_
              refine W.callS w499 (ow_39 hw) (ow_40 hw) (ow_41 hw) (ow_42 hw) (by decide) opd_7 (Ctr.pay (c_snap0 hw F506 w499.old) (own_ew hw) (ow_42 hw) (ow_41 hw) (kf := 3) (kl := 42) (by decide) (by decide)) mN od_0_588 (pc' := 591) rfl rfl rfl (rest := []) rfl (Wd := 0) rfl (by decide) (by decide) (by decide) (by decide) fun v509 T507 h508 M510 w511 q512 => ?_
              obtain ⟨rfl, rfl, K513⟩ := q512
              show Go Z _ _ _ κ _ (T507.setTop (mkF (km κ) 591 #[.val (.int p0), .val (.long p1), .second, .val (.long p2), .second, .val (.int p3), .val (.int t0), .val (.int t1), .val (.int t2), .val (.int t3), .val (.int t4), .val (.int t5), .val (.int t6), .val (.int t7), .val (.int u0), .val (.int u1), .val (.int u2), .val (.int u3), .val (.int al), .val (.int ((p3 &&& (2147483647 : Int32)) - ((p3 &&& (2147483647 : Int32)) / (6 : Int32)) * (6 : Int32))), .val (.ref a496), .val (.int (0 : Int32))] [(.int (0 : Int32))]))
              refine W.iload w511 od_0_591 (pc' := 593) rfl rfl ?_
              refine W.icmpNo w511 od_0_593 (pc' := 596) rfl (teq (by decide : (0 : Int32) = (0 : Int32))).2 ?_
              refine W.iconst w511 od_0_596 (pc' := 597) rfl (z := (1 : Int32)) rfl ?_
              refine W.goto w511 od_0_597 (pc' := 601) (by decide) (by decide) ?_
              exact W.retN w511 (t := .boolean) (z' := (1 : Int32)) rfl rfl (by simp) od_0_601 (M' := []) mN (by decide) (by decide) rfl
  refine W.iload w54 od_0_143 (pc' := 145) rfl rfl ?_
  refine W.bipush w54 od_0_145 (pc' := 147) rfl (z := (83 : Int32)) rfl ?_
  refine W.bipush w54 od_0_147 (pc' := 149) rfl (z := (115 : Int32)) rfl ?_
  refine W.callS w54 (ow_5 hw) (ow_6 hw) (ow_2 hw) (ow_7 hw) (by decide) opd_8 (Ctr.pay (c_ok hw w54.old) (own_ew hw) (ow_7 hw) (ow_2 hw) (kf := 1) (kl := 14) (by decide) (by decide)) mN od_0_149 (pc' := 152) rfl rfl rfl (rest := []) rfl (Wd := 0) rfl (by decide) (by decide) (by decide) (by decide) fun v516 T514 h515 M517 w518 q519 => ?_
  obtain ⟨rfl, rfl, e520⟩ := q519
  obtain rfl := e520.symm
  show Go Z _ _ _ κ _ (T514.setTop (mkF (km κ) 152 #[.val (.int p0), .val (.long p1), .second, .val (.long p2), .second, .val (.int p3), .val (.int t0), .val (.int t1), .val (.int t2), .val (.int t3), .val (.int t4), .val (.int t5), .val (.int t6), .val (.int t7), .val (.int u0), .val (.int u1), .val (.int u2), .val (.int u3), .unset, .unset, .unset, .unset] [(.int (okV t0 (83 : Int32) (115 : Int32)))]))
  rcases Decidable.em ((okV t0 (83 : Int32) (115 : Int32)) = (0 : Int32)) with hc521 | hc521
  · refine W.ifYes w518 od_0_152 (pc' := 243) (by decide) (by decide) ((if0 _ _).trans (teq hc521).1) ?_
    refine W.iconst w518 od_0_243 (pc' := 244) rfl (z := (0 : Int32)) rfl ?_
    exact J _ _ ((w518.less mN).grow (by decide) (by decide)) (show (0 : Int32) = _ from by rw [if_pos hc521])
  · refine W.ifNo w518 od_0_152 (pc' := 155) rfl ((if0 _ _).trans (feq hc521).1) ?_
    refine W.iload w518 od_0_155 (pc' := 157) rfl rfl ?_
    refine W.bipush w518 od_0_157 (pc' := 159) rfl (z := (78 : Int32)) rfl ?_
    refine W.bipush w518 od_0_159 (pc' := 161) rfl (z := (110 : Int32)) rfl ?_
    refine W.callS w518 (ow_5 hw) (ow_6 hw) (ow_2 hw) (ow_7 hw) (by decide) opd_8 (Ctr.pay (c_ok hw w518.old) (own_ew hw) (ow_7 hw) (ow_2 hw) (kf := 1) (kl := 14) (by decide) (by decide)) mN od_0_161 (pc' := 164) rfl rfl rfl (rest := []) rfl (Wd := 0) rfl (by decide) (by decide) (by decide) (by decide) fun v524 T522 h523 M525 w526 q527 => ?_
    obtain ⟨rfl, rfl, e528⟩ := q527
    obtain rfl := e528.symm
    show Go Z _ _ _ κ _ (T522.setTop (mkF (km κ) 164 #[.val (.int p0), .val (.long p1), .second, .val (.long p2), .second, .val (.int p3), .val (.int t0), .val (.int t1), .val (.int t2), .val (.int t3), .val (.int t4), .val (.int t5), .val (.int t6), .val (.int t7), .val (.int u0), .val (.int u1), .val (.int u2), .val (.int u3), .unset, .unset, .unset, .unset] [(.int (okV t1 (78 : Int32) (110 : Int32)))]))
    rcases Decidable.em ((okV t1 (78 : Int32) (110 : Int32)) = (0 : Int32)) with hc529 | hc529
    · refine W.ifYes w526 od_0_164 (pc' := 243) (by decide) (by decide) ((if0 _ _).trans (teq hc529).1) ?_
      refine W.iconst w526 od_0_243 (pc' := 244) rfl (z := (0 : Int32)) rfl ?_
      exact J _ _ ((w526.less mN).grow (by decide) (by decide)) (show (0 : Int32) = _ from by rw [if_neg hc521, if_pos hc529])
    · refine W.ifNo w526 od_0_164 (pc' := 167) rfl ((if0 _ _).trans (feq hc529).1) ?_
      refine W.iload w526 od_0_167 (pc' := 169) rfl rfl ?_
      refine W.bipush w526 od_0_169 (pc' := 171) rfl (z := (65 : Int32)) rfl ?_
      refine W.bipush w526 od_0_171 (pc' := 173) rfl (z := (97 : Int32)) rfl ?_
      refine W.callS w526 (ow_5 hw) (ow_6 hw) (ow_2 hw) (ow_7 hw) (by decide) opd_8 (Ctr.pay (c_ok hw w526.old) (own_ew hw) (ow_7 hw) (ow_2 hw) (kf := 1) (kl := 14) (by decide) (by decide)) mN od_0_173 (pc' := 176) rfl rfl rfl (rest := []) rfl (Wd := 0) rfl (by decide) (by decide) (by decide) (by decide) fun v532 T530 h531 M533 w534 q535 => ?_
      obtain ⟨rfl, rfl, e536⟩ := q535
      obtain rfl := e536.symm
      show Go Z _ _ _ κ _ (T530.setTop (mkF (km κ) 176 #[.val (.int p0), .val (.long p1), .second, .val (.long p2), .second, .val (.int p3), .val (.int t0), .val (.int t1), .val (.int t2), .val (.int t3), .val (.int t4), .val (.int t5), .val (.int t6), .val (.int t7), .val (.int u0), .val (.int u1), .val (.int u2), .val (.int u3), .unset, .unset, .unset, .unset] [(.int (okV t2 (65 : Int32) (97 : Int32)))]))
      rcases Decidable.em ((okV t2 (65 : Int32) (97 : Int32)) = (0 : Int32)) with hc537 | hc537
      · refine W.ifYes w534 od_0_176 (pc' := 243) (by decide) (by decide) ((if0 _ _).trans (teq hc537).1) ?_
        refine W.iconst w534 od_0_243 (pc' := 244) rfl (z := (0 : Int32)) rfl ?_
        exact J _ _ ((w534.less mN).grow (by decide) (by decide)) (show (0 : Int32) = _ from by rw [if_neg hc521, if_neg hc529, if_pos hc537])
      · refine W.ifNo w534 od_0_176 (pc' := 179) rfl ((if0 _ _).trans (feq hc537).1) ?_
        refine W.iload w534 od_0_179 (pc' := 181) rfl rfl ?_
        refine W.bipush w534 od_0_181 (pc' := 183) rfl (z := (80 : Int32)) rfl ?_
        refine W.bipush w534 od_0_183 (pc' := 185) rfl (z := (112 : Int32)) rfl ?_
        refine W.callS w534 (ow_5 hw) (ow_6 hw) (ow_2 hw) (ow_7 hw) (by decide) opd_8 (Ctr.pay (c_ok hw w534.old) (own_ew hw) (ow_7 hw) (ow_2 hw) (kf := 1) (kl := 14) (by decide) (by decide)) mN od_0_185 (pc' := 188) rfl rfl rfl (rest := []) rfl (Wd := 0) rfl (by decide) (by decide) (by decide) (by decide) fun v540 T538 h539 M541 w542 q543 => ?_
        obtain ⟨rfl, rfl, e544⟩ := q543
        obtain rfl := e544.symm
        show Go Z _ _ _ κ _ (T538.setTop (mkF (km κ) 188 #[.val (.int p0), .val (.long p1), .second, .val (.long p2), .second, .val (.int p3), .val (.int t0), .val (.int t1), .val (.int t2), .val (.int t3), .val (.int t4), .val (.int t5), .val (.int t6), .val (.int t7), .val (.int u0), .val (.int u1), .val (.int u2), .val (.int u3), .unset, .unset, .unset, .unset] [(.int (okV t3 (80 : Int32) (112 : Int32)))]))
        rcases Decidable.em ((okV t3 (80 : Int32) (112 : Int32)) = (0 : Int32)) with hc545 | hc545
        · refine W.ifYes w542 od_0_188 (pc' := 243) (by decide) (by decide) ((if0 _ _).trans (teq hc545).1) ?_
          refine W.iconst w542 od_0_243 (pc' := 244) rfl (z := (0 : Int32)) rfl ?_
          exact J _ _ ((w542.less mN).grow (by decide) (by decide)) (show (0 : Int32) = _ from by rw [if_neg hc521, if_neg hc529, if_neg hc537, if_pos hc545])
        · refine W.ifNo w542 od_0_188 (pc' := 191) rfl ((if0 _ _).trans (feq hc545).1) ?_
          refine W.iload w542 od_0_191 (pc' := 193) rfl rfl ?_
          refine W.bipush w542 od_0_193 (pc' := 195) rfl (z := (83 : Int32)) rfl ?_
          refine W.bipush w542 od_0_195 (pc' := 197) rfl (z := (115 : Int32)) rfl ?_
          refine W.callS w542 (ow_5 hw) (ow_6 hw) (ow_2 hw) (ow_7 hw) (by decide) opd_8 (Ctr.pay (c_ok hw w542.old) (own_ew hw) (ow_7 hw) (ow_2 hw) (kf := 1) (kl := 14) (by decide) (by decide)) mN od_0_197 (pc' := 200) rfl rfl rfl (rest := []) rfl (Wd := 0) rfl (by decide) (by decide) (by decide) (by decide) fun v548 T546 h547 M549 w550 q551 => ?_
          obtain ⟨rfl, rfl, e552⟩ := q551
          obtain rfl := e552.symm
          show Go Z _ _ _ κ _ (T546.setTop (mkF (km κ) 200 #[.val (.int p0), .val (.long p1), .second, .val (.long p2), .second, .val (.int p3), .val (.int t0), .val (.int t1), .val (.int t2), .val (.int t3), .val (.int t4), .val (.int t5), .val (.int t6), .val (.int t7), .val (.int u0), .val (.int u1), .val (.int u2), .val (.int u3), .unset, .unset, .unset, .unset] [(.int (okV t4 (83 : Int32) (115 : Int32)))]))
          rcases Decidable.em ((okV t4 (83 : Int32) (115 : Int32)) = (0 : Int32)) with hc553 | hc553
          · refine W.ifYes w550 od_0_200 (pc' := 243) (by decide) (by decide) ((if0 _ _).trans (teq hc553).1) ?_
            refine W.iconst w550 od_0_243 (pc' := 244) rfl (z := (0 : Int32)) rfl ?_
            exact J _ _ ((w550.less mN).grow (by decide) (by decide)) (show (0 : Int32) = _ from by rw [if_neg hc521, if_neg hc529, if_neg hc537, if_neg hc545, if_pos hc553])
          · refine W.ifNo w550 od_0_200 (pc' := 203) rfl ((if0 _ _).trans (feq hc553).1) ?_
            refine W.iload w550 od_0_203 (pc' := 205) rfl rfl ?_
            refine W.bipush w550 od_0_205 (pc' := 207) rfl (z := (72 : Int32)) rfl ?_
            refine W.bipush w550 od_0_207 (pc' := 209) rfl (z := (104 : Int32)) rfl ?_
            refine W.callS w550 (ow_5 hw) (ow_6 hw) (ow_2 hw) (ow_7 hw) (by decide) opd_8 (Ctr.pay (c_ok hw w550.old) (own_ew hw) (ow_7 hw) (ow_2 hw) (kf := 1) (kl := 14) (by decide) (by decide)) mN od_0_209 (pc' := 212) rfl rfl rfl (rest := []) rfl (Wd := 0) rfl (by decide) (by decide) (by decide) (by decide) fun v556 T554 h555 M557 w558 q559 => ?_
            obtain ⟨rfl, rfl, e560⟩ := q559
            obtain rfl := e560.symm
            show Go Z _ _ _ κ _ (T554.setTop (mkF (km κ) 212 #[.val (.int p0), .val (.long p1), .second, .val (.long p2), .second, .val (.int p3), .val (.int t0), .val (.int t1), .val (.int t2), .val (.int t3), .val (.int t4), .val (.int t5), .val (.int t6), .val (.int t7), .val (.int u0), .val (.int u1), .val (.int u2), .val (.int u3), .unset, .unset, .unset, .unset] [(.int (okV t5 (72 : Int32) (104 : Int32)))]))
            rcases Decidable.em ((okV t5 (72 : Int32) (104 : Int32)) = (0 : Int32)) with hc561 | hc561
            · refine W.ifYes w558 od_0_212 (pc' := 243) (by decide) (by decide) ((if0 _ _).trans (teq hc561).1) ?_
              refine W.iconst w558 od_0_243 (pc' := 244) rfl (z := (0 : Int32)) rfl ?_
              exact J _ _ ((w558.less mN).grow (by decide) (by decide)) (show (0 : Int32) = _ from by rw [if_neg hc521, if_neg hc529, if_neg hc537, if_neg hc545, if_neg hc553, if_pos hc561])
            · refine W.ifNo w558 od_0_212 (pc' := 215) rfl ((if0 _ _).trans (feq hc561).1) ?_
              refine W.iload w558 od_0_215 (pc' := 217) rfl rfl ?_
              refine W.bipush w558 od_0_217 (pc' := 219) rfl (z := (79 : Int32)) rfl ?_
              refine W.bipush w558 od_0_219 (pc' := 221) rfl (z := (111 : Int32)) rfl ?_
              refine W.callS w558 (ow_5 hw) (ow_6 hw) (ow_2 hw) (ow_7 hw) (by decide) opd_8 (Ctr.pay (c_ok hw w558.old) (own_ew hw) (ow_7 hw) (ow_2 hw) (kf := 1) (kl := 14) (by decide) (by decide)) mN od_0_221 (pc' := 224) rfl rfl rfl (rest := []) rfl (Wd := 0) rfl (by decide) (by decide) (by decide) (by decide) fun v564 T562 h563 M565 w566 q567 => ?_
              obtain ⟨rfl, rfl, e568⟩ := q567
              obtain rfl := e568.symm
              show Go Z _ _ _ κ _ (T562.setTop (mkF (km κ) 224 #[.val (.int p0), .val (.long p1), .second, .val (.long p2), .second, .val (.int p3), .val (.int t0), .val (.int t1), .val (.int t2), .val (.int t3), .val (.int t4), .val (.int t5), .val (.int t6), .val (.int t7), .val (.int u0), .val (.int u1), .val (.int u2), .val (.int u3), .unset, .unset, .unset, .unset] [(.int (okV t6 (79 : Int32) (111 : Int32)))]))
              rcases Decidable.em ((okV t6 (79 : Int32) (111 : Int32)) = (0 : Int32)) with hc569 | hc569
              · refine W.ifYes w566 od_0_224 (pc' := 243) (by decide) (by decide) ((if0 _ _).trans (teq hc569).1) ?_
                refine W.iconst w566 od_0_243 (pc' := 244) rfl (z := (0 : Int32)) rfl ?_
                exact J _ _ ((w566.less mN).grow (by decide) (by decide)) (show (0 : Int32) = _ from by rw [if_neg hc521, if_neg hc529, if_neg hc537, if_neg hc545, if_neg hc553, if_neg hc561, if_pos hc569])
              · refine W.ifNo w566 od_0_224 (pc' := 227) rfl ((if0 _ _).trans (feq hc569).1) ?_
                refine W.iload w566 od_0_227 (pc' := 229) rfl rfl ?_
                refine W.bipush w566 od_0_229 (pc' := 231) rfl (z := (84 : Int32)) rfl ?_
                refine W.bipush w566 od_0_231 (pc' := 233) rfl (z := (116 : Int32)) rfl ?_
                refine W.callS w566 (ow_5 hw) (ow_6 hw) (ow_2 hw) (ow_7 hw) (by decide) opd_8 (Ctr.pay (c_ok hw w566.old) (own_ew hw) (ow_7 hw) (ow_2 hw) (kf := 1) (kl := 14) (by decide) (by decide)) mN od_0_233 (pc' := 236) rfl rfl rfl (rest := []) rfl (Wd := 0) rfl (by decide) (by decide) (by decide) (by decide) fun v572 T570 h571 M573 w574 q575 => ?_
                obtain ⟨rfl, rfl, e576⟩ := q575
                obtain rfl := e576.symm
                show Go Z _ _ _ κ _ (T570.setTop (mkF (km κ) 236 #[.val (.int p0), .val (.long p1), .second, .val (.long p2), .second, .val (.int p3), .val (.int t0), .val (.int t1), .val (.int t2), .val (.int t3), .val (.int t4), .val (.int t5), .val (.int t6), .val (.int t7), .val (.int u0), .val (.int u1), .val (.int u2), .val (.int u3), .unset, .unset, .unset, .unset] [(.int (okV t7 (84 : Int32) (116 : Int32)))]))
                rcases Decidable.em ((okV t7 (84 : Int32) (116 : Int32)) = (0 : Int32)) with hc577 | hc577
                · refine W.ifYes w574 od_0_236 (pc' := 243) (by decide) (by decide) ((if0 _ _).trans (teq hc577).1) ?_
                  refine W.iconst w574 od_0_243 (pc' := 244) rfl (z := (0 : Int32)) rfl ?_
                  exact J _ _ ((w574.less mN).grow (by decide) (by decide)) (show (0 : Int32) = _ from by rw [if_neg hc521, if_neg hc529, if_neg hc537, if_neg hc545, if_neg hc553, if_neg hc561, if_neg hc569, if_pos hc577])
                · refine W.ifNo w574 od_0_236 (pc' := 239) rfl ((if0 _ _).trans (feq hc577).1) ?_
                  refine W.iconst w574 od_0_239 (pc' := 240) rfl (z := (1 : Int32)) rfl ?_
                  refine W.goto w574 od_0_240 (pc' := 244) (by decide) (by decide) ?_
                  exact J _ _ ((w574.less mN).grow (by decide) (by decide)) (show (1 : Int32) = _ from by rw [if_neg hc521, if_neg hc529, if_neg hc537, if_neg hc545, if_neg hc553, if_neg hc561, if_neg hc569, if_neg hc577])
set_option maxRecDepth 65536 in
set_option maxHeartbeats 40000000 in
theorem comes_1 {Post : Tables → Env → Array Value → State → Outcome → State → Prop} (hpost : ∀ tb e args s v u, (limb_1_1.after args s (.returned v) u = true ∧ limb_1_2.after args s (.returned v) u = true ∧ True) → ReturnedEndW s (.returned v) u (Jvm.fieldLocs frame_1_writes args s ++ Jvm.arrayLocs frame_1_arrays args s ++ Jvm.staticLocs frame_1_statics s) 24 2176 → Post tb e args s (.returned v) u) :
    ArmFor flags0 classFile x code maxLocals ret World_1 tables_1 room_1 Calls_1 rest_1 Pre_1 Post := by
  intro l hfl _ _ p e ha hc hk s m args below hf hA hF happ hP
  obtain ⟨hcalls, hrest, hpre⟩ := hP
  obtain ⟨-, -, -, hnamed, -, -, -, hat⟩ := (Spec.applies_iff hf).mp happ
  obtain ⟨hg, hn⟩ := and_e (Cond.before_iff.mp (show (Jvm.Cond.and given_1 narrow_1).before args s = true from hpre))
  obtain ⟨hcnt, hg0⟩ := and_e hg
  obtain ⟨hv0, hg1⟩ := and_e hg0
  obtain ⟨hv1, hg2⟩ := and_e hg1
  obtain ⟨hv2, hg3⟩ := and_e hg2
  obtain ⟨w0, w1, w2, w3, rfl⟩ : ∃ w0 w1 w2 w3 : Value, args = #[w0, w1, w2, w3] := by
    have hs : args.size = 4 := by simpa [Cond.value, given_1] using hcnt
    obtain ⟨L⟩ := args
    match L, hs with
    | [w0, w1, w2, w3], _ => exact ⟨w0, w1, w2, w3, rfl⟩
  have hw0 := fun d (hd : d ∈ tables_1) => atoms_spec (ws := Jvm.Cond.code x code maxLocals ret :: tables_1) hat d (List.mem_cons_of_mem _ hd)
  have hw1 := atoms_spec (ws := Jvm.Cond.code x code maxLocals ret :: tables_1) hat _ (List.mem_cons_self ..)
  have hfit : Fit s := fun {y c} hc i hi => by
    obtain ⟨ha, rfl⟩ := Array.getElem?_eq_some_iff.mp hc
    have q := List.all_eq_true.mp ((Array.all_eq_true_iff_forall_mem.mp hF) _ (Array.getElem_mem ha)) i (List.mem_range.mpr hi)
    simpa [Array.getElem?_eq_getElem hi] using q
  obtain ⟨hsets, hown0⟩ := atoms_of _ (rest_1_c_eq ▸ (show rest_1_c.before _ s = true from hrest))
  have hr0 := Cond.before_iff.mp hown0
  obtain ⟨i0, ei0⟩ := is_v hv0
  obtain rfl : w0 = (.int i0) := Option.some.inj ei0
  obtain ⟨i1, ei1⟩ := isL_v hv1
  obtain rfl : w1 = (.long i1) := Option.some.inj ei1
  obtain ⟨i2, ei2⟩ := isL_v hv2
  obtain rfl : w2 = (.long i2) := Option.some.inj ei2
  obtain ⟨i3, ei3⟩ := is_v hg3
  obtain rfl : w3 = (.int i3) := Option.some.inj ei3
  have cst : Cst s := by
    obtain ⟨z, ez⟩ := is_v (Cond.before_iff.mp (hsets _ (List.mem_of_getElem? (i := 1) rfl)))
    obtain ⟨f, ef, rf⟩ := isR_v (Cond.before_iff.mp (hsets _ (List.mem_of_getElem? (i := 8) rfl)))
    exact ⟨⟨z, Sta.start ez (Or.inl (hsets _ (List.mem_of_getElem? (i := 0) rfl))), gotF (Cond.eq_ints ez (Term.int_eval (0))) (not_v (Cond.before_iff.mp (hsets _ (List.mem_of_getElem? (i := 2) rfl))))⟩, f, Sta.start ef (Or.inl (hsets _ (List.mem_of_getElem? (i := 7) rfl))), rf⟩
  have xs0 : XS0 s := trivial
  have hw : HW s _ := ⟨hw0, cst, xs0⟩
  have hch : CHv s EL0 s.vm s.heap := CHv.start (own_ew hw) (fun p hp => hcalls.1 p hp) (by have q := (hsets _ (List.mem_of_getElem? (i := 2) rfl)); exact q) (ow_28 hw) (own_wS hw)
  obtain ⟨a1, a2, a3, a4, a5, a6, a7, -⟩ := (Spec.appliesLoose_iff hf).mp ((Spec.applies_iff_loose hf).mp happ).1
  obtain ⟨n, o, h1, h2, h3, v, L, M', rfl, hq, N, -, -, -, hE⟩ := c_law (l := l) hw (h0 := s.heap) (p0 := i0) (p1 := i1) (p2 := i2) (p3 := i3) (Old.start s) p e ha hc hk s m _ below hf ((Spec.appliesLoose_iff hf).mpr ⟨a1, a2, a3, a4, a5, a6, a7, by show (Cond.and _ .tt).before _ s = true; rw [Cond.before_and, hw1]; rfl⟩) ⟨rfl, State.Warmed39.refl s, rfl, hch, fun x hx => nomatch hx⟩ trivial
  subst hq
  obtain ⟨e1, e2, e2', e3⟩ := hE.1
  refine ⟨n, _, h1, h2, h3, hpost _ _ _ _ _ _ ⟨Cond.after_iff.mpr rfl, Cond.after_iff.mpr (eq_i res_at (Term.int_eval (1)) rfl), trivial⟩ ⟨e1, e2, e2', (e3.sift fun y hy => Or.inr (N y hy)).mono (by decide) (by decide)⟩⟩
theorem main_1_1 : Claimed_1_1 := comes_1 fun _ _ _ _ _ _ h hF => ⟨h.1, hF⟩
theorem main_1_2 : Claimed_1_2 := comes_1 fun _ _ _ _ _ _ h hF => ⟨h.2.1, hF⟩
end Jvm.Pilot.@@N@@
namespace Jvm.Pilot.@@N@@
open Jvm Jvm.ClassFile Sem Op Lib Jvm.Free Jvm.Stand Jvm.Pilot.@@N@@.Jvm.D
/-! MADE BY PROGRAM (witnessworld.py) out of the Statement's table words and the real class files: 23 classes; the members and pool entries that the words name. The judged class is class 1, her method 3. -/
namespace start1
open Jvm.ClassFile
def u (s : String) : CpInfo := .utf8 (stringToUtf16 s)
/-- a pool by its gaps: so many unusable entries, then the entry; so many at the end -/
def gap : Nat → List CpInfo → List CpInfo
  | 0, r => r
  | n + 1, r => .unusable :: gap n r
def poolList (es : List (Nat × CpInfo)) (last : Nat) : List CpInfo := es.foldr (fun e r => gap e.1 (e.2 :: r)) (gap last [])
def pool (es : List (Nat × CpInfo)) (last : Nat) : Array CpInfo := ⟨poolList es last⟩
def fileOf (pool : Array CpInfo) (this : Nat) (attrs : Array Attribute := #[]) (ms : Array MethodInfo := #[]) (fl : Nat := 33) (sup : Nat := 0) (ifs : Array Nat := #[]) (fds : Array FieldInfo := #[]) : ClassFile where
  minorVersion := 0
  majorVersion := 65
  constantPool := pool
  accessFlags := fl
  thisClass := this
  superClass := sup
  interfaces := ifs
  fields := fds
  methods := ms
  attributes := attrs
def plain (name : String) (sup : Option ClassId) : Class where
  name := name
  kind := .ordinary
  loader := none
  accessFlags := 33
  super := sup
  interfaces := #[]
  cf := none
  fields := #[]
  methods := #[]
  instanceTypes := #[]
  staticTypes := #[]
  resolved := #[]
  callSites := []
  init := .initialized
  statics := none
  mirror := none

def pool0 : Array CpInfo := pool [(5, u "<init>"), (0, u "()V"), (1, .class_ 10), (1, u "java/lang/Object")] 113

def k0c0 : Code := { maxStack := 0, maxLocals := 1, code := object_method_1_code, exceptionTable := #[], attributes := #[] }
def k0m0 : Method := { name := "<init>", desc := "()V", sig := { parameters := [], returnType := none }, accessFlags := 1, code := some k0c0 }
/-- java/lang/Object -/
def k0 : Class := { plain "java/lang/Object" none with
  accessFlags := 33
  interfaces := #[]
  cf := some (fileOf pool0 8 #[] #[{ accessFlags := 1, nameIndex := 5, descriptorIndex := 6, attributes := #[] }] 33 0 #[] #[])
  fields := #[]
  methods := #[k0m0]
  instanceTypes := #[]
  staticTypes := #[]
  resolved := Array.replicate 124 none
  statics := none }

def pool1 : Array CpInfo := pool [(2, .class_ 4), (1, u "java/lang/Object"), (0, u "<init>"), (0, u "()V"), (0, .long 255), (1, .methodref 10 11), (0, .class_ 12), (0, .nameAndType 13 14), (0, u "com/example/sedgeholt/sedgeholt/layout/VersionFileIsSnapshotPinLaw"), (0, u "pick"), (0, u "(IIJCC)C"), (0, .methodref 10 16), (0, .nameAndType 17 18), (0, u "ok"), (0, u "(CCC)Z"), (0, .integer 2147483647), (0, .class_ 21), (0, u "java/lang/String"), (0, .methodref 20 23), (0, .nameAndType 5 24), (0, u "([C)V"), (0, .string 26), (0, u ""), (0, .methodref 28 29), (0, .class_ 30), (0, .nameAndType 31 32), (0, u "com/example/sedgeholt/sedgeholt/layout/VersionFile"), (0, u "isSnapshot"), (0, u "(Ljava/lang/String;)Z"), (3, u "law"), (0, u "(IJJI)Z")] 2

def k1m0 : Method := { name := "<init>", desc := "()V", sig := { parameters := [], returnType := none }, accessFlags := 2, code := none }
def k1c1 : Code := { maxStack := 4, maxLocals := 7, code := method_2_code, exceptionTable := #[], attributes := #[] }
def k1m1 : Method := { name := "pick", desc := "(IIJCC)C", sig := { parameters := [.int, .int, .long, .char, .char], returnType := some .char }, accessFlags := 10, code := some k1c1 }
def k1c2 : Code := { maxStack := 2, maxLocals := 3, code := method_3_code, exceptionTable := #[], attributes := #[] }
def k1m2 : Method := { name := "ok", desc := "(CCC)Z", sig := { parameters := [.char, .char, .char], returnType := some .boolean }, accessFlags := 10, code := some k1c2 }
def k1c3 : Code := { maxStack := 6, maxLocals := 22, code := code, exceptionTable := #[], attributes := #[] }
def k1m3 : Method := { name := "law", desc := "(IJJI)Z", sig := { parameters := [.int, .long, .long, .int], returnType := some .boolean }, accessFlags := 9, code := some k1c3 }
/-- com/example/sedgeholt/sedgeholt/layout/VersionFileIsSnapshotPinLaw -/
def k1 : Class := { plain "com/example/sedgeholt/sedgeholt/layout/VersionFileIsSnapshotPinLaw" (some 0) with
  accessFlags := 49
  interfaces := #[]
  cf := some (fileOf pool1 10 #[] #[{ accessFlags := 2, nameIndex := 5, descriptorIndex := 6, attributes := #[] }, { accessFlags := 10, nameIndex := 13, descriptorIndex := 14, attributes := #[] }, { accessFlags := 10, nameIndex := 17, descriptorIndex := 18, attributes := #[] }, { accessFlags := 9, nameIndex := 36, descriptorIndex := 37, attributes := #[] }] 49 2 #[] #[])
  fields := #[]
  methods := #[k1m0, k1m1, k1m2, k1m3]
  instanceTypes := #[]
  staticTypes := #[]
  resolved := Array.replicate 40 none
  statics := none }

def pool2 : Array CpInfo := pool [(1, .class_ 2), (0, u "java/io/Serializable"), (0, .class_ 4), (0, u "java/lang/Object")] 2

/-- java/io/Serializable -/
def k2 : Class := { plain "java/io/Serializable" (some 0) with
  accessFlags := 1537
  interfaces := #[]
  cf := some (fileOf pool2 1 #[] #[] 1537 3 #[] #[])
  fields := #[]
  methods := #[]
  instanceTypes := #[]
  staticTypes := #[]
  resolved := Array.replicate 7 none
  statics := none }

def pool3 : Array CpInfo := pool [(1, .class_ 2), (0, u "java/lang/Comparable"), (0, .class_ 4), (0, u "java/lang/Object")] 7

/-- java/lang/Comparable -/
def k3 : Class := { plain "java/lang/Comparable" (some 0) with
  accessFlags := 1537
  interfaces := #[]
  cf := some (fileOf pool3 1 #[] #[] 1537 3 #[] #[])
  fields := #[]
  methods := #[]
  instanceTypes := #[]
  staticTypes := #[]
  resolved := Array.replicate 12 none
  statics := none }

def pool4 : Array CpInfo := pool [(2, .class_ 4), (1, u "java/lang/CharSequence"), (42, .class_ 48), (0, u "java/lang/CharSequence$1CodePointIterator"), (10, .class_ 60), (0, u "java/lang/CharSequence$1CharIterator"), (5, .class_ 67), (0, u "java/lang/Object")] 63

/-- java/lang/CharSequence -/
def k4 : Class := { plain "java/lang/CharSequence" (some 0) with
  accessFlags := 1537
  interfaces := #[]
  cf := some (fileOf pool4 2 #[.nestMembers #[47, 59]] #[] 1537 66 #[] #[])
  fields := #[]
  methods := #[]
  instanceTypes := #[]
  staticTypes := #[]
  resolved := Array.replicate 131 none
  statics := none }

def pool5 : Array CpInfo := pool [(1, .class_ 2), (0, u "java/lang/constant/Constable"), (0, .class_ 4), (0, u "java/lang/Object")] 6

/-- java/lang/constant/Constable -/
def k5 : Class := { plain "java/lang/constant/Constable" (some 0) with
  accessFlags := 1537
  interfaces := #[]
  cf := some (fileOf pool5 1 #[] #[] 1537 3 #[] #[])
  fields := #[]
  methods := #[]
  instanceTypes := #[]
  staticTypes := #[]
  resolved := Array.replicate 11 none
  statics := none }

def pool6 : Array CpInfo := pool [(1, .class_ 2), (0, u "java/lang/constant/ConstantDesc"), (0, .class_ 4), (0, u "java/lang/Object")] 32

/-- java/lang/constant/ConstantDesc -/
def k6 : Class := { plain "java/lang/constant/ConstantDesc" (some 0) with
  accessFlags := 1537
  interfaces := #[]
  cf := some (fileOf pool6 1 #[] #[] 1537 3 #[] #[])
  fields := #[]
  methods := #[]
  instanceTypes := #[]
  staticTypes := #[]
  resolved := Array.replicate 37 none
  statics := none }

def pool7 : Array CpInfo := pool [(1, .methodref 2 3), (0, .class_ 4), (0, .nameAndType 5 6), (0, u "java/lang/Object"), (0, u "<init>"), (0, u "()V"), (2, .fieldref 10 11), (0, .class_ 12), (0, .nameAndType 13 14), (0, u "java/lang/String"), (0, u "value"), (0, u "[B"), (0, .fieldref 10 16), (0, .nameAndType 17 18), (0, u "coder"), (0, u "B"), (2, u "hash"), (0, u "I"), (2, u "hashIsZero"), (0, u "Z"), (0, .methodref 10 28), (0, .nameAndType 5 29), (0, u "([CIILjava/lang/Void;)V"), (8, .fieldref 10 39), (0, .nameAndType 40 26), (0, u "COMPACT_STRINGS"), (1, .class_ 44), (1, u "java/lang/StringUTF16"), (0, u "compress"), (1, .methodref 42 48), (0, .nameAndType 49 50), (0, u "coderFromArrayLen"), (0, u "([BI)B"), (56, .class_ 109), (1, u "java/lang/StringLatin1"), (67, .methodref 42 178), (0, .nameAndType 45 179), (0, u "([CII)[B"), (154, u "()I"), (0, .methodref 10 336), (0, .nameAndType 17 337), (0, u "()B"), (167, .methodref 10 506), (0, .nameAndType 507 334), (0, u "length"), (67, .class_ 576), (0, u "java/lang/CharSequence"), (7, u "regionMatches"), (0, u "(ZILjava/lang/String;II)Z"), (13, u "CASE_INSENSITIVE_ORDER"), (0, u "Ljava/util/Comparator;"), (12, .methodref 107 614), (0, .nameAndType 615 616), (0, u "regionMatchesCI"), (0, u "([BI[BII)Z"), (393, u "([C)V"), (90, u "serialPersistentFields"), (0, u "[Ljava/io/ObjectStreamField;"), (0, .class_ 1104), (0, u "java/lang/String$CaseInsensitiveComparator"), (1, .class_ 1107), (0, u "java/io/Serializable"), (0, .class_ 1109), (0, u "java/lang/Comparable"), (0, .class_ 1111), (0, u "java/lang/constant/Constable"), (0, .class_ 1113), (0, u "java/lang/constant/ConstantDesc"), (2, u "serialVersionUID"), (0, u "J"), (3, u "REPL"), (0, u "C"), (2, u "LATIN1"), (1, u "UTF16")] 323

def k7m0 : Method := { name := "<init>", desc := "()V", sig := { parameters := [], returnType := none }, accessFlags := 1, code := none }
def k7c1 : Code := { maxStack := 5, maxLocals := 2, code := jdk_42_method_3_code, exceptionTable := #[], attributes := #[] }
def k7m1 : Method := { name := "<init>", desc := "([C)V", sig := { parameters := [(.array .char)], returnType := none }, accessFlags := 1, code := some k7c1 }
def k7c2 : Code := { maxStack := 2, maxLocals := 1, code := jdk_42_method_54_code, exceptionTable := #[], attributes := #[] }
def k7m2 : Method := { name := "length", desc := "()I", sig := { parameters := [], returnType := some .int }, accessFlags := 1, code := some k7c2 }
def k7c3 : Code := { maxStack := 6, maxLocals := 9, code := jdk_42_method_74_code, exceptionTable := #[], attributes := #[] }
def k7m3 : Method := { name := "regionMatches", desc := "(ZILjava/lang/String;II)Z", sig := { parameters := [.boolean, .int, (.object "java/lang/String"), .int, .int], returnType := some .boolean }, accessFlags := 1, code := some k7c3 }
def k7c4 : Code := { maxStack := 4, maxLocals := 6, code := jdk_42_method_149_code, exceptionTable := #[], attributes := #[] }
def k7m4 : Method := { name := "<init>", desc := "([CIILjava/lang/Void;)V", sig := { parameters := [(.array .char), .int, .int, (.object "java/lang/Void")], returnType := none }, accessFlags := 2, code := some k7c4 }
def k7c5 : Code := { maxStack := 1, maxLocals := 1, code := jdk_42_method_152_code, exceptionTable := #[], attributes := #[] }
def k7m5 : Method := { name := "coder", desc := "()B", sig := { parameters := [], returnType := some .byte }, accessFlags := 0, code := some k7c5 }
/-- java/lang/String -/
def k7 : Class := { plain "java/lang/String" (some 0) with
  accessFlags := 49
  interfaces := #[2, 3, 4, 5, 6]
  cf := some (fileOf pool7 10 #[.nestMembers #[1103]] #[{ accessFlags := 1, nameIndex := 5, descriptorIndex := 6, attributes := #[] }, { accessFlags := 1, nameIndex := 5, descriptorIndex := 1010, attributes := #[] }, { accessFlags := 1, nameIndex := 507, descriptorIndex := 334, attributes := #[] }, { accessFlags := 1, nameIndex := 584, descriptorIndex := 585, attributes := #[] }, { accessFlags := 2, nameIndex := 5, descriptorIndex := 29, attributes := #[] }, { accessFlags := 0, nameIndex := 17, descriptorIndex := 337, attributes := #[] }] 49 2 #[1106, 1108, 575, 1110, 1112] #[{ accessFlags := 18, nameIndex := 13, descriptorIndex := 14, attributes := #[] }, { accessFlags := 18, nameIndex := 17, descriptorIndex := 18, attributes := #[] }, { accessFlags := 2, nameIndex := 21, descriptorIndex := 22, attributes := #[] }, { accessFlags := 2, nameIndex := 25, descriptorIndex := 26, attributes := #[] }, { accessFlags := 26, nameIndex := 1116, descriptorIndex := 1117, attributes := #[] }, { accessFlags := 24, nameIndex := 40, descriptorIndex := 26, attributes := #[] }, { accessFlags := 26, nameIndex := 1101, descriptorIndex := 1102, attributes := #[] }, { accessFlags := 26, nameIndex := 1121, descriptorIndex := 1122, attributes := #[] }, { accessFlags := 25, nameIndex := 599, descriptorIndex := 600, attributes := #[] }, { accessFlags := 24, nameIndex := 1125, descriptorIndex := 18, attributes := #[] }, { accessFlags := 24, nameIndex := 1127, descriptorIndex := 18, attributes := #[] }])
  fields := #[{ name := "value", type := (.array .byte), accessFlags := 18, slot := 0, constantValue := 0 }, { name := "coder", type := .byte, accessFlags := 18, slot := 1, constantValue := 0 }, { name := "hash", type := .int, accessFlags := 2, slot := 2, constantValue := 0 }, { name := "hashIsZero", type := .boolean, accessFlags := 2, slot := 3, constantValue := 0 }, { name := "serialVersionUID", type := .long, accessFlags := 26, slot := 0, constantValue := 0 }, { name := "COMPACT_STRINGS", type := .boolean, accessFlags := 24, slot := 1, constantValue := 0 }, { name := "serialPersistentFields", type := (.array (.object "java/io/ObjectStreamField")), accessFlags := 26, slot := 2, constantValue := 0 }, { name := "REPL", type := .char, accessFlags := 26, slot := 3, constantValue := 0 }, { name := "CASE_INSENSITIVE_ORDER", type := (.object "java/util/Comparator"), accessFlags := 25, slot := 4, constantValue := 0 }, { name := "LATIN1", type := .byte, accessFlags := 24, slot := 5, constantValue := 0 }, { name := "UTF16", type := .byte, accessFlags := 24, slot := 6, constantValue := 0 }]
  methods := #[k7m0, k7m1, k7m2, k7m3, k7m4, k7m5]
  instanceTypes := #[(.array .byte), .byte, .int, .boolean]
  staticTypes := #[.long, .boolean, (.array (.object "java/io/ObjectStreamField")), .char, (.object "java/util/Comparator"), .byte, .byte]
  resolved := Array.replicate 1451 none
  statics := some 0 }

def pool8 : Array CpInfo := pool [(6, .class_ 8), (1, u "java/lang/Object"), (0, u "<init>"), (0, u "()V"), (1, .class_ 14), (1, u "java/lang/StringUTF16"), (31, u "$assertionsDisabled"), (0, u "Z"), (13, u "HI_BYTE_SHIFT"), (0, u "I"), (2, u "LO_BYTE_SHIFT"), (49, .methodref 12 116), (0, .nameAndType 117 118), (0, u "compress"), (0, u "([CI[BII)I"), (3, u "([CII)[B"), (138, u "coderFromArrayLen"), (0, u "([BI)B"), (106, .class_ 371), (1, u "java/lang/StringUTF16$LinesSpliterator"), (58, u "MAX_LENGTH"), (196, .class_ 628), (0, u "java/lang/StringUTF16$CodePointsSpliterator"), (0, .class_ 630), (0, u "java/lang/StringUTF16$CharsSpliterator")] 4

def k8m0 : Method := { name := "<init>", desc := "()V", sig := { parameters := [], returnType := none }, accessFlags := 0, code := none }
def k8c1 : Code := { maxStack := 2, maxLocals := 2, code := jdk_52_method_15_code, exceptionTable := #[], attributes := #[] }
def k8m1 : Method := { name := "coderFromArrayLen", desc := "([BI)B", sig := { parameters := [(.array .byte), .int], returnType := some .byte }, accessFlags := 8, code := some k8c1 }
def k8c2 : Code := { maxStack := 5, maxLocals := 6, code := jdk_52_method_16_code, exceptionTable := #[], attributes := #[] }
def k8m2 : Method := { name := "compress", desc := "([CII)[B", sig := { parameters := [(.array .char), .int, .int], returnType := some (.array .byte) }, accessFlags := 9, code := some k8c2 }
def k8c3 : Code := { maxStack := 3, maxLocals := 7, code := jdk_52_method_21_code, exceptionTable := #[], attributes := #[] }
def k8m3 : Method := { name := "compress", desc := "([CI[BII)I", sig := { parameters := [(.array .char), .int, (.array .byte), .int, .int], returnType := some .int }, accessFlags := 9, code := some k8c3 }
/-- java/lang/StringUTF16 -/
def k8 : Class := { plain "java/lang/StringUTF16" (some 0) with
  accessFlags := 48
  interfaces := #[]
  cf := some (fileOf pool8 12 #[.nestMembers #[627, 629, 369]] #[{ accessFlags := 0, nameIndex := 9, descriptorIndex := 10, attributes := #[] }, { accessFlags := 8, nameIndex := 261, descriptorIndex := 262, attributes := #[] }, { accessFlags := 9, nameIndex := 117, descriptorIndex := 122, attributes := #[] }, { accessFlags := 9, nameIndex := 117, descriptorIndex := 118, attributes := #[] }] 48 6 #[] #[{ accessFlags := 26, nameIndex := 61, descriptorIndex := 62, attributes := #[] }, { accessFlags := 26, nameIndex := 65, descriptorIndex := 62, attributes := #[] }, { accessFlags := 24, nameIndex := 430, descriptorIndex := 62, attributes := #[] }, { accessFlags := 4120, nameIndex := 46, descriptorIndex := 47, attributes := #[] }])
  fields := #[{ name := "HI_BYTE_SHIFT", type := .int, accessFlags := 26, slot := 0, constantValue := 0 }, { name := "LO_BYTE_SHIFT", type := .int, accessFlags := 26, slot := 1, constantValue := 0 }, { name := "MAX_LENGTH", type := .int, accessFlags := 24, slot := 2, constantValue := 0 }, { name := "$assertionsDisabled", type := .boolean, accessFlags := 4120, slot := 3, constantValue := 0 }]
  methods := #[k8m0, k8m1, k8m2, k8m3]
  instanceTypes := #[]
  staticTypes := #[.int, .int, .int, .boolean]
  resolved := Array.replicate 635 none
  statics := none }

def pool9 : Array CpInfo := pool [(2, .class_ 4), (1, u "java/lang/Object"), (0, u "<init>"), (0, u "()V"), (0, .class_ 8), (0, u "java/lang/Record")] 13

def k9m0 : Method := { name := "<init>", desc := "()V", sig := { parameters := [], returnType := none }, accessFlags := 4, code := none }
/-- java/lang/Record -/
def k9 : Class := { plain "java/lang/Record" (some 0) with
  accessFlags := 1057
  interfaces := #[]
  cf := some (fileOf pool9 7 #[] #[{ accessFlags := 4, nameIndex := 5, descriptorIndex := 6, attributes := #[] }] 1057 2 #[] #[])
  fields := #[]
  methods := #[k9m0]
  instanceTypes := #[]
  staticTypes := #[]
  resolved := Array.replicate 22 none
  statics := none }

def pool10 : Array CpInfo := pool [(2, .class_ 4), (1, u "java/lang/Record"), (3, .class_ 10), (1, u "com/example/sedgeholt/sedgeholt/layout/VersionFile"), (0, u "artifactId"), (0, u "Ljava/lang/String;"), (2, u "version"), (2, u "build"), (0, u "Ljava/util/Optional;"), (2, u "classifier"), (2, u "extension"), (0, .methodref 27 28), (0, .class_ 29), (0, .nameAndType 30 31), (0, u "java/lang/String"), (0, u "length"), (0, u "()I"), (0, .string 33), (0, u "SNAPSHOT"), (0, .methodref 27 35), (0, .nameAndType 36 37), (0, u "regionMatches"), (0, u "(ZILjava/lang/String;II)Z"), (7, u "(Ljava/lang/String;)Z"), (2, u "REST"), (0, u "Ljava/util/regex/Pattern;"), (16, u "isSnapshot"), (6, u "BUILD_REST"), (83, .class_ 159), (1, u "com/example/sedgeholt/sedgeholt/layout/VersionFile$Build")] 155

def k10c0 : Code := { maxStack := 6, maxLocals := 1, code := prog_9_method_2_code, exceptionTable := #[], attributes := #[] }
def k10m0 : Method := { name := "isSnapshot", desc := "(Ljava/lang/String;)Z", sig := { parameters := [(.object "java/lang/String")], returnType := some .boolean }, accessFlags := 9, code := some k10c0 }
/-- com/example/sedgeholt/sedgeholt/layout/VersionFile -/
def k10 : Class := { plain "com/example/sedgeholt/sedgeholt/layout/VersionFile" (some 9) with
  accessFlags := 49
  interfaces := #[]
  cf := some (fileOf pool10 8 #[.nestMembers #[157]] #[{ accessFlags := 9, nameIndex := 66, descriptorIndex := 45, attributes := #[] }] 49 2 #[] #[{ accessFlags := 18, nameIndex := 11, descriptorIndex := 12, attributes := #[] }, { accessFlags := 18, nameIndex := 15, descriptorIndex := 12, attributes := #[] }, { accessFlags := 18, nameIndex := 18, descriptorIndex := 19, attributes := #[] }, { accessFlags := 18, nameIndex := 22, descriptorIndex := 12, attributes := #[] }, { accessFlags := 18, nameIndex := 25, descriptorIndex := 12, attributes := #[] }, { accessFlags := 25, nameIndex := 33, descriptorIndex := 12, attributes := #[] }, { accessFlags := 26, nameIndex := 48, descriptorIndex := 49, attributes := #[] }, { accessFlags := 26, nameIndex := 73, descriptorIndex := 49, attributes := #[] }])
  fields := #[{ name := "artifactId", type := (.object "java/lang/String"), accessFlags := 18, slot := 0, constantValue := 0 }, { name := "version", type := (.object "java/lang/String"), accessFlags := 18, slot := 1, constantValue := 0 }, { name := "build", type := (.object "java/util/Optional"), accessFlags := 18, slot := 2, constantValue := 0 }, { name := "classifier", type := (.object "java/lang/String"), accessFlags := 18, slot := 3, constantValue := 0 }, { name := "extension", type := (.object "java/lang/String"), accessFlags := 18, slot := 4, constantValue := 0 }, { name := "SNAPSHOT", type := (.object "java/lang/String"), accessFlags := 25, slot := 0, constantValue := 0 }, { name := "REST", type := (.object "java/util/regex/Pattern"), accessFlags := 26, slot := 1, constantValue := 0 }, { name := "BUILD_REST", type := (.object "java/util/regex/Pattern"), accessFlags := 26, slot := 2, constantValue := 0 }]
  methods := #[k10m0]
  instanceTypes := #[(.object "java/lang/String"), (.object "java/lang/String"), (.object "java/util/Optional"), (.object "java/lang/String"), (.object "java/lang/String")]
  staticTypes := #[(.object "java/lang/String"), (.object "java/util/regex/Pattern"), (.object "java/util/regex/Pattern")]
  resolved := Array.replicate 315 none
  statics := none }

def pool11 : Array CpInfo := pool [(4, .class_ 6), (1, u "java/lang/Object"), (0, u "<init>"), (0, u "()V"), (5, .class_ 16), (1, u "java/lang/StringLatin1"), (50, .class_ 69), (1, u "java/lang/CharacterDataLatin1"), (51, u "$assertionsDisabled"), (0, u "Z"), (30, .methodref 67 154), (0, .nameAndType 155 156), (0, u "equalsIgnoreCase"), (0, u "(BB)Z"), (64, .class_ 223), (1, u "java/lang/StringLatin1$LinesSpliterator"), (116, u "regionMatchesCI"), (0, u "([BI[BII)Z"), (48, .class_ 391), (0, u "java/lang/StringLatin1$CharsSpliterator")] 3

def k11m0 : Method := { name := "<init>", desc := "()V", sig := { parameters := [], returnType := none }, accessFlags := 0, code := none }
def k11c1 : Code := { maxStack := 2, maxLocals := 8, code := jdk_43_method_30_code, exceptionTable := #[], attributes := #[] }
def k11m1 : Method := { name := "regionMatchesCI", desc := "([BI[BII)Z", sig := { parameters := [(.array .byte), .int, (.array .byte), .int, .int], returnType := some .boolean }, accessFlags := 9, code := some k11c1 }
/-- java/lang/StringLatin1 -/
def k11 : Class := { plain "java/lang/StringLatin1" (some 0) with
  accessFlags := 48
  interfaces := #[]
  cf := some (fileOf pool11 14 #[.nestMembers #[390, 221]] #[{ accessFlags := 0, nameIndex := 7, descriptorIndex := 8, attributes := #[] }, { accessFlags := 9, nameIndex := 340, descriptorIndex := 341, attributes := #[] }] 48 4 #[] #[{ accessFlags := 4120, nameIndex := 121, descriptorIndex := 122, attributes := #[] }])
  fields := #[{ name := "$assertionsDisabled", type := .boolean, accessFlags := 4120, slot := 0, constantValue := 0 }]
  methods := #[k11m0, k11m1]
  instanceTypes := #[]
  staticTypes := #[.boolean]
  resolved := Array.replicate 395 none
  statics := none }

def pool12 : Array CpInfo := pool [(2, .class_ 4), (1, u "java/lang/Object"), (0, u "<init>"), (0, u "()V"), (1, .class_ 10), (1, u "java/lang/CharacterData")] 75

def k12m0 : Method := { name := "<init>", desc := "()V", sig := { parameters := [], returnType := none }, accessFlags := 0, code := none }
/-- java/lang/CharacterData -/
def k12 : Class := { plain "java/lang/CharacterData" (some 0) with
  accessFlags := 1056
  interfaces := #[]
  cf := some (fileOf pool12 8 #[] #[{ accessFlags := 0, nameIndex := 5, descriptorIndex := 6, attributes := #[] }] 1056 2 #[] #[])
  fields := #[]
  methods := #[k12m0]
  instanceTypes := #[]
  staticTypes := #[]
  resolved := Array.replicate 86 none
  statics := none }

def pool13 : Array CpInfo := pool [(2, .class_ 4), (1, u "java/lang/CharacterDataLatin1"), (0, u "A"), (0, u "[I"), (2, u "B"), (0, u "[C"), (16, u "DIGITS"), (0, u "[B"), (8, u "sharpsMap"), (1, .class_ 41), (1, u "java/lang/CharacterData"), (0, u "<init>"), (0, u "()V"), (3, u "instance"), (0, u "Ljava/lang/CharacterDataLatin1;"), (66, u "equalsIgnoreCase"), (0, u "(BB)Z")] 24

def k13c0 : Code := { maxStack := 3, maxLocals := 3, code := jdk_116_method_22_code, exceptionTable := #[], attributes := #[] }
def k13m0 : Method := { name := "equalsIgnoreCase", desc := "(BB)Z", sig := { parameters := [.byte, .byte], returnType := some .boolean }, accessFlags := 8, code := some k13c0 }
def k13m1 : Method := { name := "<init>", desc := "()V", sig := { parameters := [], returnType := none }, accessFlags := 2, code := none }
/-- java/lang/CharacterDataLatin1 -/
def k13 : Class := { plain "java/lang/CharacterDataLatin1" (some 12) with
  accessFlags := 32
  interfaces := #[]
  cf := some (fileOf pool13 2 #[] #[{ accessFlags := 8, nameIndex := 115, descriptorIndex := 116, attributes := #[] }, { accessFlags := 2, nameIndex := 42, descriptorIndex := 43, attributes := #[] }] 32 39 #[] #[{ accessFlags := 26, nameIndex := 27, descriptorIndex := 28, attributes := #[] }, { accessFlags := 8, nameIndex := 37, descriptorIndex := 10, attributes := #[] }, { accessFlags := 24, nameIndex := 47, descriptorIndex := 48, attributes := #[] }, { accessFlags := 24, nameIndex := 5, descriptorIndex := 6, attributes := #[] }, { accessFlags := 24, nameIndex := 9, descriptorIndex := 10, attributes := #[] }])
  fields := #[{ name := "DIGITS", type := (.array .byte), accessFlags := 26, slot := 0, constantValue := 0 }, { name := "sharpsMap", type := (.array .char), accessFlags := 8, slot := 1, constantValue := 0 }, { name := "instance", type := (.object "java/lang/CharacterDataLatin1"), accessFlags := 24, slot := 2, constantValue := 0 }, { name := "A", type := (.array .int), accessFlags := 24, slot := 3, constantValue := 0 }, { name := "B", type := (.array .char), accessFlags := 24, slot := 4, constantValue := 0 }]
  methods := #[k13m0, k13m1]
  instanceTypes := #[]
  staticTypes := #[(.array .byte), (.array .char), (.object "java/lang/CharacterDataLatin1"), (.array .int), (.array .char)]
  resolved := Array.replicate 141 none
  statics := none }

def pool14 : Array CpInfo := pool [(2, .class_ 4), (1, u "java/lang/Object"), (0, u "<init>"), (0, u "()V"), (17, .class_ 26), (1, u "jdk/internal/util/Preconditions"), (28, .class_ 56), (0, u "jdk/internal/util/Preconditions$4"), (57, .class_ 115), (0, u "jdk/internal/util/Preconditions$1"), (7, u "SIOOBE_FORMATTER"), (0, u "Ljava/util/function/BiFunction;"), (0, .class_ 126), (0, u "jdk/internal/util/Preconditions$2"), (3, u "AIOOBE_FORMATTER"), (0, .class_ 132), (0, u "jdk/internal/util/Preconditions$3"), (3, u "IOOBE_FORMATTER")] 57

def k14m0 : Method := { name := "<init>", desc := "()V", sig := { parameters := [], returnType := none }, accessFlags := 1, code := none }
/-- jdk/internal/util/Preconditions -/
def k14 : Class := { plain "jdk/internal/util/Preconditions" (some 0) with
  accessFlags := 33
  interfaces := #[]
  cf := some (fileOf pool14 24 #[.nestMembers #[55, 131, 125, 114]] #[{ accessFlags := 1, nameIndex := 5, descriptorIndex := 6, attributes := #[] }] 33 2 #[] #[{ accessFlags := 25, nameIndex := 123, descriptorIndex := 124, attributes := #[] }, { accessFlags := 25, nameIndex := 130, descriptorIndex := 124, attributes := #[] }, { accessFlags := 25, nameIndex := 136, descriptorIndex := 124, attributes := #[] }])
  fields := #[{ name := "SIOOBE_FORMATTER", type := (.object "java/util/function/BiFunction"), accessFlags := 25, slot := 0, constantValue := 0 }, { name := "AIOOBE_FORMATTER", type := (.object "java/util/function/BiFunction"), accessFlags := 25, slot := 1, constantValue := 0 }, { name := "IOOBE_FORMATTER", type := (.object "java/util/function/BiFunction"), accessFlags := 25, slot := 2, constantValue := 0 }]
  methods := #[k14m0]
  instanceTypes := #[]
  staticTypes := #[(.object "java/util/function/BiFunction"), (.object "java/util/function/BiFunction"), (.object "java/util/function/BiFunction")]
  resolved := Array.replicate 194 none
  statics := some 1 }

def pool15 : Array CpInfo := pool [(9, u "<init>"), (6, .class_ 18), (1, u "java/lang/Object"), (0, u "()V"), (1, .class_ 23), (1, u "jdk/internal/util/ArraysSupport"), (0, u "LOG2_ARRAY_LONG_INDEX_SCALE"), (0, u "I"), (2, u "U"), (0, u "Ljdk/internal/misc/Unsafe;"), (8, u "BIG_ENDIAN"), (0, u "Z"), (8, u "LOG2_BYTE_BIT_SIZE"), (4, u "LOG2_ARRAY_INT_INDEX_SCALE"), (54, u "JLA"), (0, u "Ljdk/internal/access/JavaLangAccess;"), (11, u "LOG2_ARRAY_BOOLEAN_INDEX_SCALE"), (9, u "LOG2_ARRAY_BYTE_INDEX_SCALE"), (5, u "LOG2_ARRAY_CHAR_INDEX_SCALE"), (5, u "LOG2_ARRAY_SHORT_INDEX_SCALE"), (18, u "LOG2_ARRAY_FLOAT_INDEX_SCALE"), (24, u "LOG2_ARRAY_DOUBLE_INDEX_SCALE"), (89, u "T_BOOLEAN"), (2, u "T_CHAR"), (1, u "T_FLOAT"), (1, u "T_DOUBLE"), (1, u "T_BYTE"), (1, u "T_SHORT"), (1, u "T_INT"), (1, u "T_LONG"), (1, u "SOFT_MAX_ARRAY_LENGTH")] 83

def k15m0 : Method := { name := "<init>", desc := "()V", sig := { parameters := [], returnType := none }, accessFlags := 2, code := none }
/-- jdk/internal/util/ArraysSupport -/
def k15 : Class := { plain "jdk/internal/util/ArraysSupport" (some 0) with
  accessFlags := 33
  interfaces := #[]
  cf := some (fileOf pool15 21 #[] #[{ accessFlags := 2, nameIndex := 9, descriptorIndex := 19, attributes := #[] }] 33 16 #[] #[{ accessFlags := 24, nameIndex := 28, descriptorIndex := 29, attributes := #[] }, { accessFlags := 26, nameIndex := 38, descriptorIndex := 39, attributes := #[] }, { accessFlags := 25, nameIndex := 121, descriptorIndex := 25, attributes := #[] }, { accessFlags := 25, nameIndex := 131, descriptorIndex := 25, attributes := #[] }, { accessFlags := 25, nameIndex := 137, descriptorIndex := 25, attributes := #[] }, { accessFlags := 25, nameIndex := 143, descriptorIndex := 25, attributes := #[] }, { accessFlags := 25, nameIndex := 53, descriptorIndex := 25, attributes := #[] }, { accessFlags := 25, nameIndex := 24, descriptorIndex := 25, attributes := #[] }, { accessFlags := 25, nameIndex := 162, descriptorIndex := 25, attributes := #[] }, { accessFlags := 25, nameIndex := 187, descriptorIndex := 25, attributes := #[] }, { accessFlags := 26, nameIndex := 48, descriptorIndex := 25, attributes := #[] }, { accessFlags := 25, nameIndex := 277, descriptorIndex := 25, attributes := #[] }, { accessFlags := 25, nameIndex := 280, descriptorIndex := 25, attributes := #[] }, { accessFlags := 25, nameIndex := 282, descriptorIndex := 25, attributes := #[] }, { accessFlags := 25, nameIndex := 284, descriptorIndex := 25, attributes := #[] }, { accessFlags := 25, nameIndex := 286, descriptorIndex := 25, attributes := #[] }, { accessFlags := 25, nameIndex := 288, descriptorIndex := 25, attributes := #[] }, { accessFlags := 25, nameIndex := 290, descriptorIndex := 25, attributes := #[] }, { accessFlags := 25, nameIndex := 292, descriptorIndex := 25, attributes := #[] }, { accessFlags := 26, nameIndex := 108, descriptorIndex := 109, attributes := #[] }, { accessFlags := 25, nameIndex := 294, descriptorIndex := 25, attributes := #[] }])
  fields := #[{ name := "U", type := (.object "jdk/internal/misc/Unsafe"), accessFlags := 24, slot := 0, constantValue := 0 }, { name := "BIG_ENDIAN", type := .boolean, accessFlags := 26, slot := 1, constantValue := 0 }, { name := "LOG2_ARRAY_BOOLEAN_INDEX_SCALE", type := .int, accessFlags := 25, slot := 2, constantValue := 0 }, { name := "LOG2_ARRAY_BYTE_INDEX_SCALE", type := .int, accessFlags := 25, slot := 3, constantValue := 0 }, { name := "LOG2_ARRAY_CHAR_INDEX_SCALE", type := .int, accessFlags := 25, slot := 4, constantValue := 0 }, { name := "LOG2_ARRAY_SHORT_INDEX_SCALE", type := .int, accessFlags := 25, slot := 5, constantValue := 0 }, { name := "LOG2_ARRAY_INT_INDEX_SCALE", type := .int, accessFlags := 25, slot := 6, constantValue := 0 }, { name := "LOG2_ARRAY_LONG_INDEX_SCALE", type := .int, accessFlags := 25, slot := 7, constantValue := 0 }, { name := "LOG2_ARRAY_FLOAT_INDEX_SCALE", type := .int, accessFlags := 25, slot := 8, constantValue := 0 }, { name := "LOG2_ARRAY_DOUBLE_INDEX_SCALE", type := .int, accessFlags := 25, slot := 9, constantValue := 0 }, { name := "LOG2_BYTE_BIT_SIZE", type := .int, accessFlags := 26, slot := 10, constantValue := 0 }, { name := "T_BOOLEAN", type := .int, accessFlags := 25, slot := 11, constantValue := 0 }, { name := "T_CHAR", type := .int, accessFlags := 25, slot := 12, constantValue := 0 }, { name := "T_FLOAT", type := .int, accessFlags := 25, slot := 13, constantValue := 0 }, { name := "T_DOUBLE", type := .int, accessFlags := 25, slot := 14, constantValue := 0 }, { name := "T_BYTE", type := .int, accessFlags := 25, slot := 15, constantValue := 0 }, { name := "T_SHORT", type := .int, accessFlags := 25, slot := 16, constantValue := 0 }, { name := "T_INT", type := .int, accessFlags := 25, slot := 17, constantValue := 0 }, { name := "T_LONG", type := .int, accessFlags := 25, slot := 18, constantValue := 0 }, { name := "JLA", type := (.object "jdk/internal/access/JavaLangAccess"), accessFlags := 26, slot := 19, constantValue := 0 }, { name := "SOFT_MAX_ARRAY_LENGTH", type := .int, accessFlags := 25, slot := 20, constantValue := 0 }]
  methods := #[k15m0]
  instanceTypes := #[]
  staticTypes := #[(.object "jdk/internal/misc/Unsafe"), .boolean, .int, .int, .int, .int, .int, .int, .int, .int, .int, .int, .int, .int, .int, .int, .int, .int, .int, (.object "jdk/internal/access/JavaLangAccess"), .int]
  resolved := Array.replicate 378 none
  statics := none }

def pool16 : Array CpInfo := pool [(1, u "java/lang/Cloneable"), (0, .class_ 1), (0, u "java/lang/Object"), (0, .class_ 3)] 3

/-- java/lang/Cloneable -/
def k16 : Class := { plain "java/lang/Cloneable" (some 0) with
  accessFlags := 1537
  interfaces := #[]
  cf := some (fileOf pool16 2 #[] #[] 1537 4 #[] #[])
  fields := #[]
  methods := #[]
  instanceTypes := #[]
  staticTypes := #[]
  resolved := Array.replicate 8 none
  statics := none }

/-- the primitive byte -/
def k17 : Class := { plain "byte" none with kind := .primitive 'B', accessFlags := 0x411 }
/-- [B -/
def k18 : Class := { plain "[B" (some 0) with kind := .array 17 .byte, interfaces := #[16, 2], accessFlags := 1041 }

/-- the primitive char -/
def k19 : Class := { plain "char" none with kind := .primitive 'C', accessFlags := 0x411 }
/-- [C -/
def k20 : Class := { plain "[C" (some 0) with kind := .array 19 .char, interfaces := #[16, 2], accessFlags := 1041 }

/-- the primitive int -/
def k21 : Class := { plain "int" none with kind := .primitive 'I', accessFlags := 0x411 }
/-- [I -/
def k22 : Class := { plain "[I" (some 0) with kind := .array 21 .int, interfaces := #[16, 2], accessFlags := 1041 }

def heap : Heap := #[{ cls := 7, slots := #[.long 0, .int 1, .null, .int 0, .null, .int 0, .int 0], vm := .statics 7 },
  { cls := 14, slots := #[.null, .null, .null], vm := .statics 14 }]
def classes : Array Class := #[k0, k1, k2, k3, k4, k5, k6, k7, k8, k9, k10, k11, k12, k13, k14, k15, k16, k17, k18, k19, k20, k21, k22]
def interned : List (Array UInt16 × Addr) := []
def slotsUsed : Nat := 10
def theMethod : MethodId := ⟨1, 3⟩
def args0 : Array Value := #[.int 0, .long 0, .long 0, .int 2]
def aboutOver (below : List Frame) : State where
  vm := { classes := classes, interned := interned.toArray }
  heap := heap
  slotsUsed := slotsUsed
  threads := #[{ frames := .invoking theMethod args0 :: below }]
def below0 : List Frame := [.native { method := ⟨0, 0⟩, args := #[] }]
def about1 : State := aboutOver below0
def p0 : Program := .bare "" "" ""
def e0 : Env := launch0.env 0 0 0
theorem w_frames : about1.frames = Frame.invoking theMethod args0 :: below0 := rfl
set_option maxRecDepth 65536 in
theorem w_args : argsFit about1.vm theMethod args0 = true := by decide +kernel
set_option maxRecDepth 65536 in
theorem w_heap : heapFits about1 = true := by decide +kernel
set_option maxRecDepth 65536 in
theorem w_runnable : about1.curStatus? = some .runnable := by decide +kernel
set_option maxRecDepth 65536 in
theorem w_alone : about1.alone = true := by decide +kernel
set_option maxRecDepth 65536 in
theorem w_named : about1.methodNamed? x = some theMethod := by decide +kernel
set_option maxRecDepth 65536 in
theorem w_hears : about1.hears theMethod below0 = true := by decide +kernel
set_option maxRecDepth 65536 in
theorem w_ripe : about1.ripe theMethod args0 below0 = true := by decide +kernel
theorem w_running : about1.status = .running := rfl
set_option maxRecDepth 65536 in
theorem w_room : about1.hasRoom e0.platform room_1 = true :=
  launch0.hasRoom_least _ room_1 (by decide +kernel) (by decide +kernel) (by decide +kernel) (by decide +kernel) (by decide +kernel) (by decide +kernel)
theorem allAtoms_all (ts : List Jvm.Cond) (a : Array Jvm.Value) (st : Jvm.State) : (allAtoms ts).before a st = ts.all (fun c => c.before a st) := by
  induction ts with
  | nil => rfl
  | cons c t ih =>
    show (Jvm.Cond.and c (allAtoms t)).before a st = _
    rw [Jvm.Cond.before_and, ih, List.all_cons]
def words1 : List Jvm.Cond := Jvm.Cond.code x code maxLocals ret :: tables_1
/-- a 'code' word, met by the world's own term for the bytes: nothing is compared byte by byte -/
theorem code_word {y : MethodName} {bytes : ByteArray} {mx : Nat} {rt : Option FieldType} {a : Array Value} {s : State} {m : MethodId} {meth : Method} {c : Code} (h1 : s.methodNamed? y = some m) (h2 : s.vm.method? m = some meth) (h3 : meth.code = some c) (h4 : c.code = bytes)
    (h5 : (c.maxLocals == mx && c.exceptionTable.isEmpty && decide (c.maxStack ≤ mostOperands) && decide (meth.sig.returnType = rt) && !meth.locks && decide (parseMethodDescriptor y.desc = some meth.sig)) = true) : (Jvm.Cond.code y bytes mx rt).before a s = true := by
  simp only [Bool.and_eq_true, beq_iff_eq, Bool.not_eq_true', decide_eq_true_eq] at h5
  obtain ⟨⟨⟨⟨⟨g1, g2⟩, g3⟩, g4⟩, g5⟩, g6⟩ := h5
  simp [Cond.before, Cond.holds, Cond.value, h1, h2, h3, h4, g1, g2, g3, g4, g5, g6]
def isCode : Jvm.Cond → Bool
  | .code _ _ _ _ => true
  | _ => false
theorem all_split {L : List Jvm.Cond} {P : Jvm.Cond → Bool} (h1 : L.all (fun c => isCode c || P c) = true) (h2 : ∀ c ∈ L.filter isCode, P c = true) : L.all P = true := by
  refine List.all_eq_true.mpr fun c hc => ?_
  have h := List.all_eq_true.mp h1 c hc
  rcases Bool.eq_false_or_eq_true (isCode c) with hi | hi
  · exact h2 c (List.mem_filter.mpr ⟨hc, hi⟩)
  · simpa [hi] using h
set_option maxRecDepth 65536 in
theorem w_c0 : (Jvm.Cond.code x code maxLocals ret).before args0 about1 = true := code_word (m := ⟨1, 3⟩) (meth := k1m3) (c := k1c3) (by decide +kernel) rfl rfl rfl (by decide +kernel)
set_option maxRecDepth 65536 in
theorem w_c1 : (Jvm.Cond.code ({ cls := "com/example/sedgeholt/sedgeholt/layout/VersionFileIsSnapshotPinLaw", name := "pick", desc := "(IIJCC)C" } : Jvm.MethodName) method_2_code (7 : Nat) (Option.some Jvm.ClassFile.FieldType.char)).before args0 about1 = true := code_word (m := ⟨1, 1⟩) (meth := k1m1) (c := k1c1) (by decide +kernel) rfl rfl rfl (by decide +kernel)
set_option maxRecDepth 65536 in
theorem w_c2 : (Jvm.Cond.code ({ cls := "com/example/sedgeholt/sedgeholt/layout/VersionFileIsSnapshotPinLaw", name := "ok", desc := "(CCC)Z" } : Jvm.MethodName) method_3_code (3 : Nat) (Option.some Jvm.ClassFile.FieldType.boolean)).before args0 about1 = true := code_word (m := ⟨1, 2⟩) (meth := k1m2) (c := k1c2) (by decide +kernel) rfl rfl rfl (by decide +kernel)
set_option maxRecDepth 65536 in
theorem w_c3 : (Jvm.Cond.code ({ cls := "java/lang/String", name := "<init>", desc := "([C)V" } : Jvm.MethodName) jdk_42_method_3_code (2 : Nat) (Option.none : Option Jvm.ClassFile.FieldType)).before args0 about1 = true := code_word (m := ⟨7, 1⟩) (meth := k7m1) (c := k7c1) (by decide +kernel) rfl rfl rfl (by decide +kernel)
set_option maxRecDepth 65536 in
theorem w_c4 : (Jvm.Cond.code ({ cls := "java/lang/String", name := "<init>", desc := "([CIILjava/lang/Void;)V" } : Jvm.MethodName) jdk_42_method_149_code (6 : Nat) (Option.none : Option Jvm.ClassFile.FieldType)).before args0 about1 = true := code_word (m := ⟨7, 4⟩) (meth := k7m4) (c := k7c4) (by decide +kernel) rfl rfl rfl (by decide +kernel)
set_option maxRecDepth 65536 in
theorem w_c5 : (Jvm.Cond.code ({ cls := "java/lang/Object", name := "<init>", desc := "()V" } : Jvm.MethodName) object_method_1_code (1 : Nat) (Option.none : Option Jvm.ClassFile.FieldType)).before args0 about1 = true := code_word (m := ⟨0, 0⟩) (meth := k0m0) (c := k0c0) (by decide +kernel) rfl rfl rfl (by decide +kernel)
set_option maxRecDepth 65536 in
theorem w_c6 : (Jvm.Cond.code ({ cls := "java/lang/StringUTF16", name := "compress", desc := "([CII)[B" } : Jvm.MethodName) jdk_52_method_16_code (6 : Nat) (Option.some (Jvm.ClassFile.FieldType.array Jvm.ClassFile.FieldType.byte))).before args0 about1 = true := code_word (m := ⟨8, 2⟩) (meth := k8m2) (c := k8c2) (by decide +kernel) rfl rfl rfl (by decide +kernel)
set_option maxRecDepth 65536 in
theorem w_c7 : (Jvm.Cond.code ({ cls := "java/lang/StringUTF16", name := "compress", desc := "([CI[BII)I" } : Jvm.MethodName) jdk_52_method_21_code (7 : Nat) (Option.some Jvm.ClassFile.FieldType.int)).before args0 about1 = true := code_word (m := ⟨8, 3⟩) (meth := k8m3) (c := k8c3) (by decide +kernel) rfl rfl rfl (by decide +kernel)
set_option maxRecDepth 65536 in
theorem w_c8 : (Jvm.Cond.code ({ cls := "java/lang/StringUTF16", name := "coderFromArrayLen", desc := "([BI)B" } : Jvm.MethodName) jdk_52_method_15_code (2 : Nat) (Option.some Jvm.ClassFile.FieldType.byte)).before args0 about1 = true := code_word (m := ⟨8, 1⟩) (meth := k8m1) (c := k8c1) (by decide +kernel) rfl rfl rfl (by decide +kernel)
set_option maxRecDepth 65536 in
theorem w_c9 : (Jvm.Cond.code ({ cls := "com/example/sedgeholt/sedgeholt/layout/VersionFile", name := "isSnapshot", desc := "(Ljava/lang/String;)Z" } : Jvm.MethodName) prog_9_method_2_code (1 : Nat) (Option.some Jvm.ClassFile.FieldType.boolean)).before args0 about1 = true := code_word (m := ⟨10, 0⟩) (meth := k10m0) (c := k10c0) (by decide +kernel) rfl rfl rfl (by decide +kernel)
set_option maxRecDepth 65536 in
theorem w_c10 : (Jvm.Cond.code ({ cls := "java/lang/String", name := "length", desc := "()I" } : Jvm.MethodName) jdk_42_method_54_code (1 : Nat) (Option.some Jvm.ClassFile.FieldType.int)).before args0 about1 = true := code_word (m := ⟨7, 2⟩) (meth := k7m2) (c := k7c2) (by decide +kernel) rfl rfl rfl (by decide +kernel)
set_option maxRecDepth 65536 in
theorem w_c11 : (Jvm.Cond.code ({ cls := "java/lang/String", name := "coder", desc := "()B" } : Jvm.MethodName) jdk_42_method_152_code (1 : Nat) (Option.some Jvm.ClassFile.FieldType.byte)).before args0 about1 = true := code_word (m := ⟨7, 5⟩) (meth := k7m5) (c := k7c5) (by decide +kernel) rfl rfl rfl (by decide +kernel)
set_option maxRecDepth 65536 in
theorem w_c12 : (Jvm.Cond.code ({ cls := "java/lang/String", name := "regionMatches", desc := "(ZILjava/lang/String;II)Z" } : Jvm.MethodName) jdk_42_method_74_code (9 : Nat) (Option.some Jvm.ClassFile.FieldType.boolean)).before args0 about1 = true := code_word (m := ⟨7, 3⟩) (meth := k7m3) (c := k7c3) (by decide +kernel) rfl rfl rfl (by decide +kernel)
set_option maxRecDepth 65536 in
theorem w_c13 : (Jvm.Cond.code ({ cls := "java/lang/StringLatin1", name := "regionMatchesCI", desc := "([BI[BII)Z" } : Jvm.MethodName) jdk_43_method_30_code (8 : Nat) (Option.some Jvm.ClassFile.FieldType.boolean)).before args0 about1 = true := code_word (m := ⟨11, 1⟩) (meth := k11m1) (c := k11c1) (by decide +kernel) rfl rfl rfl (by decide +kernel)
set_option maxRecDepth 65536 in
theorem w_c14 : (Jvm.Cond.code ({ cls := "java/lang/CharacterDataLatin1", name := "equalsIgnoreCase", desc := "(BB)Z" } : Jvm.MethodName) jdk_116_method_22_code (3 : Nat) (Option.some Jvm.ClassFile.FieldType.boolean)).before args0 about1 = true := code_word (m := ⟨13, 0⟩) (meth := k13m0) (c := k13c0) (by decide +kernel) rfl rfl rfl (by decide +kernel)
def codes1 : List Jvm.Cond := [Jvm.Cond.code x code maxLocals ret, Jvm.Cond.code ({ cls := "com/example/sedgeholt/sedgeholt/layout/VersionFileIsSnapshotPinLaw", name := "pick", desc := "(IIJCC)C" } : Jvm.MethodName) method_2_code (7 : Nat) (Option.some Jvm.ClassFile.FieldType.char), Jvm.Cond.code ({ cls := "com/example/sedgeholt/sedgeholt/layout/VersionFileIsSnapshotPinLaw", name := "ok", desc := "(CCC)Z" } : Jvm.MethodName) method_3_code (3 : Nat) (Option.some Jvm.ClassFile.FieldType.boolean), Jvm.Cond.code ({ cls := "java/lang/String", name := "<init>", desc := "([C)V" } : Jvm.MethodName) jdk_42_method_3_code (2 : Nat) (Option.none : Option Jvm.ClassFile.FieldType), Jvm.Cond.code ({ cls := "java/lang/String", name := "<init>", desc := "([CIILjava/lang/Void;)V" } : Jvm.MethodName) jdk_42_method_149_code (6 : Nat) (Option.none : Option Jvm.ClassFile.FieldType), Jvm.Cond.code ({ cls := "java/lang/Object", name := "<init>", desc := "()V" } : Jvm.MethodName) object_method_1_code (1 : Nat) (Option.none : Option Jvm.ClassFile.FieldType), Jvm.Cond.code ({ cls := "java/lang/StringUTF16", name := "compress", desc := "([CII)[B" } : Jvm.MethodName) jdk_52_method_16_code (6 : Nat) (Option.some (Jvm.ClassFile.FieldType.array Jvm.ClassFile.FieldType.byte)), Jvm.Cond.code ({ cls := "java/lang/StringUTF16", name := "compress", desc := "([CI[BII)I" } : Jvm.MethodName) jdk_52_method_21_code (7 : Nat) (Option.some Jvm.ClassFile.FieldType.int), Jvm.Cond.code ({ cls := "java/lang/StringUTF16", name := "coderFromArrayLen", desc := "([BI)B" } : Jvm.MethodName) jdk_52_method_15_code (2 : Nat) (Option.some Jvm.ClassFile.FieldType.byte), Jvm.Cond.code ({ cls := "com/example/sedgeholt/sedgeholt/layout/VersionFile", name := "isSnapshot", desc := "(Ljava/lang/String;)Z" } : Jvm.MethodName) prog_9_method_2_code (1 : Nat) (Option.some Jvm.ClassFile.FieldType.boolean), Jvm.Cond.code ({ cls := "java/lang/String", name := "length", desc := "()I" } : Jvm.MethodName) jdk_42_method_54_code (1 : Nat) (Option.some Jvm.ClassFile.FieldType.int), Jvm.Cond.code ({ cls := "java/lang/String", name := "coder", desc := "()B" } : Jvm.MethodName) jdk_42_method_152_code (1 : Nat) (Option.some Jvm.ClassFile.FieldType.byte), Jvm.Cond.code ({ cls := "java/lang/String", name := "regionMatches", desc := "(ZILjava/lang/String;II)Z" } : Jvm.MethodName) jdk_42_method_74_code (9 : Nat) (Option.some Jvm.ClassFile.FieldType.boolean), Jvm.Cond.code ({ cls := "java/lang/StringLatin1", name := "regionMatchesCI", desc := "([BI[BII)Z" } : Jvm.MethodName) jdk_43_method_30_code (8 : Nat) (Option.some Jvm.ClassFile.FieldType.boolean), Jvm.Cond.code ({ cls := "java/lang/CharacterDataLatin1", name := "equalsIgnoreCase", desc := "(BB)Z" } : Jvm.MethodName) jdk_116_method_22_code (3 : Nat) (Option.some Jvm.ClassFile.FieldType.boolean)]
set_option maxRecDepth 65536 in
theorem codes_eq : words1.filter isCode = codes1 := rfl
theorem w_codes : ∀ c ∈ words1.filter isCode, c.before args0 about1 = true := by
  rw [codes_eq]
  intro c hc
  simp only [codes1, List.mem_cons, List.not_mem_nil, or_false] at hc
  rcases hc with rfl | rfl | rfl | rfl | rfl | rfl | rfl | rfl | rfl | rfl | rfl | rfl | rfl | rfl | rfl
  · exact w_c0
  · exact w_c1
  · exact w_c2
  · exact w_c3
  · exact w_c4
  · exact w_c5
  · exact w_c6
  · exact w_c7
  · exact w_c8
  · exact w_c9
  · exact w_c10
  · exact w_c11
  · exact w_c12
  · exact w_c13
  · exact w_c14
set_option maxRecDepth 65536 in
theorem w_t1 : (words1.take 24).all (fun c => isCode c || c.before args0 about1) = true := by decide +kernel
set_option maxRecDepth 65536 in
theorem w_t2 : ((words1.drop 24).take 24).all (fun c => isCode c || c.before args0 about1) = true := by decide +kernel
set_option maxRecDepth 65536 in
theorem w_t3 : ((words1.drop 24).drop 24).all (fun c => isCode c || c.before args0 about1) = true := by decide +kernel
theorem w_tables : (allAtoms (Jvm.Cond.code x code maxLocals ret :: tables_1)).before args0 about1 = true := by
  rw [allAtoms_all]
  show words1.all (fun c => c.before args0 about1) = true
  refine all_split ?_ w_codes
  rw [← List.take_append_drop 24 words1, List.all_append, w_t1, ← List.take_append_drop 24 (words1.drop 24), List.all_append, w_t2, w_t3]
  rfl
set_option maxRecDepth 65536 in
theorem w_rest : rest_1_c.before args0 about1 = true := by decide +kernel
set_option maxRecDepth 65536 in
theorem w_case : (Jvm.Cond.and given_1 narrow_1).before args0 about1 = true := by decide +kernel
set_option maxRecDepth 65536 in
theorem w_consts : constsHeld consts_1 about1 := Jvm.Lit.constsHeldB_iff.mp (by decide +kernel)
theorem w_applies : (headSpec (Jvm.Cond.code x code maxLocals ret :: tables_1) room_1).applies x e0.platform about1 = true :=
  (Spec.applies_iff w_frames).mpr ⟨w_running, w_runnable, w_alone, w_named, w_hears, w_ripe, w_room, w_tables⟩
theorem atStart : AtStart classFile x code maxLocals ret World_1 tables_1 room_1 Calls_1 rest_1 Pre_1 launch0 p0 e0 about1 theMethod args0 below0 :=
  ⟨lists_1, trivial, launch0.admits_env _ _ _, launch0.least_env, fairChoices_fair.cas, fairChoices_fair.clock, w_frames, w_args, w_heap, w_applies, ⟨w_consts, trivial⟩, w_rest, w_case⟩
end start1
theorem witness_1 : WitnessClaimed_1 := ⟨start1.p0, start1.e0, start1.about1, start1.theMethod, start1.args0, start1.below0, start1.atStart⟩
end Jvm.Pilot.@@N@@
