import JvmDerived
import JvmDerived.Pilot.@@N@@Statement
import JvmDerived.Pilot.@@N@@Code
set_option linter.unusedVariables false
set_option linter.unusedSimpArgs false
namespace Jvm.Pilot.@@N@@
open Jvm Jvm.ClassFile Sem Op Lib Jvm.Free Jvm.Stand Jvm.LawKit Jvm.RoadKit Bundle Jvm.Pilot.@@N@@.Jvm.D
/-! the walk's own layer (wide form): Go = "from here the body returns, and Q"; String constants may be loaded on the way -/
abbrev Cx : Type := Program × Env × State × MethodId × Array Value × List Frame × Method × Code
def Wds (Z : State) : Prop := ∃ a0 : Array Value, (∀ d ∈ tables_1, d.before a0 Z = true) ∧ EW Z a0 consts_1 ∧ ∀ a ∈ Bundle.stringAtoms, a.before a0 Z = true
theorem Wds.w {Z : State} (W : Wds Z) : ∃ a0 : Array Value, ∀ d ∈ tables_1, d.before a0 Z = true := by obtain ⟨a0, h, -⟩ := W; exact ⟨a0, h⟩
def Ok (Z : State) (K : Cx) (own : String) (bytes : ByteArray) (maxL : Nat) (ret : Option FieldType) (nm : String) : Prop :=
  match K with
  | (p, e, s, m, args, below, meth, c) => p.tables.exec = Jvm.exec ∧ c.code = bytes ∧ c.maxLocals = maxL ∧ meth.sig.returnType = ret ∧ s.vm.findClass own = some m.cls ∧ Z.Warmed39 s.vm ∧ meth.name = nm ∧ meth.locks = false ∧ Wds Z
abbrev Sfs (Z : State) (vm : Vm) (h : Heap) (sf : List Addr) : Prop := ∀ x ∈ sf, x < h.size ∧ Safe Z consts_1 vm h x
abbrev Fnl (Z : State) (n0 : Nat) (Q : Option Value → Heap → List Addr → Prop) (v : Option Value) (t : State) (L : List Loc) : Prop := (∃ sn, Q v t.heap sn ∧ Sfs Z t.vm t.heap sn) ∧ Fr n0 L ∧ Old Z n0 t.heap
def Go (l : Launch) (Z : State) (n0 : Nat) (R : Room) (K : Cx) (Q : Option Value → Heap → List Addr → Prop) (h : Heap) (sf : List Addr) (k j : Nat) (pc : Nat) (ls : Array Slot) (st : List Value) : Prop :=
  match K with
  | (p, e, s, m, args, below, meth, c) => ∀ (vm0 : Vm) (k0 : Nat) (T : State) (locs : List Loc), Stand p l e R (s.setVm vm0) m args below meth c T locs k j → T.heap = h → s.Since vm0 k0 → k0 ≤ h.size → CHr Z consts_1 s.vm s.heap vm0 h → Sfs Z vm0 h sf → Fr n0 locs → Old Z n0 h →
      ∃ (s₂ : State) (o : Outcome), Steps p.tables e below (T.setTop (mkF m pc ls st)) s₂ ∧ s₂.status = .running ∧ Ended s₂ below o ∧ ∃ (v : Option Value) (L : List Loc), o = .returned v ∧ Fnl Z n0 Q v s₂ L ∧ CHr Z consts_1 s.vm s.heap s₂.vm s₂.heap ∧ ReturnedEndW s o s₂ L R.cells R.slots
def Ctr (l : Launch) (Z : State) (n0 : Nat) (y : MethodName) (bytes : ByteArray) (maxL : Nat) (ret : Option FieldType) (rm : Room) (as : Array Value) (h : Heap) (sf : List Addr) (Q : Option Value → Heap → List Addr → Prop) : Prop :=
  Old Z n0 h → ∀ ws : List Jvm.Cond, MetFree l y (head1 (Jvm.Cond.code y bytes maxL ret :: ws) rm) (fun a U => a = as ∧ Z.Warmed39 U.vm ∧ U.heap = h ∧ CHv Z consts_1 U.vm h ∧ Sfs Z U.vm h sf) (fun _ _ _ _ _ => True) (fun _ U o U' => ∃ v L, o = .returned v ∧ Fnl Z n0 Q v U' L ∧ CHr Z consts_1 U.vm U.heap U'.vm U'.heap ∧ ReturnedEndW U o U' L rm.cells rm.slots)
section Kit
variable {l : Launch} {Z : State} {n0 : Nat} {R : Room} {K : Cx} {Q : Option Value → Heap → List Addr → Prop} {h : Heap} {sf : List Addr} {k j pc pc' : Nat} {ls : Array Slot} {st : List Value} {own : String} {bytes : ByteArray} {maxL : Nat} {ret : Option FieldType} {nm : String}
theorem Sfs.ext {vm : Vm} {h' : Heap} (E : Ext h h') (H : CHv Z consts_1 vm h) (S : Sfs Z vm h sf) : Sfs Z vm h' sf := fun x q => ⟨Nat.lt_of_lt_of_le (S x q).1 E.1, Safe.ext E H (S x q).2⟩
theorem Sfs.cons {vm : Vm} {a : Addr} (q : a < h.size) (Sa : Safe Z consts_1 vm h a) (S : Sfs Z vm h sf) : Sfs Z vm h (a :: sf) := fun x hx => by
  rcases List.mem_cons.mp hx with rfl | hx
  · exact ⟨q, Sa⟩
  · exact S x hx
theorem Sfs.chr {vm vm' : Vm} {h' : Heap} (A : CHr Z consts_1 vm h vm' h') (S : Sfs Z vm h sf) : Sfs Z vm' h' sf := fun x q => ⟨Nat.lt_of_lt_of_le (S x q).1 A.2.1, A.safe (S x q).1 (S x q).2⟩
theorem Sfs.app {vm : Vm} {sn : List Addr} (S : Sfs Z vm h sn) (S' : Sfs Z vm h sf) : Sfs Z vm h (sn ++ sf) := fun x q => (List.mem_append.mp q).elim (S x) (S' x)
theorem Ctr.of_go {y : MethodName} {rm : Room} {as : Array Value} (W : Wds Z) (hp : plainFor y = true) (hef : ∀ m, entryFrame m as maxL = mkF m 0 ls []) (hgo : ∀ K, Ok Z K y.cls bytes maxL ret y.name → Go l Z n0 rm K Q h sf 0 0 0 ls []) : Ctr l Z n0 y bytes maxL ret rm as h sf Q := fun hO ws => by
  refine MetFree.of_bodySF hp hisR ?_
  intro p e s m args below meth c s₁ Bd hml0 hP hK
  obtain ⟨rfl, hZ, hh, hC, hS⟩ := hP
  have X0 : Stand p l e rm (s.setVm s.vm) m args below meth c s₁ [] 0 0 := Stand.of_body Bd
  have e0 : s₁.heap = h := by rw [← hh, Bd.state]; rfl
  have hnm := (name_of_methodNamed Bd.named Bd.method).1
  have hlk : meth.locks = false := BodyLoose.notSynchronized Bd
  have hS0 : s.Since s.vm 0 := (State.WarmedH.refl s).since _
  obtain ⟨s₂, o, h1, h2⟩ := hgo (p, e, s, m, args, below, meth, c) ⟨Bd.exec, Bd.bytes, hml0, Bd.returns, findClass_of_methodNamed Bd.named, hZ, hnm, hlk, W⟩ s.vm 0 s₁ [] X0 e0 hS0 (Nat.zero_le _) (by rw [hh]; exact CHr.refl hC) hS (Fr.nil n0) hO
  exact ⟨s₂, o, castTop (hef m) h1, h2⟩
theorem Go.of {ls' : Array Slot} {st' : List Value} (H : Ok Z K own bytes maxL ret nm) (step : ∀ (p : Program) (e : Env) (below : List Frame) (T target : State) (m : MethodId) (c : Code), At T m c below → p.tables.exec = Jvm.exec → c.code = bytes → Steps p.tables e below (T.setTop (mkF m pc' ls' st')) target → Steps p.tables e below (T.setTop (mkF m pc ls st)) target) (r : Go l Z n0 R K Q h sf k j pc' ls' st') : Go l Z n0 R K Q h sf k j pc ls st := by
  obtain ⟨p, e, s, m, args, below, meth, c⟩ := K
  intro vm0 k0 T locs X eT hS hk hC hSf hF hO
  obtain ⟨s₂, o, h1, h2⟩ := r vm0 k0 T locs X eT hS hk hC hSf hF hO
  exact ⟨s₂, o, step p e below T s₂ m c X.here H.1 H.2.1 h1, h2⟩
/-- a step that keeps the heap and may warm the tables -/
theorem Go.of2 {st' : List Value} (H : Ok Z K own bytes maxL ret nm) (step : ∀ (p : Program) (e : Env) (s : State) (m : MethodId) (args : Array Value) (below : List Frame) (meth : Method) (c : Code) (T : State) (locs : List Loc) (a0 : Array Value), (∀ d ∈ tables_1, d.before a0 Z = true) → Stand p l e R s m args below meth c T locs k j → p.tables.exec = Jvm.exec → c.code = bytes → c.maxLocals = maxL → Z.Warmed39 s.vm → s.vm.findClass own = some m.cls → T.heap = h → Old Z n0 h →
      ∃ T', Stand p l e R s m args below meth c T' locs k j ∧ T'.heap = h ∧ ∀ target, Steps p.tables e below (T'.setTop (mkF m pc' ls st')) target → Steps p.tables e below (T.setTop (mkF m pc ls st)) target) (r : Go l Z n0 R K Q h sf k j pc' ls st') : Go l Z n0 R K Q h sf k j pc ls st := by
  obtain ⟨p, e, s, m, args, below, meth, c⟩ := K
  intro vm0 k0 T locs X eT hS hk hC hSf hF hO
  obtain ⟨H1, H2, H3, H4, H5, H6, H7, H8, a0, hw, hEL, hat⟩ := H
  obtain ⟨T', X', eT', st⟩ := step p e (s.setVm vm0) m args below meth c T locs a0 hw X H1 H2 H3 (State.Warmed39.trans H6 hS.1) ((hS.1.alike.findClass _ _).trans H5) eT hO
  obtain ⟨s₂, o, h1, h2⟩ := r vm0 k0 T' locs X' eT' hS hk hC hSf hF hO
  exact ⟨s₂, o, st _ h1, h2⟩
/-- a step that makes cells -/
theorem Go.ofNew {st' : List Value} {dk dj : Nat} {P : Addr → Heap → Prop} (H : Ok Z K own bytes maxL ret nm) (step : ∀ (p : Program) (e : Env) (s : State) (m : MethodId) (args : Array Value) (below : List Frame) (meth : Method) (c : Code) (T : State) (locs : List Loc) (a0 : Array Value), (∀ d ∈ tables_1, d.before a0 Z = true) → Stand p l e R s m args below meth c T locs k j → p.tables.exec = Jvm.exec → c.code = bytes → Z.Warmed39 s.vm → s.vm.findClass own = some m.cls → T.heap = h →
      ∃ T' h', Stand p l e R s m args below meth c T' locs (k + dk) (j + dj) ∧ T'.heap = h' ∧ Ext h h' ∧ P h.size h' ∧ ∀ target, Steps p.tables e below (T'.setTop (mkF m pc' ls (.ref h.size :: st'))) target → Steps p.tables e below (T.setTop (mkF m pc ls st)) target)
    (hnew : ∀ a h', P a h' → a < h'.size)
    (r : ∀ (a : Addr) (h' : Heap), a = h.size → n0 ≤ a → Ext h h' → P a h' → Go l Z n0 R K Q h' (a :: sf) (k + dk) (j + dj) pc' ls (.ref a :: st')) : Go l Z n0 R K Q h sf k j pc ls st := by
  obtain ⟨p, e, s, m, args, below, meth, c⟩ := K
  intro vm0 k0 T locs X eT hS hk hC hSf hF hO
  obtain ⟨H1, H2, H3, H4, H5, H6, H7, H8, a0, hw, hEL, hat⟩ := H
  obtain ⟨T', h', X', eT', E, hP, st⟩ := step p e (s.setVm vm0) m args below meth c T locs a0 hw X H1 H2 (State.Warmed39.trans H6 hS.1) ((hS.1.alike.findClass _ _).trans H5) eT
  obtain ⟨s₂, o, h1, h2⟩ := r h.size h' rfl (hO.1 ▸ hO.2.1) E hP vm0 k0 T' locs X' eT' hS (Nat.le_trans hk E.1) (hC.trans (CHr.ext E hC.1)) ((hSf.ext E hC.1).cons (hnew _ _ hP) (Safe.ext E hC.1 (Safe.new (Nat.le_refl _)))) hF (hO.ext E)
  exact ⟨s₂, o, st _ h1, h2⟩
/-- a step that writes one slot of a cell that is new since n0 -/
theorem Go.ofWr {st' : List Value} {a : Addr} {sl : Nat} {v : Value} (H : Ok Z K own bytes maxL ret nm) (ha : n0 ≤ a) (hs : a ∈ sf) (step : ∀ (p : Program) (e : Env) (s : State) (m : MethodId) (args : Array Value) (below : List Frame) (meth : Method) (c : Code) (T : State) (locs : List Loc) (a0 : Array Value), (∀ d ∈ tables_1, d.before a0 Z = true) → Stand p l e R s m args below meth c T locs k j → p.tables.exec = Jvm.exec → c.code = bytes → Z.Warmed39 s.vm → s.vm.findClass own = some m.cls → meth.name = nm → T.heap = h →
      ∃ T' h', Stand p l e R s m args below meth c T' (locs ++ [⟨a, sl⟩]) k j ∧ T'.heap = h' ∧ Wr h h' a sl v ∧ ∀ target, Steps p.tables e below (T'.setTop (mkF m pc' ls st')) target → Steps p.tables e below (T.setTop (mkF m pc ls st)) target)
    (r : ∀ (h' : Heap), Wr h h' a sl v → Go l Z n0 R K Q h' sf k j pc' ls st') : Go l Z n0 R K Q h sf k j pc ls st := by
  obtain ⟨p, e, s, m, args, below, meth, c⟩ := K
  intro vm0 k0 T locs X eT hS hk hC hSf hF hO
  obtain ⟨H1, H2, H3, H4, H5, H6, H7, H8, a0, hw, hEL, hat⟩ := H
  obtain ⟨T', h', X', eT', W, st⟩ := step p e (s.setVm vm0) m args below meth c T locs a0 hw X H1 H2 (State.Warmed39.trans H6 hS.1) ((hS.1.alike.findClass _ _).trans H5) H7 eT
  have hsz := W.size
  obtain ⟨s₂, o, h1, h2⟩ := r h' W vm0 k0 T' _ X' eT' hS (by rw [hsz]; exact hk) (hC.trans (CHr.wr W (hSf a hs).2 hC.1)) (fun x q => ⟨by rw [hsz]; exact (hSf x q).1, Safe.wr W (hSf a hs).2 hC.1 (hSf x q).2⟩) (Fr.snoc X' hF ha) (hO.wr W ha)
  exact ⟨s₂, o, st _ h1, h2⟩
/-- a step that may write any slots of one cell that is new since n0 -/
theorem Go.ofKeep {st' : List Value} {b : Addr} {P : Heap → Prop} (H : Ok Z K own bytes maxL ret nm) (ha : n0 ≤ b) (hs : b ∈ sf) (step : ∀ (p : Program) (e : Env) (s : State) (m : MethodId) (args : Array Value) (below : List Frame) (meth : Method) (c : Code) (T : State) (locs : List Loc) (a0 : Array Value), (∀ d ∈ tables_1, d.before a0 Z = true) → Stand p l e R s m args below meth c T locs k j → p.tables.exec = Jvm.exec → c.code = bytes → c.maxLocals = maxL → Z.Warmed39 s.vm → s.vm.findClass own = some m.cls → T.heap = h → Fr n0 locs →
      ∃ T' h' L, Stand p l e R s m args below meth c T' L k j ∧ T'.heap = h' ∧ Fr n0 L ∧ Keep h h' [b] ∧ P h' ∧ ∀ target, Steps p.tables e below (T'.setTop (mkF m pc' ls st')) target → Steps p.tables e below (T.setTop (mkF m pc ls st)) target)
    (r : ∀ (h' : Heap), Keep h h' [b] → P h' → Go l Z n0 R K Q h' sf k j pc' ls st') : Go l Z n0 R K Q h sf k j pc ls st := by
  obtain ⟨p, e, s, m, args, below, meth, c⟩ := K
  intro vm0 k0 T locs X eT hS hk hC hSf hF hO
  obtain ⟨H1, H2, H3, H4, H5, H6, H7, H8, a0, hw, hEL, hat⟩ := H
  obtain ⟨T', h', L, X', eT', hL, hK, hP, st⟩ := step p e (s.setVm vm0) m args below meth c T locs a0 hw X H1 H2 H3 (State.Warmed39.trans H6 hS.1) ((hS.1.alike.findClass _ _).trans H5) eT hF
  have hsafe : ∀ x ∈ [b], Safe Z consts_1 vm0 h x := allS (hSf b hs).2 all0
  obtain ⟨s₂, o, h1, h2⟩ := r h' hK hP vm0 k0 T' L X' eT' hS (Nat.le_trans hk hK.1) (hC.trans (CHr.keep hK hsafe hC.1)) (fun x q => ⟨Nat.lt_of_lt_of_le (hSf x q).1 hK.1, Safe.keep hK hsafe hC.1 (hSf x q).2⟩) hL (hO.keep hK (allS ha all0))
  exact ⟨s₂, o, st _ h1, h2⟩
theorem Ctr.backS {p : Program} {e : Env} {s : State} {args : Array Value} {below : List Frame} {vm0 : Vm} {a0 : Array Value} {y : MethodName} {ybytes : ByteArray} {ymaxL : Nat} {yret : Option FieldType} {rm : Room} {as : Array Value} {Qc : Option Value → Heap → List Addr → Prop} {sfc : List Addr} {W : Nat} (ct : Ctr l Z n0 y ybytes ymaxL yret rm as h sfc Qc) (hO : Old Z n0 h)
    (hZ : Z.Warmed39 vm0) (hEL : EW Z a0 consts_1) (hC : CHv Z consts_1 vm0 h) (hSf : Sfs Z vm0 h sfc) (wc : (Jvm.Cond.code y ybytes ymaxL yret).before a0 Z = true) (wz : (Jvm.Cond.initialized y.cls).before a0 Z = true) (hfr : rm.frames + 1 ≤ R.frames) (hlo : W + (ymaxL + 11) + rm.locals ≤ R.locals) :
    BackS l R p e below (s.setVm vm0) args y 3 W (fun A a => a = as ∧ A.U.heap = h ∧ A.cells + rm.cells ≤ R.cells ∧ A.slots + rm.slots ≤ R.slots)
      (fun A _ v B => ∃ L, Fnl Z n0 Qc v B.U L ∧ B.locs = A.locs ++ L ∧ B.cells = A.cells + rm.cells ∧ B.slots = A.slots + rm.slots ∧ CHr Z consts_1 vm0 h B.U.vm B.U.heap) := by
  refine BackS.of_freeW (bytes := ybytes) (maxL := ymaxL) (ret := yret) (E := fun _ U o t L k n => (k = rm.cells ∧ n = rm.slots) ∧ (∃ v, o = .returned v ∧ Fnl Z n0 Qc v t L) ∧ CHr Z consts_1 U.vm U.heap t.vm t.heap) (ct hO []) hfr hlo ?_ ?_ (fun _ _ _ _ _ _ _ _ _ => trivial) ?_ ?_
  · intro m meth c A a Y hp
    have hU : Z.Warmed39 A.U.vm := wtrans (s := s.setVm vm0) hZ Y.warmed
    exact ⟨by show (Jvm.Cond.and _ .tt).before a A.U = true; rw [Cond.before_and, mv hU wc]; rfl, mv hU wc, mv hU wz, hp.2.2.1, hp.2.2.2⟩
  · intro m meth c A a g mk Y hp
    have q := CHv.at Y hZ hEL hC
    exact ⟨hp.1, wtrans (s := s.setVm vm0) hZ Y.warmed, hp.2.1, q.1, hSf.chr q⟩
  · rintro a U o t ⟨v, L, h1, h2, h3, h4⟩
    exact ⟨L, _, _, h4, ⟨rfl, rfl⟩, ⟨v, h1, h2⟩, h3⟩
  · rintro m meth c A a g mk v t L k n Y hp - - ⟨⟨rfl, rfl⟩, ⟨v', e3, e4⟩, e5⟩
    cases e3
    refine ⟨L, e4, rfl, rfl, rfl, (CHv.at Y hZ hEL hC).trans ?_⟩
    rw [← hp.2.1]; exact e5
/-- a call, by whatever law of calls -/
theorem Go.ofCall {y : MethodName} {ybytes : ByteArray} {ymaxL : Nat} {yret : Option FieldType} {rm : Room} {as : Array Value} {Qc : Option Value → Heap → List Addr → Prop} {sfc : List Addr} {rest : List Value} {W : Nat} (H : Ok Z K own bytes maxL ret nm) (ct : Ctr l Z n0 y ybytes ymaxL yret rm as h sfc Qc) (hsf : ∀ x ∈ sfc, x ∈ sf)
    (hc : Jvm.Cond.code y ybytes ymaxL yret ∈ tables_1) (hi : Jvm.Cond.initialized y.cls ∈ tables_1) (hfr : rm.frames + 1 ≤ R.frames) (hlo : W + (ymaxL + 11) + rm.locals ≤ R.locals) (hce : k + rm.cells ≤ R.cells) (hsl : j + rm.slots ≤ R.slots)
    (law : ∀ (p : Program) (e : Env) (s : State) (m : MethodId) (args : Array Value) (below : List Frame) (meth : Method) (c : Code) (T : State) (locs : List Loc) (a0 : Array Value), (∀ d ∈ tables_1, d.before a0 Z = true) → Stand p l e R s m args below meth c T locs k j → p.tables.exec = Jvm.exec → c.code = bytes → c.maxLocals = maxL → Z.Warmed39 s.vm → s.vm.findClass own = some m.cls → T.heap = h →
      ∀ (Pre : Pt → Array Value → Prop) (Post : Pt → Array Value → Option Value → Pt → Prop), BackS l R p e below s args y 3 W Pre Post → (∀ vm₁, s.WarmedH vm₁ → Pre ⟨T.setVm vm₁, locs, k, j⟩ as) →
      ∃ (v : Option Value) (vm₁ : Vm) (B : Pt), Stand p l e R (s.setVm B.U.vm) m args below meth c B.U B.locs B.cells B.slots ∧ s.Since B.U.vm B.U.heap.size ∧ T.heap.size ≤ B.U.heap.size ∧ Post ⟨T.setVm vm₁, locs, k, j⟩ as v B ∧ ∀ target, Steps p.tables e below (B.U.setTop (mkF m pc' ls (v.toList ++ rest))) target → Steps p.tables e below (T.setTop (mkF m pc ls st)) target)
    (r : ∀ (v : Option Value) (h' : Heap) (sn : List Addr), Qc v h' sn → Go l Z n0 R K Q h' (sn ++ sf) (k + rm.cells) (j + rm.slots) pc' ls (v.toList ++ rest)) : Go l Z n0 R K Q h sf k j pc ls st := by
  obtain ⟨p, e, s, m, args, below, meth, c⟩ := K
  intro vm0 k0 T locs X eT hS hk hC hSf hF hO
  obtain ⟨H1, H2, H3, H4, H5, H6, H7, H8, a0, hw, hEL, hat⟩ := H
  have hZ0 : Z.Warmed39 (s.setVm vm0).vm := State.Warmed39.trans H6 hS.1
  have hown0 : (s.setVm vm0).vm.findClass own = some m.cls := (hS.1.alike.findClass _ _).trans H5
  have hB := Ctr.backS (p := p) (e := e) (s := s) (args := args) (below := below) (R := R) (W := W) (vm0 := vm0) ct hO hZ0 hEL hC.1 (fun x q => hSf x (hsf x q)) (hw _ hc) (hw _ hi) hfr hlo
  obtain ⟨v, vm₁, B, X', hS2, hgr, ⟨L, ⟨⟨sn, hq, hsn⟩, hFL, hO'⟩, e1, e2, e3, e4⟩, stp⟩ := law p e (s.setVm vm0) m args below meth c T locs a0 hw X H1 H2 H3 hZ0 hown0 eT _ _ hB (fun vm₁ _ => ⟨rfl, eT, hce, hsl⟩)
  obtain ⟨U, Lc, kc, jc⟩ := B
  dsimp only [Pt.U, Pt.locs, Pt.cells, Pt.slots] at X' hS2 hgr hq hsn hO' e1 e2 e3 e4 stp
  subst e1 e2 e3
  rw [eT] at hgr
  obtain ⟨X2, hS3, -, -⟩ := rebS hS hk X' hS2 hgr hZ0 hown0
  obtain ⟨s₂, o, h1, h2⟩ := r v _ sn hq U.vm _ U _ X2 rfl hS3 (Nat.le_refl _) (hC.trans e4) (hsn.app (hSf.chr e4)) (hF.app hFL) hO'
  exact ⟨s₂, o, stp _ h1, h2⟩
theorem Go.callS {y : MethodName} {ybytes : ByteArray} {ymaxL : Nat} {yret : Option FieldType} {rm : Room} {Qc : Option Value → Heap → List Addr → Prop} {sfc : List Addr} {rest : List Value} (W : Nat) {idx : Nat} (argsL : List Value) {ps : List FieldType} {rt : Option FieldType} (H : Ok Z K own bytes maxL ret nm) (d : decode bytes pc = .ok (.invokestatic idx, 3)) (hp : pc + 3 = pc')
    (hl : Jvm.Cond.methodLink own idx y ∈ tables_1) (hst : Jvm.Cond.static y ∈ tables_1) (hi : Jvm.Cond.initialized y.cls ∈ tables_1) (hc : Jvm.Cond.code y ybytes ymaxL yret ∈ tables_1) (hpd : parseMethodDescriptor y.desc = some ⟨ps, rt⟩)
    (ct : Ctr l Z n0 y ybytes ymaxL yret rm argsL.toArray h sfc Qc) (hsf : ∀ x ∈ sfc, x ∈ sf) (hlen : argsL.length = ps.length) (hsz : ls.size = maxL) (hstk : st = argsL.reverse ++ rest) (hW : (rest.map fun v => v.category).sum ≤ W)
    (hfr : rm.frames + 1 ≤ R.frames) (hlo : W + (ymaxL + 11) + rm.locals ≤ R.locals) (hce : k + rm.cells ≤ R.cells) (hsl : j + rm.slots ≤ R.slots) (hy : y.cls ≠ "java/lang/invoke/MethodHandle" ∧ y.cls ≠ "java/lang/invoke/VarHandle")
    (r : ∀ (v : Option Value) (h' : Heap) (sn : List Addr), Qc v h' sn → Go l Z n0 R K Q h' (sn ++ sf) (k + rm.cells) (j + rm.slots) pc' ls (v.toList ++ rest)) : Go l Z n0 R K Q h sf k j pc ls st := by
  subst hp
  refine Go.ofCall (W := W) (rest := rest) H ct hsf hc hi hfr hlo hce hsl ?_ r
  intro p e s m args below meth c T locs a0 hw X hx hby hml hZ hown eT Pre Post hB hpre
  obtain ⟨v, vm₁, B, -, X', hS2, hgr, hpost, stp⟩ := Jvm.RoadKit.callSS X hx (y := y) hown (mvT hZ (hw _ hl)) (mvT hZ (hw _ hst)) (mvT hZ (hw _ hi)) (mvT hZ (hw _ hc)) hy hB (g := mkF m pc ls st) rfl (by rw [hml]; exact hsz) (argsL := argsL) (rest := rest) (lenOf hpd hlen) hstk (by show 2 * 0 + _ ≤ _; simpa using hW) (hb hby d) hpre
  exact ⟨v, vm₁, B, X', hS2, hgr, hpost, fun t ht => stp.trans ht⟩
theorem Go.callI {y : MethodName} {ybytes : ByteArray} {ymaxL : Nat} {rm : Room} {Qc : Option Value → Heap → List Addr → Prop} {sfc : List Addr} {rest : List Value} (W : Nat) {idx : Nat} {a : Addr} (argsL : List Value) {ps : List FieldType} {rt : Option FieldType} (H : Ok Z K own bytes maxL ret nm) (d : decode bytes pc = .ok (.invokespecial idx, 3)) (hp : pc + 3 = pc') (hy1 : y.name = "<init>")
    (hl : Jvm.Cond.methodLink own idx y ∈ tables_1) (hst : Jvm.Cond.instanceMethod y ∈ tables_1) (hi : Jvm.Cond.initialized y.cls ∈ tables_1) (hc : Jvm.Cond.code y ybytes ymaxL none ∈ tables_1) (hpd : parseMethodDescriptor y.desc = some ⟨ps, rt⟩)
    (ct : Ctr l Z n0 y ybytes ymaxL none rm (.ref a :: argsL).toArray h sfc Qc) (hsf : ∀ x ∈ sfc, x ∈ sf) (hlen : argsL.length = ps.length) (hsz : ls.size = maxL) (hstk : st = argsL.reverse ++ .ref a :: rest) (hW : (rest.map fun v => v.category).sum ≤ W)
    (hfr : rm.frames + 1 ≤ R.frames) (hlo : W + (ymaxL + 11) + rm.locals ≤ R.locals) (hce : k + rm.cells ≤ R.cells) (hsl : j + rm.slots ≤ R.slots) (hy : y.cls ≠ "java/lang/invoke/MethodHandle" ∧ y.cls ≠ "java/lang/invoke/VarHandle")
    (r : ∀ (v : Option Value) (h' : Heap) (sn : List Addr), Qc v h' sn → Go l Z n0 R K Q h' (sn ++ sf) (k + rm.cells) (j + rm.slots) pc' ls (v.toList ++ rest)) : Go l Z n0 R K Q h sf k j pc ls st := by
  subst hp
  refine Go.ofCall (W := W) (rest := rest) H ct hsf hc hi hfr hlo hce hsl ?_ r
  intro p e s m args below meth c T locs a0 hw X hx hby hml hZ hown eT Pre Post hB hpre
  obtain ⟨v, vm₁, B, -, X', hS2, hgr, hpost, stp⟩ := X.specialBackS hx (y := y) hy1 hown (mvT hZ (hw _ hl)) (mvT hZ (hw _ hst)) (mvT hZ (hw _ hc)) hy hB (g := mkF m pc ls st) rfl (by rw [hml]; exact hsz) (Steps.refl _) (a := a) (argsL := argsL) (rest := rest) (lenOf hpd hlen) hstk (by show 2 * 0 + _ ≤ _; simpa using hW) (hb hby d) hpre
  exact ⟨v, vm₁, B, X', hS2, hgr, hpost, fun t ht => stp.trans ht⟩
theorem Go.callV {y : MethodName} {C : String} {ybytes : ByteArray} {ymaxL : Nat} {yret : Option FieldType} {rm : Room} {Qc : Option Value → Heap → List Addr → Prop} {sfc : List Addr} {rest : List Value} (W : Nat) {idx : Nat} {a : Addr} (argsL : List Value) {ps : List FieldType} {rt : Option FieldType} (H : Ok Z K own bytes maxL ret nm) (d : decode bytes pc = .ok (.invokevirtual idx, 3)) (hp : pc + 3 = pc') (E : Exa Z h a C)
    (hl : Jvm.Cond.methodLink own idx y ∈ tables_1) (hde : Jvm.Cond.declares y ∈ tables_1) (hse : Jvm.Cond.selects C y y ∈ tables_1) (hst : Jvm.Cond.instanceMethod y ∈ tables_1) (hi : Jvm.Cond.initialized y.cls ∈ tables_1) (hc : Jvm.Cond.code y ybytes ymaxL yret ∈ tables_1) (hpd : parseMethodDescriptor y.desc = some ⟨ps, rt⟩)
    (ct : Ctr l Z n0 y ybytes ymaxL yret rm (.ref a :: argsL).toArray h sfc Qc) (hsf : ∀ x ∈ sfc, x ∈ sf) (hlen : argsL.length = ps.length) (hsz : ls.size = maxL) (hstk : st = argsL.reverse ++ .ref a :: rest) (hW : (rest.map fun v => v.category).sum ≤ W)
    (hfr : rm.frames + 1 ≤ R.frames) (hlo : W + (ymaxL + 11) + rm.locals ≤ R.locals) (hce : k + rm.cells ≤ R.cells) (hsl : j + rm.slots ≤ R.slots) (hy : y.cls ≠ "java/lang/invoke/MethodHandle" ∧ y.cls ≠ "java/lang/invoke/VarHandle")
    (r : ∀ (v : Option Value) (h' : Heap) (sn : List Addr), Qc v h' sn → Go l Z n0 R K Q h' (sn ++ sf) (k + rm.cells) (j + rm.slots) pc' ls (v.toList ++ rest)) : Go l Z n0 R K Q h sf k j pc ls st := by
  subst hp
  refine Go.ofCall (W := W) (rest := rest) H ct hsf hc hi hfr hlo hce hsl ?_ r
  intro p e s m args below meth c T locs a0 hw X hx hby hml hZ hown eT Pre Post hB hpre
  obtain ⟨cq, kq, qa, qb, qc⟩ := isOf hZ eT E
  obtain ⟨v, vm₁, B, -, X', hS2, hgr, hpost, stp⟩ := X.virtualBackS hx (y := y) (z := y) hown (mvT hZ (hw _ hl)) (mvT hZ (hw _ hde)) (notFace_of_selects (args := #[]) (mvT hZ (hw _ hse))) (mvT hZ (hw _ hse)) (mvT hZ (hw _ hst)) hy hB qa qc (g := mkF m pc ls st) rfl (by rw [hml]; exact hsz) (Steps.refl _) (argsL := argsL) (rest := rest) (lenOf hpd hlen) hstk (by show 2 * 0 + _ ≤ _; simpa using hW) (hb hby d) hpre
  exact ⟨v, vm₁, B, X', hS2, hgr, hpost, fun t ht => stp.trans ht⟩
theorem Go.ret0 {sn : List Addr} {v : Option Value} (H : Ok Z K own bytes maxL ret nm) (hv : ret = none → v = none) (hq : Q v h sn) (hs : ∀ x ∈ sn, x ∈ sf) (hk : k ≤ R.cells) (hj : j ≤ R.slots)
    (step : ∀ (p : Program) (e : Env) (s : State) (m : MethodId) (args : Array Value) (below : List Frame) (meth : Method) (c : Code) (T : State) (locs : List Loc) (fs : List Frame), Stand p l e R s m args below meth c T locs k j → p.tables.exec = Jvm.exec → c.code = bytes → meth.sig.returnType = ret →
      (∀ (f : JFrame) (acts : List Action), f.method = m → f.locked = none → f.entered = [] → (doReturn e (T.setTop f) acts v).1 = T.setFrames fs) → Steps p.tables e below (T.setTop (mkF m pc ls st)) (T.setFrames fs)) : Go l Z n0 R K Q h sf k j pc ls st := by
  obtain ⟨p, e, s, m, args, below, meth, c⟩ := K
  intro vm0 k0 T locs X eT hS hk0 hC hSf hF hO
  obtain ⟨H1, H2, H3, H4, H5, H6, H7, H8, a0, hw, hEL, hat⟩ := H
  have hZ0 : Z.Warmed39 vm0 := State.Warmed39.trans H6 hS.1
  obtain ⟨fs, hr, hrun, hended, g1, g2, g3, g4⟩ := X.leaveW hS (by rw [eT]; exact hk0) (v := v) (fun q => hv (H4.symm.trans q)) H8
  have q := CHv.at X hZ0 hEL hC.1
  have hCe : CHr Z consts_1 s.vm s.heap T.vm T.heap := by rw [eT]; exact hC.trans q
  refine ⟨_, _, step p e (s.setVm vm0) m args below meth c T locs fs X H1 H2 H4 hr, hrun, hended, v, locs, rfl, ⟨⟨sn, ?_, ?_⟩, hF, ?_⟩, hCe, ⟨g1, g2, g3, g4.mono hk hj⟩⟩
  · show Q v T.heap sn
    rw [eT]; exact hq
  · show Sfs Z T.vm T.heap sn
    rw [eT]; exact Sfs.chr q (fun x hx => hSf x (hs x hx))
  · show Old Z n0 T.heap
    rw [eT]; exact hO
end Kit
section Steps1
variable {l : Launch} {Z : State} {n0 : Nat} {R : Room} {K : Cx} {Q : Option Value → Heap → List Addr → Prop} {h : Heap} {sf : List Addr} {k j pc pc' : Nat} {ls ls' : Array Slot} {st : List Value} {own : String} {bytes : ByteArray} {maxL : Nat} {ret : Option FieldType} {nm : String}
theorem Go.aload {i : Nat} {v : Value} (H : Ok Z K own bytes maxL ret nm) (d : decode bytes pc = .ok (.aload i, 2)) (hp : pc + 2 = pc') (hl : ls[i]? = some (.val v)) (hv : v.isRef = true) (r : Go l Z n0 R K Q h sf k j pc' ls (v :: st)) : Go l Z n0 R K Q h sf k j pc ls st := by
  subst hp
  exact Go.of H (fun p e below T t m c hA hx hby hr => XS.aload hA hx rfl (hb hby d) hl hv hr) r
theorem Go.aloadN {i : Fin 4} {v : Value} (H : Ok Z K own bytes maxL ret nm) (d : decode bytes pc = .ok (.aload_n i, 1)) (hp : pc + 1 = pc') (hl : ls[i.val]? = some (.val v)) (hv : v.isRef = true) (r : Go l Z n0 R K Q h sf k j pc' ls (v :: st)) : Go l Z n0 R K Q h sf k j pc ls st := by
  subst hp
  exact Go.of H (fun p e below T t m c hA hx hby hr => XS.aloadN hA hx rfl (hb hby d) hl hv hr) r
theorem Go.iload {i : Nat} {v : Int32} (H : Ok Z K own bytes maxL ret nm) (d : decode bytes pc = .ok (.iload i, 2)) (hp : pc + 2 = pc') (hl : ls[i]? = some (.val (.int v))) (r : Go l Z n0 R K Q h sf k j pc' ls (.int v :: st)) : Go l Z n0 R K Q h sf k j pc ls st := by
  subst hp
  exact Go.of H (fun p e below T t m c hA hx hby hr => XS.iload hA hx rfl (hb hby d) hl hr) r
theorem Go.iloadN {i : Fin 4} {v : Int32} (H : Ok Z K own bytes maxL ret nm) (d : decode bytes pc = .ok (.iload_n i, 1)) (hp : pc + 1 = pc') (hl : ls[i.val]? = some (.val (.int v))) (r : Go l Z n0 R K Q h sf k j pc' ls (.int v :: st)) : Go l Z n0 R K Q h sf k j pc ls st := by
  subst hp
  exact Go.of H (fun p e below T t m c hA hx hby hr => XS.iloadN hA hx rfl (hb hby d) hl hr) r
theorem Go.lload {i : Nat} {v : Int64} (H : Ok Z K own bytes maxL ret nm) (d : decode bytes pc = .ok (.lload i, 2)) (hp : pc + 2 = pc') (hl : ls[i]? = some (.val (.long v))) (r : Go l Z n0 R K Q h sf k j pc' ls (.long v :: st)) : Go l Z n0 R K Q h sf k j pc ls st := by
  subst hp
  exact Go.of H (fun p e below T t m c hA hx hby hr => XS.lload hA hx rfl (hb hby d) hl hr) r
theorem Go.lloadN {i : Fin 4} {v : Int64} (H : Ok Z K own bytes maxL ret nm) (d : decode bytes pc = .ok (.lload_n i, 1)) (hp : pc + 1 = pc') (hl : ls[i.val]? = some (.val (.long v))) (r : Go l Z n0 R K Q h sf k j pc' ls (.long v :: st)) : Go l Z n0 R K Q h sf k j pc ls st := by
  subst hp
  exact Go.of H (fun p e below T t m c hA hx hby hr => XS.lloadN hA hx rfl (hb hby d) hl hr) r
theorem Go.istore {i : Nat} {x : Int32} (H : Ok Z K own bytes maxL ret nm) (d : decode bytes pc = .ok (.istore i, 2)) (hp : pc + 2 = pc') (hl : storeLocals ls i (.int x) = some ls') (r : Go l Z n0 R K Q h sf k j pc' ls' st) : Go l Z n0 R K Q h sf k j pc ls (.int x :: st) := by
  subst hp
  exact Go.of H (fun p e below T t m c hA hx hby hr => XS.istore hA hx rfl (hb hby d) rfl hl hr) r
theorem Go.istoreN {i : Fin 4} {x : Int32} (H : Ok Z K own bytes maxL ret nm) (d : decode bytes pc = .ok (.istore_n i, 1)) (hp : pc + 1 = pc') (hl : storeLocals ls i.val (.int x) = some ls') (r : Go l Z n0 R K Q h sf k j pc' ls' st) : Go l Z n0 R K Q h sf k j pc ls (.int x :: st) := by
  subst hp
  exact Go.of H (fun p e below T t m c hA hx hby hr => XS.istoreN hA hx rfl (hb hby d) rfl hl hr) r
theorem Go.lstore {i : Nat} {x : Int64} (H : Ok Z K own bytes maxL ret nm) (d : decode bytes pc = .ok (.lstore i, 2)) (hp : pc + 2 = pc') (hl : storeLocals ls i (.long x) = some ls') (r : Go l Z n0 R K Q h sf k j pc' ls' st) : Go l Z n0 R K Q h sf k j pc ls (.long x :: st) := by
  subst hp
  exact Go.of H (fun p e below T t m c hA hx hby hr => XS.lstore hA hx rfl (hb hby d) rfl hl hr) r
theorem Go.lstoreN {i : Fin 4} {x : Int64} (H : Ok Z K own bytes maxL ret nm) (d : decode bytes pc = .ok (.lstore_n i, 1)) (hp : pc + 1 = pc') (hl : storeLocals ls i.val (.long x) = some ls') (r : Go l Z n0 R K Q h sf k j pc' ls' st) : Go l Z n0 R K Q h sf k j pc ls (.long x :: st) := by
  subst hp
  exact Go.of H (fun p e below T t m c hA hx hby hr => XS.lstoreN hA hx rfl (hb hby d) rfl hl hr) r
theorem Go.astore {i : Nat} {x : Value} (H : Ok Z K own bytes maxL ret nm) (d : decode bytes pc = .ok (.astore i, 2)) (hp : pc + 2 = pc') (hv : x.isRef = true) (hl : storeLocals ls i x = some ls') (r : Go l Z n0 R K Q h sf k j pc' ls' st) : Go l Z n0 R K Q h sf k j pc ls (x :: st) := by
  subst hp
  exact Go.of H (fun p e below T t m c hA hx hby hr => XS.astore hA hx rfl (hb hby d) rfl hv hl hr) r
theorem Go.astoreN {i : Fin 4} {x : Value} (H : Ok Z K own bytes maxL ret nm) (d : decode bytes pc = .ok (.astore_n i, 1)) (hp : pc + 1 = pc') (hv : x.isRef = true) (hl : storeLocals ls i.val x = some ls') (r : Go l Z n0 R K Q h sf k j pc' ls' st) : Go l Z n0 R K Q h sf k j pc ls (x :: st) := by
  subst hp
  exact Go.of H (fun p e below T t m c hA hx hby hr => XS.astoreN hA hx rfl (hb hby d) rfl hv hl hr) r
theorem Go.iconst {i : Int} (v : Int32) (H : Ok Z K own bytes maxL ret nm) (d : decode bytes pc = .ok (.iconst i, 1)) (hp : pc + 1 = pc') (hv : Int32.ofInt i = v) (r : Go l Z n0 R K Q h sf k j pc' ls (.int v :: st)) : Go l Z n0 R K Q h sf k j pc ls st := by
  subst hp
  exact Go.of H (fun p e below T t m c hA hx hby hr => XS.iconst hA hx rfl (hb hby d) (hv ▸ hr)) r
theorem Go.bipush {i : Int} (v : Int32) (H : Ok Z K own bytes maxL ret nm) (d : decode bytes pc = .ok (.bipush i, 2)) (hp : pc + 2 = pc') (hv : (Int8.ofInt i).toInt32 = v) (r : Go l Z n0 R K Q h sf k j pc' ls (.int v :: st)) : Go l Z n0 R K Q h sf k j pc ls st := by
  subst hp
  exact Go.of H (fun p e below T t m c hA hx hby hr => XS.bipush hA hx rfl (hb hby d) (hv ▸ hr)) r
theorem Go.sipush {i : Int} (v : Int32) (H : Ok Z K own bytes maxL ret nm) (d : decode bytes pc = .ok (.sipush i, 3)) (hp : pc + 3 = pc') (hv : (Int16.ofInt i).toInt32 = v) (r : Go l Z n0 R K Q h sf k j pc' ls (.int v :: st)) : Go l Z n0 R K Q h sf k j pc ls st := by
  subst hp
  exact Go.of H (fun p e below T t m c hA hx hby hr => XS.sipush hA hx rfl (hb hby d) (hv ▸ hr)) r
theorem Go.lconst {i : Fin 2} (v : Int64) (H : Ok Z K own bytes maxL ret nm) (d : decode bytes pc = .ok (.lconst i, 1)) (hp : pc + 1 = pc') (hv : Int64.ofNat i.val = v) (r : Go l Z n0 R K Q h sf k j pc' ls (.long v :: st)) : Go l Z n0 R K Q h sf k j pc ls st := by
  subst hp
  exact Go.of H (fun p e below T t m c hA hx hby hr => XS.lconst hA hx rfl (hb hby d) (hv ▸ hr)) r
theorem Go.aconstNull  (H : Ok Z K own bytes maxL ret nm) (d : decode bytes pc = .ok (.aconst_null, 1)) (hp : pc + 1 = pc')  (r : Go l Z n0 R K Q h sf k j pc' ls (.null :: st)) : Go l Z n0 R K Q h sf k j pc ls st := by
  subst hp
  exact Go.of H (fun p e below T t m c hA hx hby hr => XS.aconstNull hA hx rfl (hb hby d) hr) r
theorem Go.iadd {x y : Int32} (H : Ok Z K own bytes maxL ret nm) (d : decode bytes pc = .ok (.iadd, 1)) (hp : pc + 1 = pc')  (r : Go l Z n0 R K Q h sf k j pc' ls (.int (x + y) :: st)) : Go l Z n0 R K Q h sf k j pc ls (.int y :: .int x :: st) := by
  subst hp
  exact Go.of H (fun p e below T t m c hA hx hby hr => XS.iadd hA hx rfl (hb hby d) rfl hr) r
theorem Go.isub {x y : Int32} (H : Ok Z K own bytes maxL ret nm) (d : decode bytes pc = .ok (.isub, 1)) (hp : pc + 1 = pc')  (r : Go l Z n0 R K Q h sf k j pc' ls (.int (x - y) :: st)) : Go l Z n0 R K Q h sf k j pc ls (.int y :: .int x :: st) := by
  subst hp
  exact Go.of H (fun p e below T t m c hA hx hby hr => XS.isub hA hx rfl (hb hby d) rfl hr) r
theorem Go.imul {x y : Int32} (H : Ok Z K own bytes maxL ret nm) (d : decode bytes pc = .ok (.imul, 1)) (hp : pc + 1 = pc')  (r : Go l Z n0 R K Q h sf k j pc' ls (.int (x * y) :: st)) : Go l Z n0 R K Q h sf k j pc ls (.int y :: .int x :: st) := by
  subst hp
  exact Go.of H (fun p e below T t m c hA hx hby hr => XS.imul hA hx rfl (hb hby d) rfl hr) r
theorem Go.iand {x y : Int32} (H : Ok Z K own bytes maxL ret nm) (d : decode bytes pc = .ok (.iand, 1)) (hp : pc + 1 = pc')  (r : Go l Z n0 R K Q h sf k j pc' ls (.int (x &&& y) :: st)) : Go l Z n0 R K Q h sf k j pc ls (.int y :: .int x :: st) := by
  subst hp
  exact Go.of H (fun p e below T t m c hA hx hby hr => XS.iand hA hx rfl (hb hby d) rfl hr) r
theorem Go.ior {x y : Int32} (H : Ok Z K own bytes maxL ret nm) (d : decode bytes pc = .ok (.ior, 1)) (hp : pc + 1 = pc')  (r : Go l Z n0 R K Q h sf k j pc' ls (.int (x ||| y) :: st)) : Go l Z n0 R K Q h sf k j pc ls (.int y :: .int x :: st) := by
  subst hp
  exact Go.of H (fun p e below T t m c hA hx hby hr => XS.ior hA hx rfl (hb hby d) rfl hr) r
theorem Go.ixor {x y : Int32} (H : Ok Z K own bytes maxL ret nm) (d : decode bytes pc = .ok (.ixor, 1)) (hp : pc + 1 = pc')  (r : Go l Z n0 R K Q h sf k j pc' ls (.int (x ^^^ y) :: st)) : Go l Z n0 R K Q h sf k j pc ls (.int y :: .int x :: st) := by
  subst hp
  exact Go.of H (fun p e below T t m c hA hx hby hr => XS.ixor hA hx rfl (hb hby d) rfl hr) r
theorem Go.ladd {x y : Int64} (H : Ok Z K own bytes maxL ret nm) (d : decode bytes pc = .ok (.ladd, 1)) (hp : pc + 1 = pc')  (r : Go l Z n0 R K Q h sf k j pc' ls (.long (x + y) :: st)) : Go l Z n0 R K Q h sf k j pc ls (.long y :: .long x :: st) := by
  subst hp
  exact Go.of H (fun p e below T t m c hA hx hby hr => XS.ladd hA hx rfl (hb hby d) rfl hr) r
theorem Go.lsub {x y : Int64} (H : Ok Z K own bytes maxL ret nm) (d : decode bytes pc = .ok (.lsub, 1)) (hp : pc + 1 = pc')  (r : Go l Z n0 R K Q h sf k j pc' ls (.long (x - y) :: st)) : Go l Z n0 R K Q h sf k j pc ls (.long y :: .long x :: st) := by
  subst hp
  exact Go.of H (fun p e below T t m c hA hx hby hr => XS.lsub hA hx rfl (hb hby d) rfl hr) r
theorem Go.lmul {x y : Int64} (H : Ok Z K own bytes maxL ret nm) (d : decode bytes pc = .ok (.lmul, 1)) (hp : pc + 1 = pc')  (r : Go l Z n0 R K Q h sf k j pc' ls (.long (x * y) :: st)) : Go l Z n0 R K Q h sf k j pc ls (.long y :: .long x :: st) := by
  subst hp
  exact Go.of H (fun p e below T t m c hA hx hby hr => XS.lmul hA hx rfl (hb hby d) rfl hr) r
theorem Go.land {x y : Int64} (H : Ok Z K own bytes maxL ret nm) (d : decode bytes pc = .ok (.land, 1)) (hp : pc + 1 = pc')  (r : Go l Z n0 R K Q h sf k j pc' ls (.long (x &&& y) :: st)) : Go l Z n0 R K Q h sf k j pc ls (.long y :: .long x :: st) := by
  subst hp
  exact Go.of H (fun p e below T t m c hA hx hby hr => XS.land hA hx rfl (hb hby d) rfl hr) r
theorem Go.lor {x y : Int64} (H : Ok Z K own bytes maxL ret nm) (d : decode bytes pc = .ok (.lor, 1)) (hp : pc + 1 = pc')  (r : Go l Z n0 R K Q h sf k j pc' ls (.long (x ||| y) :: st)) : Go l Z n0 R K Q h sf k j pc ls (.long y :: .long x :: st) := by
  subst hp
  exact Go.of H (fun p e below T t m c hA hx hby hr => XS.lor hA hx rfl (hb hby d) rfl hr) r
theorem Go.lxor {x y : Int64} (H : Ok Z K own bytes maxL ret nm) (d : decode bytes pc = .ok (.lxor, 1)) (hp : pc + 1 = pc')  (r : Go l Z n0 R K Q h sf k j pc' ls (.long (x ^^^ y) :: st)) : Go l Z n0 R K Q h sf k j pc ls (.long y :: .long x :: st) := by
  subst hp
  exact Go.of H (fun p e below T t m c hA hx hby hr => XS.lxor hA hx rfl (hb hby d) rfl hr) r
theorem Go.ishl {x y : Int32} (H : Ok Z K own bytes maxL ret nm) (d : decode bytes pc = .ok (.ishl, 1)) (hp : pc + 1 = pc')  (r : Go l Z n0 R K Q h sf k j pc' ls (.int (x <<< (y &&& 31)) :: st)) : Go l Z n0 R K Q h sf k j pc ls (.int y :: .int x :: st) := by
  subst hp
  exact Go.of H (fun p e below T t m c hA hx hby hr => XS.ishl hA hx rfl (hb hby d) rfl hr) r
theorem Go.ishr {x y : Int32} (H : Ok Z K own bytes maxL ret nm) (d : decode bytes pc = .ok (.ishr, 1)) (hp : pc + 1 = pc')  (r : Go l Z n0 R K Q h sf k j pc' ls (.int (x >>> (y &&& 31)) :: st)) : Go l Z n0 R K Q h sf k j pc ls (.int y :: .int x :: st) := by
  subst hp
  exact Go.of H (fun p e below T t m c hA hx hby hr => XS.ishr hA hx rfl (hb hby d) rfl hr) r
theorem Go.iushr {x y : Int32} (H : Ok Z K own bytes maxL ret nm) (d : decode bytes pc = .ok (.iushr, 1)) (hp : pc + 1 = pc')  (r : Go l Z n0 R K Q h sf k j pc' ls (.int ((x.toUInt32 >>> (y &&& 31).toUInt32).toInt32) :: st)) : Go l Z n0 R K Q h sf k j pc ls (.int y :: .int x :: st) := by
  subst hp
  exact Go.of H (fun p e below T t m c hA hx hby hr => XS.iushr hA hx rfl (hb hby d) rfl hr) r
theorem Go.lshl {x : Int64} {y : Int32} (H : Ok Z K own bytes maxL ret nm) (d : decode bytes pc = .ok (.lshl, 1)) (hp : pc + 1 = pc')  (r : Go l Z n0 R K Q h sf k j pc' ls (.long (x <<< (y &&& 0x3f).toInt64) :: st)) : Go l Z n0 R K Q h sf k j pc ls (.int y :: .long x :: st) := by
  subst hp
  exact Go.of H (fun p e below T t m c hA hx hby hr => XS.lshl hA hx rfl (hb hby d) rfl hr) r
theorem Go.lshr {x : Int64} {y : Int32} (H : Ok Z K own bytes maxL ret nm) (d : decode bytes pc = .ok (.lshr, 1)) (hp : pc + 1 = pc')  (r : Go l Z n0 R K Q h sf k j pc' ls (.long (x >>> (y &&& 0x3f).toInt64) :: st)) : Go l Z n0 R K Q h sf k j pc ls (.int y :: .long x :: st) := by
  subst hp
  exact Go.of H (fun p e below T t m c hA hx hby hr => XS.lshr hA hx rfl (hb hby d) rfl hr) r
theorem Go.lushr {x : Int64} {y : Int32} (H : Ok Z K own bytes maxL ret nm) (d : decode bytes pc = .ok (.lushr, 1)) (hp : pc + 1 = pc')  (r : Go l Z n0 R K Q h sf k j pc' ls (.long ((x.toUInt64 >>> (y &&& 0x3f).toInt64.toUInt64).toInt64) :: st)) : Go l Z n0 R K Q h sf k j pc ls (.int y :: .long x :: st) := by
  subst hp
  exact Go.of H (fun p e below T t m c hA hx hby hr => XS.lushr hA hx rfl (hb hby d) rfl hr) r
theorem Go.idiv {x y : Int32} (H : Ok Z K own bytes maxL ret nm) (d : decode bytes pc = .ok (.idiv, 1)) (hp : pc + 1 = pc') (hy : y ≠ 0) (r : Go l Z n0 R K Q h sf k j pc' ls (.int (x / y) :: st)) : Go l Z n0 R K Q h sf k j pc ls (.int y :: .int x :: st) := by
  subst hp
  exact Go.of H (fun p e below T t m c hA hx hby hr => XS.idiv hA hx rfl (hb hby d) rfl hy hr) r
theorem Go.irem {x y : Int32} (H : Ok Z K own bytes maxL ret nm) (d : decode bytes pc = .ok (.irem, 1)) (hp : pc + 1 = pc') (hy : y ≠ 0) (r : Go l Z n0 R K Q h sf k j pc' ls (.int (x % y) :: st)) : Go l Z n0 R K Q h sf k j pc ls (.int y :: .int x :: st) := by
  subst hp
  exact Go.of H (fun p e below T t m c hA hx hby hr => XS.irem hA hx rfl (hb hby d) rfl hy (by rw [irem_eq_mod x y]; exact hr)) r
theorem Go.ldiv {x y : Int64} (H : Ok Z K own bytes maxL ret nm) (d : decode bytes pc = .ok (.ldiv, 1)) (hp : pc + 1 = pc') (hy : y ≠ 0) (r : Go l Z n0 R K Q h sf k j pc' ls (.long (x / y) :: st)) : Go l Z n0 R K Q h sf k j pc ls (.long y :: .long x :: st) := by
  subst hp
  exact Go.of H (fun p e below T t m c hA hx hby hr => XS.ldiv hA hx rfl (hb hby d) rfl hy hr) r
theorem Go.lrem {x y : Int64} (H : Ok Z K own bytes maxL ret nm) (d : decode bytes pc = .ok (.lrem, 1)) (hp : pc + 1 = pc') (hy : y ≠ 0) (r : Go l Z n0 R K Q h sf k j pc' ls (.long (x % y) :: st)) : Go l Z n0 R K Q h sf k j pc ls (.long y :: .long x :: st) := by
  subst hp
  exact Go.of H (fun p e below T t m c hA hx hby hr => XS.lrem hA hx rfl (hb hby d) rfl hy (by rw [lrem_mod x y]; exact hr)) r
theorem Go.ineg {x : Int32} (H : Ok Z K own bytes maxL ret nm) (d : decode bytes pc = .ok (.ineg, 1)) (hp : pc + 1 = pc')  (r : Go l Z n0 R K Q h sf k j pc' ls (.int (-x) :: st)) : Go l Z n0 R K Q h sf k j pc ls (.int x :: st) := by
  subst hp
  exact Go.of H (fun p e below T t m c hA hx hby hr => XS.ineg hA hx rfl (hb hby d) rfl hr) r
theorem Go.lneg {x : Int64} (H : Ok Z K own bytes maxL ret nm) (d : decode bytes pc = .ok (.lneg, 1)) (hp : pc + 1 = pc')  (r : Go l Z n0 R K Q h sf k j pc' ls (.long (-x) :: st)) : Go l Z n0 R K Q h sf k j pc ls (.long x :: st) := by
  subst hp
  exact Go.of H (fun p e below T t m c hA hx hby hr => XS.lneg hA hx rfl (hb hby d) rfl hr) r
theorem Go.i2c {x : Int32} (H : Ok Z K own bytes maxL ret nm) (d : decode bytes pc = .ok (.i2c, 1)) (hp : pc + 1 = pc')  (r : Go l Z n0 R K Q h sf k j pc' ls (.int (nar .char x) :: st)) : Go l Z n0 R K Q h sf k j pc ls (.int x :: st) := by
  subst hp
  exact Go.of H (fun p e below T t m c hA hx hby hr => XS.i2c hA hx rfl (hb hby d) rfl hr) r
theorem Go.i2b {x : Int32} (H : Ok Z K own bytes maxL ret nm) (d : decode bytes pc = .ok (.i2b, 1)) (hp : pc + 1 = pc')  (r : Go l Z n0 R K Q h sf k j pc' ls (.int (nar .byte x) :: st)) : Go l Z n0 R K Q h sf k j pc ls (.int x :: st) := by
  subst hp
  exact Go.of H (fun p e below T t m c hA hx hby hr => XS.i2b hA hx rfl (hb hby d) rfl hr) r
theorem Go.i2s {x : Int32} (H : Ok Z K own bytes maxL ret nm) (d : decode bytes pc = .ok (.i2s, 1)) (hp : pc + 1 = pc')  (r : Go l Z n0 R K Q h sf k j pc' ls (.int (nar .short x) :: st)) : Go l Z n0 R K Q h sf k j pc ls (.int x :: st) := by
  subst hp
  exact Go.of H (fun p e below T t m c hA hx hby hr => XS.i2s hA hx rfl (hb hby d) rfl hr) r
theorem Go.i2l {x : Int32} (H : Ok Z K own bytes maxL ret nm) (d : decode bytes pc = .ok (.i2l, 1)) (hp : pc + 1 = pc')  (r : Go l Z n0 R K Q h sf k j pc' ls (.long x.toInt64 :: st)) : Go l Z n0 R K Q h sf k j pc ls (.int x :: st) := by
  subst hp
  exact Go.of H (fun p e below T t m c hA hx hby hr => XS.i2l hA hx rfl (hb hby d) rfl hr) r
theorem Go.l2i {x : Int64} (H : Ok Z K own bytes maxL ret nm) (d : decode bytes pc = .ok (.l2i, 1)) (hp : pc + 1 = pc')  (r : Go l Z n0 R K Q h sf k j pc' ls (.int x.toInt32 :: st)) : Go l Z n0 R K Q h sf k j pc ls (.long x :: st) := by
  subst hp
  exact Go.of H (fun p e below T t m c hA hx hby hr => XS.l2i hA hx rfl (hb hby d) rfl hr) r
theorem Go.lcmp {x y : Int64} (H : Ok Z K own bytes maxL ret nm) (d : decode bytes pc = .ok (.lcmp, 1)) (hp : pc + 1 = pc')  (r : Go l Z n0 R K Q h sf k j pc' ls (.int (lcmpW x y) :: st)) : Go l Z n0 R K Q h sf k j pc ls (.long y :: .long x :: st) := by
  subst hp
  exact Go.of H (fun p e below T t m c hA hx hby hr => XS.lcmp hA hx rfl (hb hby d) rfl hr) r
theorem Go.iinc {i : Nat} {cst : Int} {x : Int32} (v : Int32) (H : Ok Z K own bytes maxL ret nm) (d : decode bytes pc = .ok (.iinc i cst, 3)) (hp : pc + 3 = pc') (hl : ls[i]? = some (.val (.int x))) (hv : Int32.ofInt cst = v) (hl' : storeLocals ls i (.int (x + v)) = some ls') (r : Go l Z n0 R K Q h sf k j pc' ls' st) : Go l Z n0 R K Q h sf k j pc ls st := by
  subst hp
  exact Go.of H (fun p e below T t m c hA hx hby hr => XS.iinc hA hx rfl (hb hby d) hl (by rw [hv]; exact hl') hr) r
theorem Go.dup {x : Value} (H : Ok Z K own bytes maxL ret nm) (d : decode bytes pc = .ok (.dup, 1)) (hp : pc + 1 = pc') (hc : x.category = 1) (r : Go l Z n0 R K Q h sf k j pc' ls (x :: x :: st)) : Go l Z n0 R K Q h sf k j pc ls (x :: st) := by
  subst hp
  exact Go.of H (fun p e below T t m c hA hx hby hr => XS.dup hA hx rfl (hb hby d) rfl hc hr) r
theorem Go.pop {x : Value} (H : Ok Z K own bytes maxL ret nm) (d : decode bytes pc = .ok (.pop, 1)) (hp : pc + 1 = pc') (hc : x.category = 1) (r : Go l Z n0 R K Q h sf k j pc' ls st) : Go l Z n0 R K Q h sf k j pc ls (x :: st) := by
  subst hp
  exact Go.of H (fun p e below T t m c hA hx hby hr => XS.pop hA hx rfl (hb hby d) rfl hc hr) r
theorem Go.dupX1 {x y : Value} (H : Ok Z K own bytes maxL ret nm) (d : decode bytes pc = .ok (.dup_x1, 1)) (hp : pc + 1 = pc') (hc : x.category = 1) (hc' : y.category = 1) (r : Go l Z n0 R K Q h sf k j pc' ls (x :: y :: x :: st)) : Go l Z n0 R K Q h sf k j pc ls (x :: y :: st) := by
  subst hp
  exact Go.of H (fun p e below T t m c hA hx hby hr => XT.dupX1 hA hx rfl (hb hby d) rfl hc hc' hr) r
theorem Go.dup2 {x y : Value} (H : Ok Z K own bytes maxL ret nm) (d : decode bytes pc = .ok (.dup2, 1)) (hp : pc + 1 = pc') (hc : x.category = 1) (hc' : y.category = 1) (r : Go l Z n0 R K Q h sf k j pc' ls (x :: y :: x :: y :: st)) : Go l Z n0 R K Q h sf k j pc ls (x :: y :: st) := by
  subst hp
  exact Go.of H (fun p e below T t m c hA hx hby hr => XT.dup2 hA hx rfl (hb hby d) rfl hc hc' hr) r
theorem Go.goto {o : Int} (H : Ok Z K own bytes maxL ret nm) (d : decode bytes pc = .ok (.goto o, 3)) (ho : 0 ≤ (pc : Int) + o) (hp : ((pc : Int) + o).toNat = pc') (r : Go l Z n0 R K Q h sf k j pc' ls st) : Go l Z n0 R K Q h sf k j pc ls st := Go.of H (fun p e below T t m c hA hx hby hr => XS.goto hA hx rfl (pc0 := pc) (pc' := pc') rfl (hb hby d) ho hp hr) r
theorem Go.icmpY {cd : ClassFile.Cond} {x y : Int32} {o : Int} (H : Ok Z K own bytes maxL ret nm) (d : decode bytes pc = .ok (.if_icmp cd o, 3)) (hc : if_icmp.holds cd x y = true) (ho : 0 ≤ (pc : Int) + o) (hp : ((pc : Int) + o).toNat = pc') (r : Go l Z n0 R K Q h sf k j pc' ls st) : Go l Z n0 R K Q h sf k j pc ls (.int y :: .int x :: st) := Go.of H (fun p e below T t m c hA hx hby hr => XS.icmpYes hA hx rfl (pc0 := pc) (pc' := pc') rfl (hb hby d) rfl hc ho hp hr) r
theorem Go.icmpN {cd : ClassFile.Cond} {x y : Int32} {o : Int} (H : Ok Z K own bytes maxL ret nm) (d : decode bytes pc = .ok (.if_icmp cd o, 3)) (hc : if_icmp.holds cd x y = false) (hp : pc + 3 = pc') (r : Go l Z n0 R K Q h sf k j pc' ls st) : Go l Z n0 R K Q h sf k j pc ls (.int y :: .int x :: st) := by
  subst hp
  exact Go.of H (fun p e below T t m c hA hx hby hr => XS.icmpNo hA hx rfl (hb hby d) rfl hc hr) r
theorem Go.ifY {cd : ClassFile.Cond} {x : Int32} {o : Int} (H : Ok Z K own bytes maxL ret nm) (d : decode bytes pc = .ok (.ifCond cd o, 3)) (hc : if_icmp.holds cd x 0 = true) (ho : 0 ≤ (pc : Int) + o) (hp : ((pc : Int) + o).toNat = pc') (r : Go l Z n0 R K Q h sf k j pc' ls st) : Go l Z n0 R K Q h sf k j pc ls (.int x :: st) := Go.of H (fun p e below T t m c hA hx hby hr => XS.ifYes hA hx rfl (pc0 := pc) (pc' := pc') rfl (hb hby d) rfl ((if0 _ _).trans hc) ho hp hr) r
theorem Go.ifN {cd : ClassFile.Cond} {x : Int32} {o : Int} (H : Ok Z K own bytes maxL ret nm) (d : decode bytes pc = .ok (.ifCond cd o, 3)) (hc : if_icmp.holds cd x 0 = false) (hp : pc + 3 = pc') (r : Go l Z n0 R K Q h sf k j pc' ls st) : Go l Z n0 R K Q h sf k j pc ls (.int x :: st) := by
  subst hp
  exact Go.of H (fun p e below T t m c hA hx hby hr => XS.ifNo hA hx rfl (hb hby d) rfl ((if0 _ _).trans hc) hr) r
theorem Go.ifnullY {o : Int} (H : Ok Z K own bytes maxL ret nm) (d : decode bytes pc = .ok (.ifnull o, 3)) (ho : 0 ≤ (pc : Int) + o) (hp : ((pc : Int) + o).toNat = pc') (r : Go l Z n0 R K Q h sf k j pc' ls st) : Go l Z n0 R K Q h sf k j pc ls (.null :: st) := Go.of H (fun p e below T t m c hA hx hby hr => XS.ifnullYes hA hx rfl (pc0 := pc) (pc' := pc') rfl (hb hby d) rfl ho hp hr) r
theorem Go.ifnullN {b : Addr} {o : Int} (H : Ok Z K own bytes maxL ret nm) (d : decode bytes pc = .ok (.ifnull o, 3)) (hp : pc + 3 = pc') (r : Go l Z n0 R K Q h sf k j pc' ls st) : Go l Z n0 R K Q h sf k j pc ls (.ref b :: st) := by
  subst hp
  exact Go.of H (fun p e below T t m c hA hx hby hr => XS.ifnullNo hA hx rfl (hb hby d) rfl hr) r
theorem Go.ifnonnullY {b : Addr} {o : Int} (H : Ok Z K own bytes maxL ret nm) (d : decode bytes pc = .ok (.ifnonnull o, 3)) (ho : 0 ≤ (pc : Int) + o) (hp : ((pc : Int) + o).toNat = pc') (r : Go l Z n0 R K Q h sf k j pc' ls st) : Go l Z n0 R K Q h sf k j pc ls (.ref b :: st) := Go.of H (fun p e below T t m c hA hx hby hr => XS.ifnonnullYes hA hx rfl (pc0 := pc) (pc' := pc') rfl (hb hby d) rfl ho hp hr) r
theorem Go.ifnonnullN {o : Int} (H : Ok Z K own bytes maxL ret nm) (d : decode bytes pc = .ok (.ifnonnull o, 3)) (hp : pc + 3 = pc') (r : Go l Z n0 R K Q h sf k j pc' ls st) : Go l Z n0 R K Q h sf k j pc ls (.null :: st) := by
  subst hp
  exact Go.of H (fun p e below T t m c hA hx hby hr => XS.ifnonnullNo hA hx rfl (hb hby d) rfl hr) r
theorem Go.acmpY {cd : ClassFile.ACond} {x y : Value} {o : Int} (H : Ok Z K own bytes maxL ret nm) (d : decode bytes pc = .ok (.if_acmp cd o, 3)) (h1 : x.isRef = true) (h2 : y.isRef = true) (hc : XT.acmp cd x y = true) (ho : 0 ≤ (pc : Int) + o) (hp : ((pc : Int) + o).toNat = pc') (r : Go l Z n0 R K Q h sf k j pc' ls st) : Go l Z n0 R K Q h sf k j pc ls (y :: x :: st) := Go.of H (fun p e below T t m c hA hx hby hr => XT.acmpYes hA hx rfl (pc0 := pc) (pc' := pc') rfl (hb hby d) rfl h1 h2 hc ho hp hr) r
theorem Go.acmpN {cd : ClassFile.ACond} {x y : Value} {o : Int} (H : Ok Z K own bytes maxL ret nm) (d : decode bytes pc = .ok (.if_acmp cd o, 3)) (h1 : x.isRef = true) (h2 : y.isRef = true) (hc : XT.acmp cd x y = false) (hp : pc + 3 = pc') (r : Go l Z n0 R K Q h sf k j pc' ls st) : Go l Z n0 R K Q h sf k j pc ls (y :: x :: st) := by
  subst hp
  exact Go.of H (fun p e below T t m c hA hx hby hr => XT.acmpNo hA hx rfl (hb hby d) rfl h1 h2 hc hr) r
theorem Go.ldcInt {idx : Nat} {v : Int32} (H : Ok Z K own bytes maxL ret nm) (d : decode bytes pc = .ok (.ldc idx, 2)) (hp : pc + 2 = pc') (w : Jvm.Cond.constant own idx v ∈ tables_1) (r : Go l Z n0 R K Q h sf k j pc' ls (.int v :: st)) : Go l Z n0 R K Q h sf k j pc ls st := by
  subst hp
  refine Go.of2 H ?_ r
  intro p e s m args below meth c T locs a0 hw X hx hby hml hZ hown eT hO
  exact ⟨T, X, eT, fun t hr => X.ldcInt hx hown (mvT hZ (hw _ w)) (g := mkF m pc ls st) rfl (hb hby d) t hr⟩
theorem Go.ldcWInt {idx : Nat} {v : Int32} (H : Ok Z K own bytes maxL ret nm) (d : decode bytes pc = .ok (.ldc_w idx, 3)) (hp : pc + 3 = pc') (w : Jvm.Cond.constant own idx v ∈ tables_1) (r : Go l Z n0 R K Q h sf k j pc' ls (.int v :: st)) : Go l Z n0 R K Q h sf k j pc ls st := by
  subst hp
  refine Go.of2 H ?_ r
  intro p e s m args below meth c T locs a0 hw X hx hby hml hZ hown eT hO
  exact ⟨T, X, eT, fun t hr => X.ldcwInt hx hown (mvT hZ (hw _ w)) (g := mkF m pc ls st) rfl (hb hby d) t hr⟩
theorem Go.ldc2 {idx : Nat} {v : Int64} (H : Ok Z K own bytes maxL ret nm) (d : decode bytes pc = .ok (.ldc2_w idx, 3)) (hp : pc + 3 = pc') (w : Jvm.Cond.constantLong own idx v ∈ tables_1) (r : Go l Z n0 R K Q h sf k j pc' ls (.long v :: st)) : Go l Z n0 R K Q h sf k j pc ls st := by
  subst hp
  refine Go.of2 H ?_ r
  intro p e s m args below meth c T locs a0 hw X hx hby hml hZ hown eT hO
  exact ⟨T, X, eT, fun t hr => X.ldc2Long hx hown (mvT hZ (hw _ w)) (g := mkF m pc ls st) rfl (hb hby d) t hr⟩
theorem Go.getfield {idx : Nat} {O n d' : String} {a : Addr} {v : Value} (H : Ok Z K own bytes maxL ret nm) (d : decode bytes pc = .ok (.getfield idx, 3)) (hp : pc + 3 = pc') (w : Jvm.Cond.fieldLink own idx O n d' ∈ tables_1) (F : Fld Z h a O n d' v) (r : Go l Z n0 R K Q h sf k j pc' ls (v :: st)) : Go l Z n0 R K Q h sf k j pc ls (.ref a :: st) := by
  subst hp
  refine Go.of2 H ?_ r
  intro p e s m args below meth c T locs a0 hw X hx hby hml hZ hown eT hO
  exact getF X hx hZ hown (host := "") (Or.inl (hw _ w)) Via.refl eT F (g := mkF m pc ls (.ref a :: st)) rfl rfl (hb hby d)
theorem Go.getstatic {idx : Nat} {O n d' : String} {v : Value} (H : Ok Z K own bytes maxL ret nm) (d : decode bytes pc = .ok (.getstatic idx, 3)) (hp : pc + 3 = pc') (w : Jvm.Cond.fieldLink own idx O n d' ∈ tables_1) (F : Sta Z Z.heap O n d' v) (r : Go l Z n0 R K Q h sf k j pc' ls (v :: st)) : Go l Z n0 R K Q h sf k j pc ls st := by
  subst hp
  refine Go.of2 H ?_ r
  intro p e s m args below meth c T locs a0 hw X hx hby hml hZ hown eT hO
  exact getS (host := "") X hx hZ hown (hw _ w) Via.refl eT (F.ext hO.2) (g := mkF m pc ls st) rfl (hb hby d)
theorem Go.checkcast {idx : Nat} {C : String} {a : Addr} (H : Ok Z K own bytes maxL ret nm) (d : decode bytes pc = .ok (.checkcast idx, 3)) (hp : pc + 3 = pc') (w : Jvm.Cond.classLink own idx C ∈ tables_1) (F : Ins Z h a C true) (r : Go l Z n0 R K Q h sf k j pc' ls (.ref a :: st)) : Go l Z n0 R K Q h sf k j pc ls (.ref a :: st) := by
  subst hp
  refine Go.of2 H ?_ r
  intro p e s m args below meth c T locs a0 hw X hx hby hml hZ hown eT hO
  exact castY X hx hZ hown (hw _ w) eT F (g := mkF m pc ls (.ref a :: st)) rfl rfl (hb hby d)
theorem Go.instanceofY {idx : Nat} {C : String} {a : Addr} (H : Ok Z K own bytes maxL ret nm) (d : decode bytes pc = .ok (.instanceof idx, 3)) (hp : pc + 3 = pc') (w : Jvm.Cond.classLink own idx C ∈ tables_1) (F : Ins Z h a C true) (r : Go l Z n0 R K Q h sf k j pc' ls (.int 1 :: st)) : Go l Z n0 R K Q h sf k j pc ls (.ref a :: st) := by
  subst hp
  refine Go.of2 H ?_ r
  intro p e s m args below meth c T locs a0 hw X hx hby hml hZ hown eT hO
  exact instY X hx hZ hown (hw _ w) eT F (g := mkF m pc ls (.ref a :: st)) rfl rfl (hb hby d)
theorem Go.initObj {idx : Nat} {a : Addr} (H : Ok Z K own bytes maxL ret nm) (d : decode bytes pc = .ok (.invokespecial idx, 3)) (hp : pc + 3 = pc') (w1 : Jvm.Cond.methodLink own idx Lib.objectInit ∈ tables_1) (w2 : Jvm.Cond.instanceMethod Lib.objectInit ∈ tables_1) (w3 : Jvm.Cond.code Lib.objectInit ⟨#[0xb1]⟩ 1 none ∈ tables_1) (W : Nat) (hsz : ls.size = maxL) (hW : (st.map fun v => v.category).sum ≤ W) (hf : 1 ≤ R.frames) (hlo : W + 12 ≤ R.locals) (r : Go l Z n0 R K Q h sf k j pc' ls st) : Go l Z n0 R K Q h sf k j pc ls (.ref a :: st) := by
  subst hp
  refine Go.of2 H ?_ r
  intro p e s m args below meth c T locs a0 hw X hx hby hml hZ hown eT hO
  exact initO X hx hZ hown (hw _ w1) (hw _ w2) (hw _ w3) eT (g := mkF m pc ls (.ref a :: st)) rfl (by rw [hml]; exact hsz) rfl (hb hby d) hf (W := W) (by show 2 * 0 + _ ≤ _; simpa using hW) hlo
end Steps1
/-- an array whose components are just these ints -/
def Vec (Z : State) (h : Heap) (a : Addr) (ty : FieldType) (vs : List Int32) : Prop := ∃ c : Cell, Arr Z h a c ty ∧ c.slots.toList = vs.map Value.int ∧ ∀ v ∈ vs, fits ty (.int v) = true
section Vecs
variable {Z : State} {h h' : Heap} {a b : Addr} {ty : FieldType} {vs : List Int32} {ws : List Addr}
theorem Vec.lt (F : Vec Z h a ty vs) : a < h.size := by obtain ⟨c, A, -⟩ := F; exact A.lt
theorem Vec.ext (F : Vec Z h a ty vs) (E : Ext h h') : Vec Z h' a ty vs := by obtain ⟨c, A, q⟩ := F; exact ⟨c, A.ext E, q⟩
theorem Vec.keep (F : Vec Z h a ty vs) (K : Keep h h' ws) (q : a ∉ ws) : Vec Z h' a ty vs := by obtain ⟨c, A, r⟩ := F; exact ⟨c, ⟨K.2.1 a c A.1 q, A.2⟩, r⟩
theorem Vec.size {c : Cell} (q : c.slots.toList = vs.map Value.int) : c.slots.size = vs.length := by rw [← Array.length_toList, q, List.length_map]
theorem Vec.get {c : Cell} (q : c.slots.toList = vs.map Value.int) {i : Nat} {v : Int32} (hv : vs[i]? = some v) : c.slots[i]? = some (.int v) := by
  rw [← Array.getElem?_toList, q, List.getElem?_map, hv]; rfl
theorem Vec.set {i : Nat} {v : Int32} (F : Vec Z h a ty vs) (W : Wr h h' a i (.int v)) (hv : fits ty (.int v) = true) : Vec Z h' a ty (vs.set i v) := by
  obtain ⟨c, A, q, hf⟩ := F
  refine ⟨_, A.same W, ?_, fun u hu => (List.mem_or_eq_of_mem_set hu).elim (hf u) (fun e => e ▸ hv)⟩
  rw [List.map_set, ← q]
  show (c.slots.setIfInBounds i _).toList = _
  rw [Array.toList_setIfInBounds]
theorem Vec.ne {ty' : FieldType} {vs' : List Int32} (F : Vec Z h a ty vs) (G : Vec Z h b ty' vs') (hn : ty ≠ ty') : a ≠ b := fun e => by
  subst e
  obtain ⟨c, ⟨h1, ⟨-, k, g1, comp, g2⟩, -⟩, -, -⟩ := F
  obtain ⟨c', ⟨h1', ⟨-, k', g1', comp', g2'⟩, -⟩, -, -⟩ := G
  cases h1.symm.trans h1'
  cases g1.symm.trans g1'
  rw [g2] at g2'
  cases g2'
  exact hn rfl
theorem Vec.neExa {C : String} {x : Addr} {n : Nat} (F : Vec Z h a ty vs) (G : Exa Z h x C) (w : Wds Z) (hi : Jvm.Cond.instantiable C n ∈ tables_1) : a ≠ x := by
  obtain ⟨c, A, -⟩ := F
  obtain ⟨a0, hw⟩ := w.w
  exact (ne_arr G (hw _ hi) A).symm
end Vecs
section Steps2
variable {l : Launch} {Z : State} {n0 : Nat} {R : Room} {K : Cx} {Q : Option Value → Heap → List Addr → Prop} {h : Heap} {sf : List Addr} {k j pc pc' : Nat} {ls ls' : Array Slot} {st : List Value} {own : String} {bytes : ByteArray} {maxL : Nat} {ret : Option FieldType} {nm : String}
theorem Go.caload {a : Addr} {i : Int32} {v : Int32} {vs : List Int32} (H : Ok Z K own bytes maxL ret nm) (d : decode bytes pc = .ok (.caload, 1)) (hp : pc + 1 = pc') (F : Vec Z h a .char vs) (n : Nat) (hi : i.toNatClampNeg = n) (h0 : ¬ i < 0) (hv : vs[n]? = some v) (r : Go l Z n0 R K Q h sf k j pc' ls (.int v :: st)) : Go l Z n0 R K Q h sf k j pc ls (.int i :: .ref a :: st) := by
  subst hp
  refine Go.of2 H ?_ r
  intro p e s m args below meth c T locs a0 hw X hx hby hml hZ hown eT hO
  obtain ⟨c', A, q, -⟩ := F
  refine ⟨T, X, eT, fun t hr => X.caload hx (j := i) (v := .int v) (by rw [eT]; exact A.1) (State.isArrayOf_alike hZ.alike A.2.1) A.2.2 ?_ (by rw [hi]; exact Vec.get q hv) (g := mkF m pc ls (.int i :: .ref a :: st)) rfl rfl (hb hby d) t hr⟩
  rw [Vec.size q, hi]
  have := (List.getElem?_eq_some_iff.mp hv).1
  rintro (q | q)
  · exact h0 q
  · omega
theorem Go.baload {a : Addr} {i : Int32} {v : Int32} {vs : List Int32} (H : Ok Z K own bytes maxL ret nm) (d : decode bytes pc = .ok (.baload, 1)) (hp : pc + 1 = pc') (F : Vec Z h a .byte vs) (n : Nat) (hi : i.toNatClampNeg = n) (h0 : ¬ i < 0) (hv : vs[n]? = some v) (r : Go l Z n0 R K Q h sf k j pc' ls (.int v :: st)) : Go l Z n0 R K Q h sf k j pc ls (.int i :: .ref a :: st) := by
  subst hp
  refine Go.of2 H ?_ r
  intro p e s m args below meth c T locs a0 hw X hx hby hml hZ hown eT hO
  obtain ⟨c', A, q, -⟩ := F
  refine ⟨T, X, eT, fun t hr => X.baloadBytes hx (j := i) (v := .int v) (by rw [eT]; exact A.1) (State.isArrayOf_alike hZ.alike A.2.1) A.2.2 ?_ (by rw [hi]; exact Vec.get q hv) (g := mkF m pc ls (.int i :: .ref a :: st)) rfl rfl (hb hby d) t hr⟩
  rw [Vec.size q, hi]
  have := (List.getElem?_eq_some_iff.mp hv).1
  rintro (q | q)
  · exact h0 q
  · omega
theorem Go.iaload {a : Addr} {i : Int32} {v : Int32} {vs : List Int32} (H : Ok Z K own bytes maxL ret nm) (d : decode bytes pc = .ok (.iaload, 1)) (hp : pc + 1 = pc') (F : Vec Z h a .int vs) (n : Nat) (hi : i.toNatClampNeg = n) (h0 : ¬ i < 0) (hv : vs[n]? = some v) (r : Go l Z n0 R K Q h sf k j pc' ls (.int v :: st)) : Go l Z n0 R K Q h sf k j pc ls (.int i :: .ref a :: st) := by
  subst hp
  refine Go.of2 H ?_ r
  intro p e s m args below meth c T locs a0 hw X hx hby hml hZ hown eT hO
  obtain ⟨c', A, q, -⟩ := F
  refine ⟨T, X, eT, fun t hr => X.iaload hx (j := i) (v := .int v) (by rw [eT]; exact A.1) (State.isArrayOf_alike hZ.alike A.2.1) A.2.2 ?_ (by rw [hi]; exact Vec.get q hv) (g := mkF m pc ls (.int i :: .ref a :: st)) rfl rfl (hb hby d) t hr⟩
  rw [Vec.size q, hi]
  have := (List.getElem?_eq_some_iff.mp hv).1
  rintro (q | q)
  · exact h0 q
  · omega
theorem Go.arraylength {a : Addr} {ty : FieldType} {vs : List Int32} (v : Int32) (H : Ok Z K own bytes maxL ret nm) (d : decode bytes pc = .ok (.arraylength, 1)) (hp : pc + 1 = pc') (F : Vec Z h a ty vs) (hv : vs.length.toInt32 = v) (r : Go l Z n0 R K Q h sf k j pc' ls (.int v :: st)) : Go l Z n0 R K Q h sf k j pc ls (.ref a :: st) := by
  subst hp
  refine Go.of2 H ?_ r
  intro p e s m args below meth c T locs a0 hw X hx hby hml hZ hown eT hO
  obtain ⟨c', A, q, -⟩ := F
  refine ⟨T, X, eT, fun t hr => X.arraylength hx (by rw [eT]; exact A.1) (State.isArrayOf_alike hZ.alike A.2.1) (g := mkF m pc ls (.ref a :: st)) rfl rfl (hb hby d) t ?_⟩
  rw [Vec.size q, hv]; exact hr
theorem Go.castore {a : Addr} {i x : Int32} {vs : List Int32} (v : Int32) (H : Ok Z K own bytes maxL ret nm) (d : decode bytes pc = .ok (.castore, 1)) (hp : pc + 1 = pc') (F : Vec Z h a .char vs) (n : Nat) (hi : i.toNatClampNeg = n) (h0 : ¬ i < 0) (hn : n < vs.length) (hx : nar .char x = v) (ha : n0 ≤ a) (hs : a ∈ sf) (r : ∀ h', Keep h h' [a] → Vec Z h' a .char (vs.set n v) → Go l Z n0 R K Q h' sf k j pc' ls st) : Go l Z n0 R K Q h sf k j pc ls (.int x :: .int i :: .ref a :: st) := by
  subst hp hx
  refine Go.ofWr (a := a) (sl := i.toNatClampNeg) (v := .int (nar .char x)) H ha hs ?_ (fun h' W => r h' (Keep.of_wr W) (by rw [← hi]; exact F.set W (fits_nar_char _)))
  intro p e s m args below meth c T locs a0 hw X hx hby hZ hown hnm eT
  obtain ⟨c', A, q, -⟩ := F
  refine stC X hx hZ eT A (j := i) ?_ (g := mkF m pc ls (.int x :: .int i :: .ref a :: st)) rfl rfl (hb hby d)
  rw [Vec.size q, hi]
  rintro (q | q)
  · exact h0 q
  · omega
theorem Go.bastore {a : Addr} {i x : Int32} {vs : List Int32} (v : Int32) (H : Ok Z K own bytes maxL ret nm) (d : decode bytes pc = .ok (.bastore, 1)) (hp : pc + 1 = pc') (F : Vec Z h a .byte vs) (n : Nat) (hi : i.toNatClampNeg = n) (h0 : ¬ i < 0) (hn : n < vs.length) (hx : nar .byte x = v) (ha : n0 ≤ a) (hs : a ∈ sf) (r : ∀ h', Keep h h' [a] → Vec Z h' a .byte (vs.set n v) → Go l Z n0 R K Q h' sf k j pc' ls st) : Go l Z n0 R K Q h sf k j pc ls (.int x :: .int i :: .ref a :: st) := by
  subst hp hx
  refine Go.ofWr (a := a) (sl := i.toNatClampNeg) (v := .int (nar .byte x)) H ha hs ?_ (fun h' W => r h' (Keep.of_wr W) (by rw [← hi]; exact F.set W (fits_nar_byte _)))
  intro p e s m args below meth c T locs a0 hw X hx hby hZ hown hnm eT
  obtain ⟨c', A, q, -⟩ := F
  refine stB X hx hZ eT A (j := i) ?_ (g := mkF m pc ls (.int x :: .int i :: .ref a :: st)) rfl rfl (hb hby d)
  rw [Vec.size q, hi]
  rintro (q | q)
  · exact h0 q
  · omega
theorem Go.newarray {aty : ArrayType} {n : Int32} (N : Nat) (cap : Nat) (H : Ok Z K own bytes maxL ret nm) (d : decode bytes pc = .ok (.newarray aty, 2)) (hp : pc + 2 = pc') (w : Jvm.Cond.arrayClass (newarray.typeOf aty) ∈ tables_1) (hd : defaultValue (newarray.typeOf aty) = .int 0) (hft : fits (newarray.typeOf aty) (.int 0) = true) (hn : ¬ n < 0) (hN : n.toNatClampNeg = N) (hcap : N ≤ cap) (hb' : cap * 8 ≤ 536870912) (hce : k + 1 ≤ R.cells) (hsl : j + cap ≤ R.slots)
    (r : ∀ a h', a = h.size → n0 ≤ a → Ext h h' → Vec Z h' a (newarray.typeOf aty) (List.replicate N 0) → Go l Z n0 R K Q h' (a :: sf) (k + 1) (j + cap) pc' ls (.ref a :: st)) : Go l Z n0 R K Q h sf k j pc ls (.int n :: st) := by
  subst hp hN
  refine Go.ofNew (P := fun a h' => Vec Z h' a (newarray.typeOf aty) (List.replicate n.toNatClampNeg 0)) H ?_ (fun a h' F => F.lt) r
  intro p e s m args below meth c T locs a0 hw X hx hby hZ hown eT
  obtain ⟨T', h', cA, X', eT', E, A, stp⟩ := newP X hx hZ (hw _ w) eT (g := mkF m pc ls (.int n :: st)) rfl (hb hby d) rfl hn (cap := cap) hcap hb' hce hsl
  refine ⟨T', h', X', eT', E, ⟨_, A, ?_, fun v hv => by rw [List.eq_of_mem_replicate hv]; exact hft⟩, stp⟩
  simp [newA, hd]
theorem Go.new {C : String} {idx n : Nat} (H : Ok Z K own bytes maxL ret nm) (d : decode bytes pc = .ok (.new idx, 3)) (hp : pc + 3 = pc') (w : Jvm.Cond.classLink own idx C ∈ tables_1) (wi : Jvm.Cond.instantiable C n ∈ tables_1) (wz : Jvm.Cond.initialized C ∈ tables_1) (hce : k + 1 ≤ R.cells) (hsl : j + n ≤ R.slots)
    (r : ∀ a h', a = h.size → n0 ≤ a → Ext h h' → Exa Z h' a C → (∀ {O nm d : String} {ty : FieldType}, (Jvm.Cond.lays C O nm d ∈ tables_1 ∨ Jvm.Cond.laysFinal C O nm d ∈ tables_1) → parseFieldDescriptor d = some ty → Fld Z h' a O nm d (defaultValue ty)) → Go l Z n0 R K Q h' (a :: sf) (k + 1) (j + n) pc' ls (.ref a :: st)) : Go l Z n0 R K Q h sf k j pc ls st := by
  subst hp
  refine Go.ofNew (P := fun a h' => Exa Z h' a C ∧ (∀ {O nm d : String} {ty : FieldType}, (Jvm.Cond.lays C O nm d ∈ tables_1 ∨ Jvm.Cond.laysFinal C O nm d ∈ tables_1) → parseFieldDescriptor d = some ty → Fld Z h' a O nm d (defaultValue ty))) H ?_ (fun a h' F => F.1.lt) (fun a h' e1 e2 E hP => r a h' e1 e2 E hP.1 hP.2)
  intro p e s m args below meth c T locs a0 hw X hx hby hZ hown eT
  obtain ⟨T', h', X', eT', E, A, D, -, stp⟩ := newO X hx hZ hown (hw _ w) (hw _ wi) (hw _ wz) eT (g := mkF m pc ls st) rfl (hb hby d) hce hsl
  exact ⟨T', h', X', eT', E, ⟨A, fun L ht => D (L.imp (hw _) (hw _)) ht⟩, stp⟩
theorem Go.putfield {idx kk : Nat} {C O n d' : String} {ty : FieldType} {a : Addr} {x v old : Value} (H : Ok Z K own bytes maxL ret nm) (d : decode bytes pc = .ok (.putfield idx, 3)) (hp : pc + 3 = pc') (w : Jvm.Cond.fieldLink own idx O n d' ∈ tables_1) (F : Fld Z h a O n d' old) (E : Exa Z h a C) (L : Jvm.Cond.lays C O n d' ∈ tables_1 ∨ (Jvm.Cond.laysFinal C O n d' ∈ tables_1 ∧ own = O ∧ nm = "<init>")) (wi : Jvm.Cond.instantiable C kk ∈ tables_1) (hty : parseFieldDescriptor d' = some ty) (hn : narrow ty x = v) (hf : fits ty v = true) (ha : n0 ≤ a) (hs : a ∈ sf)
    (r : ∀ h', Wr h h' a (Jvm.RoadKit.slotOf Z O n d') v → Go l Z n0 R K Q h' sf k j pc' ls st) : Go l Z n0 R K Q h sf k j pc ls (x :: .ref a :: st) := by
  subst hp
  refine Go.ofWr (a := a) (sl := Jvm.RoadKit.slotOf Z O n d') (v := v) H ha hs ?_ r
  intro p e s m args below meth c T locs a0 hw X hx hby hZ hown hnm eT
  exact putFN X hx hZ hown (hw _ w) Via.refl eT F E (L.imp (hw _) (fun q => ⟨hw _ q.1, q.2.1, hnm.trans q.2.2⟩)) (hw _ wi) hty hn hf (g := mkF m pc ls (x :: .ref a :: st)) rfl rfl (hb hby d)
theorem Go.ireturn {x : Int32} {t : FieldType} (v : Int32) (sn : List Addr) (H : Ok Z K own bytes maxL (some t) nm) (d : decode bytes pc = .ok (.ireturn, 1)) (ht : t = .boolean ∨ t = .byte ∨ t = .char ∨ t = .short) (hv : nar t x = v) (hq : Q (some (.int v)) h sn) (hs : ∀ y ∈ sn, y ∈ sf) (hk : k ≤ R.cells) (hj : j ≤ R.slots) : Go l Z n0 R K Q h sf k j pc ls (.int x :: st) := by
  subst hv
  exact Go.ret0 H (v := some (.int (nar t x))) (fun q => nomatch q) hq hs hk hj (fun p e s m args below meth c T locs fs X hx hby hret hl => retN X hx hret ht (hb hby d) hl)
theorem Go.ireturnI {x : Int32} (sn : List Addr) (H : Ok Z K own bytes maxL (some .int) nm) (d : decode bytes pc = .ok (.ireturn, 1)) (hq : Q (some (.int x)) h sn) (hs : ∀ y ∈ sn, y ∈ sf) (hk : k ≤ R.cells) (hj : j ≤ R.slots) : Go l Z n0 R K Q h sf k j pc ls (.int x :: st) := by
  exact Go.ret0 H (v := some (.int x)) (fun q => nomatch q) hq hs hk hj (fun p e s m args below meth c T locs fs X hx hby hret hl => retOut X hx hret rfl (Or.inl ⟨rfl, Or.inl rfl, _, rfl⟩) (hb hby d) hl)
theorem Go.lreturn {x : Int64} (sn : List Addr) (H : Ok Z K own bytes maxL (some .long) nm) (d : decode bytes pc = .ok (.lreturn, 1)) (hq : Q (some (.long x)) h sn) (hs : ∀ y ∈ sn, y ∈ sf) (hk : k ≤ R.cells) (hj : j ≤ R.slots) : Go l Z n0 R K Q h sf k j pc ls (.long x :: st) := by
  exact Go.ret0 H (v := some (.long x)) (fun q => nomatch q) hq hs hk hj (fun p e s m args below meth c T locs fs X hx hby hret hl => retOut X hx hret rfl (Or.inr (Or.inl ⟨rfl, rfl, _, rfl⟩)) (hb hby d) hl)
theorem Go.areturn {x : Value} {t : FieldType} (sn : List Addr) (H : Ok Z K own bytes maxL (some t) nm) (d : decode bytes pc = .ok (.areturn, 1)) (ht : t.isReference = true) (hx : x.isRef = true) (hn : narrow t x = x) (hq : Q (some x) h sn) (hs : ∀ y ∈ sn, y ∈ sf) (hk : k ≤ R.cells) (hj : j ≤ R.slots) : Go l Z n0 R K Q h sf k j pc ls (x :: st) := by
  exact Go.ret0 H (v := some x) (fun q => nomatch q) hq hs hk hj (fun p e s m args below meth c T locs fs X hx' hby hret hl => retOut X hx' hret hn (Or.inr (Or.inr (Or.inr (Or.inr ⟨rfl, ht, hx⟩)))) (hb hby d) hl)
theorem Go.return_ (sn : List Addr) (H : Ok Z K own bytes maxL none nm) (d : decode bytes pc = .ok (.return_, 1)) (hq : Q none h sn) (hs : ∀ y ∈ sn, y ∈ sf) (hk : k ≤ R.cells) (hj : j ≤ R.slots) : Go l Z n0 R K Q h sf k j pc ls [] := by
  exact Go.ret0 H (v := none) (fun _ => rfl) hq hs hk hj (fun p e s m args below meth c T locs fs X hx hby hret hl => X.returnOut hx hret (hb hby d) hl)
theorem own_toarv {Z : State} {h : Heap} {a : Addr} {ty : FieldType} {vs : List Int32} (F : Vec Z h a ty vs) (hn : vs.length < 2 ^ 31) : ∃ kc, Arv Z h a kc ty vs.length.toInt32 (vs.map Value.int) (.int 0) := by
  obtain ⟨c, A, q, hf⟩ := F
  have hs := Vec.size q
  have e : vs.length.toInt32.toNatClampNeg = vs.length := by rw [Int32.toNatClampNeg, len_toInt hn]; simp
  have hg : ∀ i, i < vs.length → (vs.map Value.int).getD i (.int 0) = .int (vs.getD i 0) := fun i hi => by simp [List.getD, hi]
  refine ⟨c.cls, c, A, rfl, by rw [hs, e], by rw [Int32.lt_iff_toInt_lt, len_toInt hn]; simp, fun i hi => ?_, fun i hi => ?_⟩
  · rw [hg i (by omega)]
    exact Vec.get q (by simp [List.getD, show i < vs.length by omega])
  · rw [hg i (by omega)]
    exact hf _ (by have : i < vs.length := by omega
                   simp [List.getD, this])
theorem own_ofarv {Z : State} {h : Heap} {b : Addr} {k : ClassId} {ty : FieldType} {z : Int32} {bs : List Int32} (F : Arv Z h b k ty z (bs.map Value.int) (.int 0)) (hz : z.toNatClampNeg = bs.length) : Vec Z h b ty bs := by
  obtain ⟨c, A, -, S, -, H, G⟩ := F
  refine ⟨c, A, ?_, fun v hv => ?_⟩
  · apply List.ext_getElem?
    intro i
    rw [Array.getElem?_toList]
    by_cases hi : i < c.slots.size
    · have hb : i < bs.length := by omega
      rw [H i hi]; simp [List.getD, hb]
    · rw [Array.getElem?_eq_none (by omega), List.getElem?_eq_none (by simp; omega)]
  · obtain ⟨i, hi, rfl⟩ := List.mem_iff_getElem.mp hv
    have := G i (by omega)
    simpa [List.getD, hi] using this
/-- System.arraycopy between two arrays of one primitive kind; sp, dp, nn: the two places and how many -/
theorem Go.arraycopy {idx : Nat} {a b : Addr} {ty : FieldType} {us vs : List Int32} {sp dp nn : Int32} (S D N : Nat) (H : Ok Z K own bytes maxL ret nm) (d : decode bytes pc = .ok (.invokestatic idx, 3)) (hp : pc + 3 = pc') (w1 : Jvm.Cond.methodLink own idx Jvm.Stand.acN ∈ tables_1) (w2 : Jvm.Cond.native Jvm.Stand.acN ∈ tables_1) (w3 : Jvm.Cond.static Jvm.Stand.acN ∈ tables_1) (w4 : Jvm.Cond.initialized "java/lang/System" ∈ tables_1)
    (A : Vec Z h a ty us) (B : Vec Z h b ty vs) (hu : us.length < 2 ^ 31) (hv : vs.length < 2 ^ 31) (hty : refKind ty = false) (hS : sp.toNatClampNeg = S) (hD : dp.toNatClampNeg = D) (hN : nn.toNatClampNeg = N) (h1 : ¬ sp < 0) (h2 : ¬ dp < 0) (h3 : ¬ nn < 0) (h4 : S + N ≤ us.length) (h5 : D + N ≤ vs.length) (ha : n0 ≤ b) (hs : b ∈ sf) (W : Nat) (hsz : ls.size = maxL) (hW : (st.map fun v => v.category).sum ≤ W) (hf : 1 ≤ R.frames) (hlo : W + (nativeFrameWords "java/lang/System" "arraycopy" 5 + 11) ≤ R.locals)
    (r : ∀ h', Keep h h' [b] → Vec Z h' b ty (vs.take D ++ (us.drop S).take N ++ vs.drop (D + N)) → Go l Z n0 R K Q h' sf k j pc' ls st) : Go l Z n0 R K Q h sf k j pc ls (.int nn :: .int dp :: .ref b :: .int sp :: .ref a :: st) := by
  subst hp hS hD hN
  refine Go.ofKeep (b := b) (P := fun h' => Vec Z h' b ty (vs.take dp.toNatClampNeg ++ (us.drop sp.toNatClampNeg).take nn.toNatClampNeg ++ vs.drop (dp.toNatClampNeg + nn.toNatClampNeg))) H ha hs ?_ r
  intro p e s m args below meth c T locs a0 hw X hx hby hml hZ hown eT hF
  obtain ⟨ka, A'⟩ := own_toarv A hu
  obtain ⟨kb, B'⟩ := own_toarv B hv
  have eu : us.length.toInt32.toNatClampNeg = us.length := by rw [Int32.toNatClampNeg, len_toInt hu]; simp
  have ev : vs.length.toInt32.toNatClampNeg = vs.length := by rw [Int32.toNatClampNeg, len_toInt hv]; simp
  have hus : ((us.drop sp.toNatClampNeg).take nn.toNatClampNeg).map Value.int = (List.range nn.toNatClampNeg).map fun i => (us.map Value.int).getD (sp.toNatClampNeg + i) (.int 0) := by
    apply List.ext_getElem
    · simp; omega
    · intro i g1 g2
      simp only [List.length_map, List.length_take, List.length_drop] at g1
      have g3 : sp.toNatClampNeg + i < us.length := by omega
      simp [List.getD, g3]
  obtain ⟨T', h', L, X', eT', hL, hK, V, stp⟩ := cpA X hx hZ hown (hw _ w1) (hw _ w2) (hw _ w3) (hw _ w4) eT A' B' (Or.inl ⟨rfl, hty⟩) h1 h2 h3 (by rw [eu]; exact h4) (by rw [ev]; exact h5) hus (by simpa using h5) hF ha (g := mkF m pc ls (.int nn :: .int dp :: .ref b :: .int sp :: .ref a :: st)) rfl (by rw [hml]; exact hsz) rfl (hb hby d) hf (W := W) (by show 2 * 0 + _ ≤ _; simpa using hW) hlo
  refine ⟨T', h', L, X', eT', hL, hK, own_ofarv (by rw [List.map_append, List.map_append, List.map_take, List.map_drop]; exact V) ?_, stp⟩
  rw [ev]; simp; omega
end Steps2
/-! numbers and strings -/
theorem own_ins {Z : State} {h : Heap} {a : Addr} {C D : String} (W : Wds Z) (F : Exa Z h a C) (w : Jvm.Cond.castable C D ∈ tables_1) : Ins Z h a D true := by
  obtain ⟨a0, hw⟩ := W.w; exact Ins.of_exa F (hw _ w)
theorem own_sne {Z : State} {C O n d O' n' d' : String} {t t' : FieldType} (W : Wds Z) (L : Jvm.Cond.lays C O n d ∈ tables_1 ∨ Jvm.Cond.laysFinal C O n d ∈ tables_1) (L' : Jvm.Cond.lays C O' n' d' ∈ tables_1 ∨ Jvm.Cond.laysFinal C O' n' d' ∈ tables_1) (hn : n ≠ n') (ht : parseFieldDescriptor d = some t) (ht' : parseFieldDescriptor d' = some t') : Jvm.RoadKit.slotOf Z O n d ≠ Jvm.RoadKit.slotOf Z O' n' d' := by
  obtain ⟨a0, hw⟩ := W.w
  exact slot_ne (a0 := a0) (C := C) (L.imp (hw _) (hw _)) (L'.imp (hw _) (hw _)) hn ht ht'
theorem own_len {n : Nat} (h : n < 2 ^ 31) : n.toInt32.toInt = n := len_toInt h
theorem own_lt {i n : Nat} (hn : n < 2 ^ 31) (h : i < n) : i.toInt32 < n.toInt32 := by
  rw [Int32.lt_iff_toInt_lt, own_len hn, own_len (by omega)]; omega
theorem own_nlt {i n : Nat} (hi : i < 2 ^ 31) (h : n ≤ i) : ¬ i.toInt32 < n.toInt32 := by
  rw [Int32.lt_iff_toInt_lt, own_len hi, own_len (by omega)]; omega
theorem own_n0 {i : Nat} (h : i < 2 ^ 31) : ¬ i.toInt32 < 0 := by
  rw [Int32.lt_iff_toInt_lt, own_len h]; simp
theorem own_cl {i : Nat} (h : i < 2 ^ 31) : i.toInt32.toNatClampNeg = i := by
  rw [Int32.toNatClampNeg, own_len h]; simp
theorem own_s (i : Nat) : i.toInt32 + 1 = (i + 1).toInt32 := (Int32.ofNat_add i 1).symm
theorem own_ne0 {n : Nat} (hn : n < 2 ^ 31) (h : 0 < n) : ¬ n.toInt32 = 0 := fun e => by
  have := congrArg Int32.toInt e; rw [own_len hn] at this; simp at this; omega
def isL (c : Int32) : Prop := 0 ≤ c.toInt ∧ c.toInt ≤ 255
def isC (c : Int32) : Prop := 0 ≤ c.toInt ∧ c.toInt ≤ 65535
theorem isL.c {c : Int32} (h : isL c) : isC c := ⟨h.1, by have := h.2; omega⟩
theorem own_char {x : Int32} (h : isC x) : nar .char x = x := Int32.toInt_inj.mp (by have := c_i2c x; obtain ⟨h1, h2⟩ := h; simp only [nar]; omega)
theorem own_isC (x : Int32) : isC (nar .char x) := by have := c_i2c x; simp only [nar]; exact ⟨this.2.1, by omega⟩
theorem own_nn {x : Int32} : nar .char (nar .char x) = nar .char x := own_char (own_isC x)
theorem own_nb {x : Int32} : nar .byte (nar .byte x) = nar .byte x := by
  have h1 := c_i2b x
  have h2 := c_i2b (nar .byte x)
  simp only [nar] at *
  exact Int32.toInt_inj.mp (by omega)
theorem own_back {c : Int32} (h : isL c) : nar .char (nar .byte c &&& 255) = c := by
  have h1 := c_i2b c
  have h2 := c_mask (nar .byte c) 255 8 (by decide) (by decide)
  have h3 := c_i2c (nar .byte c &&& 255)
  obtain ⟨g1, g2⟩ := h
  simp only [nar] at *
  exact Int32.toInt_inj.mp (by omega)
theorem own_le255 {c : Int32} (h : isL c) : ¬ (255 : Int32) < c := by
  rw [Int32.lt_iff_toInt_lt]; have := h.2; simp only [Int32.reduceToInt]; omega
theorem own_cat {f : Value} (h : f.isRef = true) : f.category = 1 := by rcases ref_cases h with rfl | ⟨a, rfl⟩ <;> rfl
theorem own_ext {h h' : Heap} (K : Keep h h' []) : Ext h h' := ⟨K.1, fun a c q => K.2.1 a c q nin0⟩
theorem own_keep {h h' : Heap} {ws : List Addr} (E : Ext h h') : Keep h h' ws := (Keep.refl _ _).ext E
theorem Exa.ltb {Z : State} {h : Heap} {a : Addr} {C : String} (F : Exa Z h a C) : a < h.size := F.lt
/-- a Latin-1 String x whose bytes lie at b -/
def Str (Z : State) (h : Heap) (x b : Addr) (cs : List Int32) : Prop := Exa Z h x "java/lang/String" ∧ Fld Z h x "java/lang/String" "value" "[B" (.ref b) ∧ Fld Z h x "java/lang/String" "coder" "B" (.int 0) ∧ Vec Z h b .byte (cs.map (nar .byte)) ∧ (∀ c ∈ cs, isL c) ∧ cs.length < 2 ^ 31
section StrF
variable {Z : State} {h h' : Heap} {x b : Addr} {cs : List Int32} {ws : List Addr}
theorem Str.lt (F : Str Z h x b cs) : x < h.size := F.1.lt
theorem Str.ltb (F : Str Z h x b cs) : b < h.size := F.2.2.2.1.lt
theorem Str.ext (F : Str Z h x b cs) (E : Ext h h') : Str Z h' x b cs := ⟨F.1.ext E, F.2.1.ext E, F.2.2.1.ext E, F.2.2.2.1.ext E, F.2.2.2.2⟩
theorem Str.keep (F : Str Z h x b cs) (K : Keep h h' ws) (q : x ∉ ws) (q' : b ∉ ws) : Str Z h' x b cs := ⟨F.1.keep K, F.2.1.keep K q, F.2.2.1.keep K q, F.2.2.2.1.keep K q', F.2.2.2.2⟩
end StrF
theorem own_and255 (y : Int32) : isL (nar .char (y &&& 255)) := by
  have h1 := c_and y 255 (by decide)
  have h2 : (255 : Int32).toInt = 255 := by decide
  have h3 : nar .char (y &&& 255) = y &&& 255 := own_char ⟨h1.1, by omega⟩
  rw [h3]; exact ⟨h1.1, by omega⟩
theorem own_an {P : Int32 → Prop} : ∀ c ∈ ([] : List Int32), P c := fun _ q => nomatch q
theorem own_ac {P : Int32 → Prop} {a : Int32} {t : List Int32} (h : P a) (r : ∀ c ∈ t, P c) : ∀ c ∈ a :: t, P c := fun c q => by
  rcases List.mem_cons.mp q with rfl | q
  · exact h
  · exact r c q
theorem own_narR {t : FieldType} {v : Value} (h : v.isRef = true) : narrow t v = v := by rcases ref_cases h with rfl | ⟨a, rfl⟩ <;> cases t <;> rfl
theorem own_fitR {t : FieldType} {v : Value} (h : v.isRef = true) (ht : t.isReference = true) : fits t v = true := by rcases ref_cases h with rfl | ⟨a, rfl⟩ <;> cases t <;> first | rfl | (cases ht)
theorem Fld.det {Z : State} {h : Heap} {a : Addr} {C n d : String} {v w : Value} (F : Fld Z h a C n d v) (G : Fld Z h a C n d w) : v = w := Decidable.byContradiction fun q => (F.ne G q) rfl
theorem Vec.det {Z : State} {h : Heap} {a : Addr} {ty ty' : FieldType} {vs ws : List Int32} (F : Vec Z h a ty vs) (G : Vec Z h a ty' ws) : vs = ws := by
  obtain ⟨c, A, q, -⟩ := F
  obtain ⟨c', A', q', -⟩ := G
  cases A.1.symm.trans A'.1
  have e := q.symm.trans q'
  exact (List.map_inj_right (fun a b e => by cases e; rfl)).mp e
theorem own_inj {c d : Int32} (h : isL c) (g : isL d) (e : nar .byte c = nar .byte d) : c = d := by rw [← own_back h, ← own_back g, e]
theorem own_mapinj : ∀ {cs ds : List Int32}, (∀ c ∈ cs, isL c) → (∀ d ∈ ds, isL d) → cs.map (nar .byte) = ds.map (nar .byte) → cs = ds
  | [], [], _, _, _ => rfl
  | [], _ :: _, _, _, e => by cases e
  | _ :: _, [], _, _, e => by cases e
  | c :: cs, d :: ds, h, g, e => by
    simp only [List.map_cons, List.cons.injEq] at e
    rw [own_inj (h c (by simp)) (g d (by simp)) e.1, own_mapinj (fun c q => h c (by simp [q])) (fun c q => g c (by simp [q])) e.2]
theorem Str.det {Z : State} {h : Heap} {x b b' : Addr} {cs ds : List Int32} (F : Str Z h x b cs) (G : Str Z h x b' ds) : cs = ds := by
  have e := Fld.det F.2.1 G.2.1
  cases e
  exact own_mapinj F.2.2.2.2.1 G.2.2.2.2.1 (F.2.2.2.1.det G.2.2.2.1)
theorem own_ofinj {i n : Nat} (hi : i < 2 ^ 31) (hn : n < 2 ^ 31) (e : i.toInt32 = n.toInt32) : i = n := by
  have := congrArg Int32.toInt e; rw [own_len hi, own_len hn] at this; omega
theorem Go.ldcS {l : Launch} {Z : State} {n0 : Nat} {R : Room} {K : Cx} {Q : Option Value → Heap → List Addr → Prop} {h : Heap} {sf : List Addr} {k j pc pc' : Nat} {ls : Array Slot} {st : List Value} {own : String} {bytes : ByteArray} {maxL : Nat} {ret : Option FieldType} {nm : String} {idx : Nat} {text : String} (cs : List Int32) (zl : Int32) (n : Nat)
    (H : Ok Z K own bytes maxL ret nm) (d : decode bytes pc = .ok (.ldc idx, 2)) (hp : pc + 2 = pc') (w : Jvm.Cond.stringLink own idx text ∈ tables_1) (hm : (own, idx) ∈ consts_1) (ht : (∀ c ∈ text.toList, c.toNat < 256) ∧ text.toList.map (fun c => Value.int (Jvm.Lit.byteI c.toNat.toUInt16)) = (cs.map (nar .byte)).map Value.int) (hL : ∀ c ∈ cs, isL c) (hz : ¬ zl < 0) (hl : zl.toNatClampNeg = cs.length) (hn : 4 * text.toList.length ≤ n) (hbig : n ≤ 536870912) (hc : k + 2 ≤ R.cells) (hsl : j + (n + 4) ≤ R.slots)
    (r : ∀ a b h', Ext h h' → Str Z h' a b cs → (∀ x ∈ sf, x ≠ a ∧ x ≠ b) → Go l Z n0 R K Q h' sf (k + 2) (j + (n + 4)) pc' ls (.ref a :: st)) : Go l Z n0 R K Q h sf k j pc ls st := by
  subst hp
  obtain ⟨p, e, s, m, args, below, meth, c⟩ := K
  intro vm0 k0 T locs X eT hS hk hC hSf hF hO
  obtain ⟨H1, H2, H3, H4, H5, H6, H7, H8, a0, hw, hEL, hat⟩ := H
  have hZ0 : Z.Warmed39 vm0 := State.Warmed39.trans H6 hS.1
  have hown0 : vm0.findClass own = some m.cls := (hS.1.alike.findClass _ _).trans H5
  obtain ⟨a, T', h', k1, b, kc, X', eT', E, hS', hk', hZ', hown', A, Fc, Fv, V, la, lb, hC', -, hne, stp⟩ := ldcCH X H1 hZ0 hown0 (hw _ w) hat eT hS hk hEL hm hC.1 (vs := (cs.map (nar .byte)).map Value.int) (z := zl) ht hz (by simp [hl]) (g := mkF m pc ls st) rfl (hb H2 d) hn hbig hc hsl
  have hS2 := hSf.chr hC'
  have hlen := (back32 hz).2
  obtain ⟨s₂, o, h1, h2⟩ := r a b h' E ⟨A, Fv, Fc, own_ofarv V (by simp [hl]), hL, by omega⟩ (fun x hx => hne x (hS2 x hx).2) T'.vm k1 T' locs X' eT' hS' hk' (hC.trans hC') hS2 hF (hO.ext E)
  exact ⟨s₂, o, stp _ h1, h2⟩
section StepsY
variable {l : Launch} {Z : State} {n0 : Nat} {R : Room} {K : Cx} {Q : Option Value → Heap → List Addr → Prop} {h : Heap} {sf : List Addr} {k j pc pc' : Nat} {ls ls' : Array Slot} {st : List Value} {own : String} {bytes : ByteArray} {maxL : Nat} {ret : Option FieldType} {nm : String}
theorem own_nfs {s : State} {args : Array Value} {C : String} {y y' : MethodName} (hc : y'.cls = y.cls) (w : (Jvm.Cond.selects C y' y').before args s = true) (wi : (Jvm.Cond.instanceMethod y').before args s = true) : NotFace s y := fun r0 h0 => by
  obtain ⟨mk, methM, hnamed, -⟩ := Cond.instanceMethod_spec wi
  obtain ⟨kr, h1, h2⟩ := notFace_of_selects w mk hnamed
  have e1 := findClass_of_methodNamed hnamed
  have e2 := findClass_of_methodNamed h0
  rw [hc] at e1
  have e3 : mk.cls = r0.cls := Option.some.inj (e1.symm.trans e2)
  exact ⟨kr, e3 ▸ h1, h2⟩
theorem own_same {s : State} {args : Array Value} {C : String} {y y' : MethodName} (hc : y'.cls = y.cls) (w : (Jvm.Cond.selects C y' y').before args s = true) (wi : (Jvm.Cond.instanceMethod y').before args s = true) (wy : (Jvm.Cond.instanceMethod y).before args s = true) (hy : y.cls ≠ "java/lang/invoke/MethodHandle" ∧ y.cls ≠ "java/lang/invoke/VarHandle") : (Jvm.Cond.sameMethod y.cls y.cls y.name y.desc).before args s = true := by
  obtain ⟨mk, methM, hnamed, -⟩ := Cond.instanceMethod_spec wy
  have hfound := State.methodFound?_of_named hnamed hy
  have hcl := findClass_of_methodNamed hnamed
  obtain ⟨kr, h1, h2⟩ := own_nfs hc w wi mk hnamed
  have hn' : s.methodNamed? ⟨y.cls, y.name, y.desc⟩ = some mk := hnamed
  simp only [Cond.before, Cond.holds, Cond.value, hcl, hfound, hn', h1]
  simp [h2]
theorem Go.callU {y y' : MethodName} {C' : String} {C : String} {ybytes : ByteArray} {ymaxL : Nat} {yret : Option FieldType} {rm : Room} {Qc : Option Value → Heap → List Addr → Prop} {sfc : List Addr} {rest : List Value} (W : Nat) {idx : Nat} {a : Addr} (argsL : List Value) {ps : List FieldType} {rt : Option FieldType} (H : Ok Z K own bytes maxL ret nm) (d : decode bytes pc = .ok (.invokespecial idx, 3)) (hp : pc + 3 = pc') (E : Exa Z h a C) (hn : y.name ≠ "<init>")
    (hl : Jvm.Cond.methodLink own idx y ∈ tables_1) (hnf : y'.cls = y.cls ∧ Jvm.Cond.selects C' y' y' ∈ tables_1 ∧ Jvm.Cond.instanceMethod y' ∈ tables_1) (hsu : Jvm.Cond.superclass own y.cls ∈ tables_1) (hst : Jvm.Cond.instanceMethod y ∈ tables_1) (hi : Jvm.Cond.initialized y.cls ∈ tables_1) (hc : Jvm.Cond.code y ybytes ymaxL yret ∈ tables_1) (hpd : parseMethodDescriptor y.desc = some ⟨ps, rt⟩)
    (ct : Ctr l Z n0 y ybytes ymaxL yret rm (.ref a :: argsL).toArray h sfc Qc) (hsf : ∀ x ∈ sfc, x ∈ sf) (hlen : argsL.length = ps.length) (hsz : ls.size = maxL) (hstk : st = argsL.reverse ++ .ref a :: rest) (hW : (rest.map fun v => v.category).sum ≤ W)
    (hfr : rm.frames + 1 ≤ R.frames) (hlo : W + (ymaxL + 11) + rm.locals ≤ R.locals) (hce : k + rm.cells ≤ R.cells) (hsl : j + rm.slots ≤ R.slots) (hy : y.cls ≠ "java/lang/invoke/MethodHandle" ∧ y.cls ≠ "java/lang/invoke/VarHandle")
    (r : ∀ (v : Option Value) (h' : Heap) (sn : List Addr), Qc v h' sn → Go l Z n0 R K Q h' (sn ++ sf) (k + rm.cells) (j + rm.slots) pc' ls (v.toList ++ rest)) : Go l Z n0 R K Q h sf k j pc ls st := by
  subst hp
  refine Go.ofCall (W := W) (rest := rest) H ct hsf hc hi hfr hlo hce hsl ?_ r
  intro p e s m args below meth c T locs a0 hw X hx hby hml hZ hown eT Pre Post hB hpre
  obtain ⟨v, vm₁, B, -, X', hS2, hgr, hpost, stp⟩ := Jvm.RoadKit.superBackS X hx hZ (y := y) hown (hw _ hl) (own_same hnf.1 (hw _ hnf.2.1) (hw _ hnf.2.2) (hw _ hst) hy) (hw _ hst) (hw _ hsu) hn hB eT (Ins.self E) (g := mkF m pc ls st) rfl (by rw [hml]; exact hsz) (hw _ hc) (argsL := argsL) (rest := rest) (lenOf hpd hlen) hstk (by show 2 * 0 + _ ≤ _; simpa using hW) (hb hby d) hpre
  exact ⟨v, vm₁, B, X', hS2, hgr, hpost, fun t ht => stp.trans ht⟩
theorem Go.callV2 {y z y' : MethodName} {C C' : String} {ybytes : ByteArray} {ymaxL : Nat} {yret : Option FieldType} {rm : Room} {Qc : Option Value → Heap → List Addr → Prop} {sfc : List Addr} {rest : List Value} (W : Nat) {idx : Nat} {a : Addr} (argsL : List Value) {ps : List FieldType} {rt : Option FieldType} (H : Ok Z K own bytes maxL ret nm) (d : decode bytes pc = .ok (.invokevirtual idx, 3)) (hp : pc + 3 = pc') (E : Exa Z h a C)
    (hl : Jvm.Cond.methodLink own idx y ∈ tables_1) (hde : Jvm.Cond.declares y ∈ tables_1) (hnf : y'.cls = y.cls ∧ Jvm.Cond.selects C' y' y' ∈ tables_1 ∧ Jvm.Cond.instanceMethod y' ∈ tables_1) (hse : Jvm.Cond.selects C y z ∈ tables_1) (hst : Jvm.Cond.instanceMethod z ∈ tables_1) (hi : Jvm.Cond.initialized z.cls ∈ tables_1) (hc : Jvm.Cond.code z ybytes ymaxL yret ∈ tables_1) (hpd : parseMethodDescriptor y.desc = some ⟨ps, rt⟩)
    (ct : Ctr l Z n0 z ybytes ymaxL yret rm (.ref a :: argsL).toArray h sfc Qc) (hsf : ∀ x ∈ sfc, x ∈ sf) (hlen : argsL.length = ps.length) (hsz : ls.size = maxL) (hstk : st = argsL.reverse ++ .ref a :: rest) (hW : (rest.map fun v => v.category).sum ≤ W)
    (hfr : rm.frames + 1 ≤ R.frames) (hlo : W + (ymaxL + 11) + rm.locals ≤ R.locals) (hce : k + rm.cells ≤ R.cells) (hsl : j + rm.slots ≤ R.slots) (hy : y.cls ≠ "java/lang/invoke/MethodHandle" ∧ y.cls ≠ "java/lang/invoke/VarHandle")
    (r : ∀ (v : Option Value) (h' : Heap) (sn : List Addr), Qc v h' sn → Go l Z n0 R K Q h' (sn ++ sf) (k + rm.cells) (j + rm.slots) pc' ls (v.toList ++ rest)) : Go l Z n0 R K Q h sf k j pc ls st := by
  subst hp
  refine Go.ofCall (W := W) (rest := rest) H ct hsf hc hi hfr hlo hce hsl ?_ r
  intro p e s m args below meth c T locs a0 hw X hx hby hml hZ hown eT Pre Post hB hpre
  obtain ⟨cq, kq, qa, qb, qc⟩ := isOf hZ eT E
  obtain ⟨v, vm₁, B, -, X', hS2, hgr, hpost, stp⟩ := X.virtualBackS hx (y := y) (z := z) hown (mvT hZ (hw _ hl)) (mvT hZ (hw _ hde)) (own_nfs (args := #[]) hnf.1 (mvT hZ (hw _ hnf.2.1)) (mvT hZ (hw _ hnf.2.2))) (mvT hZ (hw _ hse)) (mvT hZ (hw _ hst)) hy hB qa qc (g := mkF m pc ls st) rfl (by rw [hml]; exact hsz) (Steps.refl _) (argsL := argsL) (rest := rest) (lenOf hpd hlen) hstk (by show 2 * 0 + _ ≤ _; simpa using hW) (hb hby d) hpre
  exact ⟨v, vm₁, B, X', hS2, hgr, hpost, fun t ht => stp.trans ht⟩
theorem Go.callP {y : MethodName} {C : String} {ybytes : ByteArray} {ymaxL : Nat} {yret : Option FieldType} {rm : Room} {Qc : Option Value → Heap → List Addr → Prop} {sfc : List Addr} {rest : List Value} (W : Nat) {idx : Nat} {a : Addr} (argsL : List Value) {ps : List FieldType} {rt : Option FieldType} (H : Ok Z K own bytes maxL ret nm) (d : decode bytes pc = .ok (.invokevirtual idx, 3)) (hp : pc + 3 = pc') (E : Exa Z h a C)
    (hl : Jvm.Cond.methodLink own idx y ∈ tables_1) (hpr : Jvm.Cond.privateMethod y ∈ tables_1) (hse : Jvm.Cond.selects C y y ∈ tables_1) (hst : Jvm.Cond.instanceMethod y ∈ tables_1) (hi : Jvm.Cond.initialized y.cls ∈ tables_1) (hc : Jvm.Cond.code y ybytes ymaxL yret ∈ tables_1) (hpd : parseMethodDescriptor y.desc = some ⟨ps, rt⟩)
    (ct : Ctr l Z n0 y ybytes ymaxL yret rm (.ref a :: argsL).toArray h sfc Qc) (hsf : ∀ x ∈ sfc, x ∈ sf) (hlen : argsL.length = ps.length) (hsz : ls.size = maxL) (hstk : st = argsL.reverse ++ .ref a :: rest) (hW : (rest.map fun v => v.category).sum ≤ W)
    (hfr : rm.frames + 1 ≤ R.frames) (hlo : W + (ymaxL + 11) + rm.locals ≤ R.locals) (hce : k + rm.cells ≤ R.cells) (hsl : j + rm.slots ≤ R.slots) (hy : y.cls ≠ "java/lang/invoke/MethodHandle" ∧ y.cls ≠ "java/lang/invoke/VarHandle")
    (r : ∀ (v : Option Value) (h' : Heap) (sn : List Addr), Qc v h' sn → Go l Z n0 R K Q h' (sn ++ sf) (k + rm.cells) (j + rm.slots) pc' ls (v.toList ++ rest)) : Go l Z n0 R K Q h sf k j pc ls st := by
  subst hp
  refine Go.ofCall (W := W) (rest := rest) H ct hsf hc hi hfr hlo hce hsl ?_ r
  intro p e s m args below meth c T locs a0 hw X hx hby hml hZ hown eT Pre Post hB hpre
  obtain ⟨cell, kq, q1, q2, q3, q4, -⟩ := E
  have hin : (Jvm.Cond.instanceMethod y).before args s = true := mvT hZ (hw _ hst)
  have hP : s.PrivateAt y := Cond.privateMethod_at (mvP (args := args) hZ (hw _ hpr))
  obtain ⟨mk, methM, hnamed, -⟩ := Cond.instanceMethod_spec hin
  obtain ⟨kr, n1, n2⟩ := notFace_of_selects (args := args) (mvT hZ (hw _ hse)) mk hnamed
  have hsel : (Jvm.Cond.selects y.cls y y).before args s = true := Jvm.Stand.selects_self_of_private (findClass_of_methodNamed hnamed) n1 n2 hP hin hy
  obtain ⟨v, vm₁, B, -, X', hS2, hgr, hpost, stp⟩ := X.privateBackS hx (y := y) hown (mvT hZ (hw _ hl)) hin hsel hP (mvT hZ (hw _ hc)) hy hB (g := mkF m pc ls st) rfl (by rw [hml]; exact hsz) (Steps.refl _) (a := a) (by rw [eT]; exact q1) (fun q e => by rw [e] at q4; cases q4) (argsL := argsL) (rest := rest) (lenOf hpd hlen) hstk (by show 2 * 0 + _ ≤ _; simpa using hW) (hb hby d) hpre
  exact ⟨v, vm₁, B, X', hS2, hgr, hpost, fun t ht => stp.trans ht⟩
end StepsY
section OldF
theorem Go.withOld {l : Launch} {Z : State} {n0 : Nat} {R : Room} {K : Cx} {Q : Option Value → Heap → List Addr → Prop} {h : Heap} {sf : List Addr} {k j pc : Nat} {ls : Array Slot} {st : List Value} (r : Ext Z.heap h → Go l Z n0 R K Q h sf k j pc ls st) : Go l Z n0 R K Q h sf k j pc ls st := by
  obtain ⟨p, e, s, m, args, below, meth, c⟩ := K
  intro vm0 k0 T locs X eT hS hk hC hSf hF hO
  exact r hO.2 vm0 k0 T locs X eT hS hk hC hSf hF hO
theorem own_eqw {args : Array Value} {first s : State} {o : Option Outcome} {idx : List Nat} {a : Term} {n : Int32} (h : (Jvm.Cond.eq a (.int n)).value args first o s idx = some true) : a.eval args first o idx s = some (.int n) := by
  cases ha : a.eval args first o idx s with
  | none => simp [Cond.value, ha] at h
  | some x => cases x <;> simp [Cond.value, Term.eval, ha] at h ⊢ <;> exact h
theorem own_el {args : Array Value} {first s : State} {o : Option Outcome} {idx : List Nat} {t : Term} {x : Addr} {c : Cell} {k v : Int32} (i : Nat) (ht : t.eval args first o idx s = some (.ref x)) (hc : s.heap[x]? = some c) (hi : k.toNatClampNeg = i) (h : (Jvm.Cond.eq (.elem t (.int k)) (.int v)).value args first o s idx = some true) : c.slots[i]? = some (.int v) := by
  subst hi; exact (elem_in (own_eqw h) ht (Term.int_eval k) hc).2
theorem own_oldvec {Z : State} {args : Array Value} {t : Term} {vs : List Int32} {N : Int32} (hf : Fit Z) (hA : (Jvm.Cond.arrayOf t .byte).value args Z none Z [] = some true) (hl : (Jvm.Cond.eq (.length t) (.int N)).value args Z none Z [] = some true) (hz : ¬ N < 0) (hN : N.toNatClampNeg = vs.length)
    (hE : ∀ (c : Cell) (x : Addr), t.eval args Z none [] Z = some (.ref x) → Z.heap[x]? = some c → HasL c 0 (vs.map Value.int)) : ∃ b, t.eval args Z none [] Z = some (.ref b) ∧ Vec Z Z.heap b .byte vs := by
  obtain ⟨b, eb⟩ := arr_v hA
  obtain ⟨c, A⟩ := Arr.start eb hA
  have el := own_eqw hl
  have ha : Z.arrayAt? b = some c := A.fin (Vm.Alike.refl _)
  by_cases q : c.slots.size < 2 ^ 31
  · have e4 : c.slots.size.toInt32 = N := Value.int.inj (Option.some.inj ((len_f eb ha q).symm.trans el))
    exact ⟨b, eb, own_ofarv (Arv.start (dv := .int 0) hf A q e4 hz (by simpa using hN) (hE _ _ eb A.1)) hN⟩
  · simp [Term.eval, eb, ha, q] at el
theorem own_oldstr {Z : State} {args : Array Value} {t : Term} {vs cs : List Int32} {N : Int32} (hf : Fit Z) (hx : (Jvm.Cond.exactly t "java/lang/String").value args Z none Z [] = some true) (hc : (Jvm.Cond.eq (.field t "java/lang/String" "coder" "B") (.int 0)).value args Z none Z [] = some true) (hA : (Jvm.Cond.arrayOf (.field t "java/lang/String" "value" "[B") .byte).value args Z none Z [] = some true) (hl : (Jvm.Cond.eq (.length (.field t "java/lang/String" "value" "[B")) (.int N)).value args Z none Z [] = some true) (hz : ¬ N < 0) (hN : N.toNatClampNeg = vs.length)
    (hE : ∀ (c : Cell) (x : Addr), (Term.field t "java/lang/String" "value" "[B").eval args Z none [] Z = some (.ref x) → Z.heap[x]? = some c → HasL c 0 (vs.map Value.int)) (hv : cs.map (nar .byte) = vs) (hL : ∀ c ∈ cs, isL c) (hn : cs.length < 2 ^ 31) : ∃ x b, t.eval args Z none [] Z = some (.ref x) ∧ Str Z Z.heap x b cs := by
  obtain ⟨x, ex⟩ := exa_v hx
  obtain ⟨b, eb, V⟩ := own_oldvec hf hA hl hz hN hE
  exact ⟨x, b, ex, Exa.start ex hx, Fld.start ((fld_at ex).symm.trans eb), Fld.start ((fld_at ex).symm.trans (own_eqw hc)), by rw [hv]; exact V, hL, hn⟩
theorem own_readyW {Z : State} {vm : Vm} {d idx cf : Nat} {f : Field} (hW : Z.Warmed39 vm) (hr : Z.vm.fieldReady d idx cf f) : vm.fieldReady d idx cf f := by
  obtain ⟨k, i, kc, h1, h2, h3, h4⟩ := hr
  obtain ⟨k', g1, -, -, g4, -⟩ := hW.2.2.2 d k h1
  obtain ⟨kc', c1, c2, -⟩ := hW.2.2.2 cf kc h3
  refine ⟨k', i, kc', g1, ?_, c1, ?_⟩
  · rcases g4 idx with q | ⟨q, -⟩
    · rw [q]; exact h2
    · rw [h2] at q; cases q
  · rw [c2]; exact h4
theorem Go.getfieldR {l : Launch} {Z : State} {n0 : Nat} {R : Room} {K : Cx} {Q : Option Value → Heap → List Addr → Prop} {h : Heap} {sf : List Addr} {k j pc pc' : Nat} {ls : Array Slot} {st : List Value} {own : String} {bytes : ByteArray} {maxL : Nat} {ret : Option FieldType} {nm : String} {idx : Nat} {O n d' : String} {a : Addr} {v : Value} (H : Ok Z K own bytes maxL ret nm) (d : decode bytes pc = .ok (.getfield idx, 3)) (hp : pc + 3 = pc') (w : Jvm.Cond.fieldRef own idx O n d' ∈ tables_1) (F : Fld Z h a O n d' v) (r : Go l Z n0 R K Q h sf k j pc' ls (v :: st)) : Go l Z n0 R K Q h sf k j pc ls (.ref a :: st) := by
  subst hp
  refine Go.of2 H ?_ r
  intro p e s m args below meth c T locs a0 hw X hx hby hml hZ hown eT hO
  have hZT : Z.Warmed39 T.vm := wtrans hZ X.warmed
  have hownZ : Z.vm.findClass own = some m.cls := (hZ.alike.findClass _ _).symm.trans hown
  obtain ⟨cf, k', i', f', hi, hready0⟩ := Cond.fieldRef_spec hownZ (hw _ w)
  have hready := own_readyW hZT hready0
  obtain ⟨cell, cf0, k0, i, f, h1, h2, h3, h4, -, -, h7⟩ := F
  cases hi.symm.trans h2
  refine ⟨T, X, eT, fun target hrest => ?_⟩
  have hd := hb hby d
  have hc : T.heap[a]? = some cell := by rw [eT]; exact h1
  show Steps p.tables e below (T.setTop { method := m, pc := pc, locals := ls, stack := .ref a :: st, locked := none }) _
  jvm_step X.here [hx, hd, getfield.wp_ready (e := e) (s := T) (f := { method := m, pc := pc, locals := ls, stack := .ref a :: st, locked := none }) X.here.top hready h3 rfl hc h4 h7]
  exact hrest
end OldF
def Sx0 (Z : State) (z : Int32) (f : Value) : Prop := Wds Z ∧ ¬ z = 0 ∧ Sta Z Z.heap "java/lang/String" "COMPACT_STRINGS" "Z" (.int z) ∧ f.isRef = true ∧ Sta Z Z.heap "jdk/internal/util/Preconditions" "SIOOBE_FORMATTER" "Ljava/util/function/BiFunction;" f
def Sx (Z : State) (z : Int32) (f : Value) (pA pB sA sB bA bB : Addr) : Prop := Sx0 Z z f ∧ Sta Z Z.heap "com/example/steady_rollout/steadyrollout/DeviceTopics$Push" "NOTIFY" "Lcom/example/steady_rollout/steadyrollout/DeviceTopics$Push;" (.ref pA) ∧ Sta Z Z.heap "com/example/steady_rollout/steadyrollout/DeviceTopics$Push" "NOTIFY_NEXT" "Lcom/example/steady_rollout/steadyrollout/DeviceTopics$Push;" (.ref pB) ∧ Fld Z Z.heap pA "com/example/steady_rollout/steadyrollout/DeviceTopics$Push" "level" "Ljava/lang/String;" (.ref sA) ∧ Str Z Z.heap sA bA [(110 : Int32), (111 : Int32), (116 : Int32), (105 : Int32), (102 : Int32), (121 : Int32)] ∧ Fld Z Z.heap pB "com/example/steady_rollout/steadyrollout/DeviceTopics$Push" "level" "Ljava/lang/String;" (.ref sB) ∧ Str Z Z.heap sB bB [(110 : Int32), (111 : Int32), (116 : Int32), (105 : Int32), (102 : Int32), (121 : Int32), (45 : Int32), (110 : Int32), (101 : Int32), (120 : Int32), (116 : Int32)]
theorem d5_3 : decode jdk_52_method_21_code 3 = .ok (.iload 5, 2) := by decide +kernel
theorem d5_5 : decode jdk_52_method_21_code 5 = .ok (.iload 4, 2) := by decide +kernel
theorem d5_7 : decode jdk_52_method_21_code 7 = .ok (.if_icmp .ge 37, 3) := by decide +kernel
theorem d5_44 : decode jdk_52_method_21_code 44 = .ok (.iload 4, 2) := by decide +kernel
theorem d5_46 : decode jdk_52_method_21_code 46 = .ok (.ireturn, 1) := by decide +kernel
theorem d5_10 : decode jdk_52_method_21_code 10 = .ok (.aload_n 0, 1) := by decide +kernel
theorem d5_11 : decode jdk_52_method_21_code 11 = .ok (.iload_n 1, 1) := by decide +kernel
theorem d5_12 : decode jdk_52_method_21_code 12 = .ok (.caload, 1) := by decide +kernel
theorem d5_13 : decode jdk_52_method_21_code 13 = .ok (.istore 6, 2) := by decide +kernel
theorem d5_15 : decode jdk_52_method_21_code 15 = .ok (.iload 6, 2) := by decide +kernel
theorem d5_17 : decode jdk_52_method_21_code 17 = .ok (.sipush 255, 3) := by decide +kernel
theorem d5_20 : decode jdk_52_method_21_code 20 = .ok (.if_icmp .le 6, 3) := by decide +kernel
theorem d5_26 : decode jdk_52_method_21_code 26 = .ok (.aload_n 2, 1) := by decide +kernel
theorem d5_27 : decode jdk_52_method_21_code 27 = .ok (.iload_n 3, 1) := by decide +kernel
theorem d5_28 : decode jdk_52_method_21_code 28 = .ok (.iload 6, 2) := by decide +kernel
theorem d5_30 : decode jdk_52_method_21_code 30 = .ok (.i2b, 1) := by decide +kernel
theorem d5_31 : decode jdk_52_method_21_code 31 = .ok (.bastore, 1) := by decide +kernel
theorem d5_32 : decode jdk_52_method_21_code 32 = .ok (.iinc 1 1, 3) := by decide +kernel
theorem d5_35 : decode jdk_52_method_21_code 35 = .ok (.iinc 3 1, 3) := by decide +kernel
theorem d5_38 : decode jdk_52_method_21_code 38 = .ok (.iinc 5 1, 3) := by decide +kernel
theorem d5_41 : decode jdk_52_method_21_code 41 = .ok (.goto (-38), 3) := by decide +kernel
abbrev N0 : MethodName := ⟨"java/lang/StringUTF16", "compress", "([CI[BII)I"⟩

theorem own_full {Z : State} {h : Heap} {d : Addr} {cs : List Int32} {i : Nat} (e : i = cs.length) (F : Vec Z h d .byte ((cs.take i).map (nar .byte) ++ List.replicate 0 0)) : Vec Z h d .byte (cs.map (nar .byte)) := by
  subst e; simpa using F
theorem own_fill {cs : List Int32} {g : Int32 → Int32} {i m : Nat} {c : Int32} (hc : cs[i]? = some c) : ((cs.take i).map g ++ List.replicate (m + 1) 0).set i (g c) = (cs.take (i + 1)).map g ++ List.replicate m 0 := by
  have hl : i < cs.length := (List.getElem?_eq_some_iff.mp hc).1
  have h1 : ((cs.take i).map g).length = i := by simp; omega
  rw [List.set_append_right _ _ (by omega), h1, Nat.sub_self, List.replicate_succ, List.set_cons_zero, List.take_add_one, hc]; simp
set_option maxRecDepth 65536 in
theorem lp_cmp5 (l : Launch) {Z : State} {n0 : Nat} (a d : Addr) (cs : List Int32) (h0 : Heap) (hL : ∀ c ∈ cs, isL c) (hn : cs.length < 2 ^ 31) (zd : n0 ≤ d) (hne : a ≠ d) {R : Room} {K : Cx} (H : Ok Z K "java/lang/StringUTF16" jdk_52_method_21_code 7 (some .int) "compress") :
    ∀ (m i : Nat), i + m = cs.length → ∀ (h : Heap) (s6 : Slot), One s6 → Vec Z h a .char cs → Vec Z h d .byte ((cs.take i).map (nar .byte) ++ List.replicate m 0) → Keep h0 h [d] →
      Go l Z n0 R K (fun v h' sn => v = some (.int cs.length.toInt32) ∧ Keep h0 h' [d] ∧ Vec Z h' d .byte (cs.map (nar .byte)) ∧ sn = []) h [d] 0 0 3 #[.val (.ref a), .val (.int i.toInt32), .val (.ref d), .val (.int i.toInt32), .val (.int cs.length.toInt32), .val (.int i.toInt32), s6] [] := by
  intro m
  induction m with
  | zero =>
    intro i hi h s6 h6 Fa Fd KK
    refine Go.iload H d5_3 rfl rfl ?_
    refine Go.iload H d5_5 rfl rfl ?_
    refine Go.icmpY (pc' := 44) H d5_7 (flt (own_nlt (by omega) (by omega))).2.1 (by decide) (by decide) ?_
    refine Go.iload H d5_44 rfl rfl ?_
    exact Go.ireturnI [] H d5_46 ⟨rfl, KK, own_full (by omega) Fd, rfl⟩ all0 (Nat.zero_le _) (Nat.zero_le _)
  | succ m ih =>
    intro i hi h s6 h6 Fa Fd KK
    have hlt : i < cs.length := by omega
    obtain ⟨c, hc⟩ : ∃ c, cs[i]? = some c := ⟨_, List.getElem?_eq_getElem hlt⟩
    have hLc : isL c := hL c (List.mem_of_getElem? hc)
    refine Go.iload H d5_3 rfl rfl ?_
    refine Go.iload H d5_5 rfl rfl ?_
    refine Go.icmpN H d5_7 (tlt (own_lt hn hlt)).2.1 rfl ?_
    refine Go.aloadN H d5_10 rfl rfl rfl ?_
    refine Go.iloadN H d5_11 rfl rfl ?_
    refine Go.caload (v := c) H d5_12 rfl Fa i (own_cl (by omega)) (own_n0 (by omega)) hc ?_
    refine Go.istore (ls' := #[.val (.ref a), .val (.int i.toInt32), .val (.ref d), .val (.int i.toInt32), .val (.int cs.length.toInt32), .val (.int i.toInt32), .val (.int c)]) H d5_13 rfl (XS.store1 rfl h6 rfl) ?_
    refine Go.iload H d5_15 rfl rfl ?_
    refine Go.sipush (255 : Int32) H d5_17 rfl rfl ?_
    refine Go.icmpY (pc' := 26) H d5_20 (flt (own_le255 hLc)).2.2.2 (by decide) (by decide) ?_
    refine Go.aloadN H d5_26 rfl rfl rfl ?_
    refine Go.iloadN H d5_27 rfl rfl ?_
    refine Go.iload H d5_28 rfl rfl ?_
    refine Go.i2b H d5_30 rfl ?_
    refine Go.bastore (nar .byte c) H d5_31 rfl Fd i (own_cl (by omega)) (own_n0 (by omega)) (by simp; omega) own_nb zd (by simp) ?_
    intro h1 K2 F3
    replace Fa := Fa.keep K2 (ninS hne nin0)
    replace KK := KK.trans K2 (allS (Or.inl (by simp)) all0)
    refine Go.iinc (ls' := #[.val (.ref a), .val (.int (i.toInt32 + (1 : Int32))), .val (.ref d), .val (.int i.toInt32), .val (.int cs.length.toInt32), .val (.int i.toInt32), .val (.int c)]) (1 : Int32) H d5_32 rfl rfl rfl rfl ?_
    refine Go.iinc (ls' := #[.val (.ref a), .val (.int (i.toInt32 + (1 : Int32))), .val (.ref d), .val (.int (i.toInt32 + (1 : Int32))), .val (.int cs.length.toInt32), .val (.int i.toInt32), .val (.int c)]) (1 : Int32) H d5_35 rfl rfl rfl rfl ?_
    refine Go.iinc (ls' := #[.val (.ref a), .val (.int (i.toInt32 + (1 : Int32))), .val (.ref d), .val (.int (i.toInt32 + (1 : Int32))), .val (.int cs.length.toInt32), .val (.int (i.toInt32 + (1 : Int32))), .val (.int c)]) (1 : Int32) H d5_38 rfl rfl rfl rfl ?_
    refine Go.goto (pc' := 3) H d5_41 (by decide) (by decide) ?_
    rw [own_fill hc] at F3
    rw [own_s i]
    exact ih (i + 1) (by omega) _ _ (One.val rfl) Fa F3 KK
theorem d5_0 : decode jdk_52_method_21_code 0 = .ok (.iconst 0, 1) := by decide +kernel
theorem d5_1 : decode jdk_52_method_21_code 1 = .ok (.istore 5, 2) := by decide +kernel
theorem pn_N0 : plainName N0.cls = true := by first | (simp [plainName, overriddenIn]; done) | decide +kernel

abbrev rm_cmp5 : Room := { frames := 0, cells := 0, slots := 0, locals := 0 }
set_option maxRecDepth 65536 in
set_option maxHeartbeats 4000000 in
theorem ct_cmp5 (l : Launch) {Z : State} {n0 : Nat} {z : Int32} {f : Value} {pA pB sA sB bA bB : Addr} (W : Sx Z z f pA pB sA sB bA bB) (a d : Addr) (cs : List Int32) (h : Heap) (Fa : Vec Z h a .char cs) (Fd : Vec Z h d .byte (List.replicate cs.length 0)) (hL : ∀ c ∈ cs, isL c) (hn : cs.length < 2 ^ 31) (zd : n0 ≤ d) (hne : a ≠ d) :
    Ctr l Z n0 N0 jdk_52_method_21_code 7 (some .int) rm_cmp5 #[(.ref a), (.int (0 : Int32)), (.ref d), (.int (0 : Int32)), (.int cs.length.toInt32)] h [d] (fun v h' sn => v = some (.int cs.length.toInt32) ∧ Keep h h' [d] ∧ Vec Z h' d .byte (cs.map (nar .byte)) ∧ sn = []) := by
  refine Ctr.of_go (ls := #[.val (.ref a), .val (.int (0 : Int32)), .val (.ref d), .val (.int (0 : Int32)), .val (.int cs.length.toInt32), .unset, .unset]) W.1.1 (plainFor_of_name pn_N0) (fun m => by first | (simp [entryFrame, mkF, argsToLocals, Value.category]; done) | rfl) (fun K H => ?_)
  refine Go.iconst (0 : Int32) H d5_0 rfl rfl ?_
  refine Go.istore (ls' := #[.val (.ref a), .val (.int (0 : Int32)), .val (.ref d), .val (.int (0 : Int32)), .val (.int cs.length.toInt32), .val (.int (0 : Int32)), .unset]) H d5_1 rfl rfl ?_
  exact lp_cmp5 l a d cs h hL hn zd hne H cs.length 0 (by omega) h _ One.u Fa (by simpa using Fd) (Keep.refl _ _)
theorem d4_0 : decode jdk_52_method_16_code 0 = .ok (.iload_n 2, 1) := by decide +kernel
theorem d4_1 : decode jdk_52_method_16_code 1 = .ok (.newarray .byte, 2) := by decide +kernel
theorem w19 : Jvm.Cond.arrayClass Jvm.ClassFile.FieldType.byte ∈ tables_1 := List.mem_of_getElem? (i := 19) rfl
theorem d4_3 : decode jdk_52_method_16_code 3 = .ok (.astore_n 3, 1) := by decide +kernel
theorem d4_4 : decode jdk_52_method_16_code 4 = .ok (.aload_n 0, 1) := by decide +kernel
theorem d4_5 : decode jdk_52_method_16_code 5 = .ok (.iload_n 1, 1) := by decide +kernel
theorem d4_6 : decode jdk_52_method_16_code 6 = .ok (.aload_n 3, 1) := by decide +kernel
theorem d4_7 : decode jdk_52_method_16_code 7 = .ok (.iconst 0, 1) := by decide +kernel
theorem d4_8 : decode jdk_52_method_16_code 8 = .ok (.iload_n 2, 1) := by decide +kernel
theorem d4_9 : decode jdk_52_method_16_code 9 = .ok (.invokestatic 115, 3) := by decide +kernel
theorem w22 : Jvm.Cond.code N0 jdk_52_method_21_code (7 : Nat) (Option.some Jvm.ClassFile.FieldType.int) ∈ tables_1 := List.mem_of_getElem? (i := 22) rfl
theorem w17 : Jvm.Cond.initialized "java/lang/StringUTF16" ∈ tables_1 := List.mem_of_getElem? (i := 17) rfl
theorem pd_N0 : parseMethodDescriptor N0.desc = some ⟨[(.array .char), .int, (.array .byte), .int, .int], (some .int)⟩ := by decide +kernel
theorem nh_N0 : N0.cls ≠ "java/lang/invoke/MethodHandle" ∧ N0.cls ≠ "java/lang/invoke/VarHandle" := by decide
theorem w20 : Jvm.Cond.methodLink "java/lang/StringUTF16" (115 : Nat) N0 ∈ tables_1 := List.mem_of_getElem? (i := 20) rfl
theorem w21 : Jvm.Cond.static N0 ∈ tables_1 := List.mem_of_getElem? (i := 21) rfl
theorem d4_12 : decode jdk_52_method_16_code 12 = .ok (.istore 4, 2) := by decide +kernel
theorem d4_14 : decode jdk_52_method_16_code 14 = .ok (.iload 4, 2) := by decide +kernel
theorem d4_16 : decode jdk_52_method_16_code 16 = .ok (.iload_n 2, 1) := by decide +kernel
theorem d4_17 : decode jdk_52_method_16_code 17 = .ok (.if_icmp .eq 40, 3) := by decide +kernel
theorem d4_57 : decode jdk_52_method_16_code 57 = .ok (.aload_n 3, 1) := by decide +kernel
theorem d4_58 : decode jdk_52_method_16_code 58 = .ok (.areturn, 1) := by decide +kernel
abbrev N1 : MethodName := ⟨"java/lang/StringUTF16", "compress", "([CII)[B"⟩

abbrev rm_cmp3 : Room := { frames := 1, cells := 1, slots := 29, locals := 18 }
set_option maxRecDepth 65536 in
set_option maxHeartbeats 4000000 in
theorem ct_cmp3 (l : Launch) {Z : State} {n0 : Nat} {z : Int32} {f : Value} {pA pB sA sB bA bB : Addr} (W : Sx Z z f pA pB sA sB bA bB) (a : Addr) (cs : List Int32) (h : Heap) (Fa : Vec Z h a .char cs) (hL : ∀ c ∈ cs, isL c) (hn : cs.length ≤ 29) :
    Ctr l Z n0 N1 jdk_52_method_16_code 6 (some (.array .byte)) rm_cmp3 #[(.ref a), (.int (0 : Int32)), (.int cs.length.toInt32)] h [] (fun v h' sn => ∃ b, v = some (.ref b) ∧ Ext h h' ∧ h.size ≤ b ∧ Vec Z h' b .byte (cs.map (nar .byte)) ∧ sn = []) := by
  refine Ctr.of_go (ls := #[.val (.ref a), .val (.int (0 : Int32)), .val (.int cs.length.toInt32), .unset, .unset, .unset]) W.1.1 (plainFor_of_name pn_N0) (fun m => by first | (simp [entryFrame, mkF, argsToLocals, Value.category]; done) | rfl) (fun K H => ?_)
  have KK : Keep h h [] := Keep.refl _ _
  refine Go.iloadN H d4_0 rfl rfl ?_
  refine Go.newarray cs.length 29 H d4_1 rfl w19 rfl (by decide) (own_n0 (by omega)) (own_cl (by omega)) hn (by decide) (by decide) (by decide) ?_
  intro a1 h2 g3 z4 E5 F6
  have ne7 : a ≠ a1 := Nat.ne_of_lt (Nat.lt_of_lt_of_le Fa.lt (Nat.le_of_eq g3.symm))
  have sz8 := Nat.le_trans KK.1 (Nat.le_of_eq g3.symm)
  replace Fa := Fa.ext E5
  replace KK := KK.ext E5
  show Go _ _ _ _ _ _ h2 [a1] 1 29 3 #[.val (.ref a), .val (.int (0 : Int32)), .val (.int cs.length.toInt32), .unset, .unset, .unset] [(.ref a1)]
  refine Go.astoreN (ls' := #[.val (.ref a), .val (.int (0 : Int32)), .val (.int cs.length.toInt32), .val (.ref a1), .unset, .unset]) H d4_3 rfl rfl rfl ?_
  refine Go.aloadN H d4_4 rfl rfl rfl ?_
  refine Go.iloadN H d4_5 rfl rfl ?_
  refine Go.aloadN H d4_6 rfl rfl rfl ?_
  refine Go.iconst (0 : Int32) H d4_7 rfl rfl ?_
  refine Go.iloadN H d4_8 rfl rfl ?_
  refine Go.callS (rest := []) 0 [(.ref a), (.int (0 : Int32)), (.ref a1), (.int (0 : Int32)), (.int cs.length.toInt32)] H d4_9 rfl w20 w21 w17 w22 pd_N0 (ct_cmp5 l W a a1 cs h2 Fa F6 hL (by omega) z4 ne7) (by simp) rfl rfl rfl (Nat.le_of_eq rfl) (by decide) (by decide) (by decide) (by decide) nh_N0 ?_
  rintro _ h9 _ ⟨rfl, K10, F11, rfl⟩
  replace Fa := Fa.keep K10 (ninS ne7 nin0)
  replace KK := KK.trans K10 (allS (Or.inr sz8) all0)
  show Go _ _ _ _ _ _ h9 [a1] 1 29 12 #[.val (.ref a), .val (.int (0 : Int32)), .val (.int cs.length.toInt32), .val (.ref a1), .unset, .unset] [(.int cs.length.toInt32)]
  refine Go.istore (ls' := #[.val (.ref a), .val (.int (0 : Int32)), .val (.int cs.length.toInt32), .val (.ref a1), .val (.int cs.length.toInt32), .unset]) H d4_12 rfl rfl ?_
  refine Go.iload H d4_14 rfl rfl ?_
  refine Go.iloadN H d4_16 rfl rfl ?_
  refine Go.icmpY (pc' := 57) H d4_17 (teq rfl).1 (by decide) (by decide) ?_
  refine Go.aloadN H d4_57 rfl rfl rfl ?_
  exact Go.areturn [] H d4_58 rfl rfl (own_narR rfl) ⟨_, rfl, own_ext KK, Nat.le_of_eq g3.symm, F11, rfl⟩ all0 (by decide) (by decide)
theorem own_cod (x : Int32) : nar .byte (((x - x).toUInt32 >>> ((31 : Int32) &&& 31).toUInt32).toInt32) = 0 := by rw [Int32.sub_self]; decide
theorem d6_0 : decode jdk_52_method_15_code 0 = .ok (.iload_n 1, 1) := by decide +kernel
theorem d6_1 : decode jdk_52_method_15_code 1 = .ok (.aload_n 0, 1) := by decide +kernel
theorem d6_2 : decode jdk_52_method_15_code 2 = .ok (.arraylength, 1) := by decide +kernel
theorem d6_3 : decode jdk_52_method_15_code 3 = .ok (.isub, 1) := by decide +kernel
theorem d6_4 : decode jdk_52_method_15_code 4 = .ok (.bipush 31, 2) := by decide +kernel
theorem d6_6 : decode jdk_52_method_15_code 6 = .ok (.iushr, 1) := by decide +kernel
theorem d6_7 : decode jdk_52_method_15_code 7 = .ok (.i2b, 1) := by decide +kernel
theorem d6_8 : decode jdk_52_method_15_code 8 = .ok (.ireturn, 1) := by decide +kernel
abbrev N2 : MethodName := ⟨"java/lang/StringUTF16", "coderFromArrayLen", "([BI)B"⟩

abbrev rm_codl : Room := { frames := 0, cells := 0, slots := 0, locals := 0 }
set_option maxRecDepth 65536 in
set_option maxHeartbeats 4000000 in
theorem ct_codl (l : Launch) {Z : State} {n0 : Nat} {z : Int32} {f : Value} {pA pB sA sB bA bB : Addr} (W : Sx Z z f pA pB sA sB bA bB) (b : Addr) (bs : List Int32) (n : Int32) (h : Heap) (Fb : Vec Z h b .byte bs) (hb : bs.length.toInt32 = n) :
    Ctr l Z n0 N2 jdk_52_method_15_code 2 (some .byte) rm_codl #[(.ref b), (.int n)] h [] (fun v h' sn => v = some (.int 0) ∧ h = h' ∧ sn = []) := by
  refine Ctr.of_go (ls := #[.val (.ref b), .val (.int n)]) W.1.1 (plainFor_of_name pn_N0) (fun m => by first | (simp [entryFrame, mkF, argsToLocals, Value.category]; done) | rfl) (fun K H => ?_)
  refine Go.iloadN H d6_0 rfl rfl ?_
  refine Go.aloadN H d6_1 rfl rfl rfl ?_
  refine Go.arraylength n H d6_2 rfl Fb hb ?_
  refine Go.isub H d6_3 rfl ?_
  refine Go.bipush (31 : Int32) H d6_4 rfl rfl ?_
  refine Go.iushr H d6_6 rfl ?_
  refine Go.i2b H d6_7 rfl ?_
  exact Go.ireturn (0 : Int32) [] H d6_8 (by simp) (own_nb.trans (own_cod _)) ⟨rfl, rfl, rfl⟩ all0 (by decide) (by decide)
theorem w1 : Jvm.Cond.instantiable "java/lang/String" (4 : Nat) ∈ tables_1 := List.mem_of_getElem? (i := 1) rfl
theorem d2_0 : decode jdk_42_method_149_code 0 = .ok (.aload_n 0, 1) := by decide +kernel
theorem d2_1 : decode jdk_42_method_149_code 1 = .ok (.invokespecial 1, 3) := by decide +kernel
abbrev N3 : MethodName := ⟨"java/lang/Object", "<init>", "()V"⟩
theorem w11 : Jvm.Cond.methodLink "java/lang/String" (1 : Nat) N3 ∈ tables_1 := List.mem_of_getElem? (i := 11) rfl
theorem w12 : Jvm.Cond.instanceMethod N3 ∈ tables_1 := List.mem_of_getElem? (i := 12) rfl
theorem w13 : Jvm.Cond.code N3 object_method_1_code (1 : Nat) (Option.none : Option Jvm.ClassFile.FieldType) ∈ tables_1 := List.mem_of_getElem? (i := 13) rfl
theorem d2_4 : decode jdk_42_method_149_code 4 = .ok (.iload_n 3, 1) := by decide +kernel
theorem d2_5 : decode jdk_42_method_149_code 5 = .ok (.ifCond .ne 22, 3) := by decide +kernel
theorem d2_27 : decode jdk_42_method_149_code 27 = .ok (.getstatic 38, 3) := by decide +kernel
theorem w14 : Jvm.Cond.fieldLink "java/lang/String" (38 : Nat) "java/lang/String" "COMPACT_STRINGS" "Z" ∈ tables_1 := List.mem_of_getElem? (i := 14) rfl
theorem d2_30 : decode jdk_42_method_149_code 30 = .ok (.ifCond .eq 28, 3) := by decide +kernel
theorem d2_33 : decode jdk_42_method_149_code 33 = .ok (.aload_n 1, 1) := by decide +kernel
theorem d2_34 : decode jdk_42_method_149_code 34 = .ok (.iload_n 2, 1) := by decide +kernel
theorem d2_35 : decode jdk_42_method_149_code 35 = .ok (.iload_n 3, 1) := by decide +kernel
theorem d2_36 : decode jdk_42_method_149_code 36 = .ok (.invokestatic 177, 3) := by decide +kernel
theorem w18 : Jvm.Cond.code N1 jdk_52_method_16_code (6 : Nat) (Option.some (Jvm.ClassFile.FieldType.array Jvm.ClassFile.FieldType.byte)) ∈ tables_1 := List.mem_of_getElem? (i := 18) rfl
theorem pd_N1 : parseMethodDescriptor N1.desc = some ⟨[(.array .char), .int, .int], (some (.array .byte))⟩ := by decide +kernel
theorem w15 : Jvm.Cond.methodLink "java/lang/String" (177 : Nat) N1 ∈ tables_1 := List.mem_of_getElem? (i := 15) rfl
theorem w16 : Jvm.Cond.static N1 ∈ tables_1 := List.mem_of_getElem? (i := 16) rfl
theorem d2_39 : decode jdk_42_method_149_code 39 = .ok (.astore 5, 2) := by decide +kernel
theorem d2_41 : decode jdk_42_method_149_code 41 = .ok (.aload_n 0, 1) := by decide +kernel
theorem d2_42 : decode jdk_42_method_149_code 42 = .ok (.aload 5, 2) := by decide +kernel
theorem d2_44 : decode jdk_42_method_149_code 44 = .ok (.iload_n 3, 1) := by decide +kernel
theorem d2_45 : decode jdk_42_method_149_code 45 = .ok (.invokestatic 47, 3) := by decide +kernel
theorem w25 : Jvm.Cond.code N2 jdk_52_method_15_code (2 : Nat) (Option.some Jvm.ClassFile.FieldType.byte) ∈ tables_1 := List.mem_of_getElem? (i := 25) rfl
theorem pd_N2 : parseMethodDescriptor N2.desc = some ⟨[(.array .byte), .int], (some .byte)⟩ := by decide +kernel
theorem w23 : Jvm.Cond.methodLink "java/lang/String" (47 : Nat) N2 ∈ tables_1 := List.mem_of_getElem? (i := 23) rfl
theorem w24 : Jvm.Cond.static N2 ∈ tables_1 := List.mem_of_getElem? (i := 24) rfl
theorem d2_48 : decode jdk_42_method_149_code 48 = .ok (.putfield 15, 3) := by decide +kernel
theorem w26 : Jvm.Cond.fieldLink "java/lang/String" (15 : Nat) "java/lang/String" "coder" "B" ∈ tables_1 := List.mem_of_getElem? (i := 26) rfl
theorem w27 : Jvm.Cond.laysFinal "java/lang/String" "java/lang/String" "coder" "B" ∈ tables_1 := List.mem_of_getElem? (i := 27) rfl
theorem w29 : Jvm.Cond.laysFinal "java/lang/String" "java/lang/String" "value" "[B" ∈ tables_1 := List.mem_of_getElem? (i := 29) rfl
theorem d2_51 : decode jdk_42_method_149_code 51 = .ok (.aload_n 0, 1) := by decide +kernel
theorem d2_52 : decode jdk_42_method_149_code 52 = .ok (.aload 5, 2) := by decide +kernel
theorem d2_54 : decode jdk_42_method_149_code 54 = .ok (.putfield 9, 3) := by decide +kernel
theorem w28 : Jvm.Cond.fieldLink "java/lang/String" (9 : Nat) "java/lang/String" "value" "[B" ∈ tables_1 := List.mem_of_getElem? (i := 28) rfl
theorem d2_57 : decode jdk_42_method_149_code 57 = .ok (.return_, 1) := by decide +kernel
abbrev N4 : MethodName := ⟨"java/lang/String", "<init>", "([CIILjava/lang/Void;)V"⟩
theorem pn_N4 : plainName N4.cls = true := by first | (simp [plainName, overriddenIn]; done) | decide +kernel

abbrev rm_new4 : Room := { frames := 2, cells := 1, slots := 29, locals := 35 }
set_option maxRecDepth 65536 in
set_option maxHeartbeats 4000000 in
theorem ct_new4 (l : Launch) {Z : State} {n0 : Nat} {z : Int32} {f : Value} {pA pB sA sB bA bB : Addr} (W : Sx Z z f pA pB sA sB bA bB) (x a : Addr) (cs : List Int32) (h : Heap) (A : Exa Z h x "java/lang/String") (Fv : Fld Z h x "java/lang/String" "value" "[B" .null) (Fc : Fld Z h x "java/lang/String" "coder" "B" (.int 0)) (Fa : Vec Z h a .char cs) (hL : ∀ c ∈ cs, isL c) (hn : cs.length ≤ 29) (hp : 0 < cs.length) (zx : n0 ≤ x) :
    Ctr l Z n0 N4 jdk_42_method_149_code 6 none rm_new4 #[(.ref x), (.ref a), (.int (0 : Int32)), (.int cs.length.toInt32), .null] h [x] (fun v h' sn => v = none ∧ Keep h h' [x] ∧ (∃ b, h.size ≤ b ∧ Str Z h' x b cs) ∧ sn = []) := by
  refine Ctr.of_go (ls := #[.val (.ref x), .val (.ref a), .val (.int (0 : Int32)), .val (.int cs.length.toInt32), .val .null, .unset]) W.1.1 (plainFor_of_name pn_N4) (fun m => by first | (simp [entryFrame, mkF, argsToLocals, Value.category]; done) | rfl) (fun K H => ?_)
  have KK : Keep h h [x] := Keep.refl _ _
  have hax : a ≠ x := Vec.neExa Fa A W.1.1 w1
  refine Go.aloadN H d2_0 rfl rfl rfl ?_
  refine Go.initObj H d2_1 rfl w11 w12 w13 0 rfl (Nat.le_of_eq rfl) (by decide) (by decide) ?_
  refine Go.iloadN H d2_4 rfl rfl ?_
  refine Go.ifY (pc' := 27) H d2_5 (feq (own_ne0 (by omega) hp)).2 (by decide) (by decide) ?_
  refine Go.getstatic H d2_27 rfl w14 W.1.2.2.1 ?_
  refine Go.ifN H d2_30 (feq W.1.2.1).1 rfl ?_
  refine Go.aloadN H d2_33 rfl rfl rfl ?_
  refine Go.iloadN H d2_34 rfl rfl ?_
  refine Go.iloadN H d2_35 rfl rfl ?_
  refine Go.callS (rest := []) 0 [(.ref a), (.int (0 : Int32)), (.int cs.length.toInt32)] H d2_36 rfl w15 w16 w17 w18 pd_N1 (ct_cmp3 l W a cs h Fa hL hn) all0 rfl rfl rfl (Nat.le_of_eq rfl) (by decide) (by decide) (by decide) (by decide) nh_N0 ?_
  rintro _ h2 _ ⟨b1, rfl, E3, g4, F5, rfl⟩
  have ne7 : x ≠ b1 := Nat.ne_of_lt (Nat.lt_of_lt_of_le A.lt g4)
  have ne8 : a ≠ b1 := Nat.ne_of_lt (Nat.lt_of_lt_of_le Fa.lt g4)
  replace A := A.ext E3
  replace Fv := Fv.ext E3
  replace Fc := Fc.ext E3
  replace Fa := Fa.ext E3
  replace KK := KK.ext E3
  show Go _ _ _ _ _ _ h2 [x] 1 29 39 #[.val (.ref x), .val (.ref a), .val (.int (0 : Int32)), .val (.int cs.length.toInt32), .val .null, .unset] [(.ref b1)]
  refine Go.astore (ls' := #[.val (.ref x), .val (.ref a), .val (.int (0 : Int32)), .val (.int cs.length.toInt32), .val .null, .val (.ref b1)]) H d2_39 rfl rfl rfl ?_
  refine Go.aloadN H d2_41 rfl rfl rfl ?_
  refine Go.aload H d2_42 rfl rfl rfl ?_
  refine Go.iloadN H d2_44 rfl rfl ?_
  refine Go.callS (rest := [(.ref x)]) 1 [(.ref b1), (.int cs.length.toInt32)] H d2_45 rfl w23 w24 w17 w25 pd_N2 (ct_codl l W b1 _ cs.length.toInt32 h2 F5 (by rw [List.length_map])) all0 rfl rfl rfl (Nat.le_of_eq rfl) (by decide) (by decide) (by decide) (by decide) nh_N0 ?_
  rintro _ _ _ ⟨rfl, rfl, rfl⟩
  show Go _ _ _ _ _ _ h2 [x] 1 29 48 #[.val (.ref x), .val (.ref a), .val (.int (0 : Int32)), .val (.int cs.length.toInt32), .val .null, .val (.ref b1)] [(.int (0 : Int32)), (.ref x)]
  refine Go.putfield (v := (.int (0 : Int32))) H d2_48 rfl w26 Fc A (Or.inr ⟨w27, rfl, rfl⟩) w1 (ty := .byte) (by decide) (by decide) (by decide) zx (by simp) ?_
  intro h9 Wr10
  have F11 := Fc.same Wr10
  have K12 := Keep.of_wr Wr10
  replace A := A.wr Wr10
  replace Fv := Fv.other Wr10 (Or.inr (own_sne W.1.1 (Or.inr w29) (Or.inr w27) (by decide) (t := (.array .byte)) (t' := .byte) (by decide) (by decide)))
  replace Fa := Fa.keep K12 (ninS hax nin0)
  replace F5 := F5.keep K12 (ninS (Ne.symm ne7) nin0)
  replace KK := KK.wr Wr10 (Or.inl (by simp))
  refine Go.aloadN H d2_51 rfl rfl rfl ?_
  refine Go.aload H d2_52 rfl rfl rfl ?_
  refine Go.putfield (v := (.ref b1)) H d2_54 rfl w28 Fv A (Or.inr ⟨w29, rfl, rfl⟩) w1 (ty := (.array .byte)) (by decide) rfl rfl zx (by simp) ?_
  intro h13 Wr14
  have F15 := Fv.same Wr14
  have K16 := Keep.of_wr Wr14
  replace A := A.wr Wr14
  replace Fa := Fa.keep K16 (ninS hax nin0)
  replace F5 := F5.keep K16 (ninS (Ne.symm ne7) nin0)
  replace F11 := F11.other Wr14 (Or.inr (own_sne W.1.1 (Or.inr w27) (Or.inr w29) (by decide) (t := .byte) (t' := (.array .byte)) (by decide) (by decide)))
  replace KK := KK.wr Wr14 (Or.inl (by simp))
  exact Go.return_ [] H d2_57 ⟨rfl, KK, ⟨_, g4, ⟨A, F15, F11, F5, hL, by omega⟩⟩, rfl⟩ all0 (by decide) (by decide)
theorem d1_0 : decode jdk_42_method_3_code 0 = .ok (.aload_n 0, 1) := by decide +kernel
theorem d1_1 : decode jdk_42_method_3_code 1 = .ok (.aload_n 1, 1) := by decide +kernel
theorem d1_2 : decode jdk_42_method_3_code 2 = .ok (.iconst 0, 1) := by decide +kernel
theorem d1_3 : decode jdk_42_method_3_code 3 = .ok (.aload_n 1, 1) := by decide +kernel
theorem d1_4 : decode jdk_42_method_3_code 4 = .ok (.arraylength, 1) := by decide +kernel
theorem d1_5 : decode jdk_42_method_3_code 5 = .ok (.aconst_null, 1) := by decide +kernel
theorem d1_6 : decode jdk_42_method_3_code 6 = .ok (.invokespecial 27, 3) := by decide +kernel
theorem w10 : Jvm.Cond.code N4 jdk_42_method_149_code (6 : Nat) (Option.none : Option Jvm.ClassFile.FieldType) ∈ tables_1 := List.mem_of_getElem? (i := 10) rfl
theorem w2 : Jvm.Cond.initialized "java/lang/String" ∈ tables_1 := List.mem_of_getElem? (i := 2) rfl
theorem pd_N4 : parseMethodDescriptor N4.desc = some ⟨[(.array .char), .int, .int, (.object "java/lang/Void")], none⟩ := by decide +kernel
theorem nh_N4 : N4.cls ≠ "java/lang/invoke/MethodHandle" ∧ N4.cls ≠ "java/lang/invoke/VarHandle" := by decide
theorem w7 : Jvm.Cond.methodLink "java/lang/String" (27 : Nat) N4 ∈ tables_1 := List.mem_of_getElem? (i := 7) rfl
theorem w8 : Jvm.Cond.instanceMethod N4 ∈ tables_1 := List.mem_of_getElem? (i := 8) rfl
theorem d1_9 : decode jdk_42_method_3_code 9 = .ok (.return_, 1) := by decide +kernel
abbrev N5 : MethodName := ⟨"java/lang/String", "<init>", "([C)V"⟩

abbrev rm_new1 : Room := { frames := 3, cells := 1, slots := 29, locals := 52 }
set_option maxRecDepth 65536 in
set_option maxHeartbeats 4000000 in
theorem ct_new1 (l : Launch) {Z : State} {n0 : Nat} {z : Int32} {f : Value} {pA pB sA sB bA bB : Addr} (W : Sx Z z f pA pB sA sB bA bB) (x a : Addr) (cs : List Int32) (h : Heap) (A : Exa Z h x "java/lang/String") (Fv : Fld Z h x "java/lang/String" "value" "[B" .null) (Fc : Fld Z h x "java/lang/String" "coder" "B" (.int 0)) (Fa : Vec Z h a .char cs) (hL : ∀ c ∈ cs, isL c) (hn : cs.length ≤ 29) (hp : 0 < cs.length) (zx : n0 ≤ x) :
    Ctr l Z n0 N5 jdk_42_method_3_code 2 none rm_new1 #[(.ref x), (.ref a)] h [x] (fun v h' sn => v = none ∧ Keep h h' [x] ∧ (∃ b, h.size ≤ b ∧ Str Z h' x b cs) ∧ sn = []) := by
  refine Ctr.of_go (ls := #[.val (.ref x), .val (.ref a)]) W.1.1 (plainFor_of_name pn_N4) (fun m => by first | (simp [entryFrame, mkF, argsToLocals, Value.category]; done) | rfl) (fun K H => ?_)
  have hax : a ≠ x := Vec.neExa Fa A W.1.1 w1
  refine Go.aloadN H d1_0 rfl rfl rfl ?_
  refine Go.aloadN H d1_1 rfl rfl rfl ?_
  refine Go.iconst (0 : Int32) H d1_2 rfl rfl ?_
  refine Go.aloadN H d1_3 rfl rfl rfl ?_
  refine Go.arraylength cs.length.toInt32 H d1_4 rfl Fa rfl ?_
  refine Go.aconstNull H d1_5 rfl ?_
  refine Go.callI (rest := []) 0 [(.ref a), (.int (0 : Int32)), (.int cs.length.toInt32), .null] H d1_6 rfl rfl w7 w8 w2 w10 pd_N4 (ct_new4 l W x a cs h A Fv Fc  Fa hL hn hp zx) (by simp) rfl rfl rfl (Nat.le_of_eq rfl) (by decide) (by decide) (by decide) (by decide) nh_N4 ?_
  rintro _ h1 _ ⟨rfl, K2, ⟨b3, g4, S5⟩, rfl⟩
  have ne6 : x ≠ b3 := Nat.ne_of_lt (Nat.lt_of_lt_of_le A.lt g4)
  have ne7 : a ≠ b3 := Nat.ne_of_lt (Nat.lt_of_lt_of_le Fa.lt g4)
  replace Fa := Fa.keep K2 (ninS hax nin0)
  show Go _ _ _ _ _ _ h1 [x] 1 29 9 #[.val (.ref x), .val (.ref a)] []
  exact Go.return_ [] H d1_9 ⟨rfl, K2, ⟨_, g4, S5⟩, rfl⟩ all0 (by decide) (by decide)
theorem d13_0 : decode jdk_42_method_152_code 0 = .ok (.getstatic 38, 3) := by decide +kernel
theorem d13_3 : decode jdk_42_method_152_code 3 = .ok (.ifCond .eq 10, 3) := by decide +kernel
theorem d13_6 : decode jdk_42_method_152_code 6 = .ok (.aload_n 0, 1) := by decide +kernel
theorem d13_7 : decode jdk_42_method_152_code 7 = .ok (.getfield 15, 3) := by decide +kernel
theorem d13_10 : decode jdk_42_method_152_code 10 = .ok (.goto 4, 3) := by decide +kernel
theorem d13_14 : decode jdk_42_method_152_code 14 = .ok (.ireturn, 1) := by decide +kernel
abbrev N6 : MethodName := ⟨"java/lang/String", "coder", "()B"⟩

abbrev rm_cod : Room := { frames := 0, cells := 0, slots := 0, locals := 0 }
set_option maxRecDepth 65536 in
set_option maxHeartbeats 4000000 in
theorem ct_cod (l : Launch) {Z : State} {n0 : Nat} {z : Int32} {f : Value} {pA pB sA sB bA bB : Addr} (W : Sx Z z f pA pB sA sB bA bB) (x b : Addr) (cs : List Int32) (h : Heap) (S : Str Z h x b cs) :
    Ctr l Z n0 N6 jdk_42_method_152_code 1 (some .byte) rm_cod #[(.ref x)] h [] (fun v h' sn => v = some (.int 0) ∧ h = h' ∧ sn = []) := by
  refine Ctr.of_go (ls := #[.val (.ref x)]) W.1.1 (plainFor_of_name pn_N4) (fun m => by first | (simp [entryFrame, mkF, argsToLocals, Value.category]; done) | rfl) (fun K H => ?_)
  obtain ⟨A, Fv, Fc, Fb, hL, hn⟩ := S
  refine Go.getstatic H d13_0 rfl w14 W.1.2.2.1 ?_
  refine Go.ifN H d13_3 (feq W.1.2.1).1 rfl ?_
  refine Go.aloadN H d13_6 rfl rfl rfl ?_
  refine Go.getfield H d13_7 rfl w26 Fc ?_
  refine Go.goto (pc' := 14) H d13_10 (by decide) (by decide) ?_
  exact Go.ireturn (0 : Int32) [] H d13_14 (by simp) (by decide) ⟨rfl, rfl, rfl⟩ all0 (by decide) (by decide)
theorem own_shr0 (x : Int32) : x >>> ((0 : Int32) &&& 31) = x := Int32.toInt_inj.mp (by rw [c_ishr x 0 0 (by decide)]; simp)
theorem d12_0 : decode jdk_42_method_54_code 0 = .ok (.aload_n 0, 1) := by decide +kernel
theorem d12_1 : decode jdk_42_method_54_code 1 = .ok (.getfield 9, 3) := by decide +kernel
theorem d12_4 : decode jdk_42_method_54_code 4 = .ok (.arraylength, 1) := by decide +kernel
theorem d12_5 : decode jdk_42_method_54_code 5 = .ok (.aload_n 0, 1) := by decide +kernel
theorem d12_6 : decode jdk_42_method_54_code 6 = .ok (.invokevirtual 335, 3) := by decide +kernel
theorem w74 : Jvm.Cond.code N6 jdk_42_method_152_code (1 : Nat) (Option.some Jvm.ClassFile.FieldType.byte) ∈ tables_1 := List.mem_of_getElem? (i := 74) rfl
theorem pd_N6 : parseMethodDescriptor N6.desc = some ⟨[], (some .byte)⟩ := by decide +kernel
theorem w70 : Jvm.Cond.methodLink "java/lang/String" (335 : Nat) N6 ∈ tables_1 := List.mem_of_getElem? (i := 70) rfl
theorem w71 : Jvm.Cond.declares N6 ∈ tables_1 := List.mem_of_getElem? (i := 71) rfl
theorem w73 : Jvm.Cond.selects "java/lang/String" N6 N6 ∈ tables_1 := List.mem_of_getElem? (i := 73) rfl
theorem w72 : Jvm.Cond.instanceMethod N6 ∈ tables_1 := List.mem_of_getElem? (i := 72) rfl
theorem d12_9 : decode jdk_42_method_54_code 9 = .ok (.ishr, 1) := by decide +kernel
theorem d12_10 : decode jdk_42_method_54_code 10 = .ok (.ireturn, 1) := by decide +kernel
abbrev N7 : MethodName := ⟨"java/lang/String", "length", "()I"⟩

abbrev rm_len : Room := { frames := 1, cells := 0, slots := 0, locals := 13 }
set_option maxRecDepth 65536 in
set_option maxHeartbeats 4000000 in
theorem ct_len (l : Launch) {Z : State} {n0 : Nat} {z : Int32} {f : Value} {pA pB sA sB bA bB : Addr} (W : Sx Z z f pA pB sA sB bA bB) (x b : Addr) (cs : List Int32) (h : Heap) (S : Str Z h x b cs) :
    Ctr l Z n0 N7 jdk_42_method_54_code 1 (some .int) rm_len #[(.ref x)] h [] (fun v h' sn => v = some (.int cs.length.toInt32) ∧ h = h' ∧ sn = []) := by
  refine Ctr.of_go (ls := #[.val (.ref x)]) W.1.1 (plainFor_of_name pn_N4) (fun m => by first | (simp [entryFrame, mkF, argsToLocals, Value.category]; done) | rfl) (fun K H => ?_)
  have S0 := S
  obtain ⟨A, Fv, Fc, Fb, hL, hn⟩ := S
  refine Go.aloadN H d12_0 rfl rfl rfl ?_
  refine Go.getfield H d12_1 rfl w28 Fv ?_
  refine Go.arraylength cs.length.toInt32 H d12_4 rfl Fb (by rw [List.length_map]) ?_
  refine Go.aloadN H d12_5 rfl rfl rfl ?_
  refine Go.callV (rest := [(.int cs.length.toInt32)]) 1 [] H d12_6 rfl A w70 w71 w73 w72 w2 w74 pd_N6 (ct_cod l W x b cs h S0) all0 rfl rfl rfl (Nat.le_of_eq rfl) (by decide) (by decide) (by decide) (by decide) nh_N4 ?_
  rintro _ _ _ ⟨rfl, rfl, rfl⟩
  show Go _ _ _ _ _ _ h [] 0 0 9 #[.val (.ref x)] [(.int (0 : Int32)), (.int cs.length.toInt32)]
  refine Go.ishr H d12_9 rfl ?_
  exact Go.ireturnI [] H d12_10 ⟨by rw [own_shr0], rfl, rfl⟩ all0 (by decide) (by decide)
theorem own_eqt {u v : List Int32} {i : Nat} (hl : u.length = v.length) (e : u.take i = v.take i) {p q : Int32} (h1 : u[i]? = some p) (h2 : v[i]? = some q) (hpq : p = q) : u.take (i + 1) = v.take (i + 1) := by
  rw [List.take_add_one, List.take_add_one, h1, h2, hpq, e]
theorem d35_9 : decode jdk_43_method_13_code 9 = .ok (.iload_n 2, 1) := by decide +kernel
theorem d35_10 : decode jdk_43_method_13_code 10 = .ok (.aload_n 0, 1) := by decide +kernel
theorem d35_11 : decode jdk_43_method_13_code 11 = .ok (.arraylength, 1) := by decide +kernel
theorem d35_12 : decode jdk_43_method_13_code 12 = .ok (.if_icmp .ge 20, 3) := by decide +kernel
theorem d35_32 : decode jdk_43_method_13_code 32 = .ok (.iconst 1, 1) := by decide +kernel
theorem d35_33 : decode jdk_43_method_13_code 33 = .ok (.ireturn, 1) := by decide +kernel
theorem d35_15 : decode jdk_43_method_13_code 15 = .ok (.aload_n 0, 1) := by decide +kernel
theorem d35_16 : decode jdk_43_method_13_code 16 = .ok (.iload_n 2, 1) := by decide +kernel
theorem d35_17 : decode jdk_43_method_13_code 17 = .ok (.baload, 1) := by decide +kernel
theorem d35_18 : decode jdk_43_method_13_code 18 = .ok (.aload_n 1, 1) := by decide +kernel
theorem d35_19 : decode jdk_43_method_13_code 19 = .ok (.iload_n 2, 1) := by decide +kernel
theorem d35_20 : decode jdk_43_method_13_code 20 = .ok (.baload, 1) := by decide +kernel
theorem d35_21 : decode jdk_43_method_13_code 21 = .ok (.if_icmp .eq 5, 3) := by decide +kernel
theorem d35_26 : decode jdk_43_method_13_code 26 = .ok (.iinc 2 1, 3) := by decide +kernel
theorem d35_29 : decode jdk_43_method_13_code 29 = .ok (.goto (-20), 3) := by decide +kernel
theorem d35_24 : decode jdk_43_method_13_code 24 = .ok (.iconst 0, 1) := by decide +kernel
theorem d35_25 : decode jdk_43_method_13_code 25 = .ok (.ireturn, 1) := by decide +kernel

set_option maxRecDepth 65536 in
theorem lp_leq (l : Launch) {Z : State} {n0 : Nat} {h : Heap} (a b : Addr) (u w : List Int32) (Fa : Vec Z h a .byte u) (Fb : Vec Z h b .byte w) (hu : u.length < 2 ^ 31) (hl : u.length = w.length) {R : Room} {K : Cx} (H : Ok Z K "java/lang/StringLatin1" jdk_43_method_13_code 3 (some .boolean) "equals") :
    ∀ (m i : Nat), i + m = u.length → u.take i = w.take i → Go l Z n0 R K (fun x h' sn => x = some (.int (if u = w then 1 else 0)) ∧ h = h' ∧ sn = []) h [] 0 0 9 #[.val (.ref a), .val (.ref b), .val (.int i.toInt32)] [] := by
  intro m
  induction m with
  | zero =>
    intro i hi he
    refine Go.iloadN H d35_9 rfl rfl ?_
    refine Go.aloadN H d35_10 rfl rfl rfl ?_
    refine Go.arraylength u.length.toInt32 H d35_11 rfl Fa rfl ?_
    refine Go.icmpY (pc' := 32) H d35_12 (flt (own_nlt (by omega) (by omega))).2.1 (by decide) (by decide) ?_
    refine Go.iconst (1 : Int32) H d35_32 rfl rfl ?_
    exact Go.ireturn 1 [] H d35_33 (by simp) (by decide) ⟨by rw [if_pos (by rw [List.take_of_length_le (by omega), List.take_of_length_le (by omega)] at he; exact he)], rfl, rfl⟩ all0 (Nat.zero_le _) (Nat.zero_le _)
  | succ m ih =>
    intro i hi he
    have hlt : i < u.length := by omega
    obtain ⟨p, hp⟩ : ∃ p, u[i]? = some p := ⟨_, List.getElem?_eq_getElem hlt⟩
    obtain ⟨q, hq⟩ : ∃ q, w[i]? = some q := ⟨_, List.getElem?_eq_getElem (by omega)⟩
    refine Go.iloadN H d35_9 rfl rfl ?_
    refine Go.aloadN H d35_10 rfl rfl rfl ?_
    refine Go.arraylength u.length.toInt32 H d35_11 rfl Fa rfl ?_
    refine Go.icmpN H d35_12 (tlt (own_lt hu hlt)).2.1 rfl ?_
    refine Go.aloadN H d35_15 rfl rfl rfl ?_
    refine Go.iloadN H d35_16 rfl rfl ?_
    refine Go.baload (v := p) H d35_17 rfl Fa i (own_cl (by omega)) (own_n0 (by omega)) hp ?_
    refine Go.aloadN H d35_18 rfl rfl rfl ?_
    refine Go.iloadN H d35_19 rfl rfl ?_
    refine Go.baload (v := q) H d35_20 rfl Fb i (own_cl (by omega)) (own_n0 (by omega)) hq ?_
    by_cases c1 : p = q
    ·
      refine Go.icmpY (pc' := 26) H d35_21 (teq c1).1 (by decide) (by decide) ?_
      refine Go.iinc (ls' := #[.val (.ref a), .val (.ref b), .val (.int (i.toInt32 + (1 : Int32)))]) (1 : Int32) H d35_26 rfl rfl rfl rfl ?_
      refine Go.goto (pc' := 9) H d35_29 (by decide) (by decide) ?_
      rw [own_s i]
      exact ih (i + 1) (by omega) (own_eqt hl he hp hq c1)
    ·
      refine Go.icmpN H d35_21 (feq c1).1 rfl ?_
      refine Go.iconst (0 : Int32) H d35_24 rfl rfl ?_
      exact Go.ireturn 0 [] H d35_25 (by simp) (by decide) ⟨by rw [if_neg (fun e => c1 (Option.some.inj (hp.symm.trans ((congrArg (fun z : List Int32 => z[i]?) e).trans hq))))], rfl, rfl⟩ all0 (Nat.zero_le _) (Nat.zero_le _)
theorem d35_0 : decode jdk_43_method_13_code 0 = .ok (.aload_n 0, 1) := by decide +kernel
theorem d35_1 : decode jdk_43_method_13_code 1 = .ok (.arraylength, 1) := by decide +kernel
theorem d35_2 : decode jdk_43_method_13_code 2 = .ok (.aload_n 1, 1) := by decide +kernel
theorem d35_3 : decode jdk_43_method_13_code 3 = .ok (.arraylength, 1) := by decide +kernel
theorem d35_4 : decode jdk_43_method_13_code 4 = .ok (.if_icmp .ne 30, 3) := by decide +kernel
theorem d35_7 : decode jdk_43_method_13_code 7 = .ok (.iconst 0, 1) := by decide +kernel
theorem d35_8 : decode jdk_43_method_13_code 8 = .ok (.istore_n 2, 1) := by decide +kernel
theorem d35_34 : decode jdk_43_method_13_code 34 = .ok (.iconst 0, 1) := by decide +kernel
theorem d35_35 : decode jdk_43_method_13_code 35 = .ok (.ireturn, 1) := by decide +kernel
abbrev N8 : MethodName := ⟨"java/lang/StringLatin1", "equals", "([B[B)Z"⟩
theorem pn_N8 : plainName N8.cls = true := by first | (simp [plainName, overriddenIn]; done) | decide +kernel

abbrev rm_leq : Room := { frames := 0, cells := 0, slots := 0, locals := 0 }
set_option maxRecDepth 65536 in
set_option maxHeartbeats 4000000 in
theorem ct_leq (l : Launch) {Z : State} {n0 : Nat} {z : Int32} {f : Value} {pA pB sA sB bA bB : Addr} (W : Sx Z z f pA pB sA sB bA bB) (a b : Addr) (u w : List Int32) (h : Heap) (Fa : Vec Z h a .byte u) (Fb : Vec Z h b .byte w) (hu : u.length < 2 ^ 31) (hv : w.length < 2 ^ 31) :
    Ctr l Z n0 N8 jdk_43_method_13_code 3 (some .boolean) rm_leq #[(.ref a), (.ref b)] h [] (fun v h' sn => v = some (.int (if u = w then 1 else 0)) ∧ h = h' ∧ sn = []) := by
  refine Ctr.of_go (ls := #[.val (.ref a), .val (.ref b), .unset]) W.1.1 (plainFor_of_name pn_N8) (fun m => by first | (simp [entryFrame, mkF, argsToLocals, Value.category]; done) | rfl) (fun K H => ?_)
  refine Go.aloadN H d35_0 rfl rfl rfl ?_
  refine Go.arraylength u.length.toInt32 H d35_1 rfl Fa rfl ?_
  refine Go.aloadN H d35_2 rfl rfl rfl ?_
  refine Go.arraylength w.length.toInt32 H d35_3 rfl Fb rfl ?_
  by_cases c1 : u.length = w.length
  ·
    refine Go.icmpN H d35_4 (teq (congrArg Nat.toInt32 c1)).2 rfl ?_
    refine Go.iconst (0 : Int32) H d35_7 rfl rfl ?_
    refine Go.istoreN (ls' := #[.val (.ref a), .val (.ref b), .val (.int (0 : Int32))]) H d35_8 rfl rfl ?_
    exact lp_leq l a b u w Fa Fb hu c1 H u.length 0 (by omega) rfl
  ·
    refine Go.icmpY (pc' := 34) H d35_4 (feq (fun e => c1 (own_ofinj hu hv e))).2 (by decide) (by decide) ?_
    refine Go.iconst (0 : Int32) H d35_34 rfl rfl ?_
    exact Go.ireturn 0 [] H d35_35 (by simp) (by decide) ⟨by rw [if_neg (fun e => c1 (congrArg List.length e))], rfl, rfl⟩ all0 (by decide) (by decide)
theorem d34_0 : decode jdk_42_method_66_code 0 = .ok (.aload_n 0, 1) := by decide +kernel
theorem d34_1 : decode jdk_42_method_66_code 1 = .ok (.aload_n 1, 1) := by decide +kernel
theorem d34_2 : decode jdk_42_method_66_code 2 = .ok (.if_acmp .ne 5, 3) := by decide +kernel
theorem d34_5 : decode jdk_42_method_66_code 5 = .ok (.iconst 1, 1) := by decide +kernel
theorem d34_6 : decode jdk_42_method_66_code 6 = .ok (.ireturn, 1) := by decide +kernel
theorem d34_7 : decode jdk_42_method_66_code 7 = .ok (.aload_n 1, 1) := by decide +kernel
theorem d34_8 : decode jdk_42_method_66_code 8 = .ok (.instanceof 10, 3) := by decide +kernel
theorem w185 : Jvm.Cond.classLink "java/lang/String" (10 : Nat) "java/lang/String" ∈ tables_1 := List.mem_of_getElem? (i := 185) rfl
theorem d34_11 : decode jdk_42_method_66_code 11 = .ok (.ifCond .eq 43, 3) := by decide +kernel
theorem d34_14 : decode jdk_42_method_66_code 14 = .ok (.aload_n 1, 1) := by decide +kernel
theorem d34_15 : decode jdk_42_method_66_code 15 = .ok (.checkcast 10, 3) := by decide +kernel
theorem d34_18 : decode jdk_42_method_66_code 18 = .ok (.astore_n 2, 1) := by decide +kernel
theorem d34_19 : decode jdk_42_method_66_code 19 = .ok (.getstatic 38, 3) := by decide +kernel
theorem d34_22 : decode jdk_42_method_66_code 22 = .ok (.ifCond .eq 14, 3) := by decide +kernel
theorem d34_25 : decode jdk_42_method_66_code 25 = .ok (.aload_n 0, 1) := by decide +kernel
theorem d34_26 : decode jdk_42_method_66_code 26 = .ok (.getfield 15, 3) := by decide +kernel
theorem d34_29 : decode jdk_42_method_66_code 29 = .ok (.aload_n 2, 1) := by decide +kernel
theorem d34_30 : decode jdk_42_method_66_code 30 = .ok (.getfield 15, 3) := by decide +kernel
theorem d34_33 : decode jdk_42_method_66_code 33 = .ok (.if_icmp .ne 21, 3) := by decide +kernel
theorem d34_36 : decode jdk_42_method_66_code 36 = .ok (.aload_n 0, 1) := by decide +kernel
theorem d34_37 : decode jdk_42_method_66_code 37 = .ok (.getfield 9, 3) := by decide +kernel
theorem d34_40 : decode jdk_42_method_66_code 40 = .ok (.aload_n 2, 1) := by decide +kernel
theorem d34_41 : decode jdk_42_method_66_code 41 = .ok (.getfield 9, 3) := by decide +kernel
theorem d34_44 : decode jdk_42_method_66_code 44 = .ok (.invokestatic 541, 3) := by decide +kernel
theorem w189 : Jvm.Cond.code N8 jdk_43_method_13_code (3 : Nat) (Option.some Jvm.ClassFile.FieldType.boolean) ∈ tables_1 := List.mem_of_getElem? (i := 189) rfl
theorem w188 : Jvm.Cond.initialized "java/lang/StringLatin1" ∈ tables_1 := List.mem_of_getElem? (i := 188) rfl
theorem pd_N8 : parseMethodDescriptor N8.desc = some ⟨[(.array .byte), (.array .byte)], (some .boolean)⟩ := by decide +kernel
theorem nh_N8 : N8.cls ≠ "java/lang/invoke/MethodHandle" ∧ N8.cls ≠ "java/lang/invoke/VarHandle" := by decide
theorem w186 : Jvm.Cond.methodLink "java/lang/String" (541 : Nat) N8 ∈ tables_1 := List.mem_of_getElem? (i := 186) rfl
theorem w187 : Jvm.Cond.static N8 ∈ tables_1 := List.mem_of_getElem? (i := 187) rfl
theorem d34_47 : decode jdk_42_method_66_code 47 = .ok (.ifCond .eq 7, 3) := by decide +kernel
theorem d34_50 : decode jdk_42_method_66_code 50 = .ok (.iconst 1, 1) := by decide +kernel
theorem d34_51 : decode jdk_42_method_66_code 51 = .ok (.goto 4, 3) := by decide +kernel
theorem d34_55 : decode jdk_42_method_66_code 55 = .ok (.ireturn, 1) := by decide +kernel
theorem d34_54 : decode jdk_42_method_66_code 54 = .ok (.iconst 0, 1) := by decide +kernel
abbrev N9 : MethodName := ⟨"java/lang/String", "equals", "(Ljava/lang/Object;)Z"⟩

abbrev rm_eq : Room := { frames := 1, cells := 0, slots := 0, locals := 14 }
set_option maxRecDepth 65536 in
set_option maxHeartbeats 4000000 in
theorem ct_eq (l : Launch) {Z : State} {n0 : Nat} {z : Int32} {f : Value} {pA pB sA sB bA bB : Addr} (W : Sx Z z f pA pB sA sB bA bB) (x b y d : Addr) (cs ds : List Int32) (h : Heap) (S : Str Z h x b cs) (S2 : Str Z h y d ds) :
    Ctr l Z n0 N9 jdk_42_method_66_code 3 (some .boolean) rm_eq #[(.ref x), (.ref y)] h [] (fun v h' sn => v = some (.int (if cs = ds then 1 else 0)) ∧ h = h' ∧ sn = []) := by
  refine Ctr.of_go (ls := #[.val (.ref x), .val (.ref y), .unset]) W.1.1 (plainFor_of_name pn_N4) (fun m => by first | (simp [entryFrame, mkF, argsToLocals, Value.category]; done) | rfl) (fun K H => ?_)
  have S0 := S
  have S20 := S2
  obtain ⟨A, Fv, Fc, Fb, hL, hn⟩ := S
  obtain ⟨A2, Fv2, Fc2, Fb2, hL2, hn2⟩ := S2
  refine Go.aloadN H d34_0 rfl rfl rfl ?_
  refine Go.aloadN H d34_1 rfl rfl rfl ?_
  by_cases c1 : x = y
  ·
    subst c1
    refine Go.acmpN H d34_2 rfl rfl (by simp [XT.acmp]) rfl ?_
    refine Go.iconst (1 : Int32) H d34_5 rfl rfl ?_
    exact Go.ireturn (1 : Int32) [] H d34_6 (by simp) (by decide) ⟨by rw [if_pos (S0.det S20)], rfl, rfl⟩ all0 (by decide) (by decide)
  ·
    refine Go.acmpY (pc' := 7) H d34_2 rfl rfl (by simp [XT.acmp, c1]) (by decide) (by decide) ?_
    refine Go.aloadN H d34_7 rfl rfl rfl ?_
    refine Go.instanceofY H d34_8 rfl w185 (Ins.self A2) ?_
    refine Go.ifN H d34_11 (by decide) rfl ?_
    refine Go.aloadN H d34_14 rfl rfl rfl ?_
    refine Go.checkcast H d34_15 rfl w185 (Ins.self A2) ?_
    refine Go.astoreN (ls' := #[.val (.ref x), .val (.ref y), .val (.ref y)]) H d34_18 rfl rfl rfl ?_
    refine Go.getstatic H d34_19 rfl w14 W.1.2.2.1 ?_
    refine Go.ifN H d34_22 (feq W.1.2.1).1 rfl ?_
    refine Go.aloadN H d34_25 rfl rfl rfl ?_
    refine Go.getfield H d34_26 rfl w26 Fc ?_
    refine Go.aloadN H d34_29 rfl rfl rfl ?_
    refine Go.getfield H d34_30 rfl w26 Fc2 ?_
    refine Go.icmpN H d34_33 (by decide) rfl ?_
    refine Go.aloadN H d34_36 rfl rfl rfl ?_
    refine Go.getfield H d34_37 rfl w28 Fv ?_
    refine Go.aloadN H d34_40 rfl rfl rfl ?_
    refine Go.getfield H d34_41 rfl w28 Fv2 ?_
    refine Go.callS (rest := []) 0 [(.ref b), (.ref d)] H d34_44 rfl w186 w187 w188 w189 pd_N8 (ct_leq l W b d _ _ h Fb Fb2 (by rw [List.length_map]; omega) (by rw [List.length_map]; omega)) all0 rfl rfl rfl (Nat.le_of_eq rfl) (by decide) (by decide) (by decide) (by decide) nh_N8 ?_
    rintro _ _ _ ⟨rfl, rfl, rfl⟩
    show Go _ _ _ _ _ _ h [] 0 0 47 #[.val (.ref x), .val (.ref y), .val (.ref y)] [(.int (if cs.map (nar .byte) = ds.map (nar .byte) then (1 : Int32) else 0))]
    by_cases c2 : cs = ds
    ·
      refine Go.ifN H d34_47 (feq (by rw [if_pos (congrArg _ c2)]; decide)).1 rfl ?_
      refine Go.iconst (1 : Int32) H d34_50 rfl rfl ?_
      refine Go.goto (pc' := 55) H d34_51 (by decide) (by decide) ?_
      exact Go.ireturn (1 : Int32) [] H d34_55 (by simp) (by decide) ⟨by rw [if_pos c2], rfl, rfl⟩ all0 (by decide) (by decide)
    ·
      refine Go.ifY (pc' := 54) H d34_47 (teq (by rw [if_neg (fun e => c2 (own_mapinj hL hL2 e))])).1 (by decide) (by decide) ?_
      refine Go.iconst (0 : Int32) H d34_54 rfl rfl ?_
      exact Go.ireturn (0 : Int32) [] H d34_55 (by simp) (by decide) ⟨by rw [if_neg c2], rfl, rfl⟩ all0 (by decide) (by decide)
theorem own_shl0 (x : Int32) : x <<< ((0 : Int32) &&& 31) = x := by
  have h := c_ishl x 0 0 (by decide)
  have h1 := rng32 x
  have h2 := rng32 (x <<< ((0 : Int32) &&& 31))
  exact Int32.toInt_inj.mp (by omega)
theorem own_subn {m n : Nat} (hm : m < 2 ^ 31) (hn : n < 2 ^ 31) : (m.toInt32 - n.toInt32).toInt = (m : Int) - n := by
  rw [Int32.toInt_sub, own_len hm, own_len hn, Int.bmod_eq_of_le (by omega) (by omega)]
theorem own_subnp {m n : Nat} (hn : n < 2 ^ 31) (h : m ≤ n) : ¬ (0 : Int32) < m.toInt32 - n.toInt32 := by
  rw [Int32.lt_iff_toInt_lt, own_subn (by omega) hn]; simp only [Int32.reduceToInt]; omega
theorem own_add (a b : Nat) : a.toInt32 + b.toInt32 = (a + b).toInt32 := (Int32.ofNat_add a b).symm
theorem own_s16 {m : Nat} (h1 : 16 < m) (h2 : m ≤ 33) : (m.toInt32 - (16 : Int32)).toInt = (m : Int) - 16 := own_subn (n := 16) (by omega) (by decide)
theorem own_g0 {m : Nat} (h1 : 16 < m) (h2 : m ≤ 33) : m.toInt32 - (16 : Int32) < (18 : Int32) := by
  rw [Int32.lt_iff_toInt_lt, own_s16 h1 h2]; simp only [Int32.reduceToInt]; omega
theorem own_g2 {m : Nat} (h1 : 16 < m) (h2 : m ≤ 33) : (0 : Int32) < m.toInt32 - (16 : Int32) := by
  rw [Int32.lt_iff_toInt_lt, own_s16 h1 h2]; simp only [Int32.reduceToInt]; omega
theorem own_drA (A pad : List Int32) (k : Nat) : (A ++ pad).drop (A.length + k) = pad.drop k := by
  rw [List.drop_append, List.drop_eq_nil_of_le (by omega), Nat.add_sub_cancel_left, List.nil_append]
theorem own_cpl {A B pad : List Int32} {D N : Nat} (hD : A.length = D) (hN : B.length = N) : ((A ++ pad).take D ++ (B.drop 0).take N ++ (A ++ pad).drop (D + N)) = A ++ B ++ pad.drop N := by
  subst hD hN
  rw [own_drA, List.drop_zero, List.take_length]; simp
theorem own_cof {bs : List Int32} {N L : Nat} (hb : bs.length = L) : ((List.replicate N (0 : Int32)).take 0 ++ (bs.drop 0).take L ++ (List.replicate N 0).drop (0 + L)) = bs ++ List.replicate (N - L) 0 := by
  subst hb; simp
def SbF (Z : State) (h : Heap) (x b : Addr) (t n : Int32) : Prop := Exa Z h x "java/lang/StringBuilder" ∧ Fld Z h x "java/lang/AbstractStringBuilder" "value" "[B" (.ref b) ∧ Fld Z h x "java/lang/AbstractStringBuilder" "coder" "B" (.int t) ∧ Fld Z h x "java/lang/AbstractStringBuilder" "count" "I" (.int n)
def Sbg (Z : State) (h : Heap) (x b : Addr) (cap : Nat) (cs : List Int32) : Prop := SbF Z h x b 0 cs.length.toInt32 ∧ (∃ pad, Vec Z h b .byte (cs.map (nar .byte) ++ pad) ∧ cs.length + pad.length = cap) ∧ ∀ c ∈ cs, isL c
section SbS
variable {Z : State} {h h' : Heap} {x b : Addr} {t n : Int32} {cap : Nat} {cs : List Int32} {ws : List Addr}
theorem SbF.ext (F : SbF Z h x b t n) (E : Ext h h') : SbF Z h' x b t n := ⟨F.1.ext E, F.2.1.ext E, F.2.2.1.ext E, F.2.2.2.ext E⟩
theorem SbF.keep (F : SbF Z h x b t n) (K : Keep h h' ws) (q : x ∉ ws) : SbF Z h' x b t n := ⟨F.1.keep K, F.2.1.keep K q, F.2.2.1.keep K q, F.2.2.2.keep K q⟩
theorem Sbg.exa (F : Sbg Z h x b cap cs) : Exa Z h x "java/lang/StringBuilder" := F.1.1
theorem Sbg.lt (F : Sbg Z h x b cap cs) : x < h.size := F.exa.lt
theorem Sbg.ltb (F : Sbg Z h x b cap cs) : b < h.size := by
  obtain ⟨-, ⟨p, V, -⟩, -⟩ := F; exact V.lt
theorem Sbg.ext (F : Sbg Z h x b cap cs) (E : Ext h h') : Sbg Z h' x b cap cs := by
  obtain ⟨f, ⟨p, V, q⟩, r⟩ := F
  exact ⟨f.ext E, ⟨p, V.ext E, q⟩, r⟩
theorem Sbg.keep (F : Sbg Z h x b cap cs) (K : Keep h h' ws) (q1 : x ∉ ws) (q2 : b ∉ ws) : Sbg Z h' x b cap cs := by
  obtain ⟨f, ⟨p, V, q⟩, r⟩ := F
  exact ⟨f.keep K q1, ⟨p, V.keep K q2, q⟩, r⟩
end SbS
def minF (a : Int32) (b : Int32) : Int32 := if b < a then b else a
theorem w38 : Jvm.Cond.instantiable "java/lang/StringBuilder" (4 : Nat) ∈ tables_1 := List.mem_of_getElem? (i := 38) rfl
theorem d28_0 : decode jdk_29_method_69_code 0 = .ok (.iload_n 0, 1) := by decide +kernel
theorem d28_1 : decode jdk_29_method_69_code 1 = .ok (.iload_n 1, 1) := by decide +kernel
theorem d28_2 : decode jdk_29_method_69_code 2 = .ok (.if_icmp .gt 7, 3) := by decide +kernel
theorem d28_9 : decode jdk_29_method_69_code 9 = .ok (.iload_n 1, 1) := by decide +kernel
theorem d28_10 : decode jdk_29_method_69_code 10 = .ok (.ireturn, 1) := by decide +kernel
theorem d28_5 : decode jdk_29_method_69_code 5 = .ok (.iload_n 0, 1) := by decide +kernel
theorem d28_6 : decode jdk_29_method_69_code 6 = .ok (.goto 4, 3) := by decide +kernel
abbrev N10 : MethodName := ⟨"java/lang/Math", "min", "(II)I"⟩
theorem pf_N10 : plainFor N10 = true := by decide +kernel

abbrev rm_min : Room := { frames := 0, cells := 0, slots := 0, locals := 0 }
set_option maxRecDepth 65536 in
set_option maxHeartbeats 4000000 in
theorem ct_min (l : Launch) {Z : State} {n0 : Nat} {z : Int32} {f : Value} {pA pB sA sB bA bB : Addr} (W : Sx Z z f pA pB sA sB bA bB) (a : Int32) (b : Int32) (h : Heap) :
    Ctr l Z n0 N10 jdk_29_method_69_code 2 (some .int) rm_min #[(.int a), (.int b)] h [] (fun v h' sn => v = some (.int (minF a b)) ∧ h = h' ∧ sn = []) := by
  refine Ctr.of_go (ls := #[.val (.int a), .val (.int b)]) W.1.1 pf_N10 (fun m => by first | (simp [entryFrame, mkF, argsToLocals, Value.category]; done) | rfl) (fun K H => ?_)
  refine Go.iloadN H d28_0 rfl rfl ?_
  refine Go.iloadN H d28_1 rfl rfl ?_
  by_cases c1 : b < a
  ·
    refine Go.icmpY (pc' := 9) H d28_2 (tlt c1).2.2.1 (by decide) (by decide) ?_
    refine Go.iloadN H d28_9 rfl rfl ?_
    exact Go.ireturnI [] H d28_10 ⟨congrArg (fun q => some (Value.int q)) (show b = minF a b from Eq.symm (by rw [minF, if_pos c1])), rfl, rfl⟩ all0 (by decide) (by decide)
  ·
    refine Go.icmpN H d28_2 (flt c1).2.2.1 rfl ?_
    refine Go.iloadN H d28_5 rfl rfl ?_
    refine Go.goto (pc' := 10) H d28_6 (by decide) (by decide) ?_
    exact Go.ireturnI [] H d28_10 ⟨congrArg (fun q => some (Value.int q)) (show a = minF a b from Eq.symm (by rw [minF, if_neg c1])), rfl, rfl⟩ all0 (by decide) (by decide)
def maxF (a : Int32) (b : Int32) : Int32 := if a < b then b else a
theorem d32_0 : decode jdk_29_method_65_code 0 = .ok (.iload_n 0, 1) := by decide +kernel
theorem d32_1 : decode jdk_29_method_65_code 1 = .ok (.iload_n 1, 1) := by decide +kernel
theorem d32_2 : decode jdk_29_method_65_code 2 = .ok (.if_icmp .lt 7, 3) := by decide +kernel
theorem d32_9 : decode jdk_29_method_65_code 9 = .ok (.iload_n 1, 1) := by decide +kernel
theorem d32_10 : decode jdk_29_method_65_code 10 = .ok (.ireturn, 1) := by decide +kernel
theorem d32_5 : decode jdk_29_method_65_code 5 = .ok (.iload_n 0, 1) := by decide +kernel
theorem d32_6 : decode jdk_29_method_65_code 6 = .ok (.goto 4, 3) := by decide +kernel
abbrev N11 : MethodName := ⟨"java/lang/Math", "max", "(II)I"⟩
theorem pf_N11 : plainFor N11 = true := by decide +kernel

abbrev rm_max : Room := { frames := 0, cells := 0, slots := 0, locals := 0 }
set_option maxRecDepth 65536 in
set_option maxHeartbeats 4000000 in
theorem ct_max (l : Launch) {Z : State} {n0 : Nat} {z : Int32} {f : Value} {pA pB sA sB bA bB : Addr} (W : Sx Z z f pA pB sA sB bA bB) (a : Int32) (b : Int32) (h : Heap) :
    Ctr l Z n0 N11 jdk_29_method_65_code 2 (some .int) rm_max #[(.int a), (.int b)] h [] (fun v h' sn => v = some (.int (maxF a b)) ∧ h = h' ∧ sn = []) := by
  refine Ctr.of_go (ls := #[.val (.int a), .val (.int b)]) W.1.1 pf_N11 (fun m => by first | (simp [entryFrame, mkF, argsToLocals, Value.category]; done) | rfl) (fun K H => ?_)
  refine Go.iloadN H d32_0 rfl rfl ?_
  refine Go.iloadN H d32_1 rfl rfl ?_
  by_cases c1 : a < b
  ·
    refine Go.icmpY (pc' := 9) H d32_2 (tlt c1).1 (by decide) (by decide) ?_
    refine Go.iloadN H d32_9 rfl rfl ?_
    exact Go.ireturnI [] H d32_10 ⟨congrArg (fun q => some (Value.int q)) (show b = maxF a b from Eq.symm (by rw [maxF, if_pos c1])), rfl, rfl⟩ all0 (by decide) (by decide)
  ·
    refine Go.icmpN H d32_2 (flt c1).1 rfl ?_
    refine Go.iloadN H d32_5 rfl rfl ?_
    refine Go.goto (pc' := 10) H d32_6 (by decide) (by decide) ?_
    exact Go.ireturnI [] H d32_10 ⟨congrArg (fun q => some (Value.int q)) (show a = maxF a b from Eq.symm (by rw [maxF, if_neg c1])), rfl, rfl⟩ all0 (by decide) (by decide)
theorem maxF_r {a b : Int32} (h : a < b) : maxF a b = b := by unfold maxF; rw [if_pos h]
theorem minF_0 : minF 16 34 = 16 := by decide
theorem minF_1 : minF 32 68 = 32 := by decide
theorem own_min {n k : Nat} (hn : n < 2 ^ 31) (hk : k < n) : minF n.toInt32 k.toInt32 = k.toInt32 := by
  unfold minF; rw [if_pos (own_lt hn hk)]
theorem lt_a : (2 : Int32) <<< ((0 : Int32) &&& 31) = 2 := by decide
theorem lt_b : (2 : Int32) <<< ((1 : Int32) &&& 31) = 4 := by decide
theorem lt_c : (34 : Int32) >>> ((0 : Int32) &&& 31) = 34 := by decide
theorem lt_d : (68 : Int32) >>> ((1 : Int32) &&& 31) = 34 := by decide
theorem lt_e : (16 : Int32) >>> ((0 : Int32) &&& 31) = 16 := by decide
theorem lt_f : (32 : Int32) >>> ((1 : Int32) &&& 31) = 16 := by decide
theorem lt_g : (34 : Int32) <<< ((0 : Int32) &&& 31) = 34 := by decide
theorem lt_h : (34 : Int32) <<< ((1 : Int32) &&& 31) = 68 := by decide
theorem d9_0 : decode jdk_68_method_2_code 0 = .ok (.aload_n 0, 1) := by decide +kernel
theorem d9_1 : decode jdk_68_method_2_code 1 = .ok (.invokespecial 3, 3) := by decide +kernel
theorem w49 : Jvm.Cond.methodLink "java/lang/AbstractStringBuilder" (3 : Nat) N3 ∈ tables_1 := List.mem_of_getElem? (i := 49) rfl
theorem d9_4 : decode jdk_68_method_2_code 4 = .ok (.getstatic 18, 3) := by decide +kernel
theorem w50 : Jvm.Cond.fieldLink "java/lang/AbstractStringBuilder" (18 : Nat) "java/lang/String" "COMPACT_STRINGS" "Z" ∈ tables_1 := List.mem_of_getElem? (i := 50) rfl
theorem d9_7 : decode jdk_68_method_2_code 7 = .ok (.ifCond .eq 18, 3) := by decide +kernel
theorem d9_10 : decode jdk_68_method_2_code 10 = .ok (.aload_n 0, 1) := by decide +kernel
theorem d9_11 : decode jdk_68_method_2_code 11 = .ok (.iload_n 1, 1) := by decide +kernel
theorem d9_12 : decode jdk_68_method_2_code 12 = .ok (.newarray .byte, 2) := by decide +kernel
theorem d9_14 : decode jdk_68_method_2_code 14 = .ok (.putfield 15, 3) := by decide +kernel
theorem w51 : Jvm.Cond.fieldLink "java/lang/AbstractStringBuilder" (15 : Nat) "java/lang/AbstractStringBuilder" "value" "[B" ∈ tables_1 := List.mem_of_getElem? (i := 51) rfl
theorem w52 : Jvm.Cond.lays "java/lang/StringBuilder" "java/lang/AbstractStringBuilder" "value" "[B" ∈ tables_1 := List.mem_of_getElem? (i := 52) rfl
theorem w54 : Jvm.Cond.lays "java/lang/StringBuilder" "java/lang/AbstractStringBuilder" "coder" "B" ∈ tables_1 := List.mem_of_getElem? (i := 54) rfl
theorem w76 : Jvm.Cond.lays "java/lang/StringBuilder" "java/lang/AbstractStringBuilder" "count" "I" ∈ tables_1 := List.mem_of_getElem? (i := 76) rfl
theorem d9_17 : decode jdk_68_method_2_code 17 = .ok (.aload_n 0, 1) := by decide +kernel
theorem d9_18 : decode jdk_68_method_2_code 18 = .ok (.iconst 0, 1) := by decide +kernel
theorem d9_19 : decode jdk_68_method_2_code 19 = .ok (.putfield 22, 3) := by decide +kernel
theorem w53 : Jvm.Cond.fieldLink "java/lang/AbstractStringBuilder" (22 : Nat) "java/lang/AbstractStringBuilder" "coder" "B" ∈ tables_1 := List.mem_of_getElem? (i := 53) rfl
theorem d9_22 : decode jdk_68_method_2_code 22 = .ok (.goto 16, 3) := by decide +kernel
theorem d9_38 : decode jdk_68_method_2_code 38 = .ok (.return_, 1) := by decide +kernel
abbrev N12 : MethodName := ⟨"java/lang/AbstractStringBuilder", "<init>", "(I)V"⟩
theorem pn_N12 : plainName N12.cls = true := by first | (simp [plainName, overriddenIn]; done) | decide +kernel

abbrev rm_asbi : Room := { frames := 1, cells := 1, slots := 16, locals := 12 }
set_option maxRecDepth 65536 in
set_option maxHeartbeats 4000000 in
theorem ct_asbi (l : Launch) {Z : State} {n0 : Nat} {z : Int32} {f : Value} {pA pB sA sB bA bB : Addr} (W : Sx Z z f pA pB sA sB bA bB) (x : Addr) (h : Heap) (A : Exa Z h x "java/lang/StringBuilder") (Fv : Fld Z h x "java/lang/AbstractStringBuilder" "value" "[B" .null) (Fc : Fld Z h x "java/lang/AbstractStringBuilder" "coder" "B" (.int 0)) (Fn : Fld Z h x "java/lang/AbstractStringBuilder" "count" "I" (.int 0)) (zx : n0 ≤ x) :
    Ctr l Z n0 N12 jdk_68_method_2_code 2 none rm_asbi #[(.ref x), (.int (16 : Int32))] h [x] (fun v h' sn => v = none ∧ Keep h h' [x] ∧ ∃ b, h.size ≤ b ∧ n0 ≤ b ∧ Sbg Z h' x b 16 [] ∧ sn = [b]) := by
  refine Ctr.of_go (ls := #[.val (.ref x), .val (.int (16 : Int32))]) W.1.1 (plainFor_of_name pn_N12) (fun m => by first | (simp [entryFrame, mkF, argsToLocals, Value.category]; done) | rfl) (fun K H => ?_)
  have KK : Keep h h [x] := Keep.refl _ _
  refine Go.aloadN H d9_0 rfl rfl rfl ?_
  refine Go.initObj H d9_1 rfl w49 w12 w13 0 rfl (Nat.le_of_eq rfl) (by decide) (by decide) ?_
  refine Go.getstatic H d9_4 rfl w50 W.1.2.2.1 ?_
  refine Go.ifN H d9_7 (feq W.1.2.1).1 rfl ?_
  refine Go.aloadN H d9_10 rfl rfl rfl ?_
  refine Go.iloadN H d9_11 rfl rfl ?_
  refine Go.newarray 16 16 H d9_12 rfl w19 rfl (by decide) (by decide) (by decide) (by decide) (by decide) (by decide) (by decide) ?_
  intro a1 h2 g3 z4 E5 F6
  have ne7 : x ≠ a1 := Nat.ne_of_lt (Nat.lt_of_lt_of_le A.lt (Nat.le_of_eq g3.symm))
  have sz8 := Nat.le_trans KK.1 (Nat.le_of_eq g3.symm)
  replace A := A.ext E5
  replace Fv := Fv.ext E5
  replace Fc := Fc.ext E5
  replace Fn := Fn.ext E5
  replace KK := KK.ext E5
  show Go _ _ _ _ _ _ h2 [a1, x] 1 16 14 #[.val (.ref x), .val (.int (16 : Int32))] [(.ref a1), (.ref x)]
  refine Go.putfield (v := (.ref a1)) H d9_14 rfl w51 Fv A (Or.inl w52) w38 (ty := (.array .byte)) (by decide) rfl rfl zx (by simp) ?_
  intro h9 Wr10
  have F11 := Fv.same Wr10
  have K12 := Keep.of_wr Wr10
  replace A := A.wr Wr10
  replace Fc := Fc.other Wr10 (Or.inr (own_sne W.1.1 (Or.inl w54) (Or.inl w52) (by decide) (t := .byte) (t' := (.array .byte)) (by decide) (by decide)))
  replace Fn := Fn.other Wr10 (Or.inr (own_sne W.1.1 (Or.inl w76) (Or.inl w52) (by decide) (t := .int) (t' := (.array .byte)) (by decide) (by decide)))
  replace F6 := F6.keep K12 (ninS (Ne.symm ne7) nin0)
  replace KK := KK.wr Wr10 (Or.inl (by simp))
  refine Go.aloadN H d9_17 rfl rfl rfl ?_
  refine Go.iconst (0 : Int32) H d9_18 rfl rfl ?_
  refine Go.putfield (v := (.int (0 : Int32))) H d9_19 rfl w53 Fc A (Or.inl w54) w38 (ty := .byte) (by decide) (by decide) (by decide) zx (by simp) ?_
  intro h13 Wr14
  have F15 := Fc.same Wr14
  have K16 := Keep.of_wr Wr14
  replace A := A.wr Wr14
  replace Fn := Fn.other Wr14 (Or.inr (own_sne W.1.1 (Or.inl w76) (Or.inl w54) (by decide) (t := .int) (t' := .byte) (by decide) (by decide)))
  replace F6 := F6.keep K16 (ninS (Ne.symm ne7) nin0)
  replace F11 := F11.other Wr14 (Or.inr (own_sne W.1.1 (Or.inl w52) (Or.inl w54) (by decide) (t := (.array .byte)) (t' := .byte) (by decide) (by decide)))
  replace KK := KK.wr Wr14 (Or.inl (by simp))
  refine Go.goto (pc' := 38) H d9_22 (by decide) (by decide) ?_
  exact Go.return_ [a1] H d9_38 ⟨rfl, KK, a1, sz8, z4, ⟨⟨A, F11, F15, Fn⟩, ⟨_, F6, rfl⟩, own_an⟩, rfl⟩ (by simp) (by decide) (by decide)
theorem d8_0 : decode jdk_67_method_1_code 0 = .ok (.aload_n 0, 1) := by decide +kernel
theorem d8_1 : decode jdk_67_method_1_code 1 = .ok (.bipush 16, 2) := by decide +kernel
theorem d8_3 : decode jdk_67_method_1_code 3 = .ok (.invokespecial 1, 3) := by decide +kernel
theorem w48 : Jvm.Cond.code N12 jdk_68_method_2_code (2 : Nat) (Option.none : Option Jvm.ClassFile.FieldType) ∈ tables_1 := List.mem_of_getElem? (i := 48) rfl
theorem w47 : Jvm.Cond.initialized "java/lang/AbstractStringBuilder" ∈ tables_1 := List.mem_of_getElem? (i := 47) rfl
theorem pd_N12 : parseMethodDescriptor N12.desc = some ⟨[.int], none⟩ := by decide +kernel
theorem nh_N12 : N12.cls ≠ "java/lang/invoke/MethodHandle" ∧ N12.cls ≠ "java/lang/invoke/VarHandle" := by decide
theorem w43 : Jvm.Cond.methodLink "java/lang/StringBuilder" (1 : Nat) N12 ∈ tables_1 := List.mem_of_getElem? (i := 43) rfl
theorem w44 : Jvm.Cond.instanceMethod N12 ∈ tables_1 := List.mem_of_getElem? (i := 44) rfl
theorem d8_6 : decode jdk_67_method_1_code 6 = .ok (.return_, 1) := by decide +kernel
abbrev N13 : MethodName := ⟨"java/lang/StringBuilder", "<init>", "()V"⟩
theorem pn_N13 : plainName N13.cls = true := by first | (simp [plainName, overriddenIn]; done) | decide +kernel

abbrev rm_sbi : Room := { frames := 2, cells := 1, slots := 16, locals := 25 }
set_option maxRecDepth 65536 in
set_option maxHeartbeats 4000000 in
theorem ct_sbi (l : Launch) {Z : State} {n0 : Nat} {z : Int32} {f : Value} {pA pB sA sB bA bB : Addr} (W : Sx Z z f pA pB sA sB bA bB) (x : Addr) (h : Heap) (A : Exa Z h x "java/lang/StringBuilder") (Fv : Fld Z h x "java/lang/AbstractStringBuilder" "value" "[B" .null) (Fc : Fld Z h x "java/lang/AbstractStringBuilder" "coder" "B" (.int 0)) (Fn : Fld Z h x "java/lang/AbstractStringBuilder" "count" "I" (.int 0)) (zx : n0 ≤ x) :
    Ctr l Z n0 N13 jdk_67_method_1_code 1 none rm_sbi #[(.ref x)] h [x] (fun v h' sn => v = none ∧ Keep h h' [x] ∧ ∃ b, h.size ≤ b ∧ n0 ≤ b ∧ Sbg Z h' x b 16 [] ∧ sn = [b]) := by
  refine Ctr.of_go (ls := #[.val (.ref x)]) W.1.1 (plainFor_of_name pn_N13) (fun m => by first | (simp [entryFrame, mkF, argsToLocals, Value.category]; done) | rfl) (fun K H => ?_)
  refine Go.aloadN H d8_0 rfl rfl rfl ?_
  refine Go.bipush (16 : Int32) H d8_1 rfl rfl ?_
  refine Go.callI (rest := []) 0 [(.int (16 : Int32))] H d8_3 rfl rfl w43 w44 w47 w48 pd_N12 (ct_asbi l W x h A Fv Fc Fn zx) (by simp) rfl rfl rfl (Nat.le_of_eq rfl) (by decide) (by decide) (by decide) (by decide) nh_N12 ?_
  rintro _ h1 _ ⟨rfl, K2, b3, g4, z5, S6, rfl⟩
  have ne7 : x ≠ b3 := Nat.ne_of_lt (Nat.lt_of_lt_of_le A.lt g4)
  show Go _ _ _ _ _ _ h1 [b3, x] 1 16 6 #[.val (.ref x)] []
  exact Go.return_ [b3] H d8_6 ⟨rfl, K2, b3, g4, z5, S6, rfl⟩ (by simp) (by decide) (by decide)
theorem d31_0 : decode jdk_48_method_27_code 0 = .ok (.iload_n 0, 1) := by decide +kernel
theorem d31_1 : decode jdk_48_method_27_code 1 = .ok (.iload_n 1, 1) := by decide +kernel
theorem d31_2 : decode jdk_48_method_27_code 2 = .ok (.iload_n 2, 1) := by decide +kernel
theorem d31_3 : decode jdk_48_method_27_code 3 = .ok (.invokestatic 194, 3) := by decide +kernel
theorem w172 : Jvm.Cond.code N11 jdk_29_method_65_code (2 : Nat) (Option.some Jvm.ClassFile.FieldType.int) ∈ tables_1 := List.mem_of_getElem? (i := 172) rfl
theorem w147 : Jvm.Cond.initialized "java/lang/Math" ∈ tables_1 := List.mem_of_getElem? (i := 147) rfl
theorem pd_N11 : parseMethodDescriptor N11.desc = some ⟨[.int, .int], (some .int)⟩ := by decide +kernel
theorem nh_N11 : N11.cls ≠ "java/lang/invoke/MethodHandle" ∧ N11.cls ≠ "java/lang/invoke/VarHandle" := by decide
theorem w170 : Jvm.Cond.methodLink "jdk/internal/util/ArraysSupport" (194 : Nat) N11 ∈ tables_1 := List.mem_of_getElem? (i := 170) rfl
theorem w171 : Jvm.Cond.static N11 ∈ tables_1 := List.mem_of_getElem? (i := 171) rfl
theorem d31_6 : decode jdk_48_method_27_code 6 = .ok (.iadd, 1) := by decide +kernel
theorem d31_7 : decode jdk_48_method_27_code 7 = .ok (.istore_n 3, 1) := by decide +kernel
theorem d31_8 : decode jdk_48_method_27_code 8 = .ok (.iconst 0, 1) := by decide +kernel
theorem d31_9 : decode jdk_48_method_27_code 9 = .ok (.iload_n 3, 1) := by decide +kernel
theorem d31_10 : decode jdk_48_method_27_code 10 = .ok (.if_icmp .ge 11, 3) := by decide +kernel
theorem d31_13 : decode jdk_48_method_27_code 13 = .ok (.iload_n 3, 1) := by decide +kernel
theorem d31_14 : decode jdk_48_method_27_code 14 = .ok (.ldc 200, 2) := by decide +kernel
theorem w173 : Jvm.Cond.constant "jdk/internal/util/ArraysSupport" (200 : Nat) (2147483639 : Int32) ∈ tables_1 := List.mem_of_getElem? (i := 173) rfl
theorem d31_16 : decode jdk_48_method_27_code 16 = .ok (.if_icmp .gt 5, 3) := by decide +kernel
theorem d31_19 : decode jdk_48_method_27_code 19 = .ok (.iload_n 3, 1) := by decide +kernel
theorem d31_20 : decode jdk_48_method_27_code 20 = .ok (.ireturn, 1) := by decide +kernel
abbrev N14 : MethodName := ⟨"jdk/internal/util/ArraysSupport", "newLength", "(III)I"⟩
theorem pn_N14 : plainName N14.cls = true := by first | (simp [plainName, overriddenIn]; done) | decide +kernel

abbrev rm_nl0 : Room := { frames := 1, cells := 0, slots := 0, locals := 14 }
set_option maxRecDepth 65536 in
set_option maxHeartbeats 4000000 in
theorem ct_nl0 (l : Launch) {Z : State} {n0 : Nat} {z : Int32} {f : Value} {pA pB sA sB bA bB : Addr} (W : Sx Z z f pA pB sA sB bA bB) (g : Int32) (h : Heap) (hg : g < (18 : Int32)) :
    Ctr l Z n0 N14 jdk_48_method_27_code 4 (some .int) rm_nl0 #[(.int (16 : Int32)), (.int g), (.int (18 : Int32))] h [] (fun v h' sn => v = some (.int (34 : Int32)) ∧ h = h' ∧ sn = []) := by
  refine Ctr.of_go (ls := #[.val (.int (16 : Int32)), .val (.int g), .val (.int (18 : Int32)), .unset]) W.1.1 (plainFor_of_name pn_N14) (fun m => by first | (simp [entryFrame, mkF, argsToLocals, Value.category]; done) | rfl) (fun K H => ?_)
  refine Go.iloadN H d31_0 rfl rfl ?_
  refine Go.iloadN H d31_1 rfl rfl ?_
  refine Go.iloadN H d31_2 rfl rfl ?_
  refine Go.callS (rest := [(.int (16 : Int32))]) 1 [(.int g), (.int (18 : Int32))] H d31_3 rfl w170 w171 w147 w172 pd_N11 (ct_max l W g (18 : Int32) h) all0 rfl rfl rfl (Nat.le_of_eq rfl) (by decide) (by decide) (by decide) (by decide) nh_N11 ?_
  rintro _ _ _ ⟨rfl, rfl, rfl⟩
  show Go _ _ _ _ _ _ h [] 0 0 6 #[.val (.int (16 : Int32)), .val (.int g), .val (.int (18 : Int32)), .unset] [(.int (maxF g (18 : Int32))), (.int (16 : Int32))]
  rw [maxF_r hg]
  refine Go.iadd H d31_6 rfl ?_
  show Go _ _ _ _ _ _ h [] 0 0 7 #[.val (.int (16 : Int32)), .val (.int g), .val (.int (18 : Int32)), .unset] [(.int (34 : Int32))]
  refine Go.istoreN (ls' := #[.val (.int (16 : Int32)), .val (.int g), .val (.int (18 : Int32)), .val (.int (34 : Int32))]) H d31_7 rfl rfl ?_
  refine Go.iconst (0 : Int32) H d31_8 rfl rfl ?_
  refine Go.iloadN H d31_9 rfl rfl ?_
  refine Go.icmpN H d31_10 (by decide) rfl ?_
  refine Go.iloadN H d31_13 rfl rfl ?_
  refine Go.ldcInt H d31_14 rfl w173 ?_
  refine Go.icmpN H d31_16 (by decide) rfl ?_
  refine Go.iloadN H d31_19 rfl rfl ?_
  exact Go.ireturnI [] H d31_20 ⟨rfl, rfl, rfl⟩ all0 (by decide) (by decide)
theorem d33_0 : decode jdk_65_method_121_code 0 = .ok (.iload_n 1, 1) := by decide +kernel
theorem d33_1 : decode jdk_65_method_121_code 1 = .ok (.aload_n 0, 1) := by decide +kernel
theorem d33_2 : decode jdk_65_method_121_code 2 = .ok (.arraylength, 1) := by decide +kernel
theorem d33_3 : decode jdk_65_method_121_code 3 = .ok (.if_icmp .ne 11, 3) := by decide +kernel
theorem d33_14 : decode jdk_65_method_121_code 14 = .ok (.iload_n 1, 1) := by decide +kernel
theorem d33_15 : decode jdk_65_method_121_code 15 = .ok (.newarray .byte, 2) := by decide +kernel
theorem d33_17 : decode jdk_65_method_121_code 17 = .ok (.astore_n 2, 1) := by decide +kernel
theorem d33_18 : decode jdk_65_method_121_code 18 = .ok (.aload_n 0, 1) := by decide +kernel
theorem d33_19 : decode jdk_65_method_121_code 19 = .ok (.iconst 0, 1) := by decide +kernel
theorem d33_20 : decode jdk_65_method_121_code 20 = .ok (.aload_n 2, 1) := by decide +kernel
theorem d33_21 : decode jdk_65_method_121_code 21 = .ok (.iconst 0, 1) := by decide +kernel
theorem d33_22 : decode jdk_65_method_121_code 22 = .ok (.aload_n 0, 1) := by decide +kernel
theorem d33_23 : decode jdk_65_method_121_code 23 = .ok (.arraylength, 1) := by decide +kernel
theorem d33_24 : decode jdk_65_method_121_code 24 = .ok (.iload_n 1, 1) := by decide +kernel
theorem d33_25 : decode jdk_65_method_121_code 25 = .ok (.invokestatic 304, 3) := by decide +kernel
theorem w148 : Jvm.Cond.code N10 jdk_29_method_69_code (2 : Nat) (Option.some Jvm.ClassFile.FieldType.int) ∈ tables_1 := List.mem_of_getElem? (i := 148) rfl
theorem pd_N10 : parseMethodDescriptor N10.desc = some ⟨[.int, .int], (some .int)⟩ := by decide +kernel
theorem w145 : Jvm.Cond.methodLink "java/util/Arrays" (304 : Nat) N10 ∈ tables_1 := List.mem_of_getElem? (i := 145) rfl
theorem w146 : Jvm.Cond.static N10 ∈ tables_1 := List.mem_of_getElem? (i := 146) rfl
theorem d33_28 : decode jdk_65_method_121_code 28 = .ok (.invokestatic 150, 3) := by decide +kernel
abbrev N15 : MethodName := ⟨"java/lang/System", "arraycopy", "(Ljava/lang/Object;ILjava/lang/Object;II)V"⟩
theorem w149 : Jvm.Cond.methodLink "java/util/Arrays" (150 : Nat) N15 ∈ tables_1 := List.mem_of_getElem? (i := 149) rfl
theorem w101 : Jvm.Cond.native N15 ∈ tables_1 := List.mem_of_getElem? (i := 101) rfl
theorem w99 : Jvm.Cond.static N15 ∈ tables_1 := List.mem_of_getElem? (i := 99) rfl
theorem w100 : Jvm.Cond.initialized "java/lang/System" ∈ tables_1 := List.mem_of_getElem? (i := 100) rfl
theorem d33_31 : decode jdk_65_method_121_code 31 = .ok (.aload_n 2, 1) := by decide +kernel
theorem d33_32 : decode jdk_65_method_121_code 32 = .ok (.areturn, 1) := by decide +kernel
abbrev N16 : MethodName := ⟨"java/util/Arrays", "copyOf", "([BI)[B"⟩
theorem pn_N16 : plainName N16.cls = true := by first | (simp [plainName, overriddenIn]; done) | decide +kernel

abbrev rm_cof0 : Room := { frames := 1, cells := 1, slots := 34, locals := 27 }
set_option maxRecDepth 65536 in
set_option maxHeartbeats 4000000 in
theorem ct_cof0 (l : Launch) {Z : State} {n0 : Nat} {z : Int32} {f : Value} {pA pB sA sB bA bB : Addr} (W : Sx Z z f pA pB sA sB bA bB) (b : Addr) (bs : List Int32) (h : Heap) (Fb : Vec Z h b .byte bs) (hb : bs.length = 16) :
    Ctr l Z n0 N16 jdk_65_method_121_code 3 (some (.array .byte)) rm_cof0 #[(.ref b), (.int (34 : Int32))] h [] (fun v h' sn => ∃ d, v = some (.ref d) ∧ Ext h h' ∧ h.size ≤ d ∧ n0 ≤ d ∧ Vec Z h' d .byte (bs ++ List.replicate 18 0) ∧ sn = [d]) := by
  refine Ctr.of_go (ls := #[.val (.ref b), .val (.int (34 : Int32)), .unset]) W.1.1 (plainFor_of_name pn_N16) (fun m => by first | (simp [entryFrame, mkF, argsToLocals, Value.category]; done) | rfl) (fun K H => ?_)
  have KK : Keep h h [] := Keep.refl _ _
  refine Go.iloadN H d33_0 rfl rfl ?_
  refine Go.aloadN H d33_1 rfl rfl rfl ?_
  refine Go.arraylength (16 : Int32) H d33_2 rfl Fb (by rw [hb]; rfl) ?_
  refine Go.icmpY (pc' := 14) H d33_3 (by decide) (by decide) (by decide) ?_
  refine Go.iloadN H d33_14 rfl rfl ?_
  refine Go.newarray 34 34 H d33_15 rfl w19 rfl (by decide) (by decide) (by decide) (by decide) (by decide) (by decide) (by decide) ?_
  intro a1 h2 g3 z4 E5 F6
  have ne7 : b ≠ a1 := Nat.ne_of_lt (Nat.lt_of_lt_of_le Fb.lt (Nat.le_of_eq g3.symm))
  have sz8 := Nat.le_trans KK.1 (Nat.le_of_eq g3.symm)
  replace Fb := Fb.ext E5
  replace KK := KK.ext E5
  show Go _ _ _ _ _ _ h2 [a1] 1 34 17 #[.val (.ref b), .val (.int (34 : Int32)), .unset] [(.ref a1)]
  refine Go.astoreN (ls' := #[.val (.ref b), .val (.int (34 : Int32)), .val (.ref a1)]) H d33_17 rfl rfl rfl ?_
  refine Go.aloadN H d33_18 rfl rfl rfl ?_
  refine Go.iconst (0 : Int32) H d33_19 rfl rfl ?_
  refine Go.aloadN H d33_20 rfl rfl rfl ?_
  refine Go.iconst (0 : Int32) H d33_21 rfl rfl ?_
  refine Go.aloadN H d33_22 rfl rfl rfl ?_
  refine Go.arraylength (16 : Int32) H d33_23 rfl Fb (by rw [hb]; rfl) ?_
  refine Go.iloadN H d33_24 rfl rfl ?_
  refine Go.callS (rest := [(.int (0 : Int32)), (.ref a1), (.int (0 : Int32)), (.ref b)]) 4 [(.int (16 : Int32)), (.int (34 : Int32))] H d33_25 rfl w145 w146 w147 w148 pd_N10 (ct_min l W (16 : Int32) (34 : Int32) h2) all0 rfl rfl rfl (Nat.le_of_eq rfl) (by decide) (by decide) (by decide) (by decide) nh_N11 ?_
  rintro _ _ _ ⟨rfl, rfl, rfl⟩
  show Go _ _ _ _ _ _ h2 [a1] 1 34 28 #[.val (.ref b), .val (.int (34 : Int32)), .val (.ref a1)] [(.int (minF (16 : Int32) (34 : Int32))), (.int (0 : Int32)), (.ref a1), (.int (0 : Int32)), (.ref b)]
  rw [minF_0]
  refine Go.arraycopy 0 0 16 H d33_28 rfl w149 w101 w99 w100 Fb F6 (by omega) (by simp) rfl (by decide) (by decide) (by decide) (by decide) (by decide) (by decide) (by omega) (by simp) z4 (by simp) 0 rfl (Nat.le_of_eq rfl) (by decide) (by decide) ?_
  intro h9 K10 F11
  replace Fb := Fb.keep K10 (ninS ne7 nin0)
  replace KK := KK.trans K10 (allS (Or.inr sz8) all0)
  refine Go.aloadN H d33_31 rfl rfl rfl ?_
  rw [own_cof hb] at F11
  exact Go.areturn [a1] H d33_32 rfl rfl (own_narR rfl) ⟨_, rfl, own_ext KK, Nat.le_of_eq g3.symm, z4, F11, rfl⟩ (by simp) (by decide) (by decide)
theorem d30_0 : decode jdk_68_method_10_code 0 = .ok (.aload_n 0, 1) := by decide +kernel
theorem d30_1 : decode jdk_68_method_10_code 1 = .ok (.getfield 15, 3) := by decide +kernel
theorem d30_4 : decode jdk_68_method_10_code 4 = .ok (.arraylength, 1) := by decide +kernel
theorem d30_5 : decode jdk_68_method_10_code 5 = .ok (.istore_n 2, 1) := by decide +kernel
theorem d30_6 : decode jdk_68_method_10_code 6 = .ok (.iload_n 1, 1) := by decide +kernel
theorem d30_7 : decode jdk_68_method_10_code 7 = .ok (.aload_n 0, 1) := by decide +kernel
theorem d30_8 : decode jdk_68_method_10_code 8 = .ok (.getfield 22, 3) := by decide +kernel
theorem d30_11 : decode jdk_68_method_10_code 11 = .ok (.ishl, 1) := by decide +kernel
theorem d30_12 : decode jdk_68_method_10_code 12 = .ok (.istore_n 3, 1) := by decide +kernel
theorem d30_13 : decode jdk_68_method_10_code 13 = .ok (.iload_n 3, 1) := by decide +kernel
theorem d30_14 : decode jdk_68_method_10_code 14 = .ok (.iload_n 2, 1) := by decide +kernel
theorem d30_15 : decode jdk_68_method_10_code 15 = .ok (.isub, 1) := by decide +kernel
theorem d30_16 : decode jdk_68_method_10_code 16 = .ok (.istore 4, 2) := by decide +kernel
theorem d30_18 : decode jdk_68_method_10_code 18 = .ok (.iload_n 2, 1) := by decide +kernel
theorem d30_19 : decode jdk_68_method_10_code 19 = .ok (.iload 4, 2) := by decide +kernel
theorem d30_21 : decode jdk_68_method_10_code 21 = .ok (.iload_n 2, 1) := by decide +kernel
theorem d30_22 : decode jdk_68_method_10_code 22 = .ok (.iconst 2, 1) := by decide +kernel
theorem d30_23 : decode jdk_68_method_10_code 23 = .ok (.aload_n 0, 1) := by decide +kernel
theorem d30_24 : decode jdk_68_method_10_code 24 = .ok (.getfield 22, 3) := by decide +kernel
theorem d30_27 : decode jdk_68_method_10_code 27 = .ok (.ishl, 1) := by decide +kernel
theorem d30_28 : decode jdk_68_method_10_code 28 = .ok (.iadd, 1) := by decide +kernel
theorem d30_29 : decode jdk_68_method_10_code 29 = .ok (.invokestatic 114, 3) := by decide +kernel
theorem w169 : Jvm.Cond.code N14 jdk_48_method_27_code (4 : Nat) (Option.some Jvm.ClassFile.FieldType.int) ∈ tables_1 := List.mem_of_getElem? (i := 169) rfl
theorem w168 : Jvm.Cond.initialized "jdk/internal/util/ArraysSupport" ∈ tables_1 := List.mem_of_getElem? (i := 168) rfl
theorem pd_N14 : parseMethodDescriptor N14.desc = some ⟨[.int, .int, .int], (some .int)⟩ := by decide +kernel
theorem nh_N14 : N14.cls ≠ "java/lang/invoke/MethodHandle" ∧ N14.cls ≠ "java/lang/invoke/VarHandle" := by decide
theorem w166 : Jvm.Cond.methodLink "java/lang/AbstractStringBuilder" (114 : Nat) N14 ∈ tables_1 := List.mem_of_getElem? (i := 166) rfl
theorem w167 : Jvm.Cond.static N14 ∈ tables_1 := List.mem_of_getElem? (i := 167) rfl
theorem d30_32 : decode jdk_68_method_10_code 32 = .ok (.istore 5, 2) := by decide +kernel
theorem d30_34 : decode jdk_68_method_10_code 34 = .ok (.iload 5, 2) := by decide +kernel
theorem d30_36 : decode jdk_68_method_10_code 36 = .ok (.ldc 39, 2) := by decide +kernel
theorem w174 : Jvm.Cond.constant "java/lang/AbstractStringBuilder" (39 : Nat) (2147483647 : Int32) ∈ tables_1 := List.mem_of_getElem? (i := 174) rfl
theorem d30_38 : decode jdk_68_method_10_code 38 = .ok (.if_icmp .ne 13, 3) := by decide +kernel
theorem d30_51 : decode jdk_68_method_10_code 51 = .ok (.iload 5, 2) := by decide +kernel
theorem d30_53 : decode jdk_68_method_10_code 53 = .ok (.aload_n 0, 1) := by decide +kernel
theorem d30_54 : decode jdk_68_method_10_code 54 = .ok (.getfield 22, 3) := by decide +kernel
theorem d30_57 : decode jdk_68_method_10_code 57 = .ok (.ishr, 1) := by decide +kernel
theorem d30_58 : decode jdk_68_method_10_code 58 = .ok (.ireturn, 1) := by decide +kernel
abbrev N17 : MethodName := ⟨"java/lang/AbstractStringBuilder", "newCapacity", "(I)I"⟩

abbrev rm_ncp0 : Room := { frames := 2, cells := 0, slots := 0, locals := 29 }
set_option maxRecDepth 65536 in
set_option maxHeartbeats 4000000 in
theorem ct_ncp0 (l : Launch) {Z : State} {n0 : Nat} {z : Int32} {f : Value} {pA pB sA sB bA bB : Addr} (W : Sx Z z f pA pB sA sB bA bB) (x b : Addr) (bs : List Int32) (n : Int32) (m : Nat) (h : Heap) (F : SbF Z h x b 0 n) (Fb : Vec Z h b .byte bs) (hb : bs.length = 16) (h1 : 16 < m) (h2 : m ≤ 33) :
    Ctr l Z n0 N17 jdk_68_method_10_code 6 (some .int) rm_ncp0 #[(.ref x), (.int m.toInt32)] h [] (fun v h' sn => v = some (.int (34 : Int32)) ∧ h = h' ∧ sn = []) := by
  refine Ctr.of_go (ls := #[.val (.ref x), .val (.int m.toInt32), .unset, .unset, .unset, .unset]) W.1.1 (plainFor_of_name pn_N12) (fun m => by first | (simp [entryFrame, mkF, argsToLocals, Value.category]; done) | rfl) (fun K H => ?_)
  obtain ⟨A, Fv, Fc, Fn⟩ := F
  refine Go.aloadN H d30_0 rfl rfl rfl ?_
  refine Go.getfield H d30_1 rfl w51 Fv ?_
  refine Go.arraylength (16 : Int32) H d30_4 rfl Fb (by rw [hb]; rfl) ?_
  refine Go.istoreN (ls' := #[.val (.ref x), .val (.int m.toInt32), .val (.int (16 : Int32)), .unset, .unset, .unset]) H d30_5 rfl rfl ?_
  refine Go.iloadN H d30_6 rfl rfl ?_
  refine Go.aloadN H d30_7 rfl rfl rfl ?_
  refine Go.getfield H d30_8 rfl w53 Fc ?_
  refine Go.ishl H d30_11 rfl ?_
  rw [own_shl0]
  refine Go.istoreN (ls' := #[.val (.ref x), .val (.int m.toInt32), .val (.int (16 : Int32)), .val (.int m.toInt32), .unset, .unset]) H d30_12 rfl rfl ?_
  refine Go.iloadN H d30_13 rfl rfl ?_
  refine Go.iloadN H d30_14 rfl rfl ?_
  refine Go.isub H d30_15 rfl ?_
  refine Go.istore (ls' := #[.val (.ref x), .val (.int m.toInt32), .val (.int (16 : Int32)), .val (.int m.toInt32), .val (.int (m.toInt32 - (16 : Int32))), .unset]) H d30_16 rfl rfl ?_
  refine Go.iloadN H d30_18 rfl rfl ?_
  refine Go.iload H d30_19 rfl rfl ?_
  refine Go.iloadN H d30_21 rfl rfl ?_
  refine Go.iconst (2 : Int32) H d30_22 rfl rfl ?_
  refine Go.aloadN H d30_23 rfl rfl rfl ?_
  refine Go.getfield H d30_24 rfl w53 Fc ?_
  refine Go.ishl H d30_27 rfl ?_
  rw [lt_a]
  refine Go.iadd H d30_28 rfl ?_
  show Go _ _ _ _ _ _ h [] 0 0 29 #[.val (.ref x), .val (.int m.toInt32), .val (.int (16 : Int32)), .val (.int m.toInt32), .val (.int (m.toInt32 - (16 : Int32))), .unset] [(.int (18 : Int32)), (.int (m.toInt32 - (16 : Int32))), (.int (16 : Int32))]
  refine Go.callS (rest := []) 0 [(.int (16 : Int32)), (.int (m.toInt32 - (16 : Int32))), (.int (18 : Int32))] H d30_29 rfl w166 w167 w168 w169 pd_N14 (ct_nl0 l W (m.toInt32 - (16 : Int32)) h (own_g0 h1 h2)) all0 rfl rfl rfl (Nat.le_of_eq rfl) (by decide) (by decide) (by decide) (by decide) nh_N14 ?_
  rintro _ _ _ ⟨rfl, rfl, rfl⟩
  show Go _ _ _ _ _ _ h [] 0 0 32 #[.val (.ref x), .val (.int m.toInt32), .val (.int (16 : Int32)), .val (.int m.toInt32), .val (.int (m.toInt32 - (16 : Int32))), .unset] [(.int (34 : Int32))]
  refine Go.istore (ls' := #[.val (.ref x), .val (.int m.toInt32), .val (.int (16 : Int32)), .val (.int m.toInt32), .val (.int (m.toInt32 - (16 : Int32))), .val (.int (34 : Int32))]) H d30_32 rfl rfl ?_
  refine Go.iload H d30_34 rfl rfl ?_
  refine Go.ldcInt H d30_36 rfl w174 ?_
  refine Go.icmpY (pc' := 51) H d30_38 (by decide) (by decide) (by decide) ?_
  refine Go.iload H d30_51 rfl rfl ?_
  refine Go.aloadN H d30_53 rfl rfl rfl ?_
  refine Go.getfield H d30_54 rfl w53 Fc ?_
  refine Go.ishr H d30_57 rfl ?_
  exact Go.ireturnI [] H d30_58 ⟨by rw [lt_c], rfl, rfl⟩ all0 (by decide) (by decide)
theorem d14_0 : decode jdk_68_method_9_code 0 = .ok (.aload_n 0, 1) := by decide +kernel
theorem d14_1 : decode jdk_68_method_9_code 1 = .ok (.getfield 15, 3) := by decide +kernel
theorem d14_4 : decode jdk_68_method_9_code 4 = .ok (.arraylength, 1) := by decide +kernel
theorem d14_5 : decode jdk_68_method_9_code 5 = .ok (.aload_n 0, 1) := by decide +kernel
theorem d14_6 : decode jdk_68_method_9_code 6 = .ok (.getfield 22, 3) := by decide +kernel
theorem d14_9 : decode jdk_68_method_9_code 9 = .ok (.ishr, 1) := by decide +kernel
theorem d14_10 : decode jdk_68_method_9_code 10 = .ok (.istore_n 2, 1) := by decide +kernel
theorem d14_11 : decode jdk_68_method_9_code 11 = .ok (.iload_n 1, 1) := by decide +kernel
theorem d14_12 : decode jdk_68_method_9_code 12 = .ok (.iload_n 2, 1) := by decide +kernel
theorem d14_13 : decode jdk_68_method_9_code 13 = .ok (.isub, 1) := by decide +kernel
theorem d14_14 : decode jdk_68_method_9_code 14 = .ok (.ifCond .le 24, 3) := by decide +kernel
theorem d14_17 : decode jdk_68_method_9_code 17 = .ok (.aload_n 0, 1) := by decide +kernel
theorem d14_18 : decode jdk_68_method_9_code 18 = .ok (.aload_n 0, 1) := by decide +kernel
theorem d14_19 : decode jdk_68_method_9_code 19 = .ok (.getfield 15, 3) := by decide +kernel
theorem d14_22 : decode jdk_68_method_9_code 22 = .ok (.aload_n 0, 1) := by decide +kernel
theorem d14_23 : decode jdk_68_method_9_code 23 = .ok (.iload_n 1, 1) := by decide +kernel
theorem d14_24 : decode jdk_68_method_9_code 24 = .ok (.invokevirtual 104, 3) := by decide +kernel
theorem w165 : Jvm.Cond.code N17 jdk_68_method_10_code (6 : Nat) (Option.some Jvm.ClassFile.FieldType.int) ∈ tables_1 := List.mem_of_getElem? (i := 165) rfl
theorem pd_N17 : parseMethodDescriptor N17.desc = some ⟨[.int], (some .int)⟩ := by decide +kernel
theorem w163 : Jvm.Cond.privateMethod N17 ∈ tables_1 := List.mem_of_getElem? (i := 163) rfl
theorem w161 : Jvm.Cond.methodLink "java/lang/AbstractStringBuilder" (104 : Nat) N17 ∈ tables_1 := List.mem_of_getElem? (i := 161) rfl
theorem w164 : Jvm.Cond.selects "java/lang/StringBuilder" N17 N17 ∈ tables_1 := List.mem_of_getElem? (i := 164) rfl
theorem w162 : Jvm.Cond.instanceMethod N17 ∈ tables_1 := List.mem_of_getElem? (i := 162) rfl
theorem d14_27 : decode jdk_68_method_9_code 27 = .ok (.aload_n 0, 1) := by decide +kernel
theorem d14_28 : decode jdk_68_method_9_code 28 = .ok (.getfield 22, 3) := by decide +kernel
theorem d14_31 : decode jdk_68_method_9_code 31 = .ok (.ishl, 1) := by decide +kernel
theorem d14_32 : decode jdk_68_method_9_code 32 = .ok (.invokestatic 108, 3) := by decide +kernel
theorem w177 : Jvm.Cond.code N16 jdk_65_method_121_code (3 : Nat) (Option.some (Jvm.ClassFile.FieldType.array Jvm.ClassFile.FieldType.byte)) ∈ tables_1 := List.mem_of_getElem? (i := 177) rfl
theorem w137 : Jvm.Cond.initialized "java/util/Arrays" ∈ tables_1 := List.mem_of_getElem? (i := 137) rfl
theorem pd_N16 : parseMethodDescriptor N16.desc = some ⟨[(.array .byte), .int], (some (.array .byte))⟩ := by decide +kernel
theorem nh_N16 : N16.cls ≠ "java/lang/invoke/MethodHandle" ∧ N16.cls ≠ "java/lang/invoke/VarHandle" := by decide
theorem w175 : Jvm.Cond.methodLink "java/lang/AbstractStringBuilder" (108 : Nat) N16 ∈ tables_1 := List.mem_of_getElem? (i := 175) rfl
theorem w176 : Jvm.Cond.static N16 ∈ tables_1 := List.mem_of_getElem? (i := 176) rfl
theorem d14_35 : decode jdk_68_method_9_code 35 = .ok (.putfield 15, 3) := by decide +kernel
theorem d14_38 : decode jdk_68_method_9_code 38 = .ok (.return_, 1) := by decide +kernel
abbrev N18 : MethodName := ⟨"java/lang/AbstractStringBuilder", "ensureCapacityInternal", "(I)V"⟩

abbrev rm_ecg0 : Room := { frames := 3, cells := 1, slots := 34, locals := 48 }
set_option maxRecDepth 65536 in
set_option maxHeartbeats 4000000 in
theorem ct_ecg0 (l : Launch) {Z : State} {n0 : Nat} {z : Int32} {f : Value} {pA pB sA sB bA bB : Addr} (W : Sx Z z f pA pB sA sB bA bB) (x b : Addr) (bs : List Int32) (n : Int32) (m : Nat) (h : Heap) (F : SbF Z h x b 0 n) (Fb : Vec Z h b .byte bs) (hb : bs.length = 16) (h1 : 16 < m) (h2 : m ≤ 33) (zx : n0 ≤ x) :
    Ctr l Z n0 N18 jdk_68_method_9_code 3 none rm_ecg0 #[(.ref x), (.int m.toInt32)] h [x] (fun v h' sn => v = none ∧ Keep h h' [x] ∧ ∃ d, h.size ≤ d ∧ n0 ≤ d ∧ SbF Z h' x d 0 n ∧ Vec Z h' d .byte (bs ++ List.replicate 18 0) ∧ sn = [d]) := by
  refine Ctr.of_go (ls := #[.val (.ref x), .val (.int m.toInt32), .unset]) W.1.1 (plainFor_of_name pn_N12) (fun m => by first | (simp [entryFrame, mkF, argsToLocals, Value.category]; done) | rfl) (fun K H => ?_)
  obtain ⟨A, Fv, Fc, Fn⟩ := F
  have KK : Keep h h [x] := Keep.refl _ _
  have hbx : b ≠ x := Vec.neExa Fb A W.1.1 w38
  refine Go.aloadN H d14_0 rfl rfl rfl ?_
  refine Go.getfield H d14_1 rfl w51 Fv ?_
  refine Go.arraylength (16 : Int32) H d14_4 rfl Fb (by rw [hb]; rfl) ?_
  refine Go.aloadN H d14_5 rfl rfl rfl ?_
  refine Go.getfield H d14_6 rfl w53 Fc ?_
  refine Go.ishr H d14_9 rfl ?_
  rw [lt_e]
  refine Go.istoreN (ls' := #[.val (.ref x), .val (.int m.toInt32), .val (.int (16 : Int32))]) H d14_10 rfl rfl ?_
  refine Go.iloadN H d14_11 rfl rfl ?_
  refine Go.iloadN H d14_12 rfl rfl ?_
  refine Go.isub H d14_13 rfl ?_
  refine Go.ifN H d14_14 (tlt (own_g2 h1 h2)).2.2.2 rfl ?_
  refine Go.aloadN H d14_17 rfl rfl rfl ?_
  refine Go.aloadN H d14_18 rfl rfl rfl ?_
  refine Go.getfield H d14_19 rfl w51 Fv ?_
  refine Go.aloadN H d14_22 rfl rfl rfl ?_
  refine Go.iloadN H d14_23 rfl rfl ?_
  refine Go.callP (rest := [(.ref b), (.ref x)]) 2 [(.int m.toInt32)] H d14_24 rfl A w161 w163 w164 w162 w47 w165 pd_N17 (ct_ncp0 l W x b _ n m h ⟨A, Fv, Fc, Fn⟩ Fb hb h1 h2) all0 rfl rfl rfl (Nat.le_of_eq rfl) (by decide) (by decide) (by decide) (by decide) nh_N12 ?_
  rintro _ _ _ ⟨rfl, rfl, rfl⟩
  show Go _ _ _ _ _ _ h [x] 0 0 27 #[.val (.ref x), .val (.int m.toInt32), .val (.int (16 : Int32))] [(.int (34 : Int32)), (.ref b), (.ref x)]
  refine Go.aloadN H d14_27 rfl rfl rfl ?_
  refine Go.getfield H d14_28 rfl w53 Fc ?_
  refine Go.ishl H d14_31 rfl ?_
  rw [lt_g]
  refine Go.callS (rest := [(.ref x)]) 1 [(.ref b), (.int (34 : Int32))] H d14_32 rfl w175 w176 w137 w177 pd_N16 (ct_cof0 l W b _ h Fb hb) all0 rfl rfl rfl (Nat.le_of_eq rfl) (by decide) (by decide) (by decide) (by decide) nh_N16 ?_
  rintro _ h2 _ ⟨d1, rfl, E3, g4, z5, F6, rfl⟩
  have ne7 : x ≠ d1 := Nat.ne_of_lt (Nat.lt_of_lt_of_le A.lt g4)
  have ne8 : b ≠ d1 := Nat.ne_of_lt (Nat.lt_of_lt_of_le Fb.lt g4)
  have sz9 := Nat.le_trans KK.1 g4
  replace A := A.ext E3
  replace Fv := Fv.ext E3
  replace Fc := Fc.ext E3
  replace Fn := Fn.ext E3
  replace Fb := Fb.ext E3
  replace KK := KK.ext E3
  show Go _ _ _ _ _ _ h2 [d1, x] 1 34 35 #[.val (.ref x), .val (.int m.toInt32), .val (.int (16 : Int32))] [(.ref d1), (.ref x)]
  refine Go.putfield (v := (.ref d1)) H d14_35 rfl w51 Fv A (Or.inl w52) w38 (ty := (.array .byte)) (by decide) rfl rfl zx (by simp) ?_
  intro h10 Wr11
  have F12 := Fv.same Wr11
  have K13 := Keep.of_wr Wr11
  replace A := A.wr Wr11
  replace Fc := Fc.other Wr11 (Or.inr (own_sne W.1.1 (Or.inl w54) (Or.inl w52) (by decide) (t := .byte) (t' := (.array .byte)) (by decide) (by decide)))
  replace Fn := Fn.other Wr11 (Or.inr (own_sne W.1.1 (Or.inl w76) (Or.inl w52) (by decide) (t := .int) (t' := (.array .byte)) (by decide) (by decide)))
  replace Fb := Fb.keep K13 (ninS hbx nin0)
  replace F6 := F6.keep K13 (ninS (Ne.symm ne7) nin0)
  replace KK := KK.wr Wr11 (Or.inl (by simp))
  exact Go.return_ [d1] H d14_38 ⟨rfl, KK, d1, sz9, z5, ⟨A, F12, Fc, Fn⟩, F6, rfl⟩ (by simp) (by decide) (by decide)

abbrev rm_ecf0 : Room := { frames := 0, cells := 0, slots := 0, locals := 0 }
set_option maxRecDepth 65536 in
set_option maxHeartbeats 4000000 in
theorem ct_ecf0 (l : Launch) {Z : State} {n0 : Nat} {z : Int32} {f : Value} {pA pB sA sB bA bB : Addr} (W : Sx Z z f pA pB sA sB bA bB) (x b : Addr) (bs : List Int32) (n : Int32) (m cap : Nat) (h : Heap) (F : SbF Z h x b 0 n) (Fb : Vec Z h b .byte bs) (hb : bs.length = cap) (h1 : m ≤ cap) (h2 : cap < 2 ^ 20) :
    Ctr l Z n0 N18 jdk_68_method_9_code 3 none rm_ecf0 #[(.ref x), (.int m.toInt32)] h [] (fun v h' sn => v = none ∧ h = h' ∧ sn = []) := by
  refine Ctr.of_go (ls := #[.val (.ref x), .val (.int m.toInt32), .unset]) W.1.1 (plainFor_of_name pn_N12) (fun m => by first | (simp [entryFrame, mkF, argsToLocals, Value.category]; done) | rfl) (fun K H => ?_)
  obtain ⟨A, Fv, Fc, Fn⟩ := F
  refine Go.aloadN H d14_0 rfl rfl rfl ?_
  refine Go.getfield H d14_1 rfl w51 Fv ?_
  refine Go.arraylength cap.toInt32 H d14_4 rfl Fb (by rw [hb]) ?_
  refine Go.aloadN H d14_5 rfl rfl rfl ?_
  refine Go.getfield H d14_6 rfl w53 Fc ?_
  refine Go.ishr H d14_9 rfl ?_
  rw [own_shr0]
  refine Go.istoreN (ls' := #[.val (.ref x), .val (.int m.toInt32), .val (.int cap.toInt32)]) H d14_10 rfl rfl ?_
  refine Go.iloadN H d14_11 rfl rfl ?_
  refine Go.iloadN H d14_12 rfl rfl ?_
  refine Go.isub H d14_13 rfl ?_
  refine Go.ifY (pc' := 38) H d14_14 (flt (own_subnp (by omega) h1)).2.2.2 (by decide) (by decide) ?_
  exact Go.return_ [] H d14_38 ⟨rfl, rfl, rfl⟩ all0 (by decide) (by decide)
theorem d24_0 : decode jdk_68_method_68_code 0 = .ok (.getstatic 18, 3) := by decide +kernel
theorem d24_3 : decode jdk_68_method_68_code 3 = .ok (.ifCond .eq 14, 3) := by decide +kernel
theorem d24_6 : decode jdk_68_method_68_code 6 = .ok (.aload_n 0, 1) := by decide +kernel
theorem d24_7 : decode jdk_68_method_68_code 7 = .ok (.getfield 22, 3) := by decide +kernel
theorem d24_10 : decode jdk_68_method_68_code 10 = .ok (.ifCond .ne 7, 3) := by decide +kernel
theorem d24_13 : decode jdk_68_method_68_code 13 = .ok (.iconst 1, 1) := by decide +kernel
theorem d24_14 : decode jdk_68_method_68_code 14 = .ok (.goto 4, 3) := by decide +kernel
theorem d24_18 : decode jdk_68_method_68_code 18 = .ok (.ireturn, 1) := by decide +kernel
abbrev N19 : MethodName := ⟨"java/lang/AbstractStringBuilder", "isLatin1", "()Z"⟩

abbrev rm_asl0 : Room := { frames := 0, cells := 0, slots := 0, locals := 0 }
set_option maxRecDepth 65536 in
set_option maxHeartbeats 4000000 in
theorem ct_asl0 (l : Launch) {Z : State} {n0 : Nat} {z : Int32} {f : Value} {pA pB sA sB bA bB : Addr} (W : Sx Z z f pA pB sA sB bA bB) (x b : Addr) (n : Int32) (h : Heap) (F : SbF Z h x b 0 n) :
    Ctr l Z n0 N19 jdk_68_method_68_code 1 (some .boolean) rm_asl0 #[(.ref x)] h [] (fun v h' sn => v = some (.int 1) ∧ h = h' ∧ sn = []) := by
  refine Ctr.of_go (ls := #[.val (.ref x)]) W.1.1 (plainFor_of_name pn_N12) (fun m => by first | (simp [entryFrame, mkF, argsToLocals, Value.category]; done) | rfl) (fun K H => ?_)
  obtain ⟨A, Fv, Fc, Fn⟩ := F
  refine Go.getstatic H d24_0 rfl w50 W.1.2.2.1 ?_
  refine Go.ifN H d24_3 (feq W.1.2.1).1 rfl ?_
  refine Go.aloadN H d24_6 rfl rfl rfl ?_
  refine Go.getfield H d24_7 rfl w53 Fc ?_
  refine Go.ifN H d24_10 (by decide) rfl ?_
  refine Go.iconst (1 : Int32) H d24_13 rfl rfl ?_
  refine Go.goto (pc' := 18) H d24_14 (by decide) (by decide) ?_
  exact Go.ireturn (1 : Int32) [] H d24_18 (by simp) (by decide) ⟨rfl, rfl, rfl⟩ all0 (by decide) (by decide)
theorem d16_0 : decode jdk_68_method_71_code 0 = .ok (.getstatic 18, 3) := by decide +kernel
theorem d16_3 : decode jdk_68_method_71_code 3 = .ok (.ifCond .eq 18, 3) := by decide +kernel
theorem d16_6 : decode jdk_68_method_71_code 6 = .ok (.aload_n 0, 1) := by decide +kernel
theorem d16_7 : decode jdk_68_method_71_code 7 = .ok (.getfield 22, 3) := by decide +kernel
theorem d16_10 : decode jdk_68_method_71_code 10 = .ok (.aload_n 1, 1) := by decide +kernel
theorem d16_11 : decode jdk_68_method_71_code 11 = .ok (.invokevirtual 40, 3) := by decide +kernel
theorem w92 : Jvm.Cond.methodLink "java/lang/AbstractStringBuilder" (40 : Nat) N6 ∈ tables_1 := List.mem_of_getElem? (i := 92) rfl
theorem d16_14 : decode jdk_68_method_71_code 14 = .ok (.if_icmp .eq 7, 3) := by decide +kernel
theorem d16_21 : decode jdk_68_method_71_code 21 = .ok (.return_, 1) := by decide +kernel
abbrev N20 : MethodName := ⟨"java/lang/AbstractStringBuilder", "inflateIfNeededFor", "(Ljava/lang/String;)V"⟩

abbrev rm_iin00 : Room := { frames := 1, cells := 0, slots := 0, locals := 13 }
set_option maxRecDepth 65536 in
set_option maxHeartbeats 4000000 in
theorem ct_iin00 (l : Launch) {Z : State} {n0 : Nat} {z : Int32} {f : Value} {pA pB sA sB bA bB : Addr} (W : Sx Z z f pA pB sA sB bA bB) (x b y sb : Addr) (n : Int32) (ds : List Int32) (h : Heap) (F : SbF Z h x b 0 n) (S : Str Z h y sb ds) :
    Ctr l Z n0 N20 jdk_68_method_71_code 2 none rm_iin00 #[(.ref x), (.ref y)] h [] (fun v h' sn => v = none ∧ h = h' ∧ sn = []) := by
  refine Ctr.of_go (ls := #[.val (.ref x), .val (.ref y)]) W.1.1 (plainFor_of_name pn_N12) (fun m => by first | (simp [entryFrame, mkF, argsToLocals, Value.category]; done) | rfl) (fun K H => ?_)
  obtain ⟨A, Fv, Fc, Fn⟩ := F
  refine Go.getstatic H d16_0 rfl w50 W.1.2.2.1 ?_
  refine Go.ifN H d16_3 (feq W.1.2.1).1 rfl ?_
  refine Go.aloadN H d16_6 rfl rfl rfl ?_
  refine Go.getfield H d16_7 rfl w53 Fc ?_
  refine Go.aloadN H d16_10 rfl rfl rfl ?_
  refine Go.callV (rest := [(.int (0 : Int32))]) 1 [] H d16_11 rfl S.1 w92 w71 w73 w72 w2 w74 pd_N6 (ct_cod l W y sb ds h S) all0 rfl rfl rfl (Nat.le_of_eq rfl) (by decide) (by decide) (by decide) (by decide) nh_N4 ?_
  rintro _ _ _ ⟨rfl, rfl, rfl⟩
  show Go _ _ _ _ _ _ h [] 0 0 14 #[.val (.ref x), .val (.ref y)] [(.int (0 : Int32)), (.int (0 : Int32))]
  refine Go.icmpY (pc' := 21) H d16_14 (by decide) (by decide) (by decide) ?_
  exact Go.return_ [] H d16_21 ⟨rfl, rfl, rfl⟩ all0 (by decide) (by decide)
theorem d17_0 : decode jdk_42_method_147_code 0 = .ok (.aload_n 0, 1) := by decide +kernel
theorem d17_1 : decode jdk_42_method_147_code 1 = .ok (.invokevirtual 335, 3) := by decide +kernel
theorem d17_4 : decode jdk_42_method_147_code 4 = .ok (.iload_n 3, 1) := by decide +kernel
theorem d17_5 : decode jdk_42_method_147_code 5 = .ok (.if_icmp .ne 23, 3) := by decide +kernel
theorem d17_8 : decode jdk_42_method_147_code 8 = .ok (.aload_n 0, 1) := by decide +kernel
theorem d17_9 : decode jdk_42_method_147_code 9 = .ok (.getfield 9, 3) := by decide +kernel
theorem d17_12 : decode jdk_42_method_147_code 12 = .ok (.iconst 0, 1) := by decide +kernel
theorem d17_13 : decode jdk_42_method_147_code 13 = .ok (.aload_n 1, 1) := by decide +kernel
theorem d17_14 : decode jdk_42_method_147_code 14 = .ok (.iload_n 2, 1) := by decide +kernel
theorem d17_15 : decode jdk_42_method_147_code 15 = .ok (.iload_n 3, 1) := by decide +kernel
theorem d17_16 : decode jdk_42_method_147_code 16 = .ok (.ishl, 1) := by decide +kernel
theorem d17_17 : decode jdk_42_method_147_code 17 = .ok (.aload_n 0, 1) := by decide +kernel
theorem d17_18 : decode jdk_42_method_147_code 18 = .ok (.getfield 9, 3) := by decide +kernel
theorem d17_21 : decode jdk_42_method_147_code 21 = .ok (.arraylength, 1) := by decide +kernel
theorem d17_22 : decode jdk_42_method_147_code 22 = .ok (.invokestatic 212, 3) := by decide +kernel
theorem w98 : Jvm.Cond.methodLink "java/lang/String" (212 : Nat) N15 ∈ tables_1 := List.mem_of_getElem? (i := 98) rfl
theorem d17_25 : decode jdk_42_method_147_code 25 = .ok (.goto 18, 3) := by decide +kernel
theorem d17_43 : decode jdk_42_method_147_code 43 = .ok (.return_, 1) := by decide +kernel
abbrev N21 : MethodName := ⟨"java/lang/String", "getBytes", "([BIB)V"⟩

abbrev rm_gb00 : Room := { frames := 1, cells := 0, slots := 0, locals := 27 }
set_option maxRecDepth 65536 in
set_option maxHeartbeats 4000000 in
theorem ct_gb00 (l : Launch) {Z : State} {n0 : Nat} {z : Int32} {f : Value} {pA pB sA sB bA bB : Addr} (W : Sx Z z f pA pB sA sB bA bB) (y sb d : Addr) (cs ds pad : List Int32) (h : Heap) (S : Str Z h y sb ds) (Fd : Vec Z h d .byte ((cs.map (nar .byte)) ++ pad)) (hp : ds.length ≤ pad.length) (hn : cs.length + ds.length < 2 ^ 20) (hq : pad.length < 2 ^ 20) (zd : n0 ≤ d) (hne : sb ≠ d) :
    Ctr l Z n0 N21 jdk_42_method_147_code 4 none rm_gb00 #[(.ref y), (.ref d), (.int cs.length.toInt32), (.int (0 : Int32))] h [d] (fun v h' sn => v = none ∧ Keep h h' [d] ∧ Vec Z h' d .byte (((cs ++ ds).map (nar .byte)) ++ pad.drop (ds.length)) ∧ sn = []) := by
  refine Ctr.of_go (ls := #[.val (.ref y), .val (.ref d), .val (.int cs.length.toInt32), .val (.int (0 : Int32))]) W.1.1 (plainFor_of_name pn_N4) (fun m => by first | (simp [entryFrame, mkF, argsToLocals, Value.category]; done) | rfl) (fun K H => ?_)
  have KK : Keep h h [d] := Keep.refl _ _
  have hyd : d ≠ y := Vec.neExa Fd S.1 W.1.1 w1
  refine Go.aloadN H d17_0 rfl rfl rfl ?_
  refine Go.callV (rest := []) 0 [] H d17_1 rfl S.1 w70 w71 w73 w72 w2 w74 pd_N6 (ct_cod l W y sb ds h S) all0 rfl rfl rfl (Nat.le_of_eq rfl) (by decide) (by decide) (by decide) (by decide) nh_N4 ?_
  rintro _ _ _ ⟨rfl, rfl, rfl⟩
  show Go _ _ _ _ _ _ h [d] 0 0 4 #[.val (.ref y), .val (.ref d), .val (.int cs.length.toInt32), .val (.int (0 : Int32))] [(.int (0 : Int32))]
  refine Go.iloadN H d17_4 rfl rfl ?_
  refine Go.icmpN H d17_5 (by decide) rfl ?_
  refine Go.aloadN H d17_8 rfl rfl rfl ?_
  refine Go.getfield H d17_9 rfl w28 S.2.1 ?_
  refine Go.iconst (0 : Int32) H d17_12 rfl rfl ?_
  refine Go.aloadN H d17_13 rfl rfl rfl ?_
  refine Go.iloadN H d17_14 rfl rfl ?_
  refine Go.iloadN H d17_15 rfl rfl ?_
  refine Go.ishl H d17_16 rfl ?_
  rw [own_shl0]
  refine Go.aloadN H d17_17 rfl rfl rfl ?_
  refine Go.getfield H d17_18 rfl w28 S.2.1 ?_
  refine Go.arraylength ds.length.toInt32 H d17_21 rfl S.2.2.2.1 (by rw [List.length_map]) ?_
  refine Go.arraycopy 0 cs.length ds.length H d17_22 rfl w98 w101 w99 w100 S.2.2.2.1 Fd (by rw [List.length_map]; omega) (by rw [List.length_append, List.length_map]; omega) rfl (by decide) (own_cl (by omega)) (own_cl (by omega)) (by decide) (own_n0 (by omega)) (own_n0 (by omega)) (by rw [List.length_map]; omega) (by rw [List.length_append, List.length_map]; omega) zd (by simp) 0 rfl (Nat.le_of_eq rfl) (by decide) (by decide) ?_
  intro h1 K2 F3
  replace S := S.keep K2 (ninS (Ne.symm hyd) nin0) (ninS hne nin0)
  replace KK := KK.trans K2 (allS (Or.inl (by simp)) all0)
  refine Go.goto (pc' := 43) H d17_25 (by decide) (by decide) ?_
  rw [own_cpl (by rw [List.length_map]) (by rw [List.length_map]), ← List.map_append] at F3
  exact Go.return_ [] H d17_43 ⟨rfl, KK, F3, rfl⟩ all0 (by decide) (by decide)
theorem d15_0 : decode jdk_68_method_73_code 0 = .ok (.aload_n 0, 1) := by decide +kernel
theorem d15_1 : decode jdk_68_method_73_code 1 = .ok (.aload_n 2, 1) := by decide +kernel
theorem d15_2 : decode jdk_68_method_73_code 2 = .ok (.invokevirtual 397, 3) := by decide +kernel
theorem w91 : Jvm.Cond.code N20 jdk_68_method_71_code (2 : Nat) (Option.none : Option Jvm.ClassFile.FieldType) ∈ tables_1 := List.mem_of_getElem? (i := 91) rfl
theorem pd_N20 : parseMethodDescriptor N20.desc = some ⟨[(.object "java/lang/String")], none⟩ := by decide +kernel
theorem w89 : Jvm.Cond.privateMethod N20 ∈ tables_1 := List.mem_of_getElem? (i := 89) rfl
theorem w87 : Jvm.Cond.methodLink "java/lang/AbstractStringBuilder" (397 : Nat) N20 ∈ tables_1 := List.mem_of_getElem? (i := 87) rfl
theorem w90 : Jvm.Cond.selects "java/lang/StringBuilder" N20 N20 ∈ tables_1 := List.mem_of_getElem? (i := 90) rfl
theorem w88 : Jvm.Cond.instanceMethod N20 ∈ tables_1 := List.mem_of_getElem? (i := 88) rfl
theorem d15_5 : decode jdk_68_method_73_code 5 = .ok (.aload_n 2, 1) := by decide +kernel
theorem d15_6 : decode jdk_68_method_73_code 6 = .ok (.aload_n 0, 1) := by decide +kernel
theorem d15_7 : decode jdk_68_method_73_code 7 = .ok (.getfield 15, 3) := by decide +kernel
theorem d15_10 : decode jdk_68_method_73_code 10 = .ok (.iload_n 1, 1) := by decide +kernel
theorem d15_11 : decode jdk_68_method_73_code 11 = .ok (.aload_n 0, 1) := by decide +kernel
theorem d15_12 : decode jdk_68_method_73_code 12 = .ok (.getfield 22, 3) := by decide +kernel
theorem d15_15 : decode jdk_68_method_73_code 15 = .ok (.invokevirtual 399, 3) := by decide +kernel
theorem w97 : Jvm.Cond.code N21 jdk_42_method_147_code (4 : Nat) (Option.none : Option Jvm.ClassFile.FieldType) ∈ tables_1 := List.mem_of_getElem? (i := 97) rfl
theorem pd_N21 : parseMethodDescriptor N21.desc = some ⟨[(.array .byte), .int, .byte], none⟩ := by decide +kernel
theorem w93 : Jvm.Cond.methodLink "java/lang/AbstractStringBuilder" (399 : Nat) N21 ∈ tables_1 := List.mem_of_getElem? (i := 93) rfl
theorem w94 : Jvm.Cond.declares N21 ∈ tables_1 := List.mem_of_getElem? (i := 94) rfl
theorem w96 : Jvm.Cond.selects "java/lang/String" N21 N21 ∈ tables_1 := List.mem_of_getElem? (i := 96) rfl
theorem w95 : Jvm.Cond.instanceMethod N21 ∈ tables_1 := List.mem_of_getElem? (i := 95) rfl
theorem d15_18 : decode jdk_68_method_73_code 18 = .ok (.return_, 1) := by decide +kernel
abbrev N22 : MethodName := ⟨"java/lang/AbstractStringBuilder", "putStringAt", "(ILjava/lang/String;)V"⟩

abbrev rm_pst00 : Room := { frames := 2, cells := 0, slots := 0, locals := 42 }
set_option maxRecDepth 65536 in
set_option maxHeartbeats 4000000 in
theorem ct_pst00 (l : Launch) {Z : State} {n0 : Nat} {z : Int32} {f : Value} {pA pB sA sB bA bB : Addr} (W : Sx Z z f pA pB sA sB bA bB) (x b y sb : Addr) (cs ds pad : List Int32) (cap : Nat) (h : Heap) (F : SbF Z h x b 0 cs.length.toInt32) (Fb : Vec Z h b .byte ((cs.map (nar .byte)) ++ pad)) (hcap : cs.length + pad.length = cap) (hc2 : cap ≤ 34) (hfit : cs.length + ds.length ≤ cap) (S : Str Z h y sb ds) (zx : n0 ≤ x) (zb : n0 ≤ b) (hne : sb ≠ b) (hL : ∀ c ∈ cs, isL c) :
    Ctr l Z n0 N22 jdk_68_method_73_code 3 none rm_pst00 #[(.ref x), (.int cs.length.toInt32), (.ref y)] h [x, b] (fun v h' sn => v = none ∧ Keep h h' [x, b] ∧ ∃ d, (d = b ∨ h.size ≤ d) ∧ n0 ≤ d ∧ SbF Z h' x d 0 cs.length.toInt32 ∧ Vec Z h' d .byte (((cs ++ ds).map (nar .byte)) ++ pad.drop ds.length) ∧ sn = [d]) := by
  refine Ctr.of_go (ls := #[.val (.ref x), .val (.int cs.length.toInt32), .val (.ref y)]) W.1.1 (plainFor_of_name pn_N12) (fun m => by first | (simp [entryFrame, mkF, argsToLocals, Value.category]; done) | rfl) (fun K H => ?_)
  obtain ⟨A, Fv, Fc, Fn⟩ := F
  have KK : Keep h h [x, b] := Keep.refl _ _
  have hbx : b ≠ x := Vec.neExa Fb A W.1.1 w38
  have hxy : x ≠ y := Exa.ne A S.1 (by decide)
  have hby : b ≠ y := Vec.neExa Fb S.1 W.1.1 w1
  have hxs : sb ≠ x := Vec.neExa S.2.2.2.1 A W.1.1 w38
  refine Go.aloadN H d15_0 rfl rfl rfl ?_
  refine Go.aloadN H d15_1 rfl rfl rfl ?_
  refine Go.callP (rest := []) 0 [(.ref y)] H d15_2 rfl A w87 w89 w90 w88 w47 w91 pd_N20 (ct_iin00 l W x b y sb _ ds h ⟨A, Fv, Fc, Fn⟩ S) all0 rfl rfl rfl (Nat.le_of_eq rfl) (by decide) (by decide) (by decide) (by decide) nh_N12 ?_
  rintro _ _ _ ⟨rfl, rfl, rfl⟩
  show Go _ _ _ _ _ _ h [x, b] 0 0 5 #[.val (.ref x), .val (.int cs.length.toInt32), .val (.ref y)] []
  refine Go.aloadN H d15_5 rfl rfl rfl ?_
  refine Go.aloadN H d15_6 rfl rfl rfl ?_
  refine Go.getfield H d15_7 rfl w51 Fv ?_
  refine Go.iloadN H d15_10 rfl rfl ?_
  refine Go.aloadN H d15_11 rfl rfl rfl ?_
  refine Go.getfield H d15_12 rfl w53 Fc ?_
  refine Go.callV (rest := []) 0 [(.ref b), (.int cs.length.toInt32), (.int (0 : Int32))] H d15_15 rfl S.1 w93 w94 w96 w95 w2 w97 pd_N21 (ct_gb00 l W y sb b cs ds pad  h S Fb (by omega) (by omega) (by omega) zb hne ) (by simp) rfl rfl rfl (Nat.le_of_eq rfl) (by decide) (by decide) (by decide) (by decide) nh_N4 ?_
  rintro _ h1 _ ⟨rfl, K2, F3, rfl⟩
  replace A := A.keep K2
  replace Fv := Fv.keep K2 (ninS (Ne.symm hbx) nin0)
  replace Fc := Fc.keep K2 (ninS (Ne.symm hbx) nin0)
  replace Fn := Fn.keep K2 (ninS (Ne.symm hbx) nin0)
  replace S := S.keep K2 (ninS (Ne.symm hby) nin0) (ninS hne nin0)
  replace KK := KK.trans K2 (allS (Or.inl (by simp)) all0)
  show Go _ _ _ _ _ _ h1 [x, b] 0 0 18 #[.val (.ref x), .val (.int cs.length.toInt32), .val (.ref y)] []
  exact Go.return_ [b] H d15_18 ⟨rfl, KK, b, (Or.inl rfl), zb, ⟨A, Fv, Fc, Fn⟩, F3, rfl⟩ (by simp) (by decide) (by decide)
theorem d11_0 : decode jdk_68_method_22_code 0 = .ok (.aload_n 1, 1) := by decide +kernel
theorem d11_1 : decode jdk_68_method_22_code 1 = .ok (.ifnonnull 8, 3) := by decide +kernel
theorem d11_9 : decode jdk_68_method_22_code 9 = .ok (.aload_n 1, 1) := by decide +kernel
theorem d11_10 : decode jdk_68_method_22_code 10 = .ok (.invokevirtual 32, 3) := by decide +kernel
theorem w69 : Jvm.Cond.code N7 jdk_42_method_54_code (1 : Nat) (Option.some Jvm.ClassFile.FieldType.int) ∈ tables_1 := List.mem_of_getElem? (i := 69) rfl
theorem pd_N7 : parseMethodDescriptor N7.desc = some ⟨[], (some .int)⟩ := by decide +kernel
theorem w65 : Jvm.Cond.methodLink "java/lang/AbstractStringBuilder" (32 : Nat) N7 ∈ tables_1 := List.mem_of_getElem? (i := 65) rfl
theorem w66 : Jvm.Cond.declares N7 ∈ tables_1 := List.mem_of_getElem? (i := 66) rfl
theorem w68 : Jvm.Cond.selects "java/lang/String" N7 N7 ∈ tables_1 := List.mem_of_getElem? (i := 68) rfl
theorem w67 : Jvm.Cond.instanceMethod N7 ∈ tables_1 := List.mem_of_getElem? (i := 67) rfl
theorem d11_13 : decode jdk_68_method_22_code 13 = .ok (.istore_n 2, 1) := by decide +kernel
theorem d11_14 : decode jdk_68_method_22_code 14 = .ok (.aload_n 0, 1) := by decide +kernel
theorem d11_15 : decode jdk_68_method_22_code 15 = .ok (.aload_n 0, 1) := by decide +kernel
theorem d11_16 : decode jdk_68_method_22_code 16 = .ok (.getfield 79, 3) := by decide +kernel
theorem w75 : Jvm.Cond.fieldLink "java/lang/AbstractStringBuilder" (79 : Nat) "java/lang/AbstractStringBuilder" "count" "I" ∈ tables_1 := List.mem_of_getElem? (i := 75) rfl
theorem d11_19 : decode jdk_68_method_22_code 19 = .ok (.iload_n 2, 1) := by decide +kernel
theorem d11_20 : decode jdk_68_method_22_code 20 = .ok (.iadd, 1) := by decide +kernel
theorem d11_21 : decode jdk_68_method_22_code 21 = .ok (.invokevirtual 100, 3) := by decide +kernel
theorem w81 : Jvm.Cond.code N18 jdk_68_method_9_code (3 : Nat) (Option.none : Option Jvm.ClassFile.FieldType) ∈ tables_1 := List.mem_of_getElem? (i := 81) rfl
theorem pd_N18 : parseMethodDescriptor N18.desc = some ⟨[.int], none⟩ := by decide +kernel
theorem w79 : Jvm.Cond.privateMethod N18 ∈ tables_1 := List.mem_of_getElem? (i := 79) rfl
theorem w77 : Jvm.Cond.methodLink "java/lang/AbstractStringBuilder" (100 : Nat) N18 ∈ tables_1 := List.mem_of_getElem? (i := 77) rfl
theorem w80 : Jvm.Cond.selects "java/lang/StringBuilder" N18 N18 ∈ tables_1 := List.mem_of_getElem? (i := 80) rfl
theorem w78 : Jvm.Cond.instanceMethod N18 ∈ tables_1 := List.mem_of_getElem? (i := 78) rfl
theorem d11_24 : decode jdk_68_method_22_code 24 = .ok (.aload_n 0, 1) := by decide +kernel
theorem d11_25 : decode jdk_68_method_22_code 25 = .ok (.aload_n 0, 1) := by decide +kernel
theorem d11_26 : decode jdk_68_method_22_code 26 = .ok (.getfield 79, 3) := by decide +kernel
theorem d11_29 : decode jdk_68_method_22_code 29 = .ok (.aload_n 1, 1) := by decide +kernel
theorem d11_30 : decode jdk_68_method_22_code 30 = .ok (.invokevirtual 208, 3) := by decide +kernel
theorem w86 : Jvm.Cond.code N22 jdk_68_method_73_code (3 : Nat) (Option.none : Option Jvm.ClassFile.FieldType) ∈ tables_1 := List.mem_of_getElem? (i := 86) rfl
theorem pd_N22 : parseMethodDescriptor N22.desc = some ⟨[.int, (.object "java/lang/String")], none⟩ := by decide +kernel
theorem w84 : Jvm.Cond.privateMethod N22 ∈ tables_1 := List.mem_of_getElem? (i := 84) rfl
theorem w82 : Jvm.Cond.methodLink "java/lang/AbstractStringBuilder" (208 : Nat) N22 ∈ tables_1 := List.mem_of_getElem? (i := 82) rfl
theorem w85 : Jvm.Cond.selects "java/lang/StringBuilder" N22 N22 ∈ tables_1 := List.mem_of_getElem? (i := 85) rfl
theorem w83 : Jvm.Cond.instanceMethod N22 ∈ tables_1 := List.mem_of_getElem? (i := 83) rfl
theorem d11_33 : decode jdk_68_method_22_code 33 = .ok (.aload_n 0, 1) := by decide +kernel
theorem d11_34 : decode jdk_68_method_22_code 34 = .ok (.dup, 1) := by decide +kernel
theorem d11_35 : decode jdk_68_method_22_code 35 = .ok (.getfield 79, 3) := by decide +kernel
theorem d11_38 : decode jdk_68_method_22_code 38 = .ok (.iload_n 2, 1) := by decide +kernel
theorem d11_39 : decode jdk_68_method_22_code 39 = .ok (.iadd, 1) := by decide +kernel
theorem d11_40 : decode jdk_68_method_22_code 40 = .ok (.putfield 79, 3) := by decide +kernel
theorem d11_43 : decode jdk_68_method_22_code 43 = .ok (.aload_n 0, 1) := by decide +kernel
theorem d11_44 : decode jdk_68_method_22_code 44 = .ok (.areturn, 1) := by decide +kernel
abbrev N23 : MethodName := ⟨"java/lang/AbstractStringBuilder", "append", "(Ljava/lang/String;)Ljava/lang/AbstractStringBuilder;"⟩

abbrev rm_asba : Room := { frames := 4, cells := 1, slots := 34, locals := 62 }
set_option maxRecDepth 65536 in
set_option maxHeartbeats 4000000 in
theorem ct_asba (l : Launch) {Z : State} {n0 : Nat} {z : Int32} {f : Value} {pA pB sA sB bA bB : Addr} (W : Sx Z z f pA pB sA sB bA bB) (x b y sb : Addr) (cs ds : List Int32) (cap : Nat) (h : Heap) (B : Sbg Z h x b cap cs) (hcap0 : cap = 16 ∨ cap = 34) (S : Str Z h y sb ds) (htot : cs.length + ds.length ≤ 33) (zx : n0 ≤ x) (zb : n0 ≤ b) (hne : sb ≠ b) :
    Ctr l Z n0 N23 jdk_68_method_22_code 3 (some (.object "java/lang/AbstractStringBuilder")) rm_asba #[(.ref x), (.ref y)] h [x, b] (fun v h' sn => v = some (.ref x) ∧ Keep h h' [x, b] ∧ ∃ d cap', (d = b ∨ h.size ≤ d) ∧ n0 ≤ d ∧ Sbg Z h' x d cap' (cs ++ ds) ∧ (cap' = 16 ∨ cap' = 34) ∧ (cs ++ ds).length ≤ cap' ∧ sn = [d]) := by
  refine Ctr.of_go (ls := #[.val (.ref x), .val (.ref y), .unset]) W.1.1 (plainFor_of_name pn_N12) (fun m => by first | (simp [entryFrame, mkF, argsToLocals, Value.category]; done) | rfl) (fun K H => ?_)
  have hsl := S.2.2.2.2.2
  rcases B with ⟨F, ⟨pad, Fb, hcap⟩, hL⟩
  ·
    ·
      obtain ⟨A, Fv, Fc, Fn⟩ := F
      have KK : Keep h h [x, b] := Keep.refl _ _
      have hbx : b ≠ x := Vec.neExa Fb A W.1.1 w38
      have hxy : x ≠ y := Exa.ne A S.1 (by decide)
      have hby : b ≠ y := Vec.neExa Fb S.1 W.1.1 w1
      have hxs : sb ≠ x := Vec.neExa S.2.2.2.1 A W.1.1 w38
      refine Go.aloadN H d11_0 rfl rfl rfl ?_
      refine Go.ifnonnullY (pc' := 9) H d11_1 (by decide) (by decide) ?_
      refine Go.aloadN H d11_9 rfl rfl rfl ?_
      refine Go.callV (rest := []) 0 [] H d11_10 rfl S.1 w65 w66 w68 w67 w2 w69 pd_N7 (ct_len l W y sb ds h S) all0 rfl rfl rfl (Nat.le_of_eq rfl) (by decide) (by decide) (by decide) (by decide) nh_N4 ?_
      rintro _ _ _ ⟨rfl, rfl, rfl⟩
      show Go _ _ _ _ _ _ h [x, b] 0 0 13 #[.val (.ref x), .val (.ref y), .unset] [(.int ds.length.toInt32)]
      refine Go.istoreN (ls' := #[.val (.ref x), .val (.ref y), .val (.int ds.length.toInt32)]) H d11_13 rfl rfl ?_
      refine Go.aloadN H d11_14 rfl rfl rfl ?_
      refine Go.aloadN H d11_15 rfl rfl rfl ?_
      refine Go.getfield H d11_16 rfl w75 Fn ?_
      refine Go.iloadN H d11_19 rfl rfl ?_
      refine Go.iadd H d11_20 rfl ?_
      rw [own_add]
      by_cases hf : cs.length + ds.length ≤ cap
      ·
        refine Go.callP (rest := []) 0 [(.int (cs.length + ds.length).toInt32)] H d11_21 rfl A w77 w79 w80 w78 w47 w81 pd_N18 (ct_ecf0 l W x b _ _ _ cap h ⟨A, Fv, Fc, Fn⟩ Fb (by rw [List.length_append, List.length_map]; exact hcap) hf (by omega)) all0 rfl rfl rfl (Nat.le_of_eq rfl) (by decide) (by decide) (by decide) (by decide) nh_N12 ?_
        rintro _ _ _ ⟨rfl, rfl, rfl⟩
        show Go _ _ _ _ _ _ h [x, b] 0 0 24 #[.val (.ref x), .val (.ref y), .val (.int ds.length.toInt32)] []
        refine Go.aloadN H d11_24 rfl rfl rfl ?_
        refine Go.aloadN H d11_25 rfl rfl rfl ?_
        refine Go.getfield H d11_26 rfl w75 Fn ?_
        refine Go.aloadN H d11_29 rfl rfl rfl ?_
        refine Go.callP (rest := []) 0 [(.int cs.length.toInt32), (.ref y)] H d11_30 rfl A w82 w84 w85 w83 w47 w86 pd_N22 (ct_pst00 l W x b y sb cs ds pad cap h ⟨A, Fv, Fc, Fn⟩ Fb hcap (by omega) hf S zx zb hne hL) (by simp) rfl rfl rfl (Nat.le_of_eq rfl) (by decide) (by decide) (by decide) (by decide) nh_N12 ?_
        rintro _ h1 _ ⟨rfl, K2, d3, q4, z5, F6, V7, rfl⟩
        have ne8 : x ≠ d3 := q4.elim (fun e => e ▸ (Ne.symm hbx)) (fun g => Nat.ne_of_lt (Nat.lt_of_lt_of_le A.lt g))
        have ne9 : y ≠ d3 := q4.elim (fun e => e ▸ (Ne.symm hby)) (fun g => Nat.ne_of_lt (Nat.lt_of_lt_of_le S.lt g))
        have ne10 : sb ≠ d3 := q4.elim (fun e => e ▸ hne) (fun g => Nat.ne_of_lt (Nat.lt_of_lt_of_le S.ltb g))
        replace S := S.keep K2 (ninS (Ne.symm hxy) (ninS (Ne.symm hby) nin0)) (ninS hxs (ninS hne nin0))
        replace KK := KK.trans K2 (allS (Or.inl (by simp)) (allS (Or.inl (by simp)) all0))
        obtain ⟨F11, F12, F13, F14⟩ := F6
        show Go _ _ _ _ _ _ h1 [d3, x, b] 0 0 33 #[.val (.ref x), .val (.ref y), .val (.int ds.length.toInt32)] []
        refine Go.aloadN H d11_33 rfl rfl rfl ?_
        refine Go.dup H d11_34 rfl rfl ?_
        refine Go.getfield H d11_35 rfl w75 F14 ?_
        refine Go.iloadN H d11_38 rfl rfl ?_
        refine Go.iadd H d11_39 rfl ?_
        rw [own_add]
        refine Go.putfield (v := (.int (cs.length + ds.length).toInt32)) H d11_40 rfl w75 F14 F11 (Or.inl w76) w38 (ty := .int) (by decide) rfl rfl zx (by simp) ?_
        intro h16 Wr17
        have F18 := F14.same Wr17
        have K19 := Keep.of_wr Wr17
        replace S := S.keep K19 (ninS (Ne.symm hxy) nin0) (ninS hxs nin0)
        replace F11 := F11.wr Wr17
        replace F12 := F12.other Wr17 (Or.inr (own_sne W.1.1 (Or.inl w52) (Or.inl w76) (by decide) (t := (.array .byte)) (t' := .int) (by decide) (by decide)))
        replace F13 := F13.other Wr17 (Or.inr (own_sne W.1.1 (Or.inl w54) (Or.inl w76) (by decide) (t := .byte) (t' := .int) (by decide) (by decide)))
        replace V7 := V7.keep K19 (ninS (Ne.symm ne8) nin0)
        replace KK := KK.wr Wr17 (Or.inl (by simp))
        refine Go.aloadN H d11_43 rfl rfl rfl ?_
        exact Go.areturn [d3] H d11_44 rfl rfl (own_narR rfl) ⟨rfl, KK, d3, cap, q4, z5, ⟨by rw [List.length_append]; exact ⟨F11, F12, F13, F18⟩, ⟨_, V7, (by simp only [List.length_append, List.length_drop, List.length_replicate]; omega)⟩, fun c m => (List.mem_append.mp m).elim (hL c) (S.2.2.2.2.1 c)⟩, hcap0, (by rw [List.length_append]; omega), rfl⟩ (by simp) (by decide) (by decide)
      ·
        obtain rfl : cap = 16 := by omega
        refine Go.callP (rest := []) 0 [(.int (cs.length + ds.length).toInt32)] H d11_21 rfl A w77 w79 w80 w78 w47 w81 pd_N18 (ct_ecg0 l W x b _ _ _ h ⟨A, Fv, Fc, Fn⟩ Fb (by rw [List.length_append, List.length_map]; exact hcap) (by omega) (by omega) zx) (by simp) rfl rfl rfl (Nat.le_of_eq rfl) (by decide) (by decide) (by decide) (by decide) nh_N12 ?_
        rintro _ h20 _ ⟨rfl, K21, d22, g23, z24, F25, V26, rfl⟩
        have ne27 : x ≠ d22 := Nat.ne_of_lt (Nat.lt_of_lt_of_le A.lt g23)
        have ne28 : b ≠ d22 := Nat.ne_of_lt (Nat.lt_of_lt_of_le Fb.lt g23)
        have ne29 : y ≠ d22 := Nat.ne_of_lt (Nat.lt_of_lt_of_le S.lt g23)
        have ne30 : sb ≠ d22 := Nat.ne_of_lt (Nat.lt_of_lt_of_le S.ltb g23)
        have sz31 := Nat.le_trans KK.1 g23
        replace Fb := Fb.keep K21 (ninS hbx nin0)
        replace S := S.keep K21 (ninS (Ne.symm hxy) nin0) (ninS hxs nin0)
        replace KK := KK.trans K21 (allS (Or.inl (by simp)) all0)
        obtain ⟨F32, F33, F34, F35⟩ := F25
        show Go _ _ _ _ _ _ h20 [d22, x, b] 1 34 24 #[.val (.ref x), .val (.ref y), .val (.int ds.length.toInt32)] []
        have szK37 := K21.1
        refine Go.aloadN H d11_24 rfl rfl rfl ?_
        refine Go.aloadN H d11_25 rfl rfl rfl ?_
        refine Go.getfield H d11_26 rfl w75 F35 ?_
        refine Go.aloadN H d11_29 rfl rfl rfl ?_
        rw [List.append_assoc] at V26
        refine Go.callP (rest := []) 0 [(.int cs.length.toInt32), (.ref y)] H d11_30 rfl F32 w82 w84 w85 w83 w47 w86 pd_N22 (ct_pst00 l W x d22 y sb cs ds (pad ++ List.replicate 18 0) 34 h20 ⟨F32, F33, F34, F35⟩ V26 (by rw [List.length_append, List.length_replicate]; omega) (by omega) (by omega) S zx z24 ne30 hL) (by simp) rfl rfl rfl (Nat.le_of_eq rfl) (by decide) (by decide) (by decide) (by decide) nh_N12 ?_
        rintro _ h38 _ ⟨rfl, K39, d40, q41, z42, F43, V44, rfl⟩
        have ne45 : x ≠ d40 := q41.elim (fun e => e ▸ ne27) (fun g => Nat.ne_of_lt (Nat.lt_of_lt_of_le F32.lt g))
        have ne46 : y ≠ d40 := q41.elim (fun e => e ▸ ne29) (fun g => Nat.ne_of_lt (Nat.lt_of_lt_of_le S.lt g))
        have ne47 : sb ≠ d40 := q41.elim (fun e => e ▸ ne30) (fun g => Nat.ne_of_lt (Nat.lt_of_lt_of_le S.ltb g))
        replace Fb := Fb.keep K39 (ninS hbx (ninS ne28 nin0))
        replace S := S.keep K39 (ninS (Ne.symm hxy) (ninS ne29 nin0)) (ninS hxs (ninS ne30 nin0))
        replace KK := KK.trans K39 (allS (Or.inl (by simp)) (allS (Or.inr sz31) all0))
        obtain ⟨F48, F49, F50, F51⟩ := F43
        show Go _ _ _ _ _ _ h38 [d40, d22, x, b] 1 34 33 #[.val (.ref x), .val (.ref y), .val (.int ds.length.toInt32)] []
        refine Go.aloadN H d11_33 rfl rfl rfl ?_
        refine Go.dup H d11_34 rfl rfl ?_
        refine Go.getfield H d11_35 rfl w75 F51 ?_
        refine Go.iloadN H d11_38 rfl rfl ?_
        refine Go.iadd H d11_39 rfl ?_
        rw [own_add]
        refine Go.putfield (v := (.int (cs.length + ds.length).toInt32)) H d11_40 rfl w75 F51 F48 (Or.inl w76) w38 (ty := .int) (by decide) rfl rfl zx (by simp) ?_
        intro h53 Wr54
        have F55 := F51.same Wr54
        have K56 := Keep.of_wr Wr54
        replace Fb := Fb.keep K56 (ninS hbx nin0)
        replace S := S.keep K56 (ninS (Ne.symm hxy) nin0) (ninS hxs nin0)
        replace F48 := F48.wr Wr54
        replace F49 := F49.other Wr54 (Or.inr (own_sne W.1.1 (Or.inl w52) (Or.inl w76) (by decide) (t := (.array .byte)) (t' := .int) (by decide) (by decide)))
        replace F50 := F50.other Wr54 (Or.inr (own_sne W.1.1 (Or.inl w54) (Or.inl w76) (by decide) (t := .byte) (t' := .int) (by decide) (by decide)))
        replace V44 := V44.keep K56 (ninS (Ne.symm ne45) nin0)
        replace KK := KK.wr Wr54 (Or.inl (by simp))
        refine Go.aloadN H d11_43 rfl rfl rfl ?_
        exact Go.areturn [d40] H d11_44 rfl rfl (own_narR rfl) ⟨rfl, KK, d40, 34, (Or.inr (q41.elim (fun e => e ▸ g23) (fun g => Nat.le_trans szK37 g))), z42, ⟨by rw [List.length_append]; exact ⟨F48, F49, F50, F55⟩, ⟨_, V44, (by simp only [List.length_append, List.length_drop, List.length_replicate]; omega)⟩, fun c m => (List.mem_append.mp m).elim (hL c) (S.2.2.2.2.1 c)⟩, (Or.inr rfl), (by rw [List.length_append]; omega), rfl⟩ (by simp) (by decide) (by decide)
theorem Sbg.ne {Z : State} {h : Heap} {x b : Addr} {cap kk : Nat} {cs : List Int32} (F : Sbg Z h x b cap cs) (W : Wds Z) (wi : Jvm.Cond.instantiable "java/lang/StringBuilder" kk ∈ tables_1) : b ≠ x := by
  obtain ⟨f, ⟨p, V, -⟩, -⟩ := F; exact Vec.neExa V f.1 W wi
theorem Sbg.neStr {Z : State} {h : Heap} {x b y sb : Addr} {cap kk : Nat} {cs ds : List Int32} (F : Sbg Z h x b cap cs) (S : Str Z h y sb ds) (W : Wds Z) (wi : Jvm.Cond.instantiable "java/lang/String" kk ∈ tables_1) : b ≠ y := by
  obtain ⟨f, ⟨p, V, -⟩, -⟩ := F; exact Vec.neExa V S.1 W wi
theorem d10_0 : decode jdk_67_method_7_code 0 = .ok (.aload_n 0, 1) := by decide +kernel
theorem d10_1 : decode jdk_67_method_7_code 1 = .ok (.aload_n 1, 1) := by decide +kernel
theorem d10_2 : decode jdk_67_method_7_code 2 = .ok (.invokespecial 29, 3) := by decide +kernel
theorem w64 : Jvm.Cond.code N23 jdk_68_method_22_code (3 : Nat) (Option.some (Jvm.ClassFile.FieldType.object "java/lang/AbstractStringBuilder")) ∈ tables_1 := List.mem_of_getElem? (i := 64) rfl
theorem pd_N23 : parseMethodDescriptor N23.desc = some ⟨[(.object "java/lang/String")], (some (.object "java/lang/AbstractStringBuilder"))⟩ := by decide +kernel
theorem w60 : Jvm.Cond.methodLink "java/lang/StringBuilder" (29 : Nat) N23 ∈ tables_1 := List.mem_of_getElem? (i := 60) rfl
theorem w62 : Jvm.Cond.superclass "java/lang/StringBuilder" "java/lang/AbstractStringBuilder" ∈ tables_1 := List.mem_of_getElem? (i := 62) rfl
theorem w61 : Jvm.Cond.instanceMethod N23 ∈ tables_1 := List.mem_of_getElem? (i := 61) rfl
theorem d10_5 : decode jdk_67_method_7_code 5 = .ok (.pop, 1) := by decide +kernel
theorem d10_6 : decode jdk_67_method_7_code 6 = .ok (.aload_n 0, 1) := by decide +kernel
theorem d10_7 : decode jdk_67_method_7_code 7 = .ok (.areturn, 1) := by decide +kernel
abbrev N24 : MethodName := ⟨"java/lang/StringBuilder", "append", "(Ljava/lang/String;)Ljava/lang/StringBuilder;"⟩

abbrev rm_sba : Room := { frames := 5, cells := 1, slots := 34, locals := 76 }
set_option maxRecDepth 65536 in
set_option maxHeartbeats 4000000 in
theorem ct_sba (l : Launch) {Z : State} {n0 : Nat} {z : Int32} {f : Value} {pA pB sA sB bA bB : Addr} (W : Sx Z z f pA pB sA sB bA bB) (x b y sb : Addr) (cs ds : List Int32) (cap : Nat) (h : Heap) (B : Sbg Z h x b cap cs) (hcap0 : cap = 16 ∨ cap = 34) (S : Str Z h y sb ds) (htot : cs.length + ds.length ≤ 33) (zx : n0 ≤ x) (zb : n0 ≤ b) (hne : sb ≠ b) :
    Ctr l Z n0 N24 jdk_67_method_7_code 2 (some (.object "java/lang/StringBuilder")) rm_sba #[(.ref x), (.ref y)] h [x, b] (fun v h' sn => v = some (.ref x) ∧ Keep h h' [x, b] ∧ ∃ d cap', (d = b ∨ h.size ≤ d) ∧ n0 ≤ d ∧ Sbg Z h' x d cap' (cs ++ ds) ∧ (cap' = 16 ∨ cap' = 34) ∧ (cs ++ ds).length ≤ cap' ∧ sn = [d]) := by
  refine Ctr.of_go (ls := #[.val (.ref x), .val (.ref y)]) W.1.1 (plainFor_of_name pn_N13) (fun m => by first | (simp [entryFrame, mkF, argsToLocals, Value.category]; done) | rfl) (fun K H => ?_)
  have hbx : b ≠ x := B.ne W.1.1 w38
  have hyb : y ≠ b := Ne.symm (B.neStr S W.1.1 w1)
  have hyx : x ≠ y := Exa.ne B.exa S.1 (by decide)
  have hsx : sb ≠ x := Vec.neExa S.2.2.2.1 B.exa W.1.1 w38
  refine Go.aloadN H d10_0 rfl rfl rfl ?_
  refine Go.aloadN H d10_1 rfl rfl rfl ?_
  refine Go.callU (y' := N18) (rest := []) 0 [(.ref y)] H d10_2 rfl B.exa (by decide) w60 ⟨rfl, w80, w78⟩ w62 w61 w47 w64 pd_N23 (ct_asba l W x b y sb cs ds cap h B hcap0 S htot zx zb hne) (by simp) rfl rfl rfl (Nat.le_of_eq rfl) (by decide) (by decide) (by decide) (by decide) nh_N12 ?_
  rintro _ h1 _ ⟨rfl, K2, d3, cp4, q5, z6, S7, hc8, hl9, rfl⟩
  have ne10 : y ≠ d3 := q5.elim (fun e => e ▸ hyb) (fun g => Nat.ne_of_lt (Nat.lt_of_lt_of_le S.lt g))
  have ne11 : sb ≠ d3 := q5.elim (fun e => e ▸ hne) (fun g => Nat.ne_of_lt (Nat.lt_of_lt_of_le S.ltb g))
  have ne12 : x ≠ d3 := q5.elim (fun e => e ▸ (Ne.symm hbx)) (fun g => Nat.ne_of_lt (Nat.lt_of_lt_of_le B.lt g))
  replace S := S.keep K2 (ninS (Ne.symm hyx) (ninS hyb nin0)) (ninS hsx (ninS hne nin0))
  show Go _ _ _ _ _ _ h1 [d3, x, b] 1 34 5 #[.val (.ref x), .val (.ref y)] [(.ref x)]
  refine Go.pop H d10_5 rfl rfl ?_
  refine Go.aloadN H d10_6 rfl rfl rfl ?_
  exact Go.areturn [d3] H d10_7 rfl rfl (own_narR rfl) ⟨rfl, K2, d3, cp4, q5, z6, S7, hc8, hl9, rfl⟩ (by simp) (by decide) (by decide)
theorem d21_0 : decode jdk_68_method_64_code 0 = .ok (.aload_n 0, 1) := by decide +kernel
theorem d21_1 : decode jdk_68_method_64_code 1 = .ok (.getfield 15, 3) := by decide +kernel
theorem d21_4 : decode jdk_68_method_64_code 4 = .ok (.areturn, 1) := by decide +kernel
abbrev N25 : MethodName := ⟨"java/lang/AbstractStringBuilder", "getValue", "()[B"⟩

abbrev rm_gval : Room := { frames := 0, cells := 0, slots := 0, locals := 0 }
set_option maxRecDepth 65536 in
set_option maxHeartbeats 4000000 in
theorem ct_gval (l : Launch) {Z : State} {n0 : Nat} {z : Int32} {f : Value} {pA pB sA sB bA bB : Addr} (W : Sx Z z f pA pB sA sB bA bB) (x b : Addr) (n t : Int32) (h : Heap) (F : SbF Z h x b t n) :
    Ctr l Z n0 N25 jdk_68_method_64_code 1 (some (.array .byte)) rm_gval #[(.ref x)] h [] (fun v h' sn => v = some (.ref b) ∧ h = h' ∧ sn = []) := by
  refine Ctr.of_go (ls := #[.val (.ref x)]) W.1.1 (plainFor_of_name pn_N12) (fun m => by first | (simp [entryFrame, mkF, argsToLocals, Value.category]; done) | rfl) (fun K H => ?_)
  obtain ⟨A, Fv, Fc, Fn⟩ := F
  refine Go.aloadN H d21_0 rfl rfl rfl ?_
  refine Go.getfield H d21_1 rfl w51 Fv ?_
  exact Go.areturn [] H d21_4 rfl rfl (own_narR rfl) ⟨rfl, rfl, rfl⟩ all0 (by decide) (by decide)
theorem d23_0 : decode jdk_68_method_6_code 0 = .ok (.aload_n 0, 1) := by decide +kernel
theorem d23_1 : decode jdk_68_method_6_code 1 = .ok (.getfield 79, 3) := by decide +kernel
theorem d23_4 : decode jdk_68_method_6_code 4 = .ok (.ireturn, 1) := by decide +kernel
abbrev N26 : MethodName := ⟨"java/lang/AbstractStringBuilder", "length", "()I"⟩

abbrev rm_aln : Room := { frames := 0, cells := 0, slots := 0, locals := 0 }
set_option maxRecDepth 65536 in
set_option maxHeartbeats 4000000 in
theorem ct_aln (l : Launch) {Z : State} {n0 : Nat} {z : Int32} {f : Value} {pA pB sA sB bA bB : Addr} (W : Sx Z z f pA pB sA sB bA bB) (x b : Addr) (n t : Int32) (h : Heap) (F : SbF Z h x b t n) :
    Ctr l Z n0 N26 jdk_68_method_6_code 1 (some .int) rm_aln #[(.ref x)] h [] (fun v h' sn => v = some (.int n) ∧ h = h' ∧ sn = []) := by
  refine Ctr.of_go (ls := #[.val (.ref x)]) W.1.1 (plainFor_of_name pn_N12) (fun m => by first | (simp [entryFrame, mkF, argsToLocals, Value.category]; done) | rfl) (fun K H => ?_)
  have F0 := F
  obtain ⟨A, Fv, Fc, Fn⟩ := F
  refine Go.aloadN H d23_0 rfl rfl rfl ?_
  refine Go.getfield H d23_1 rfl w75 Fn ?_
  exact Go.ireturnI [] H d23_4 ⟨rfl, rfl, rfl⟩ all0 (by decide) (by decide)
theorem d22_0 : decode jdk_67_method_93_code 0 = .ok (.aload_n 0, 1) := by decide +kernel
theorem d22_1 : decode jdk_67_method_93_code 1 = .ok (.invokespecial 343, 3) := by decide +kernel
theorem w129 : Jvm.Cond.code N26 jdk_68_method_6_code (1 : Nat) (Option.some Jvm.ClassFile.FieldType.int) ∈ tables_1 := List.mem_of_getElem? (i := 129) rfl
theorem pd_N26 : parseMethodDescriptor N26.desc = some ⟨[], (some .int)⟩ := by decide +kernel
theorem w128 : Jvm.Cond.methodLink "java/lang/StringBuilder" (343 : Nat) N26 ∈ tables_1 := List.mem_of_getElem? (i := 128) rfl
theorem w124 : Jvm.Cond.instanceMethod N26 ∈ tables_1 := List.mem_of_getElem? (i := 124) rfl
theorem d22_4 : decode jdk_67_method_93_code 4 = .ok (.ireturn, 1) := by decide +kernel
abbrev N27 : MethodName := ⟨"java/lang/StringBuilder", "length", "()I"⟩

abbrev rm_bln : Room := { frames := 1, cells := 0, slots := 0, locals := 12 }
set_option maxRecDepth 65536 in
set_option maxHeartbeats 4000000 in
theorem ct_bln (l : Launch) {Z : State} {n0 : Nat} {z : Int32} {f : Value} {pA pB sA sB bA bB : Addr} (W : Sx Z z f pA pB sA sB bA bB) (x b : Addr) (n t : Int32) (h : Heap) (F : SbF Z h x b t n) :
    Ctr l Z n0 N27 jdk_67_method_93_code 1 (some .int) rm_bln #[(.ref x)] h [] (fun v h' sn => v = some (.int n) ∧ h = h' ∧ sn = []) := by
  refine Ctr.of_go (ls := #[.val (.ref x)]) W.1.1 (plainFor_of_name pn_N13) (fun m => by first | (simp [entryFrame, mkF, argsToLocals, Value.category]; done) | rfl) (fun K H => ?_)
  have F0 := F
  obtain ⟨A, Fv, Fc, Fn⟩ := F
  refine Go.aloadN H d22_0 rfl rfl rfl ?_
  refine Go.callU (y' := N18) (rest := []) 0 [] H d22_1 rfl A (by decide) w128 ⟨rfl, w80, w78⟩ w62 w124 w47 w129 pd_N26 (ct_aln l W x b n t h F0) all0 rfl rfl rfl (Nat.le_of_eq rfl) (by decide) (by decide) (by decide) (by decide) nh_N12 ?_
  rintro _ _ _ ⟨rfl, rfl, rfl⟩
  show Go _ _ _ _ _ _ h [] 0 0 4 #[.val (.ref x)] [(.int n)]
  exact Go.ireturnI [] H d22_4 ⟨rfl, rfl, rfl⟩ all0 (by decide) (by decide)
theorem d27_0 : decode jdk_65_method_131_code 0 = .ok (.iload_n 1, 1) := by decide +kernel
theorem d27_1 : decode jdk_65_method_131_code 1 = .ok (.iload_n 0, 1) := by decide +kernel
theorem d27_2 : decode jdk_65_method_131_code 2 = .ok (.if_icmp .ge 35, 3) := by decide +kernel
theorem d27_37 : decode jdk_65_method_131_code 37 = .ok (.return_, 1) := by decide +kernel
abbrev N28 : MethodName := ⟨"java/util/Arrays", "checkLength", "(II)V"⟩

abbrev rm_ccl : Room := { frames := 0, cells := 0, slots := 0, locals := 0 }
set_option maxRecDepth 65536 in
set_option maxHeartbeats 4000000 in
theorem ct_ccl (l : Launch) {Z : State} {n0 : Nat} {z : Int32} {f : Value} {pA pB sA sB bA bB : Addr} (W : Sx Z z f pA pB sA sB bA bB) (n : Int32) (h : Heap) (h0 : ¬ n < 0) :
    Ctr l Z n0 N28 jdk_65_method_131_code 2 none rm_ccl #[(.int (0 : Int32)), (.int n)] h [] (fun v h' sn => v = none ∧ h = h' ∧ sn = []) := by
  refine Ctr.of_go (ls := #[.val (.int (0 : Int32)), .val (.int n)]) W.1.1 (plainFor_of_name pn_N16) (fun m => by first | (simp [entryFrame, mkF, argsToLocals, Value.category]; done) | rfl) (fun K H => ?_)
  refine Go.iloadN H d27_0 rfl rfl ?_
  refine Go.iloadN H d27_1 rfl rfl ?_
  refine Go.icmpY (pc' := 37) H d27_2 (flt h0).2.1 (by decide) (by decide) ?_
  exact Go.return_ [] H d27_37 ⟨rfl, rfl, rfl⟩ all0 (by decide) (by decide)
theorem d26_0 : decode jdk_65_method_133_code 0 = .ok (.iload_n 1, 1) := by decide +kernel
theorem d26_1 : decode jdk_65_method_133_code 1 = .ok (.iload_n 2, 1) := by decide +kernel
theorem d26_2 : decode jdk_65_method_133_code 2 = .ok (.invokestatic 343, 3) := by decide +kernel
theorem w144 : Jvm.Cond.code N28 jdk_65_method_131_code (2 : Nat) (Option.none : Option Jvm.ClassFile.FieldType) ∈ tables_1 := List.mem_of_getElem? (i := 144) rfl
theorem pd_N28 : parseMethodDescriptor N28.desc = some ⟨[.int, .int], none⟩ := by decide +kernel
theorem w142 : Jvm.Cond.methodLink "java/util/Arrays" (343 : Nat) N28 ∈ tables_1 := List.mem_of_getElem? (i := 142) rfl
theorem w143 : Jvm.Cond.static N28 ∈ tables_1 := List.mem_of_getElem? (i := 143) rfl
theorem d26_5 : decode jdk_65_method_133_code 5 = .ok (.iload_n 2, 1) := by decide +kernel
theorem d26_6 : decode jdk_65_method_133_code 6 = .ok (.iload_n 1, 1) := by decide +kernel
theorem d26_7 : decode jdk_65_method_133_code 7 = .ok (.isub, 1) := by decide +kernel
theorem d26_8 : decode jdk_65_method_133_code 8 = .ok (.istore_n 3, 1) := by decide +kernel
theorem d26_9 : decode jdk_65_method_133_code 9 = .ok (.iload_n 3, 1) := by decide +kernel
theorem d26_10 : decode jdk_65_method_133_code 10 = .ok (.newarray .byte, 2) := by decide +kernel
theorem d26_12 : decode jdk_65_method_133_code 12 = .ok (.astore 4, 2) := by decide +kernel
theorem d26_14 : decode jdk_65_method_133_code 14 = .ok (.aload_n 0, 1) := by decide +kernel
theorem d26_15 : decode jdk_65_method_133_code 15 = .ok (.iload_n 1, 1) := by decide +kernel
theorem d26_16 : decode jdk_65_method_133_code 16 = .ok (.aload 4, 2) := by decide +kernel
theorem d26_18 : decode jdk_65_method_133_code 18 = .ok (.iconst 0, 1) := by decide +kernel
theorem d26_19 : decode jdk_65_method_133_code 19 = .ok (.aload_n 0, 1) := by decide +kernel
theorem d26_20 : decode jdk_65_method_133_code 20 = .ok (.arraylength, 1) := by decide +kernel
theorem d26_21 : decode jdk_65_method_133_code 21 = .ok (.iload_n 1, 1) := by decide +kernel
theorem d26_22 : decode jdk_65_method_133_code 22 = .ok (.isub, 1) := by decide +kernel
theorem d26_23 : decode jdk_65_method_133_code 23 = .ok (.iload_n 3, 1) := by decide +kernel
theorem d26_24 : decode jdk_65_method_133_code 24 = .ok (.invokestatic 304, 3) := by decide +kernel
theorem d26_27 : decode jdk_65_method_133_code 27 = .ok (.invokestatic 150, 3) := by decide +kernel
theorem d26_30 : decode jdk_65_method_133_code 30 = .ok (.aload 4, 2) := by decide +kernel
theorem d26_32 : decode jdk_65_method_133_code 32 = .ok (.areturn, 1) := by decide +kernel
abbrev N29 : MethodName := ⟨"java/util/Arrays", "copyOfRangeByte", "([BII)[B"⟩

abbrev rm_crb : Room := { frames := 1, cells := 1, slots := 68, locals := 27 }
set_option maxRecDepth 65536 in
set_option maxHeartbeats 4000000 in
theorem ct_crb (l : Launch) {Z : State} {n0 : Nat} {z : Int32} {f : Value} {pA pB sA sB bA bB : Addr} (W : Sx Z z f pA pB sA sB bA bB) (b : Addr) (bs : List Int32) (k : Nat) (h : Heap) (Fb : Vec Z h b .byte bs) (hb : bs.length ≤ 68) (hk : k < bs.length) :
    Ctr l Z n0 N29 jdk_65_method_133_code 5 (some (.array .byte)) rm_crb #[(.ref b), (.int (0 : Int32)), (.int k.toInt32)] h [] (fun v h' sn => ∃ d, v = some (.ref d) ∧ Ext h h' ∧ h.size ≤ d ∧ Vec Z h' d .byte (bs.take k) ∧ sn = []) := by
  refine Ctr.of_go (ls := #[.val (.ref b), .val (.int (0 : Int32)), .val (.int k.toInt32), .unset, .unset]) W.1.1 (plainFor_of_name pn_N16) (fun m => by first | (simp [entryFrame, mkF, argsToLocals, Value.category]; done) | rfl) (fun K H => ?_)
  have KK : Keep h h [] := Keep.refl _ _
  refine Go.iloadN H d26_0 rfl rfl ?_
  refine Go.iloadN H d26_1 rfl rfl ?_
  refine Go.callS (rest := []) 0 [(.int (0 : Int32)), (.int k.toInt32)] H d26_2 rfl w142 w143 w137 w144 pd_N28 (ct_ccl l W k.toInt32 h (own_n0 (by omega))) all0 rfl rfl rfl (Nat.le_of_eq rfl) (by decide) (by decide) (by decide) (by decide) nh_N16 ?_
  rintro _ _ _ ⟨rfl, rfl, rfl⟩
  show Go _ _ _ _ _ _ h [] 0 0 5 #[.val (.ref b), .val (.int (0 : Int32)), .val (.int k.toInt32), .unset, .unset] []
  refine Go.iloadN H d26_5 rfl rfl ?_
  refine Go.iloadN H d26_6 rfl rfl ?_
  refine Go.isub H d26_7 rfl ?_
  rw [Int32.sub_zero]
  refine Go.istoreN (ls' := #[.val (.ref b), .val (.int (0 : Int32)), .val (.int k.toInt32), .val (.int k.toInt32), .unset]) H d26_8 rfl rfl ?_
  refine Go.iloadN H d26_9 rfl rfl ?_
  refine Go.newarray k 68 H d26_10 rfl w19 rfl (by decide) (own_n0 (by omega)) (own_cl (by omega)) (by omega) (by decide) (by decide) (by decide) ?_
  intro a1 h2 g3 z4 E5 F6
  have ne7 : b ≠ a1 := Nat.ne_of_lt (Nat.lt_of_lt_of_le Fb.lt (Nat.le_of_eq g3.symm))
  have sz8 := Nat.le_trans KK.1 (Nat.le_of_eq g3.symm)
  replace Fb := Fb.ext E5
  replace KK := KK.ext E5
  show Go _ _ _ _ _ _ h2 [a1] 1 68 12 #[.val (.ref b), .val (.int (0 : Int32)), .val (.int k.toInt32), .val (.int k.toInt32), .unset] [(.ref a1)]
  refine Go.astore (ls' := #[.val (.ref b), .val (.int (0 : Int32)), .val (.int k.toInt32), .val (.int k.toInt32), .val (.ref a1)]) H d26_12 rfl rfl rfl ?_
  refine Go.aloadN H d26_14 rfl rfl rfl ?_
  refine Go.iloadN H d26_15 rfl rfl ?_
  refine Go.aload H d26_16 rfl rfl rfl ?_
  refine Go.iconst (0 : Int32) H d26_18 rfl rfl ?_
  refine Go.aloadN H d26_19 rfl rfl rfl ?_
  refine Go.arraylength bs.length.toInt32 H d26_20 rfl Fb rfl ?_
  refine Go.iloadN H d26_21 rfl rfl ?_
  refine Go.isub H d26_22 rfl ?_
  rw [Int32.sub_zero]
  refine Go.iloadN H d26_23 rfl rfl ?_
  refine Go.callS (rest := [(.int (0 : Int32)), (.ref a1), (.int (0 : Int32)), (.ref b)]) 4 [(.int bs.length.toInt32), (.int k.toInt32)] H d26_24 rfl w145 w146 w147 w148 pd_N10 (ct_min l W bs.length.toInt32 k.toInt32 h2) all0 rfl rfl rfl (Nat.le_of_eq rfl) (by decide) (by decide) (by decide) (by decide) nh_N11 ?_
  rintro _ _ _ ⟨rfl, rfl, rfl⟩
  show Go _ _ _ _ _ _ h2 [a1] 1 68 27 #[.val (.ref b), .val (.int (0 : Int32)), .val (.int k.toInt32), .val (.int k.toInt32), .val (.ref a1)] [(.int (minF bs.length.toInt32 k.toInt32)), (.int (0 : Int32)), (.ref a1), (.int (0 : Int32)), (.ref b)]
  rw [own_min (by omega) hk]
  refine Go.arraycopy 0 0 k H d26_27 rfl w149 w101 w99 w100 Fb F6 (by omega) (by simp; omega) rfl (by decide) (by decide) (own_cl (by omega)) (by decide) (by decide) (own_n0 (by omega)) (by omega) (by simp) z4 (by simp) 0 rfl (Nat.le_of_eq rfl) (by decide) (by decide) ?_
  intro h9 K10 F11
  replace Fb := Fb.keep K10 (ninS ne7 nin0)
  replace KK := KK.trans K10 (allS (Or.inr sz8) all0)
  refine Go.aload H d26_30 rfl rfl rfl ?_
  exact Go.areturn [] H d26_32 rfl rfl (own_narR rfl) ⟨_, rfl, own_ext KK, Nat.le_of_eq g3.symm, by simpa using F11, rfl⟩ all0 (by decide) (by decide)
theorem d25_0 : decode jdk_65_method_132_code 0 = .ok (.iload_n 1, 1) := by decide +kernel
theorem d25_1 : decode jdk_65_method_132_code 1 = .ok (.ifCond .ne 9, 3) := by decide +kernel
theorem d25_4 : decode jdk_65_method_132_code 4 = .ok (.iload_n 2, 1) := by decide +kernel
theorem d25_5 : decode jdk_65_method_132_code 5 = .ok (.aload_n 0, 1) := by decide +kernel
theorem d25_6 : decode jdk_65_method_132_code 6 = .ok (.arraylength, 1) := by decide +kernel
theorem d25_7 : decode jdk_65_method_132_code 7 = .ok (.if_icmp .eq 10, 3) := by decide +kernel
theorem d25_10 : decode jdk_65_method_132_code 10 = .ok (.aload_n 0, 1) := by decide +kernel
theorem d25_11 : decode jdk_65_method_132_code 11 = .ok (.iload_n 1, 1) := by decide +kernel
theorem d25_12 : decode jdk_65_method_132_code 12 = .ok (.iload_n 2, 1) := by decide +kernel
theorem d25_13 : decode jdk_65_method_132_code 13 = .ok (.invokestatic 339, 3) := by decide +kernel
theorem w141 : Jvm.Cond.code N29 jdk_65_method_133_code (5 : Nat) (Option.some (Jvm.ClassFile.FieldType.array Jvm.ClassFile.FieldType.byte)) ∈ tables_1 := List.mem_of_getElem? (i := 141) rfl
theorem pd_N29 : parseMethodDescriptor N29.desc = some ⟨[(.array .byte), .int, .int], (some (.array .byte))⟩ := by decide +kernel
theorem w139 : Jvm.Cond.methodLink "java/util/Arrays" (339 : Nat) N29 ∈ tables_1 := List.mem_of_getElem? (i := 139) rfl
theorem w140 : Jvm.Cond.static N29 ∈ tables_1 := List.mem_of_getElem? (i := 140) rfl
theorem d25_16 : decode jdk_65_method_132_code 16 = .ok (.areturn, 1) := by decide +kernel
abbrev N30 : MethodName := ⟨"java/util/Arrays", "copyOfRange", "([BII)[B"⟩

abbrev rm_cor : Room := { frames := 2, cells := 1, slots := 68, locals := 43 }
set_option maxRecDepth 65536 in
set_option maxHeartbeats 4000000 in
theorem ct_cor (l : Launch) {Z : State} {n0 : Nat} {z : Int32} {f : Value} {pA pB sA sB bA bB : Addr} (W : Sx Z z f pA pB sA sB bA bB) (b : Addr) (bs : List Int32) (k : Nat) (h : Heap) (Fb : Vec Z h b .byte bs) (hb : bs.length ≤ 68) (hk : k < bs.length) :
    Ctr l Z n0 N30 jdk_65_method_132_code 3 (some (.array .byte)) rm_cor #[(.ref b), (.int (0 : Int32)), (.int k.toInt32)] h [] (fun v h' sn => ∃ d, v = some (.ref d) ∧ Ext h h' ∧ h.size ≤ d ∧ Vec Z h' d .byte (bs.take k) ∧ sn = []) := by
  refine Ctr.of_go (ls := #[.val (.ref b), .val (.int (0 : Int32)), .val (.int k.toInt32)]) W.1.1 (plainFor_of_name pn_N16) (fun m => by first | (simp [entryFrame, mkF, argsToLocals, Value.category]; done) | rfl) (fun K H => ?_)
  refine Go.iloadN H d25_0 rfl rfl ?_
  refine Go.ifN H d25_1 (by decide) rfl ?_
  refine Go.iloadN H d25_4 rfl rfl ?_
  refine Go.aloadN H d25_5 rfl rfl rfl ?_
  refine Go.arraylength bs.length.toInt32 H d25_6 rfl Fb rfl ?_
  refine Go.icmpN H d25_7 (feq (fun e => absurd (own_ofinj (by omega) (by omega) e) (by omega))).1 rfl ?_
  refine Go.aloadN H d25_10 rfl rfl rfl ?_
  refine Go.iloadN H d25_11 rfl rfl ?_
  refine Go.iloadN H d25_12 rfl rfl ?_
  refine Go.callS (rest := []) 0 [(.ref b), (.int (0 : Int32)), (.int k.toInt32)] H d25_13 rfl w139 w140 w137 w141 pd_N29 (ct_crb l W b _ k h Fb hb hk) all0 rfl rfl rfl (Nat.le_of_eq rfl) (by decide) (by decide) (by decide) (by decide) nh_N16 ?_
  rintro _ h2 _ ⟨d1, rfl, E3, g4, F5, rfl⟩
  have ne6 : b ≠ d1 := Nat.ne_of_lt (Nat.lt_of_lt_of_le Fb.lt g4)
  replace Fb := Fb.ext E3
  show Go _ _ _ _ _ _ h2 [] 1 68 16 #[.val (.ref b), .val (.int (0 : Int32)), .val (.int k.toInt32)] [(.ref d1)]
  exact Go.areturn [] H d25_16 rfl rfl (own_narR rfl) ⟨_, rfl, E3, g4, F5, rfl⟩ all0 (by decide) (by decide)
theorem d20_0 : decode jdk_42_method_150_code 0 = .ok (.aload_n 0, 1) := by decide +kernel
theorem d20_1 : decode jdk_42_method_150_code 1 = .ok (.invokespecial 1, 3) := by decide +kernel
theorem d20_4 : decode jdk_42_method_150_code 4 = .ok (.aload_n 1, 1) := by decide +kernel
theorem d20_5 : decode jdk_42_method_150_code 5 = .ok (.invokevirtual 552, 3) := by decide +kernel
theorem w121 : Jvm.Cond.code N25 jdk_68_method_64_code (1 : Nat) (Option.some (Jvm.ClassFile.FieldType.array Jvm.ClassFile.FieldType.byte)) ∈ tables_1 := List.mem_of_getElem? (i := 121) rfl
theorem pd_N25 : parseMethodDescriptor N25.desc = some ⟨[], (some (.array .byte))⟩ := by decide +kernel
theorem w117 : Jvm.Cond.methodLink "java/lang/String" (552 : Nat) N25 ∈ tables_1 := List.mem_of_getElem? (i := 117) rfl
theorem w118 : Jvm.Cond.declares N25 ∈ tables_1 := List.mem_of_getElem? (i := 118) rfl
theorem w120 : Jvm.Cond.selects "java/lang/StringBuilder" N25 N25 ∈ tables_1 := List.mem_of_getElem? (i := 120) rfl
theorem w119 : Jvm.Cond.instanceMethod N25 ∈ tables_1 := List.mem_of_getElem? (i := 119) rfl
theorem d20_8 : decode jdk_42_method_150_code 8 = .ok (.astore_n 3, 1) := by decide +kernel
theorem d20_9 : decode jdk_42_method_150_code 9 = .ok (.aload_n 1, 1) := by decide +kernel
theorem d20_10 : decode jdk_42_method_150_code 10 = .ok (.invokevirtual 549, 3) := by decide +kernel
theorem w127 : Jvm.Cond.code N27 jdk_67_method_93_code (1 : Nat) (Option.some Jvm.ClassFile.FieldType.int) ∈ tables_1 := List.mem_of_getElem? (i := 127) rfl
theorem w39 : Jvm.Cond.initialized "java/lang/StringBuilder" ∈ tables_1 := List.mem_of_getElem? (i := 39) rfl
theorem w122 : Jvm.Cond.methodLink "java/lang/String" (549 : Nat) N26 ∈ tables_1 := List.mem_of_getElem? (i := 122) rfl
theorem w123 : Jvm.Cond.declares N26 ∈ tables_1 := List.mem_of_getElem? (i := 123) rfl
theorem w125 : Jvm.Cond.selects "java/lang/StringBuilder" N26 N27 ∈ tables_1 := List.mem_of_getElem? (i := 125) rfl
theorem w126 : Jvm.Cond.instanceMethod N27 ∈ tables_1 := List.mem_of_getElem? (i := 126) rfl
theorem d20_13 : decode jdk_42_method_150_code 13 = .ok (.istore 4, 2) := by decide +kernel
theorem d20_15 : decode jdk_42_method_150_code 15 = .ok (.aload_n 1, 1) := by decide +kernel
theorem d20_16 : decode jdk_42_method_150_code 16 = .ok (.invokevirtual 1047, 3) := by decide +kernel
theorem w134 : Jvm.Cond.code N19 jdk_68_method_68_code (1 : Nat) (Option.some Jvm.ClassFile.FieldType.boolean) ∈ tables_1 := List.mem_of_getElem? (i := 134) rfl
theorem pd_N19 : parseMethodDescriptor N19.desc = some ⟨[], (some .boolean)⟩ := by decide +kernel
theorem w130 : Jvm.Cond.methodLink "java/lang/String" (1047 : Nat) N19 ∈ tables_1 := List.mem_of_getElem? (i := 130) rfl
theorem w131 : Jvm.Cond.declares N19 ∈ tables_1 := List.mem_of_getElem? (i := 131) rfl
theorem w133 : Jvm.Cond.selects "java/lang/StringBuilder" N19 N19 ∈ tables_1 := List.mem_of_getElem? (i := 133) rfl
theorem w132 : Jvm.Cond.instanceMethod N19 ∈ tables_1 := List.mem_of_getElem? (i := 132) rfl
theorem d20_19 : decode jdk_42_method_150_code 19 = .ok (.ifCond .eq 22, 3) := by decide +kernel
theorem d20_22 : decode jdk_42_method_150_code 22 = .ok (.aload_n 0, 1) := by decide +kernel
theorem d20_23 : decode jdk_42_method_150_code 23 = .ok (.iconst 0, 1) := by decide +kernel
theorem d20_24 : decode jdk_42_method_150_code 24 = .ok (.putfield 15, 3) := by decide +kernel
theorem d20_27 : decode jdk_42_method_150_code 27 = .ok (.aload_n 0, 1) := by decide +kernel
theorem d20_28 : decode jdk_42_method_150_code 28 = .ok (.aload_n 3, 1) := by decide +kernel
theorem d20_29 : decode jdk_42_method_150_code 29 = .ok (.iconst 0, 1) := by decide +kernel
theorem d20_30 : decode jdk_42_method_150_code 30 = .ok (.iload 4, 2) := by decide +kernel
theorem d20_32 : decode jdk_42_method_150_code 32 = .ok (.invokestatic 54, 3) := by decide +kernel
theorem w138 : Jvm.Cond.code N30 jdk_65_method_132_code (3 : Nat) (Option.some (Jvm.ClassFile.FieldType.array Jvm.ClassFile.FieldType.byte)) ∈ tables_1 := List.mem_of_getElem? (i := 138) rfl
theorem pd_N30 : parseMethodDescriptor N30.desc = some ⟨[(.array .byte), .int, .int], (some (.array .byte))⟩ := by decide +kernel
theorem w135 : Jvm.Cond.methodLink "java/lang/String" (54 : Nat) N30 ∈ tables_1 := List.mem_of_getElem? (i := 135) rfl
theorem w136 : Jvm.Cond.static N30 ∈ tables_1 := List.mem_of_getElem? (i := 136) rfl
theorem d20_35 : decode jdk_42_method_150_code 35 = .ok (.putfield 9, 3) := by decide +kernel
theorem d20_38 : decode jdk_42_method_150_code 38 = .ok (.goto 59, 3) := by decide +kernel
theorem d20_97 : decode jdk_42_method_150_code 97 = .ok (.return_, 1) := by decide +kernel
abbrev N31 : MethodName := ⟨"java/lang/String", "<init>", "(Ljava/lang/AbstractStringBuilder;Ljava/lang/Void;)V"⟩

abbrev rm_nsv : Room := { frames := 3, cells := 1, slots := 68, locals := 58 }
set_option maxRecDepth 65536 in
set_option maxHeartbeats 4000000 in
theorem ct_nsv (l : Launch) {Z : State} {n0 : Nat} {z : Int32} {f : Value} {pA pB sA sB bA bB : Addr} (W : Sx Z z f pA pB sA sB bA bB) (y x b : Addr) (cs : List Int32) (cap : Nat) (h : Heap) (A2 : Exa Z h y "java/lang/String") (Gv : Fld Z h y "java/lang/String" "value" "[B" .null) (Gc : Fld Z h y "java/lang/String" "coder" "B" (.int 0)) (B : Sbg Z h x b cap cs) (hcap0 : cap = 16 ∨ cap = 34) (hlt : cs.length < cap) (zy : n0 ≤ y) :
    Ctr l Z n0 N31 jdk_42_method_150_code 5 none rm_nsv #[(.ref y), (.ref x), .null] h [y] (fun v h' sn => v = none ∧ Keep h h' [y] ∧ (∃ sb, Str Z h' y sb cs) ∧ sn = []) := by
  refine Ctr.of_go (ls := #[.val (.ref y), .val (.ref x), .val .null, .unset, .unset]) W.1.1 (plainFor_of_name pn_N4) (fun m => by first | (simp [entryFrame, mkF, argsToLocals, Value.category]; done) | rfl) (fun K H => ?_)
  rcases B with ⟨F, ⟨pad, Fb, hcap⟩, hL⟩
  ·
    obtain ⟨A, Fv, Fc, Fn⟩ := F
    have KK : Keep h h [y] := Keep.refl _ _
    have hbx : b ≠ x := Vec.neExa Fb A W.1.1 w38
    have hxy : x ≠ y := Exa.ne A A2 (by decide)
    have hby : b ≠ y := Vec.neExa Fb A2 W.1.1 w1
    refine Go.aloadN H d20_0 rfl rfl rfl ?_
    refine Go.initObj H d20_1 rfl w11 w12 w13 0 rfl (Nat.le_of_eq rfl) (by decide) (by decide) ?_
    refine Go.aloadN H d20_4 rfl rfl rfl ?_
    refine Go.callV (rest := []) 0 [] H d20_5 rfl A w117 w118 w120 w119 w47 w121 pd_N25 (ct_gval l W x b _ _ h ⟨A, Fv, Fc, Fn⟩) all0 rfl rfl rfl (Nat.le_of_eq rfl) (by decide) (by decide) (by decide) (by decide) nh_N12 ?_
    rintro _ _ _ ⟨rfl, rfl, rfl⟩
    show Go _ _ _ _ _ _ h [y] 0 0 8 #[.val (.ref y), .val (.ref x), .val .null, .unset, .unset] [(.ref b)]
    refine Go.astoreN (ls' := #[.val (.ref y), .val (.ref x), .val .null, .val (.ref b), .unset]) H d20_8 rfl rfl rfl ?_
    refine Go.aloadN H d20_9 rfl rfl rfl ?_
    refine Go.callV2 (y' := N18) (rest := []) 0 [] H d20_10 rfl A w122 w123 ⟨rfl, w80, w78⟩ w125 w126 w39 w127 pd_N26 (ct_bln l W x b _ _ h ⟨A, Fv, Fc, Fn⟩) all0 rfl rfl rfl (Nat.le_of_eq rfl) (by decide) (by decide) (by decide) (by decide) nh_N12 ?_
    rintro _ _ _ ⟨rfl, rfl, rfl⟩
    show Go _ _ _ _ _ _ h [y] 0 0 13 #[.val (.ref y), .val (.ref x), .val .null, .val (.ref b), .unset] [(.int cs.length.toInt32)]
    refine Go.istore (ls' := #[.val (.ref y), .val (.ref x), .val .null, .val (.ref b), .val (.int cs.length.toInt32)]) H d20_13 rfl rfl ?_
    refine Go.aloadN H d20_15 rfl rfl rfl ?_
    refine Go.callV (rest := []) 0 [] H d20_16 rfl A w130 w131 w133 w132 w47 w134 pd_N19 (ct_asl0 l W x b _ h ⟨A, Fv, Fc, Fn⟩) all0 rfl rfl rfl (Nat.le_of_eq rfl) (by decide) (by decide) (by decide) (by decide) nh_N12 ?_
    rintro _ _ _ ⟨rfl, rfl, rfl⟩
    show Go _ _ _ _ _ _ h [y] 0 0 19 #[.val (.ref y), .val (.ref x), .val .null, .val (.ref b), .val (.int cs.length.toInt32)] [(.int (1 : Int32))]
    refine Go.ifN H d20_19 (by decide) rfl ?_
    refine Go.aloadN H d20_22 rfl rfl rfl ?_
    refine Go.iconst (0 : Int32) H d20_23 rfl rfl ?_
    refine Go.putfield (v := (.int (0 : Int32))) H d20_24 rfl w26 Gc A2 (Or.inr ⟨w27, rfl, rfl⟩) w1 (ty := .byte) (by decide) (by decide) (by decide) zy (by simp) ?_
    intro h1 Wr2
    have F3 := Gc.same Wr2
    have K4 := Keep.of_wr Wr2
    replace A := A.wr Wr2
    replace Fv := Fv.keep K4 (ninS hxy nin0)
    replace Fc := Fc.keep K4 (ninS hxy nin0)
    replace Fn := Fn.keep K4 (ninS hxy nin0)
    replace A2 := A2.wr Wr2
    replace Gv := Gv.other Wr2 (Or.inr (own_sne W.1.1 (Or.inr w29) (Or.inr w27) (by decide) (t := (.array .byte)) (t' := .byte) (by decide) (by decide)))
    replace Fb := Fb.keep K4 (ninS hby nin0)
    replace KK := KK.wr Wr2 (Or.inl (by simp))
    refine Go.aloadN H d20_27 rfl rfl rfl ?_
    refine Go.aloadN H d20_28 rfl rfl rfl ?_
    refine Go.iconst (0 : Int32) H d20_29 rfl rfl ?_
    refine Go.iload H d20_30 rfl rfl ?_
    refine Go.callS (rest := [(.ref y)]) 1 [(.ref b), (.int (0 : Int32)), (.int cs.length.toInt32)] H d20_32 rfl w135 w136 w137 w138 pd_N30 (ct_cor l W b _ cs.length h1 Fb (by rw [List.length_append, List.length_map]; omega) (by rw [List.length_append, List.length_map]; omega)) all0 rfl rfl rfl (Nat.le_of_eq rfl) (by decide) (by decide) (by decide) (by decide) nh_N16 ?_
    rintro _ h6 _ ⟨d5, rfl, E7, g8, F9, rfl⟩
    have ne10 : x ≠ d5 := Nat.ne_of_lt (Nat.lt_of_lt_of_le A.lt g8)
    have ne11 : y ≠ d5 := Nat.ne_of_lt (Nat.lt_of_lt_of_le A2.lt g8)
    have ne12 : b ≠ d5 := Nat.ne_of_lt (Nat.lt_of_lt_of_le Fb.lt g8)
    replace A := A.ext E7
    replace Fv := Fv.ext E7
    replace Fc := Fc.ext E7
    replace Fn := Fn.ext E7
    replace A2 := A2.ext E7
    replace Gv := Gv.ext E7
    replace Fb := Fb.ext E7
    replace F3 := F3.ext E7
    replace KK := KK.ext E7
    show Go _ _ _ _ _ _ h6 [y] 1 68 35 #[.val (.ref y), .val (.ref x), .val .null, .val (.ref b), .val (.int cs.length.toInt32)] [(.ref d5), (.ref y)]
    refine Go.putfield (v := (.ref d5)) H d20_35 rfl w28 Gv A2 (Or.inr ⟨w29, rfl, rfl⟩) w1 (ty := (.array .byte)) (by decide) rfl rfl zy (by simp) ?_
    intro h13 Wr14
    have F15 := Gv.same Wr14
    have K16 := Keep.of_wr Wr14
    replace A := A.wr Wr14
    replace Fv := Fv.keep K16 (ninS hxy nin0)
    replace Fc := Fc.keep K16 (ninS hxy nin0)
    replace Fn := Fn.keep K16 (ninS hxy nin0)
    replace A2 := A2.wr Wr14
    replace Fb := Fb.keep K16 (ninS hby nin0)
    replace F3 := F3.other Wr14 (Or.inr (own_sne W.1.1 (Or.inr w27) (Or.inr w29) (by decide) (t := .byte) (t' := (.array .byte)) (by decide) (by decide)))
    replace F9 := F9.keep K16 (ninS (Ne.symm ne11) nin0)
    replace KK := KK.wr Wr14 (Or.inl (by simp))
    refine Go.goto (pc' := 97) H d20_38 (by decide) (by decide) ?_
    rw [List.take_left' (List.length_map _)] at F9
    exact Go.return_ [] H d20_97 ⟨rfl, KK, ⟨_, ⟨A2, F15, F3, F9, hL, by omega⟩⟩, rfl⟩ all0 (by decide) (by decide)
theorem Sbg.neS {Z : State} {h : Heap} {x b y : Addr} {cap kk : Nat} {cs : List Int32} (F : Sbg Z h x b cap cs) (A : Exa Z h y "java/lang/String") (W : Wds Z) (wi : Jvm.Cond.instantiable "java/lang/String" kk ∈ tables_1) : b ≠ y := by
  rcases F with ⟨f, ⟨p, V, -⟩, -⟩ <;> exact Vec.neExa V A W wi
theorem d19_0 : decode jdk_42_method_53_code 0 = .ok (.aload_n 0, 1) := by decide +kernel
theorem d19_1 : decode jdk_42_method_53_code 1 = .ok (.aload_n 1, 1) := by decide +kernel
theorem d19_2 : decode jdk_42_method_53_code 2 = .ok (.aconst_null, 1) := by decide +kernel
theorem d19_3 : decode jdk_42_method_53_code 3 = .ok (.invokespecial 489, 3) := by decide +kernel
theorem w116 : Jvm.Cond.code N31 jdk_42_method_150_code (5 : Nat) (Option.none : Option Jvm.ClassFile.FieldType) ∈ tables_1 := List.mem_of_getElem? (i := 116) rfl
theorem pd_N31 : parseMethodDescriptor N31.desc = some ⟨[(.object "java/lang/AbstractStringBuilder"), (.object "java/lang/Void")], none⟩ := by decide +kernel
theorem w114 : Jvm.Cond.methodLink "java/lang/String" (489 : Nat) N31 ∈ tables_1 := List.mem_of_getElem? (i := 114) rfl
theorem w115 : Jvm.Cond.instanceMethod N31 ∈ tables_1 := List.mem_of_getElem? (i := 115) rfl
theorem d19_6 : decode jdk_42_method_53_code 6 = .ok (.return_, 1) := by decide +kernel
abbrev N32 : MethodName := ⟨"java/lang/String", "<init>", "(Ljava/lang/StringBuilder;)V"⟩

abbrev rm_nsb : Room := { frames := 4, cells := 1, slots := 68, locals := 74 }
set_option maxRecDepth 65536 in
set_option maxHeartbeats 4000000 in
theorem ct_nsb (l : Launch) {Z : State} {n0 : Nat} {z : Int32} {f : Value} {pA pB sA sB bA bB : Addr} (W : Sx Z z f pA pB sA sB bA bB) (y x b : Addr) (cs : List Int32) (cap : Nat) (h : Heap) (A2 : Exa Z h y "java/lang/String") (Gv : Fld Z h y "java/lang/String" "value" "[B" .null) (Gc : Fld Z h y "java/lang/String" "coder" "B" (.int 0)) (B : Sbg Z h x b cap cs) (hcap0 : cap = 16 ∨ cap = 34) (hlt : cs.length < cap) (zy : n0 ≤ y) :
    Ctr l Z n0 N32 jdk_42_method_53_code 2 none rm_nsb #[(.ref y), (.ref x)] h [y] (fun v h' sn => v = none ∧ Keep h h' [y] ∧ (∃ sb, Str Z h' y sb cs) ∧ sn = []) := by
  refine Ctr.of_go (ls := #[.val (.ref y), .val (.ref x)]) W.1.1 (plainFor_of_name pn_N4) (fun m => by first | (simp [entryFrame, mkF, argsToLocals, Value.category]; done) | rfl) (fun K H => ?_)
  have hxy : x ≠ y := Exa.ne B.exa A2 (by decide)
  have hby : b ≠ y := B.neS A2 W.1.1 w1
  refine Go.aloadN H d19_0 rfl rfl rfl ?_
  refine Go.aloadN H d19_1 rfl rfl rfl ?_
  refine Go.aconstNull H d19_2 rfl ?_
  refine Go.callI (rest := []) 0 [(.ref x), .null] H d19_3 rfl rfl w114 w115 w2 w116 pd_N31 (ct_nsv l W y x b cs cap h A2 Gv Gc B hcap0 hlt zy) (by simp) rfl rfl rfl (Nat.le_of_eq rfl) (by decide) (by decide) (by decide) (by decide) nh_N4 ?_
  rintro _ h1 _ ⟨rfl, K2, ⟨b3, S4⟩, rfl⟩
  replace B := B.keep K2 (ninS hxy nin0) (ninS hby nin0)
  show Go _ _ _ _ _ _ h1 [y] 1 68 6 #[.val (.ref y), .val (.ref x)] []
  exact Go.return_ [] H d19_6 ⟨rfl, K2, ⟨_, S4⟩, rfl⟩ all0 (by decide) (by decide)
theorem d18_0 : decode jdk_67_method_42_code 0 = .ok (.new 18, 3) := by decide +kernel
theorem w110 : Jvm.Cond.classLink "java/lang/StringBuilder" (18 : Nat) "java/lang/String" ∈ tables_1 := List.mem_of_getElem? (i := 110) rfl
theorem d18_3 : decode jdk_67_method_42_code 3 = .ok (.dup, 1) := by decide +kernel
theorem d18_4 : decode jdk_67_method_42_code 4 = .ok (.aload_n 0, 1) := by decide +kernel
theorem d18_5 : decode jdk_67_method_42_code 5 = .ok (.invokespecial 137, 3) := by decide +kernel
theorem w113 : Jvm.Cond.code N32 jdk_42_method_53_code (2 : Nat) (Option.none : Option Jvm.ClassFile.FieldType) ∈ tables_1 := List.mem_of_getElem? (i := 113) rfl
theorem pd_N32 : parseMethodDescriptor N32.desc = some ⟨[(.object "java/lang/StringBuilder")], none⟩ := by decide +kernel
theorem w111 : Jvm.Cond.methodLink "java/lang/StringBuilder" (137 : Nat) N32 ∈ tables_1 := List.mem_of_getElem? (i := 111) rfl
theorem w112 : Jvm.Cond.instanceMethod N32 ∈ tables_1 := List.mem_of_getElem? (i := 112) rfl
theorem d18_8 : decode jdk_67_method_42_code 8 = .ok (.areturn, 1) := by decide +kernel
abbrev N33 : MethodName := ⟨"java/lang/StringBuilder", "toString", "()Ljava/lang/String;"⟩

abbrev rm_tos : Room := { frames := 5, cells := 2, slots := 72, locals := 88 }
set_option maxRecDepth 65536 in
set_option maxHeartbeats 4000000 in
theorem ct_tos (l : Launch) {Z : State} {n0 : Nat} {z : Int32} {f : Value} {pA pB sA sB bA bB : Addr} (W : Sx Z z f pA pB sA sB bA bB) (x b : Addr) (cs : List Int32) (cap : Nat) (h : Heap) (B : Sbg Z h x b cap cs) (hcap0 : cap = 16 ∨ cap = 34) (hlt : cs.length < cap) :
    Ctr l Z n0 N33 jdk_67_method_42_code 1 (some (.object "java/lang/String")) rm_tos #[(.ref x)] h [] (fun v h' sn => ∃ a sb, v = some (.ref a) ∧ Ext h h' ∧ h.size ≤ a ∧ Str Z h' a sb cs ∧ sn = []) := by
  refine Ctr.of_go (ls := #[.val (.ref x)]) W.1.1 (plainFor_of_name pn_N13) (fun m => by first | (simp [entryFrame, mkF, argsToLocals, Value.category]; done) | rfl) (fun K H => ?_)
  have KK : Keep h h [] := Keep.refl _ _
  refine Go.new H d18_0 rfl w110 w1 w2 (by decide) (by decide) ?_
  intro a1 h2 g3 z4 E5 A6 D7
  have ne8 : x ≠ a1 := Nat.ne_of_lt (Nat.lt_of_lt_of_le B.lt (Nat.le_of_eq g3.symm))
  have ne9 : b ≠ a1 := Nat.ne_of_lt (Nat.lt_of_lt_of_le B.ltb (Nat.le_of_eq g3.symm))
  have sz10 := Nat.le_trans KK.1 (Nat.le_of_eq g3.symm)
  replace B := B.ext E5
  replace KK := KK.ext E5
  have F11 : Fld Z h2 a1 "java/lang/String" "coder" "B" (.int (0 : Int32)) := D7 (Or.inr w27) (ty := .byte) (by decide)
  have F12 : Fld Z h2 a1 "java/lang/String" "value" "[B" .null := D7 (Or.inr w29) (ty := (.array .byte)) (by decide)
  show Go _ _ _ _ _ _ h2 [a1] 1 4 3 #[.val (.ref x)] [(.ref a1)]
  refine Go.dup H d18_3 rfl rfl ?_
  refine Go.aloadN H d18_4 rfl rfl rfl ?_
  refine Go.callI (rest := [(.ref a1)]) 1 [(.ref x)] H d18_5 rfl rfl w111 w112 w2 w113 pd_N32 (ct_nsb l W a1 x b cs cap h2 A6 F12 F11 B hcap0 hlt z4) (by simp) rfl rfl rfl (Nat.le_of_eq rfl) (by decide) (by decide) (by decide) (by decide) nh_N4 ?_
  rintro _ h13 _ ⟨rfl, K14, ⟨b15, S16⟩, rfl⟩
  replace B := B.keep K14 (ninS ne8 nin0) (ninS ne9 nin0)
  replace KK := KK.trans K14 (allS (Or.inr sz10) all0)
  show Go _ _ _ _ _ _ h13 [a1] 2 72 8 #[.val (.ref x)] [(.ref a1)]
  exact Go.areturn [] H d18_8 rfl rfl (own_narR rfl) ⟨_, _, rfl, own_ext KK, Nat.le_of_eq g3.symm, S16, rfl⟩ all0 (by decide) (by decide)
theorem w31 : Jvm.Cond.instantiable "com/example/steady_rollout/steadyrollout/DeviceTopics" (1 : Nat) ∈ tables_1 := List.mem_of_getElem? (i := 31) rfl
theorem d7_0 : decode prog_4_method_1_code 0 = .ok (.aload_n 0, 1) := by decide +kernel
theorem d7_1 : decode prog_4_method_1_code 1 = .ok (.invokespecial 1, 3) := by decide +kernel
theorem w36 : Jvm.Cond.methodLink "com/example/steady_rollout/steadyrollout/DeviceTopics" (1 : Nat) N3 ∈ tables_1 := List.mem_of_getElem? (i := 36) rfl
theorem d7_4 : decode prog_4_method_1_code 4 = .ok (.aload_n 0, 1) := by decide +kernel
theorem d7_5 : decode prog_4_method_1_code 5 = .ok (.new 7, 3) := by decide +kernel
theorem w37 : Jvm.Cond.classLink "com/example/steady_rollout/steadyrollout/DeviceTopics" (7 : Nat) "java/lang/StringBuilder" ∈ tables_1 := List.mem_of_getElem? (i := 37) rfl
theorem d7_8 : decode prog_4_method_1_code 8 = .ok (.dup, 1) := by decide +kernel
theorem d7_9 : decode prog_4_method_1_code 9 = .ok (.invokespecial 9, 3) := by decide +kernel
theorem w42 : Jvm.Cond.code N13 jdk_67_method_1_code (1 : Nat) (Option.none : Option Jvm.ClassFile.FieldType) ∈ tables_1 := List.mem_of_getElem? (i := 42) rfl
theorem pd_N13 : parseMethodDescriptor N13.desc = some ⟨[], none⟩ := by decide +kernel
theorem nh_N13 : N13.cls ≠ "java/lang/invoke/MethodHandle" ∧ N13.cls ≠ "java/lang/invoke/VarHandle" := by decide
theorem w40 : Jvm.Cond.methodLink "com/example/steady_rollout/steadyrollout/DeviceTopics" (9 : Nat) N13 ∈ tables_1 := List.mem_of_getElem? (i := 40) rfl
theorem w41 : Jvm.Cond.instanceMethod N13 ∈ tables_1 := List.mem_of_getElem? (i := 41) rfl
theorem d7_12 : decode prog_4_method_1_code 12 = .ok (.aload_n 1, 1) := by decide +kernel
theorem d7_13 : decode prog_4_method_1_code 13 = .ok (.invokevirtual 10, 3) := by decide +kernel
theorem w59 : Jvm.Cond.code N24 jdk_67_method_7_code (2 : Nat) (Option.some (Jvm.ClassFile.FieldType.object "java/lang/StringBuilder")) ∈ tables_1 := List.mem_of_getElem? (i := 59) rfl
theorem pd_N24 : parseMethodDescriptor N24.desc = some ⟨[(.object "java/lang/String")], (some (.object "java/lang/StringBuilder"))⟩ := by decide +kernel
theorem w55 : Jvm.Cond.methodLink "com/example/steady_rollout/steadyrollout/DeviceTopics" (10 : Nat) N24 ∈ tables_1 := List.mem_of_getElem? (i := 55) rfl
theorem w56 : Jvm.Cond.declares N24 ∈ tables_1 := List.mem_of_getElem? (i := 56) rfl
theorem w58 : Jvm.Cond.selects "java/lang/StringBuilder" N24 N24 ∈ tables_1 := List.mem_of_getElem? (i := 58) rfl
theorem w57 : Jvm.Cond.instanceMethod N24 ∈ tables_1 := List.mem_of_getElem? (i := 57) rfl
theorem d7_16 : decode prog_4_method_1_code 16 = .ok (.ldc 14, 2) := by decide +kernel
theorem lt_0 : (∀ c ∈ ("/things/" : String).toList, c.toNat < 256) ∧ ("/things/" : String).toList.map (fun c => Value.int (Jvm.Lit.byteI c.toNat.toUInt16)) = (([(47 : Int32), (116 : Int32), (104 : Int32), (105 : Int32), (110 : Int32), (103 : Int32), (115 : Int32), (47 : Int32)]).map (nar .byte)).map Value.int := by decide +kernel
theorem lt_0_l : ∀ c ∈ [(47 : Int32), (116 : Int32), (104 : Int32), (105 : Int32), (110 : Int32), (103 : Int32), (115 : Int32), (47 : Int32)], isL c := own_ac (show isL (47 : Int32) from ⟨by decide, by decide⟩) (own_ac (show isL (116 : Int32) from ⟨by decide, by decide⟩) (own_ac (show isL (104 : Int32) from ⟨by decide, by decide⟩) (own_ac (show isL (105 : Int32) from ⟨by decide, by decide⟩) (own_ac (show isL (110 : Int32) from ⟨by decide, by decide⟩) (own_ac (show isL (103 : Int32) from ⟨by decide, by decide⟩) (own_ac (show isL (115 : Int32) from ⟨by decide, by decide⟩) (own_ac (show isL (47 : Int32) from ⟨by decide, by decide⟩) (own_an))))))))
theorem cm_0 : ("com/example/steady_rollout/steadyrollout/DeviceTopics", 14) ∈ consts_1 := by decide
theorem w102 : Jvm.Cond.stringLink "com/example/steady_rollout/steadyrollout/DeviceTopics" (14 : Nat) "/things/" ∈ tables_1 := List.mem_of_getElem? (i := 102) rfl
theorem d7_18 : decode prog_4_method_1_code 18 = .ok (.invokevirtual 10, 3) := by decide +kernel
theorem d7_21 : decode prog_4_method_1_code 21 = .ok (.invokevirtual 16, 3) := by decide +kernel
theorem w109 : Jvm.Cond.code N33 jdk_67_method_42_code (1 : Nat) (Option.some (Jvm.ClassFile.FieldType.object "java/lang/String")) ∈ tables_1 := List.mem_of_getElem? (i := 109) rfl
theorem pd_N33 : parseMethodDescriptor N33.desc = some ⟨[], (some (.object "java/lang/String"))⟩ := by decide +kernel
theorem w105 : Jvm.Cond.methodLink "com/example/steady_rollout/steadyrollout/DeviceTopics" (16 : Nat) N33 ∈ tables_1 := List.mem_of_getElem? (i := 105) rfl
theorem w106 : Jvm.Cond.declares N33 ∈ tables_1 := List.mem_of_getElem? (i := 106) rfl
theorem w108 : Jvm.Cond.selects "java/lang/StringBuilder" N33 N33 ∈ tables_1 := List.mem_of_getElem? (i := 108) rfl
theorem w107 : Jvm.Cond.instanceMethod N33 ∈ tables_1 := List.mem_of_getElem? (i := 107) rfl
theorem d7_24 : decode prog_4_method_1_code 24 = .ok (.putfield 20, 3) := by decide +kernel
theorem w150 : Jvm.Cond.fieldLink "com/example/steady_rollout/steadyrollout/DeviceTopics" (20 : Nat) "com/example/steady_rollout/steadyrollout/DeviceTopics" "thingsRoot" "Ljava/lang/String;" ∈ tables_1 := List.mem_of_getElem? (i := 150) rfl
theorem w151 : Jvm.Cond.laysFinal "com/example/steady_rollout/steadyrollout/DeviceTopics" "com/example/steady_rollout/steadyrollout/DeviceTopics" "thingsRoot" "Ljava/lang/String;" ∈ tables_1 := List.mem_of_getElem? (i := 151) rfl
theorem d7_27 : decode prog_4_method_1_code 27 = .ok (.return_, 1) := by decide +kernel
abbrev N34 : MethodName := ⟨"com/example/steady_rollout/steadyrollout/DeviceTopics", "<init>", "(Ljava/lang/String;)V"⟩
theorem pn_N34 : plainName N34.cls = true := by first | (simp [plainName, overriddenIn]; done) | decide +kernel

abbrev rm_dti : Room := { frames := 6, cells := 8, slots := 196, locals := 101 }
set_option maxRecDepth 65536 in
set_option maxHeartbeats 4000000 in
theorem ct_dti (l : Launch) {Z : State} {n0 : Nat} {z : Int32} {f : Value} {pA pB sA sB bA bB : Addr} (W : Sx Z z f pA pB sA sB bA bB) (t s1 b1 : Addr) (cs : List Int32) (h : Heap) (A : Exa Z h t "com/example/steady_rollout/steadyrollout/DeviceTopics") (F : Fld Z h t "com/example/steady_rollout/steadyrollout/DeviceTopics" "thingsRoot" "Ljava/lang/String;" .null) (S : Str Z h s1 b1 cs) (hn : cs.length ≤ 2) (zt : n0 ≤ t) :
    Ctr l Z n0 N34 prog_4_method_1_code 2 none rm_dti #[(.ref t), (.ref s1)] h [t] (fun v h' sn => v = none ∧ Keep h h' [t] ∧ (∃ r rb, Fld Z h' t "com/example/steady_rollout/steadyrollout/DeviceTopics" "thingsRoot" "Ljava/lang/String;" (.ref r) ∧ Str Z h' r rb (cs ++ [(47 : Int32), (116 : Int32), (104 : Int32), (105 : Int32), (110 : Int32), (103 : Int32), (115 : Int32), (47 : Int32)])) ∧ sn = []) := by
  refine Ctr.of_go (ls := #[.val (.ref t), .val (.ref s1)]) W.1.1 (plainFor_of_name pn_N34) (fun m => by first | (simp [entryFrame, mkF, argsToLocals, Value.category]; done) | rfl) (fun K H => ?_)
  have KK : Keep h h [t] := Keep.refl _ _
  have hst : s1 ≠ t := Ne.symm (Exa.ne A S.1 (by decide))
  have hbt : b1 ≠ t := Vec.neExa S.2.2.2.1 A W.1.1 w31
  refine Go.aloadN H d7_0 rfl rfl rfl ?_
  refine Go.initObj H d7_1 rfl w36 w12 w13 0 rfl (Nat.le_of_eq rfl) (by decide) (by decide) ?_
  refine Go.aloadN H d7_4 rfl rfl rfl ?_
  refine Go.new H d7_5 rfl w37 w38 w39 (by decide) (by decide) ?_
  intro a1 h2 g3 z4 E5 A6 D7
  have ne8 : t ≠ a1 := Nat.ne_of_lt (Nat.lt_of_lt_of_le A.lt (Nat.le_of_eq g3.symm))
  have ne9 : s1 ≠ a1 := Nat.ne_of_lt (Nat.lt_of_lt_of_le S.lt (Nat.le_of_eq g3.symm))
  have ne10 : b1 ≠ a1 := Nat.ne_of_lt (Nat.lt_of_lt_of_le S.ltb (Nat.le_of_eq g3.symm))
  have sz11 := Nat.le_trans KK.1 (Nat.le_of_eq g3.symm)
  replace A := A.ext E5
  replace F := F.ext E5
  replace S := S.ext E5
  replace KK := KK.ext E5
  have F12 : Fld Z h2 a1 "java/lang/AbstractStringBuilder" "value" "[B" .null := D7 (Or.inl w52) (ty := (.array .byte)) (by decide)
  have F13 : Fld Z h2 a1 "java/lang/AbstractStringBuilder" "coder" "B" (.int (0 : Int32)) := D7 (Or.inl w54) (ty := .byte) (by decide)
  have F14 : Fld Z h2 a1 "java/lang/AbstractStringBuilder" "count" "I" (.int (0 : Int32)) := D7 (Or.inl w76) (ty := .int) (by decide)
  show Go _ _ _ _ _ _ h2 [a1, t] 1 4 8 #[.val (.ref t), .val (.ref s1)] [(.ref a1), (.ref t)]
  refine Go.dup H d7_8 rfl rfl ?_
  refine Go.callI (rest := [(.ref a1), (.ref t)]) 2 [] H d7_9 rfl rfl w40 w41 w39 w42 pd_N13 (ct_sbi l W a1 h2 A6 F12 F13 F14 z4) (by simp) rfl rfl rfl (Nat.le_of_eq rfl) (by decide) (by decide) (by decide) (by decide) nh_N13 ?_
  rintro _ h15 _ ⟨rfl, K16, b17, g18, z19, S20, rfl⟩
  have ne21 : t ≠ b17 := Nat.ne_of_lt (Nat.lt_of_lt_of_le A.lt g18)
  have ne22 : s1 ≠ b17 := Nat.ne_of_lt (Nat.lt_of_lt_of_le S.lt g18)
  have ne23 : b1 ≠ b17 := Nat.ne_of_lt (Nat.lt_of_lt_of_le S.ltb g18)
  have ne24 : a1 ≠ b17 := Nat.ne_of_lt (Nat.lt_of_lt_of_le A6.lt g18)
  have sz25 := Nat.le_trans KK.1 g18
  replace A := A.keep K16
  replace F := F.keep K16 (ninS ne8 nin0)
  replace S := S.keep K16 (ninS ne9 nin0) (ninS ne10 nin0)
  replace KK := KK.trans K16 (allS (Or.inr sz11) all0)
  show Go _ _ _ _ _ _ h15 [b17, a1, t] 2 20 12 #[.val (.ref t), .val (.ref s1)] [(.ref a1), (.ref t)]
  refine Go.aloadN H d7_12 rfl rfl rfl ?_
  refine Go.callV (rest := [(.ref t)]) 1 [(.ref s1)] H d7_13 rfl S20.exa w55 w56 w58 w57 w39 w59 pd_N24 (ct_sba l W a1 b17 s1 b1 ([] : List Int32) cs 16 h15 S20 (Or.inl rfl) S (by simp only [List.length_append, List.length_cons, List.length_nil]; omega) z4 z19 ne23) (by simp) rfl rfl rfl (Nat.le_of_eq rfl) (by decide) (by decide) (by decide) (by decide) nh_N13 ?_
  rintro _ h26 _ ⟨rfl, K27, d28, cp29, q30, z31, S32, hc33, hl34, rfl⟩
  have ne35 : t ≠ d28 := q30.elim (fun e => e ▸ ne21) (fun g => Nat.ne_of_lt (Nat.lt_of_lt_of_le A.lt g))
  have ne36 : s1 ≠ d28 := q30.elim (fun e => e ▸ ne22) (fun g => Nat.ne_of_lt (Nat.lt_of_lt_of_le S.lt g))
  have ne37 : b1 ≠ d28 := q30.elim (fun e => e ▸ ne23) (fun g => Nat.ne_of_lt (Nat.lt_of_lt_of_le S.ltb g))
  have ne38 : a1 ≠ d28 := q30.elim (fun e => e ▸ ne24) (fun g => Nat.ne_of_lt (Nat.lt_of_lt_of_le S20.lt g))
  have sz39 : _ ≤ d28 := q30.elim (fun e => e ▸ sz25) (fun g => Nat.le_trans KK.1 g)
  replace A := A.keep K27
  replace F := F.keep K27 (ninS ne8 (ninS ne21 nin0))
  replace S := S.keep K27 (ninS ne9 (ninS ne22 nin0)) (ninS ne10 (ninS ne23 nin0))
  replace KK := KK.trans K27 (allS (Or.inr sz11) (allS (Or.inr sz25) all0))
  show Go _ _ _ _ _ _ h26 [d28, b17, a1, t] 3 54 16 #[.val (.ref t), .val (.ref s1)] [(.ref a1), (.ref t)]
  refine Go.ldcS [(47 : Int32), (116 : Int32), (104 : Int32), (105 : Int32), (110 : Int32), (103 : Int32), (115 : Int32), (47 : Int32)] (8 : Int32) 32 H d7_16 rfl w102 cm_0 lt_0 lt_0_l (by decide) (by decide) (by decide) (by decide) (by decide) (by decide) ?_
  intro a40 b41 h42 E43 S44 q45
  replace A := A.ext E43
  replace F := F.ext E43
  replace S := S.ext E43
  replace S32 := S32.ext E43
  replace KK := KK.ext E43
  have ne46 : d28 ≠ a40 := (q45 d28 (by simp)).1
  have ne47 : d28 ≠ b41 := (q45 d28 (by simp)).2
  have ne48 : b17 ≠ a40 := (q45 b17 (by simp)).1
  have ne49 : b17 ≠ b41 := (q45 b17 (by simp)).2
  have ne50 : a1 ≠ a40 := (q45 a1 (by simp)).1
  have ne51 : a1 ≠ b41 := (q45 a1 (by simp)).2
  have ne52 : t ≠ a40 := (q45 t (by simp)).1
  have ne53 : t ≠ b41 := (q45 t (by simp)).2
  show Go _ _ _ _ _ _ h42 [d28, b17, a1, t] 5 90 18 #[.val (.ref t), .val (.ref s1)] [(.ref a40), (.ref a1), (.ref t)]
  refine Go.callV (rest := [(.ref t)]) 1 [(.ref a40)] H d7_18 rfl S32.exa w55 w56 w58 w57 w39 w59 pd_N24 (ct_sba l W a1 d28 a40 b41 (([] : List Int32) ++ cs) [(47 : Int32), (116 : Int32), (104 : Int32), (105 : Int32), (110 : Int32), (103 : Int32), (115 : Int32), (47 : Int32)] cp29 h42 S32 hc33 S44 (by simp only [List.length_append, List.length_cons, List.length_nil]; omega) z4 z31 (Ne.symm ne47)) (by simp) rfl rfl rfl (Nat.le_of_eq rfl) (by decide) (by decide) (by decide) (by decide) nh_N13 ?_
  rintro _ h54 _ ⟨rfl, K55, d56, cp57, q58, z59, S60, hc61, hl62, rfl⟩
  have ne63 : t ≠ d56 := q58.elim (fun e => e ▸ ne35) (fun g => Nat.ne_of_lt (Nat.lt_of_lt_of_le A.lt g))
  have ne64 : s1 ≠ d56 := q58.elim (fun e => e ▸ ne36) (fun g => Nat.ne_of_lt (Nat.lt_of_lt_of_le S.lt g))
  have ne65 : b1 ≠ d56 := q58.elim (fun e => e ▸ ne37) (fun g => Nat.ne_of_lt (Nat.lt_of_lt_of_le S.ltb g))
  have ne66 : a40 ≠ d56 := q58.elim (fun e => e ▸ (Ne.symm ne46)) (fun g => Nat.ne_of_lt (Nat.lt_of_lt_of_le S44.lt g))
  have ne67 : b41 ≠ d56 := q58.elim (fun e => e ▸ (Ne.symm ne47)) (fun g => Nat.ne_of_lt (Nat.lt_of_lt_of_le S44.ltb g))
  have ne68 : a1 ≠ d56 := q58.elim (fun e => e ▸ ne38) (fun g => Nat.ne_of_lt (Nat.lt_of_lt_of_le S32.lt g))
  have sz69 : _ ≤ d56 := q58.elim (fun e => e ▸ sz39) (fun g => Nat.le_trans KK.1 g)
  replace A := A.keep K55
  replace F := F.keep K55 (ninS ne8 (ninS ne35 nin0))
  replace S := S.keep K55 (ninS ne9 (ninS ne36 nin0)) (ninS ne10 (ninS ne37 nin0))
  replace S44 := S44.keep K55 (ninS (Ne.symm ne50) (ninS (Ne.symm ne46) nin0)) (ninS (Ne.symm ne51) (ninS (Ne.symm ne47) nin0))
  replace KK := KK.trans K55 (allS (Or.inr sz11) (allS (Or.inr sz39) all0))
  show Go _ _ _ _ _ _ h54 [d56, d28, b17, a1, t] 6 124 21 #[.val (.ref t), .val (.ref s1)] [(.ref a1), (.ref t)]
  refine Go.callV (rest := [(.ref t)]) 1 [] H d7_21 rfl S60.exa w105 w106 w108 w107 w39 w109 pd_N33 (ct_tos l W a1 d56 ((([] : List Int32) ++ cs) ++ [(47 : Int32), (116 : Int32), (104 : Int32), (105 : Int32), (110 : Int32), (103 : Int32), (115 : Int32), (47 : Int32)]) cp57 h54 S60 hc61 (by simp only [List.length_append, List.length_cons, List.length_nil] at hl62 ⊢; omega)) all0 rfl rfl rfl (Nat.le_of_eq rfl) (by decide) (by decide) (by decide) (by decide) nh_N13 ?_
  rintro _ h72 _ ⟨a70, b71, rfl, E73, g74, S75, rfl⟩
  have ne76 : t ≠ a70 := Nat.ne_of_lt (Nat.lt_of_lt_of_le A.lt g74)
  have ne77 : s1 ≠ a70 := Nat.ne_of_lt (Nat.lt_of_lt_of_le S.lt g74)
  have ne78 : b1 ≠ a70 := Nat.ne_of_lt (Nat.lt_of_lt_of_le S.ltb g74)
  have ne79 : a40 ≠ a70 := Nat.ne_of_lt (Nat.lt_of_lt_of_le S44.lt g74)
  have ne80 : b41 ≠ a70 := Nat.ne_of_lt (Nat.lt_of_lt_of_le S44.ltb g74)
  have ne81 : a1 ≠ a70 := Nat.ne_of_lt (Nat.lt_of_lt_of_le S60.lt g74)
  have ne82 : d56 ≠ a70 := Nat.ne_of_lt (Nat.lt_of_lt_of_le S60.ltb g74)
  replace A := A.ext E73
  replace F := F.ext E73
  replace S := S.ext E73
  replace S44 := S44.ext E73
  replace S60 := S60.ext E73
  replace KK := KK.ext E73
  show Go _ _ _ _ _ _ h72 [d56, d28, b17, a1, t] 8 196 24 #[.val (.ref t), .val (.ref s1)] [(.ref a70), (.ref t)]
  refine Go.putfield (v := (.ref a70)) H d7_24 rfl w150 F A (Or.inr ⟨w151, rfl, rfl⟩) w31 (ty := (.object "java/lang/String")) (by decide) rfl rfl zt (by simp) ?_
  intro h83 Wr84
  have F85 := F.same Wr84
  have K86 := Keep.of_wr Wr84
  have ne87 : b71 ≠ t := (Vec.neExa S75.2.2.2.1 A W.1.1 w31)
  replace A := A.wr Wr84
  replace S := S.keep K86 (ninS hst nin0) (ninS hbt nin0)
  replace S44 := S44.keep K86 (ninS (Ne.symm ne52) nin0) (ninS (Ne.symm ne53) nin0)
  replace S60 := S60.keep K86 (ninS (Ne.symm ne8) nin0) (ninS (Ne.symm ne63) nin0)
  replace S75 := S75.keep K86 (ninS (Ne.symm ne76) nin0) (ninS ne87 nin0)
  replace KK := KK.wr Wr84 (Or.inl (by simp))
  exact Go.return_ [] H d7_27 ⟨rfl, KK, ⟨_, _, F85, S75⟩, rfl⟩ all0 (by decide) (by decide)
theorem d29_0 : decode prog_4_method_7_code 0 = .ok (.new 7, 3) := by decide +kernel
theorem d29_3 : decode prog_4_method_7_code 3 = .ok (.dup, 1) := by decide +kernel
theorem d29_4 : decode prog_4_method_7_code 4 = .ok (.invokespecial 9, 3) := by decide +kernel
theorem d29_7 : decode prog_4_method_7_code 7 = .ok (.aload_n 0, 1) := by decide +kernel
theorem d29_8 : decode prog_4_method_7_code 8 = .ok (.getfield 20, 3) := by decide +kernel
theorem d29_11 : decode prog_4_method_7_code 11 = .ok (.invokevirtual 10, 3) := by decide +kernel
theorem d29_14 : decode prog_4_method_7_code 14 = .ok (.aload_n 1, 1) := by decide +kernel
theorem d29_15 : decode prog_4_method_7_code 15 = .ok (.invokevirtual 10, 3) := by decide +kernel
theorem d29_18 : decode prog_4_method_7_code 18 = .ok (.ldc 137, 2) := by decide +kernel
theorem lt_1 : (∀ c ∈ ("/jobs/" : String).toList, c.toNat < 256) ∧ ("/jobs/" : String).toList.map (fun c => Value.int (Jvm.Lit.byteI c.toNat.toUInt16)) = (([(47 : Int32), (106 : Int32), (111 : Int32), (98 : Int32), (115 : Int32), (47 : Int32)]).map (nar .byte)).map Value.int := by decide +kernel
theorem lt_1_l : ∀ c ∈ [(47 : Int32), (106 : Int32), (111 : Int32), (98 : Int32), (115 : Int32), (47 : Int32)], isL c := own_ac (show isL (47 : Int32) from ⟨by decide, by decide⟩) (own_ac (show isL (106 : Int32) from ⟨by decide, by decide⟩) (own_ac (show isL (111 : Int32) from ⟨by decide, by decide⟩) (own_ac (show isL (98 : Int32) from ⟨by decide, by decide⟩) (own_ac (show isL (115 : Int32) from ⟨by decide, by decide⟩) (own_ac (show isL (47 : Int32) from ⟨by decide, by decide⟩) (own_an))))))
theorem cm_1 : ("com/example/steady_rollout/steadyrollout/DeviceTopics", 137) ∈ consts_1 := by decide
theorem w160 : Jvm.Cond.stringLink "com/example/steady_rollout/steadyrollout/DeviceTopics" (137 : Nat) "/jobs/" ∈ tables_1 := List.mem_of_getElem? (i := 160) rfl
theorem d29_20 : decode prog_4_method_7_code 20 = .ok (.invokevirtual 10, 3) := by decide +kernel
theorem d29_23 : decode prog_4_method_7_code 23 = .ok (.aload_n 2, 1) := by decide +kernel
theorem d29_24 : decode prog_4_method_7_code 24 = .ok (.getfield 139, 3) := by decide +kernel
theorem w178 : Jvm.Cond.fieldRef "com/example/steady_rollout/steadyrollout/DeviceTopics" (139 : Nat) "com/example/steady_rollout/steadyrollout/DeviceTopics$Push" "level" "Ljava/lang/String;" ∈ tables_1 := List.mem_of_getElem? (i := 178) rfl
theorem d29_27 : decode prog_4_method_7_code 27 = .ok (.invokevirtual 10, 3) := by decide +kernel
theorem d29_30 : decode prog_4_method_7_code 30 = .ok (.invokevirtual 16, 3) := by decide +kernel
theorem d29_33 : decode prog_4_method_7_code 33 = .ok (.areturn, 1) := by decide +kernel
abbrev N35 : MethodName := ⟨"com/example/steady_rollout/steadyrollout/DeviceTopics", "push", "(Ljava/lang/String;Lcom/example/steady_rollout/steadyrollout/DeviceTopics$Push;)Ljava/lang/String;"⟩

abbrev rm_psh : Room := { frames := 6, cells := 10, slots := 256, locals := 100 }
set_option maxRecDepth 65536 in
set_option maxHeartbeats 4000000 in
theorem ct_psh (l : Launch) {Z : State} {n0 : Nat} {z : Int32} {f : Value} {pA pB sA sB bA bB : Addr} (W : Sx Z z f pA pB sA sB bA bB) (t r rb s1 b1 p s2 b2 : Addr) (cs ds es : List Int32) (h : Heap) (F : Fld Z h t "com/example/steady_rollout/steadyrollout/DeviceTopics" "thingsRoot" "Ljava/lang/String;" (.ref r)) (S0 : Str Z h r rb cs) (S1 : Str Z h s1 b1 ds) (G : Fld Z h p "com/example/steady_rollout/steadyrollout/DeviceTopics$Push" "level" "Ljava/lang/String;" (.ref s2)) (S2 : Str Z h s2 b2 es) (n2 : cs.length = 10) (n3 : ds.length = 2) (n4 : es.length ≤ 11) :
    Ctr l Z n0 N35 prog_4_method_7_code 3 (some (.object "java/lang/String")) rm_psh #[(.ref t), (.ref s1), (.ref p)] h [] (fun v h' sn => ∃ a b, v = some (.ref a) ∧ Ext h h' ∧ h.size ≤ a ∧ Str Z h' a b (((cs ++ ds) ++ [(47 : Int32), (106 : Int32), (111 : Int32), (98 : Int32), (115 : Int32), (47 : Int32)]) ++ es) ∧ sn = []) := by
  refine Ctr.of_go (ls := #[.val (.ref t), .val (.ref s1), .val (.ref p)]) W.1.1 (plainFor_of_name pn_N34) (fun m => by first | (simp [entryFrame, mkF, argsToLocals, Value.category]; done) | rfl) (fun K H => ?_)
  have KK : Keep h h [] := Keep.refl _ _
  refine Go.new H d29_0 rfl w37 w38 w39 (by decide) (by decide) ?_
  intro a1 h2 g3 z4 E5 A6 D7
  have ne8 : t ≠ a1 := Nat.ne_of_lt (Nat.lt_of_lt_of_le F.lt (Nat.le_of_eq g3.symm))
  have ne9 : r ≠ a1 := Nat.ne_of_lt (Nat.lt_of_lt_of_le S0.lt (Nat.le_of_eq g3.symm))
  have ne10 : rb ≠ a1 := Nat.ne_of_lt (Nat.lt_of_lt_of_le S0.ltb (Nat.le_of_eq g3.symm))
  have ne11 : s1 ≠ a1 := Nat.ne_of_lt (Nat.lt_of_lt_of_le S1.lt (Nat.le_of_eq g3.symm))
  have ne12 : b1 ≠ a1 := Nat.ne_of_lt (Nat.lt_of_lt_of_le S1.ltb (Nat.le_of_eq g3.symm))
  have ne13 : p ≠ a1 := Nat.ne_of_lt (Nat.lt_of_lt_of_le G.lt (Nat.le_of_eq g3.symm))
  have ne14 : s2 ≠ a1 := Nat.ne_of_lt (Nat.lt_of_lt_of_le S2.lt (Nat.le_of_eq g3.symm))
  have ne15 : b2 ≠ a1 := Nat.ne_of_lt (Nat.lt_of_lt_of_le S2.ltb (Nat.le_of_eq g3.symm))
  have sz16 := Nat.le_trans KK.1 (Nat.le_of_eq g3.symm)
  replace F := F.ext E5
  replace S0 := S0.ext E5
  replace S1 := S1.ext E5
  replace G := G.ext E5
  replace S2 := S2.ext E5
  replace KK := KK.ext E5
  have F17 : Fld Z h2 a1 "java/lang/AbstractStringBuilder" "value" "[B" .null := D7 (Or.inl w52) (ty := (.array .byte)) (by decide)
  have F18 : Fld Z h2 a1 "java/lang/AbstractStringBuilder" "coder" "B" (.int (0 : Int32)) := D7 (Or.inl w54) (ty := .byte) (by decide)
  have F19 : Fld Z h2 a1 "java/lang/AbstractStringBuilder" "count" "I" (.int (0 : Int32)) := D7 (Or.inl w76) (ty := .int) (by decide)
  show Go _ _ _ _ _ _ h2 [a1] 1 4 3 #[.val (.ref t), .val (.ref s1), .val (.ref p)] [(.ref a1)]
  refine Go.dup H d29_3 rfl rfl ?_
  refine Go.callI (rest := [(.ref a1)]) 1 [] H d29_4 rfl rfl w40 w41 w39 w42 pd_N13 (ct_sbi l W a1 h2 A6 F17 F18 F19 z4) (by simp) rfl rfl rfl (Nat.le_of_eq rfl) (by decide) (by decide) (by decide) (by decide) nh_N13 ?_
  rintro _ h20 _ ⟨rfl, K21, b22, g23, z24, S25, rfl⟩
  have ne26 : t ≠ b22 := Nat.ne_of_lt (Nat.lt_of_lt_of_le F.lt g23)
  have ne27 : r ≠ b22 := Nat.ne_of_lt (Nat.lt_of_lt_of_le S0.lt g23)
  have ne28 : rb ≠ b22 := Nat.ne_of_lt (Nat.lt_of_lt_of_le S0.ltb g23)
  have ne29 : s1 ≠ b22 := Nat.ne_of_lt (Nat.lt_of_lt_of_le S1.lt g23)
  have ne30 : b1 ≠ b22 := Nat.ne_of_lt (Nat.lt_of_lt_of_le S1.ltb g23)
  have ne31 : p ≠ b22 := Nat.ne_of_lt (Nat.lt_of_lt_of_le G.lt g23)
  have ne32 : s2 ≠ b22 := Nat.ne_of_lt (Nat.lt_of_lt_of_le S2.lt g23)
  have ne33 : b2 ≠ b22 := Nat.ne_of_lt (Nat.lt_of_lt_of_le S2.ltb g23)
  have ne34 : a1 ≠ b22 := Nat.ne_of_lt (Nat.lt_of_lt_of_le A6.lt g23)
  have sz35 := Nat.le_trans KK.1 g23
  replace F := F.keep K21 (ninS ne8 nin0)
  replace S0 := S0.keep K21 (ninS ne9 nin0) (ninS ne10 nin0)
  replace S1 := S1.keep K21 (ninS ne11 nin0) (ninS ne12 nin0)
  replace G := G.keep K21 (ninS ne13 nin0)
  replace S2 := S2.keep K21 (ninS ne14 nin0) (ninS ne15 nin0)
  replace KK := KK.trans K21 (allS (Or.inr sz16) all0)
  show Go _ _ _ _ _ _ h20 [b22, a1] 2 20 7 #[.val (.ref t), .val (.ref s1), .val (.ref p)] [(.ref a1)]
  refine Go.aloadN H d29_7 rfl rfl rfl ?_
  refine Go.getfield H d29_8 rfl w150 F ?_
  refine Go.callV (rest := []) 0 [(.ref r)] H d29_11 rfl S25.exa w55 w56 w58 w57 w39 w59 pd_N24 (ct_sba l W a1 b22 r rb ([] : List Int32) cs 16 h20 S25 (Or.inl rfl) S0 (by simp only [List.length_append, List.length_cons, List.length_nil]; omega) z4 z24 ne28) (by simp) rfl rfl rfl (Nat.le_of_eq rfl) (by decide) (by decide) (by decide) (by decide) nh_N13 ?_
  rintro _ h36 _ ⟨rfl, K37, d38, cp39, q40, z41, S42, hc43, hl44, rfl⟩
  have ne45 : t ≠ d38 := q40.elim (fun e => e ▸ ne26) (fun g => Nat.ne_of_lt (Nat.lt_of_lt_of_le F.lt g))
  have ne46 : r ≠ d38 := q40.elim (fun e => e ▸ ne27) (fun g => Nat.ne_of_lt (Nat.lt_of_lt_of_le S0.lt g))
  have ne47 : rb ≠ d38 := q40.elim (fun e => e ▸ ne28) (fun g => Nat.ne_of_lt (Nat.lt_of_lt_of_le S0.ltb g))
  have ne48 : s1 ≠ d38 := q40.elim (fun e => e ▸ ne29) (fun g => Nat.ne_of_lt (Nat.lt_of_lt_of_le S1.lt g))
  have ne49 : b1 ≠ d38 := q40.elim (fun e => e ▸ ne30) (fun g => Nat.ne_of_lt (Nat.lt_of_lt_of_le S1.ltb g))
  have ne50 : p ≠ d38 := q40.elim (fun e => e ▸ ne31) (fun g => Nat.ne_of_lt (Nat.lt_of_lt_of_le G.lt g))
  have ne51 : s2 ≠ d38 := q40.elim (fun e => e ▸ ne32) (fun g => Nat.ne_of_lt (Nat.lt_of_lt_of_le S2.lt g))
  have ne52 : b2 ≠ d38 := q40.elim (fun e => e ▸ ne33) (fun g => Nat.ne_of_lt (Nat.lt_of_lt_of_le S2.ltb g))
  have ne53 : a1 ≠ d38 := q40.elim (fun e => e ▸ ne34) (fun g => Nat.ne_of_lt (Nat.lt_of_lt_of_le S25.lt g))
  have sz54 : _ ≤ d38 := q40.elim (fun e => e ▸ sz35) (fun g => Nat.le_trans KK.1 g)
  replace F := F.keep K37 (ninS ne8 (ninS ne26 nin0))
  replace S0 := S0.keep K37 (ninS ne9 (ninS ne27 nin0)) (ninS ne10 (ninS ne28 nin0))
  replace S1 := S1.keep K37 (ninS ne11 (ninS ne29 nin0)) (ninS ne12 (ninS ne30 nin0))
  replace G := G.keep K37 (ninS ne13 (ninS ne31 nin0))
  replace S2 := S2.keep K37 (ninS ne14 (ninS ne32 nin0)) (ninS ne15 (ninS ne33 nin0))
  replace KK := KK.trans K37 (allS (Or.inr sz16) (allS (Or.inr sz35) all0))
  show Go _ _ _ _ _ _ h36 [d38, b22, a1] 3 54 14 #[.val (.ref t), .val (.ref s1), .val (.ref p)] [(.ref a1)]
  refine Go.aloadN H d29_14 rfl rfl rfl ?_
  refine Go.callV (rest := []) 0 [(.ref s1)] H d29_15 rfl S42.exa w55 w56 w58 w57 w39 w59 pd_N24 (ct_sba l W a1 d38 s1 b1 (([] : List Int32) ++ cs) ds cp39 h36 S42 hc43 S1 (by simp only [List.length_append, List.length_cons, List.length_nil]; omega) z4 z41 ne49) (by simp) rfl rfl rfl (Nat.le_of_eq rfl) (by decide) (by decide) (by decide) (by decide) nh_N13 ?_
  rintro _ h55 _ ⟨rfl, K56, d57, cp58, q59, z60, S61, hc62, hl63, rfl⟩
  have ne64 : t ≠ d57 := q59.elim (fun e => e ▸ ne45) (fun g => Nat.ne_of_lt (Nat.lt_of_lt_of_le F.lt g))
  have ne65 : r ≠ d57 := q59.elim (fun e => e ▸ ne46) (fun g => Nat.ne_of_lt (Nat.lt_of_lt_of_le S0.lt g))
  have ne66 : rb ≠ d57 := q59.elim (fun e => e ▸ ne47) (fun g => Nat.ne_of_lt (Nat.lt_of_lt_of_le S0.ltb g))
  have ne67 : s1 ≠ d57 := q59.elim (fun e => e ▸ ne48) (fun g => Nat.ne_of_lt (Nat.lt_of_lt_of_le S1.lt g))
  have ne68 : b1 ≠ d57 := q59.elim (fun e => e ▸ ne49) (fun g => Nat.ne_of_lt (Nat.lt_of_lt_of_le S1.ltb g))
  have ne69 : p ≠ d57 := q59.elim (fun e => e ▸ ne50) (fun g => Nat.ne_of_lt (Nat.lt_of_lt_of_le G.lt g))
  have ne70 : s2 ≠ d57 := q59.elim (fun e => e ▸ ne51) (fun g => Nat.ne_of_lt (Nat.lt_of_lt_of_le S2.lt g))
  have ne71 : b2 ≠ d57 := q59.elim (fun e => e ▸ ne52) (fun g => Nat.ne_of_lt (Nat.lt_of_lt_of_le S2.ltb g))
  have ne72 : a1 ≠ d57 := q59.elim (fun e => e ▸ ne53) (fun g => Nat.ne_of_lt (Nat.lt_of_lt_of_le S42.lt g))
  have sz73 : _ ≤ d57 := q59.elim (fun e => e ▸ sz54) (fun g => Nat.le_trans KK.1 g)
  replace F := F.keep K56 (ninS ne8 (ninS ne45 nin0))
  replace S0 := S0.keep K56 (ninS ne9 (ninS ne46 nin0)) (ninS ne10 (ninS ne47 nin0))
  replace S1 := S1.keep K56 (ninS ne11 (ninS ne48 nin0)) (ninS ne12 (ninS ne49 nin0))
  replace G := G.keep K56 (ninS ne13 (ninS ne50 nin0))
  replace S2 := S2.keep K56 (ninS ne14 (ninS ne51 nin0)) (ninS ne15 (ninS ne52 nin0))
  replace KK := KK.trans K56 (allS (Or.inr sz16) (allS (Or.inr sz54) all0))
  show Go _ _ _ _ _ _ h55 [d57, d38, b22, a1] 4 88 18 #[.val (.ref t), .val (.ref s1), .val (.ref p)] [(.ref a1)]
  refine Go.ldcS [(47 : Int32), (106 : Int32), (111 : Int32), (98 : Int32), (115 : Int32), (47 : Int32)] (6 : Int32) 24 H d29_18 rfl w160 cm_1 lt_1 lt_1_l (by decide) (by decide) (by decide) (by decide) (by decide) (by decide) ?_
  intro a74 b75 h76 E77 S78 q79
  replace F := F.ext E77
  replace S0 := S0.ext E77
  replace S1 := S1.ext E77
  replace G := G.ext E77
  replace S2 := S2.ext E77
  replace S61 := S61.ext E77
  replace KK := KK.ext E77
  have ne80 : d57 ≠ a74 := (q79 d57 (by simp)).1
  have ne81 : d57 ≠ b75 := (q79 d57 (by simp)).2
  have ne82 : d38 ≠ a74 := (q79 d38 (by simp)).1
  have ne83 : d38 ≠ b75 := (q79 d38 (by simp)).2
  have ne84 : b22 ≠ a74 := (q79 b22 (by simp)).1
  have ne85 : b22 ≠ b75 := (q79 b22 (by simp)).2
  have ne86 : a1 ≠ a74 := (q79 a1 (by simp)).1
  have ne87 : a1 ≠ b75 := (q79 a1 (by simp)).2
  show Go _ _ _ _ _ _ h76 [d57, d38, b22, a1] 6 116 20 #[.val (.ref t), .val (.ref s1), .val (.ref p)] [(.ref a74), (.ref a1)]
  refine Go.callV (rest := []) 0 [(.ref a74)] H d29_20 rfl S61.exa w55 w56 w58 w57 w39 w59 pd_N24 (ct_sba l W a1 d57 a74 b75 ((([] : List Int32) ++ cs) ++ ds) [(47 : Int32), (106 : Int32), (111 : Int32), (98 : Int32), (115 : Int32), (47 : Int32)] cp58 h76 S61 hc62 S78 (by simp only [List.length_append, List.length_cons, List.length_nil]; omega) z4 z60 (Ne.symm ne81)) (by simp) rfl rfl rfl (Nat.le_of_eq rfl) (by decide) (by decide) (by decide) (by decide) nh_N13 ?_
  rintro _ h88 _ ⟨rfl, K89, d90, cp91, q92, z93, S94, hc95, hl96, rfl⟩
  have ne97 : t ≠ d90 := q92.elim (fun e => e ▸ ne64) (fun g => Nat.ne_of_lt (Nat.lt_of_lt_of_le F.lt g))
  have ne98 : r ≠ d90 := q92.elim (fun e => e ▸ ne65) (fun g => Nat.ne_of_lt (Nat.lt_of_lt_of_le S0.lt g))
  have ne99 : rb ≠ d90 := q92.elim (fun e => e ▸ ne66) (fun g => Nat.ne_of_lt (Nat.lt_of_lt_of_le S0.ltb g))
  have ne100 : s1 ≠ d90 := q92.elim (fun e => e ▸ ne67) (fun g => Nat.ne_of_lt (Nat.lt_of_lt_of_le S1.lt g))
  have ne101 : b1 ≠ d90 := q92.elim (fun e => e ▸ ne68) (fun g => Nat.ne_of_lt (Nat.lt_of_lt_of_le S1.ltb g))
  have ne102 : p ≠ d90 := q92.elim (fun e => e ▸ ne69) (fun g => Nat.ne_of_lt (Nat.lt_of_lt_of_le G.lt g))
  have ne103 : s2 ≠ d90 := q92.elim (fun e => e ▸ ne70) (fun g => Nat.ne_of_lt (Nat.lt_of_lt_of_le S2.lt g))
  have ne104 : b2 ≠ d90 := q92.elim (fun e => e ▸ ne71) (fun g => Nat.ne_of_lt (Nat.lt_of_lt_of_le S2.ltb g))
  have ne105 : a74 ≠ d90 := q92.elim (fun e => e ▸ (Ne.symm ne80)) (fun g => Nat.ne_of_lt (Nat.lt_of_lt_of_le S78.lt g))
  have ne106 : b75 ≠ d90 := q92.elim (fun e => e ▸ (Ne.symm ne81)) (fun g => Nat.ne_of_lt (Nat.lt_of_lt_of_le S78.ltb g))
  have ne107 : a1 ≠ d90 := q92.elim (fun e => e ▸ ne72) (fun g => Nat.ne_of_lt (Nat.lt_of_lt_of_le S61.lt g))
  have sz108 : _ ≤ d90 := q92.elim (fun e => e ▸ sz73) (fun g => Nat.le_trans KK.1 g)
  replace F := F.keep K89 (ninS ne8 (ninS ne64 nin0))
  replace S0 := S0.keep K89 (ninS ne9 (ninS ne65 nin0)) (ninS ne10 (ninS ne66 nin0))
  replace S1 := S1.keep K89 (ninS ne11 (ninS ne67 nin0)) (ninS ne12 (ninS ne68 nin0))
  replace G := G.keep K89 (ninS ne13 (ninS ne69 nin0))
  replace S2 := S2.keep K89 (ninS ne14 (ninS ne70 nin0)) (ninS ne15 (ninS ne71 nin0))
  replace S78 := S78.keep K89 (ninS (Ne.symm ne86) (ninS (Ne.symm ne80) nin0)) (ninS (Ne.symm ne87) (ninS (Ne.symm ne81) nin0))
  replace KK := KK.trans K89 (allS (Or.inr sz16) (allS (Or.inr sz73) all0))
  show Go _ _ _ _ _ _ h88 [d90, d57, d38, b22, a1] 7 150 23 #[.val (.ref t), .val (.ref s1), .val (.ref p)] [(.ref a1)]
  refine Go.aloadN H d29_23 rfl rfl rfl ?_
  refine Go.getfieldR H d29_24 rfl w178 G ?_
  refine Go.callV (rest := []) 0 [(.ref s2)] H d29_27 rfl S94.exa w55 w56 w58 w57 w39 w59 pd_N24 (ct_sba l W a1 d90 s2 b2 (((([] : List Int32) ++ cs) ++ ds) ++ [(47 : Int32), (106 : Int32), (111 : Int32), (98 : Int32), (115 : Int32), (47 : Int32)]) es cp91 h88 S94 hc95 S2 (by simp only [List.length_append, List.length_cons, List.length_nil]; omega) z4 z93 ne104) (by simp) rfl rfl rfl (Nat.le_of_eq rfl) (by decide) (by decide) (by decide) (by decide) nh_N13 ?_
  rintro _ h109 _ ⟨rfl, K110, d111, cp112, q113, z114, S115, hc116, hl117, rfl⟩
  have ne118 : t ≠ d111 := q113.elim (fun e => e ▸ ne97) (fun g => Nat.ne_of_lt (Nat.lt_of_lt_of_le F.lt g))
  have ne119 : r ≠ d111 := q113.elim (fun e => e ▸ ne98) (fun g => Nat.ne_of_lt (Nat.lt_of_lt_of_le S0.lt g))
  have ne120 : rb ≠ d111 := q113.elim (fun e => e ▸ ne99) (fun g => Nat.ne_of_lt (Nat.lt_of_lt_of_le S0.ltb g))
  have ne121 : s1 ≠ d111 := q113.elim (fun e => e ▸ ne100) (fun g => Nat.ne_of_lt (Nat.lt_of_lt_of_le S1.lt g))
  have ne122 : b1 ≠ d111 := q113.elim (fun e => e ▸ ne101) (fun g => Nat.ne_of_lt (Nat.lt_of_lt_of_le S1.ltb g))
  have ne123 : p ≠ d111 := q113.elim (fun e => e ▸ ne102) (fun g => Nat.ne_of_lt (Nat.lt_of_lt_of_le G.lt g))
  have ne124 : s2 ≠ d111 := q113.elim (fun e => e ▸ ne103) (fun g => Nat.ne_of_lt (Nat.lt_of_lt_of_le S2.lt g))
  have ne125 : b2 ≠ d111 := q113.elim (fun e => e ▸ ne104) (fun g => Nat.ne_of_lt (Nat.lt_of_lt_of_le S2.ltb g))
  have ne126 : a74 ≠ d111 := q113.elim (fun e => e ▸ ne105) (fun g => Nat.ne_of_lt (Nat.lt_of_lt_of_le S78.lt g))
  have ne127 : b75 ≠ d111 := q113.elim (fun e => e ▸ ne106) (fun g => Nat.ne_of_lt (Nat.lt_of_lt_of_le S78.ltb g))
  have ne128 : a1 ≠ d111 := q113.elim (fun e => e ▸ ne107) (fun g => Nat.ne_of_lt (Nat.lt_of_lt_of_le S94.lt g))
  have sz129 : _ ≤ d111 := q113.elim (fun e => e ▸ sz108) (fun g => Nat.le_trans KK.1 g)
  replace F := F.keep K110 (ninS ne8 (ninS ne97 nin0))
  replace S0 := S0.keep K110 (ninS ne9 (ninS ne98 nin0)) (ninS ne10 (ninS ne99 nin0))
  replace S1 := S1.keep K110 (ninS ne11 (ninS ne100 nin0)) (ninS ne12 (ninS ne101 nin0))
  replace G := G.keep K110 (ninS ne13 (ninS ne102 nin0))
  replace S2 := S2.keep K110 (ninS ne14 (ninS ne103 nin0)) (ninS ne15 (ninS ne104 nin0))
  replace S78 := S78.keep K110 (ninS (Ne.symm ne86) (ninS ne105 nin0)) (ninS (Ne.symm ne87) (ninS ne106 nin0))
  replace KK := KK.trans K110 (allS (Or.inr sz16) (allS (Or.inr sz108) all0))
  show Go _ _ _ _ _ _ h109 [d111, d90, d57, d38, b22, a1] 8 184 30 #[.val (.ref t), .val (.ref s1), .val (.ref p)] [(.ref a1)]
  refine Go.callV (rest := []) 0 [] H d29_30 rfl S115.exa w105 w106 w108 w107 w39 w109 pd_N33 (ct_tos l W a1 d111 ((((([] : List Int32) ++ cs) ++ ds) ++ [(47 : Int32), (106 : Int32), (111 : Int32), (98 : Int32), (115 : Int32), (47 : Int32)]) ++ es) cp112 h109 S115 hc116 (by simp only [List.length_append, List.length_cons, List.length_nil] at hl117 ⊢; omega)) all0 rfl rfl rfl (Nat.le_of_eq rfl) (by decide) (by decide) (by decide) (by decide) nh_N13 ?_
  have szk130 := KK.1
  rintro _ h133 _ ⟨a131, b132, rfl, E134, g135, S136, rfl⟩
  have ne137 : t ≠ a131 := Nat.ne_of_lt (Nat.lt_of_lt_of_le F.lt g135)
  have ne138 : r ≠ a131 := Nat.ne_of_lt (Nat.lt_of_lt_of_le S0.lt g135)
  have ne139 : rb ≠ a131 := Nat.ne_of_lt (Nat.lt_of_lt_of_le S0.ltb g135)
  have ne140 : s1 ≠ a131 := Nat.ne_of_lt (Nat.lt_of_lt_of_le S1.lt g135)
  have ne141 : b1 ≠ a131 := Nat.ne_of_lt (Nat.lt_of_lt_of_le S1.ltb g135)
  have ne142 : p ≠ a131 := Nat.ne_of_lt (Nat.lt_of_lt_of_le G.lt g135)
  have ne143 : s2 ≠ a131 := Nat.ne_of_lt (Nat.lt_of_lt_of_le S2.lt g135)
  have ne144 : b2 ≠ a131 := Nat.ne_of_lt (Nat.lt_of_lt_of_le S2.ltb g135)
  have ne145 : a74 ≠ a131 := Nat.ne_of_lt (Nat.lt_of_lt_of_le S78.lt g135)
  have ne146 : b75 ≠ a131 := Nat.ne_of_lt (Nat.lt_of_lt_of_le S78.ltb g135)
  have ne147 : a1 ≠ a131 := Nat.ne_of_lt (Nat.lt_of_lt_of_le S115.lt g135)
  have ne148 : d111 ≠ a131 := Nat.ne_of_lt (Nat.lt_of_lt_of_le S115.ltb g135)
  replace F := F.ext E134
  replace S0 := S0.ext E134
  replace S1 := S1.ext E134
  replace G := G.ext E134
  replace S2 := S2.ext E134
  replace S78 := S78.ext E134
  replace S115 := S115.ext E134
  replace KK := KK.ext E134
  have szs149 := Nat.le_trans szk130 g135
  show Go _ _ _ _ _ _ h133 [d111, d90, d57, d38, b22, a1] 10 256 33 #[.val (.ref t), .val (.ref s1), .val (.ref p)] [(.ref a131)]
  exact Go.areturn [] H d29_33 rfl rfl (own_narR rfl) ⟨_, _, rfl, own_ext KK, szs149, S136, rfl⟩ all0 (by decide) (by decide)
theorem w0 : Jvm.Cond.classLink "com/example/steady_rollout/steadyrollout/DeviceTopicsPushPinLaw" (7 : Nat) "java/lang/String" ∈ tables_1 := List.mem_of_getElem? (i := 0) rfl
theorem w3 : Jvm.Cond.arrayClass Jvm.ClassFile.FieldType.char ∈ tables_1 := List.mem_of_getElem? (i := 3) rfl
theorem w6 : Jvm.Cond.code N5 jdk_42_method_3_code (2 : Nat) (Option.none : Option Jvm.ClassFile.FieldType) ∈ tables_1 := List.mem_of_getElem? (i := 6) rfl
theorem pd_N5 : parseMethodDescriptor N5.desc = some ⟨[(.array .char)], none⟩ := by decide +kernel
theorem w4 : Jvm.Cond.methodLink "com/example/steady_rollout/steadyrollout/DeviceTopicsPushPinLaw" (9 : Nat) N5 ∈ tables_1 := List.mem_of_getElem? (i := 4) rfl
theorem w5 : Jvm.Cond.instanceMethod N5 ∈ tables_1 := List.mem_of_getElem? (i := 5) rfl
theorem w30 : Jvm.Cond.classLink "com/example/steady_rollout/steadyrollout/DeviceTopicsPushPinLaw" (12 : Nat) "com/example/steady_rollout/steadyrollout/DeviceTopics" ∈ tables_1 := List.mem_of_getElem? (i := 30) rfl
theorem w32 : Jvm.Cond.initialized "com/example/steady_rollout/steadyrollout/DeviceTopics" ∈ tables_1 := List.mem_of_getElem? (i := 32) rfl
theorem w35 : Jvm.Cond.code N34 prog_4_method_1_code (2 : Nat) (Option.none : Option Jvm.ClassFile.FieldType) ∈ tables_1 := List.mem_of_getElem? (i := 35) rfl
theorem pd_N34 : parseMethodDescriptor N34.desc = some ⟨[(.object "java/lang/String")], none⟩ := by decide +kernel
theorem nh_N34 : N34.cls ≠ "java/lang/invoke/MethodHandle" ∧ N34.cls ≠ "java/lang/invoke/VarHandle" := by decide
theorem w33 : Jvm.Cond.methodLink "com/example/steady_rollout/steadyrollout/DeviceTopicsPushPinLaw" (14 : Nat) N34 ∈ tables_1 := List.mem_of_getElem? (i := 33) rfl
theorem w34 : Jvm.Cond.instanceMethod N34 ∈ tables_1 := List.mem_of_getElem? (i := 34) rfl
theorem w152 : Jvm.Cond.fieldLink "com/example/steady_rollout/steadyrollout/DeviceTopicsPushPinLaw" (23 : Nat) "com/example/steady_rollout/steadyrollout/DeviceTopics$Push" "NOTIFY" "Lcom/example/steady_rollout/steadyrollout/DeviceTopics$Push;" ∈ tables_1 := List.mem_of_getElem? (i := 152) rfl
theorem w159 : Jvm.Cond.code N35 prog_4_method_7_code (3 : Nat) (Option.some (Jvm.ClassFile.FieldType.object "java/lang/String")) ∈ tables_1 := List.mem_of_getElem? (i := 159) rfl
theorem pd_N35 : parseMethodDescriptor N35.desc = some ⟨[(.object "java/lang/String"), (.object "com/example/steady_rollout/steadyrollout/DeviceTopics$Push")], (some (.object "java/lang/String"))⟩ := by decide +kernel
theorem w155 : Jvm.Cond.methodLink "com/example/steady_rollout/steadyrollout/DeviceTopicsPushPinLaw" (26 : Nat) N35 ∈ tables_1 := List.mem_of_getElem? (i := 155) rfl
theorem w156 : Jvm.Cond.declares N35 ∈ tables_1 := List.mem_of_getElem? (i := 156) rfl
theorem w158 : Jvm.Cond.selects "com/example/steady_rollout/steadyrollout/DeviceTopics" N35 N35 ∈ tables_1 := List.mem_of_getElem? (i := 158) rfl
theorem w157 : Jvm.Cond.instanceMethod N35 ∈ tables_1 := List.mem_of_getElem? (i := 157) rfl
theorem w184 : Jvm.Cond.code N9 jdk_42_method_66_code (3 : Nat) (Option.some Jvm.ClassFile.FieldType.boolean) ∈ tables_1 := List.mem_of_getElem? (i := 184) rfl
theorem pd_N9 : parseMethodDescriptor N9.desc = some ⟨[(.object "java/lang/Object")], (some .boolean)⟩ := by decide +kernel
theorem w180 : Jvm.Cond.methodLink "com/example/steady_rollout/steadyrollout/DeviceTopicsPushPinLaw" (30 : Nat) N9 ∈ tables_1 := List.mem_of_getElem? (i := 180) rfl
theorem w181 : Jvm.Cond.declares N9 ∈ tables_1 := List.mem_of_getElem? (i := 181) rfl
theorem w183 : Jvm.Cond.selects "java/lang/String" N9 N9 ∈ tables_1 := List.mem_of_getElem? (i := 183) rfl
theorem w182 : Jvm.Cond.instanceMethod N9 ∈ tables_1 := List.mem_of_getElem? (i := 182) rfl
theorem w190 : Jvm.Cond.fieldLink "com/example/steady_rollout/steadyrollout/DeviceTopicsPushPinLaw" (17 : Nat) "com/example/steady_rollout/steadyrollout/DeviceTopics$Push" "NOTIFY_NEXT" "Lcom/example/steady_rollout/steadyrollout/DeviceTopics$Push;" ∈ tables_1 := List.mem_of_getElem? (i := 190) rfl
abbrev N36 : MethodName := ⟨"com/example/steady_rollout/steadyrollout/DeviceTopicsPushPinLaw", "law", "(III)Z"⟩
theorem pn_N36 : plainName N36.cls = true := by first | (simp [plainName, overriddenIn]; done) | decide +kernel
set_option maxRecDepth 65536 in
set_option maxHeartbeats 40000000 in
theorem ct_law (l : Launch) {Z : State} {n0 : Nat} {z : Int32} {f : Value} {pA pB sA sB bA bB : Addr} (W : Sx Z z f pA pB sA sB bA bB) (a : Int32) (b : Int32) (k : Int32) (h : Heap) : Ctr l Z n0 x code maxLocals ret room_1 #[(.int a), (.int b), (.int k)] h [] (fun v h' sn => v = some (.int 1) ∧ True) := by
  refine Ctr.of_go (ls := #[.val (.int a), .val (.int b), .val (.int k), .unset, .unset, .unset, .unset, .unset, .unset, .unset, .unset, .unset, .unset, .unset]) W.1.1 (plainFor_of_name pn_N36) (fun m => by simp [entryFrame, mkF, argsToLocals, Value.category, maxLocals]) (fun K H0 => ?_)
  have H : Ok Z K "com/example/steady_rollout/steadyrollout/DeviceTopicsPushPinLaw" code 14 (some .boolean) "law" := H0
  refine Go.withOld (fun hE => ?_)
  have GA := (W.2.2.2.1).ext hE
  have SA := (W.2.2.2.2.1).ext hE
  have GB := (W.2.2.2.2.2.1).ext hE
  have SB := (W.2.2.2.2.2.2).ext hE
  refine Go.iloadN H at_0 rfl rfl ?_
  refine Go.sipush (255 : Int32) H at_1 rfl rfl ?_
  refine Go.iand H at_4 rfl ?_
  refine Go.i2c H at_5 rfl ?_
  refine Go.istoreN (ls' := #[.val (.int a), .val (.int b), .val (.int k), .val (.int (nar .char (a &&& (255 : Int32)))), .unset, .unset, .unset, .unset, .unset, .unset, .unset, .unset, .unset, .unset]) H at_6 rfl rfl ?_
  refine Go.iloadN H at_7 rfl rfl ?_
  refine Go.bipush (8 : Int32) H at_8 rfl rfl ?_
  refine Go.iushr H at_10 rfl ?_
  refine Go.sipush (255 : Int32) H at_11 rfl rfl ?_
  refine Go.iand H at_14 rfl ?_
  refine Go.i2c H at_15 rfl ?_
  refine Go.istore (ls' := #[.val (.int a), .val (.int b), .val (.int k), .val (.int (nar .char (a &&& (255 : Int32)))), .val (.int (nar .char (((a.toUInt32 >>> ((8 : Int32) &&& 31).toUInt32).toInt32) &&& (255 : Int32)))), .unset, .unset, .unset, .unset, .unset, .unset, .unset, .unset, .unset]) H at_16 rfl rfl ?_
  refine Go.iloadN H at_18 rfl rfl ?_
  refine Go.sipush (255 : Int32) H at_19 rfl rfl ?_
  refine Go.iand H at_22 rfl ?_
  refine Go.i2c H at_23 rfl ?_
  refine Go.istore (ls' := #[.val (.int a), .val (.int b), .val (.int k), .val (.int (nar .char (a &&& (255 : Int32)))), .val (.int (nar .char (((a.toUInt32 >>> ((8 : Int32) &&& 31).toUInt32).toInt32) &&& (255 : Int32)))), .val (.int (nar .char (b &&& (255 : Int32)))), .unset, .unset, .unset, .unset, .unset, .unset, .unset, .unset]) H at_24 rfl rfl ?_
  refine Go.iloadN H at_26 rfl rfl ?_
  refine Go.bipush (8 : Int32) H at_27 rfl rfl ?_
  refine Go.iushr H at_29 rfl ?_
  refine Go.sipush (255 : Int32) H at_30 rfl rfl ?_
  refine Go.iand H at_33 rfl ?_
  refine Go.i2c H at_34 rfl ?_
  refine Go.istore (ls' := #[.val (.int a), .val (.int b), .val (.int k), .val (.int (nar .char (a &&& (255 : Int32)))), .val (.int (nar .char (((a.toUInt32 >>> ((8 : Int32) &&& 31).toUInt32).toInt32) &&& (255 : Int32)))), .val (.int (nar .char (b &&& (255 : Int32)))), .val (.int (nar .char (((b.toUInt32 >>> ((8 : Int32) &&& 31).toUInt32).toInt32) &&& (255 : Int32)))), .unset, .unset, .unset, .unset, .unset, .unset, .unset]) H at_35 rfl rfl ?_
  refine Go.iloadN H at_37 rfl rfl ?_
  refine Go.iconst (1 : Int32) H at_38 rfl rfl ?_
  refine Go.iand H at_39 rfl ?_
  by_cases c1 : (k &&& (1 : Int32)) = (0 : Int32)
  ·
    refine Go.ifY (pc' := 47) H at_40 (teq c1).1 (by decide) (by decide) ?_
    refine Go.iconst (0 : Int32) H at_47 rfl rfl ?_
    refine Go.istore (ls' := #[.val (.int a), .val (.int b), .val (.int k), .val (.int (nar .char (a &&& (255 : Int32)))), .val (.int (nar .char (((a.toUInt32 >>> ((8 : Int32) &&& 31).toUInt32).toInt32) &&& (255 : Int32)))), .val (.int (nar .char (b &&& (255 : Int32)))), .val (.int (nar .char (((b.toUInt32 >>> ((8 : Int32) &&& 31).toUInt32).toInt32) &&& (255 : Int32)))), .val (.int (0 : Int32)), .unset, .unset, .unset, .unset, .unset, .unset]) H at_48 rfl rfl ?_
    refine Go.new H at_50 rfl w0 w1 w2 (by decide) (by decide) ?_
    intro a2 h3 g4 z5 E6 A7 D8
    have ne9 : pA ≠ a2 := Nat.ne_of_lt (Nat.lt_of_lt_of_le GA.lt (Nat.le_of_eq g4.symm))
    have ne10 : sA ≠ a2 := Nat.ne_of_lt (Nat.lt_of_lt_of_le SA.lt (Nat.le_of_eq g4.symm))
    have ne11 : bA ≠ a2 := Nat.ne_of_lt (Nat.lt_of_lt_of_le SA.ltb (Nat.le_of_eq g4.symm))
    have ne12 : pB ≠ a2 := Nat.ne_of_lt (Nat.lt_of_lt_of_le GB.lt (Nat.le_of_eq g4.symm))
    have ne13 : sB ≠ a2 := Nat.ne_of_lt (Nat.lt_of_lt_of_le SB.lt (Nat.le_of_eq g4.symm))
    have ne14 : bB ≠ a2 := Nat.ne_of_lt (Nat.lt_of_lt_of_le SB.ltb (Nat.le_of_eq g4.symm))
    replace GA := GA.ext E6
    replace SA := SA.ext E6
    replace GB := GB.ext E6
    replace SB := SB.ext E6
    have F15 : Fld Z h3 a2 "java/lang/String" "coder" "B" (.int (0 : Int32)) := D8 (Or.inr w27) (ty := .byte) (by decide)
    have F16 : Fld Z h3 a2 "java/lang/String" "value" "[B" .null := D8 (Or.inr w29) (ty := (.array .byte)) (by decide)
    show Go _ _ _ _ _ _ h3 [a2] 1 4 53 #[.val (.int a), .val (.int b), .val (.int k), .val (.int (nar .char (a &&& (255 : Int32)))), .val (.int (nar .char (((a.toUInt32 >>> ((8 : Int32) &&& 31).toUInt32).toInt32) &&& (255 : Int32)))), .val (.int (nar .char (b &&& (255 : Int32)))), .val (.int (nar .char (((b.toUInt32 >>> ((8 : Int32) &&& 31).toUInt32).toInt32) &&& (255 : Int32)))), .val (.int (0 : Int32)), .unset, .unset, .unset, .unset, .unset, .unset] [(.ref a2)]
    refine Go.dup H at_53 rfl rfl ?_
    refine Go.iconst (2 : Int32) H at_54 rfl rfl ?_
    refine Go.newarray 2 2 H at_55 rfl w3 rfl (by decide) (by decide) (by decide) (by decide) (by decide) (by decide) (by decide) ?_
    intro a17 h18 g19 z20 E21 F22
    have ne23 : pA ≠ a17 := Nat.ne_of_lt (Nat.lt_of_lt_of_le GA.lt (Nat.le_of_eq g19.symm))
    have ne24 : sA ≠ a17 := Nat.ne_of_lt (Nat.lt_of_lt_of_le SA.lt (Nat.le_of_eq g19.symm))
    have ne25 : bA ≠ a17 := Nat.ne_of_lt (Nat.lt_of_lt_of_le SA.ltb (Nat.le_of_eq g19.symm))
    have ne26 : pB ≠ a17 := Nat.ne_of_lt (Nat.lt_of_lt_of_le GB.lt (Nat.le_of_eq g19.symm))
    have ne27 : sB ≠ a17 := Nat.ne_of_lt (Nat.lt_of_lt_of_le SB.lt (Nat.le_of_eq g19.symm))
    have ne28 : bB ≠ a17 := Nat.ne_of_lt (Nat.lt_of_lt_of_le SB.ltb (Nat.le_of_eq g19.symm))
    have ne29 : a2 ≠ a17 := Nat.ne_of_lt (Nat.lt_of_lt_of_le A7.lt (Nat.le_of_eq g19.symm))
    replace GA := GA.ext E21
    replace SA := SA.ext E21
    replace GB := GB.ext E21
    replace SB := SB.ext E21
    replace A7 := A7.ext E21
    replace F15 := F15.ext E21
    replace F16 := F16.ext E21
    replace F22 : Vec Z h18 a17 .char [(0 : Int32), (0 : Int32)] := F22
    show Go _ _ _ _ _ _ h18 [a17, a2] 2 6 57 #[.val (.int a), .val (.int b), .val (.int k), .val (.int (nar .char (a &&& (255 : Int32)))), .val (.int (nar .char (((a.toUInt32 >>> ((8 : Int32) &&& 31).toUInt32).toInt32) &&& (255 : Int32)))), .val (.int (nar .char (b &&& (255 : Int32)))), .val (.int (nar .char (((b.toUInt32 >>> ((8 : Int32) &&& 31).toUInt32).toInt32) &&& (255 : Int32)))), .val (.int (0 : Int32)), .unset, .unset, .unset, .unset, .unset, .unset] [(.ref a17), (.ref a2), (.ref a2)]
    refine Go.dup H at_57 rfl rfl ?_
    refine Go.iconst (0 : Int32) H at_58 rfl rfl ?_
    refine Go.iloadN H at_59 rfl rfl ?_
    refine Go.castore (nar .char (a &&& (255 : Int32))) H at_60 rfl F22 0 (by decide) (by decide) (Nat.le_of_ble_eq_true rfl) own_nn z20 (by simp) ?_
    intro h30 K31 F32
    replace GA := GA.keep K31 (ninS ne23 nin0)
    replace SA := SA.keep K31 (ninS ne24 nin0) (ninS ne25 nin0)
    replace GB := GB.keep K31 (ninS ne26 nin0)
    replace SB := SB.keep K31 (ninS ne27 nin0) (ninS ne28 nin0)
    replace A7 := A7.keep K31
    replace F15 := F15.keep K31 (ninS ne29 nin0)
    replace F16 := F16.keep K31 (ninS ne29 nin0)
    replace F32 : Vec Z h30 a17 .char [(nar .char (a &&& (255 : Int32))), (0 : Int32)] := F32
    refine Go.dup H at_61 rfl rfl ?_
    refine Go.iconst (1 : Int32) H at_62 rfl rfl ?_
    refine Go.iload H at_63 rfl rfl ?_
    refine Go.castore (nar .char (((a.toUInt32 >>> ((8 : Int32) &&& 31).toUInt32).toInt32) &&& (255 : Int32))) H at_65 rfl F32 1 (by decide) (by decide) (Nat.le_of_ble_eq_true rfl) own_nn z20 (by simp) ?_
    intro h33 K34 F35
    replace GA := GA.keep K34 (ninS ne23 nin0)
    replace SA := SA.keep K34 (ninS ne24 nin0) (ninS ne25 nin0)
    replace GB := GB.keep K34 (ninS ne26 nin0)
    replace SB := SB.keep K34 (ninS ne27 nin0) (ninS ne28 nin0)
    replace A7 := A7.keep K34
    replace F15 := F15.keep K34 (ninS ne29 nin0)
    replace F16 := F16.keep K34 (ninS ne29 nin0)
    replace F35 : Vec Z h33 a17 .char [(nar .char (a &&& (255 : Int32))), (nar .char (((a.toUInt32 >>> ((8 : Int32) &&& 31).toUInt32).toInt32) &&& (255 : Int32)))] := F35
    refine Go.callI (rest := [(.ref a2)]) 1 [(.ref a17)] H at_66 rfl rfl w4 w5 w2 w6 pd_N5 (ct_new1 l W a2 a17 [(nar .char (a &&& (255 : Int32))), (nar .char (((a.toUInt32 >>> ((8 : Int32) &&& 31).toUInt32).toInt32) &&& (255 : Int32)))] h33 A7 F16 F15  F35 (own_ac (own_and255 _) (own_ac (own_and255 _) own_an)) (Nat.le_of_ble_eq_true rfl) (Nat.le_of_ble_eq_true rfl) z5) (by simp) rfl rfl rfl (Nat.le_of_eq rfl) (by decide) (by decide) (by decide) (by decide) nh_N4 ?_
    rintro _ h36 _ ⟨rfl, K37, ⟨b38, g39, S40⟩, rfl⟩
    have ne41 : pA ≠ b38 := Nat.ne_of_lt (Nat.lt_of_lt_of_le GA.lt g39)
    have ne42 : sA ≠ b38 := Nat.ne_of_lt (Nat.lt_of_lt_of_le SA.lt g39)
    have ne43 : bA ≠ b38 := Nat.ne_of_lt (Nat.lt_of_lt_of_le SA.ltb g39)
    have ne44 : pB ≠ b38 := Nat.ne_of_lt (Nat.lt_of_lt_of_le GB.lt g39)
    have ne45 : sB ≠ b38 := Nat.ne_of_lt (Nat.lt_of_lt_of_le SB.lt g39)
    have ne46 : bB ≠ b38 := Nat.ne_of_lt (Nat.lt_of_lt_of_le SB.ltb g39)
    have ne47 : a2 ≠ b38 := Nat.ne_of_lt (Nat.lt_of_lt_of_le A7.lt g39)
    have ne48 : a17 ≠ b38 := Nat.ne_of_lt (Nat.lt_of_lt_of_le F35.lt g39)
    replace GA := GA.keep K37 (ninS ne9 nin0)
    replace SA := SA.keep K37 (ninS ne10 nin0) (ninS ne11 nin0)
    replace GB := GB.keep K37 (ninS ne12 nin0)
    replace SB := SB.keep K37 (ninS ne13 nin0) (ninS ne14 nin0)
    replace F35 := F35.keep K37 (ninS (Ne.symm ne29) nin0)
    show Go _ _ _ _ _ _ h36 [a17, a2] 3 35 69 #[.val (.int a), .val (.int b), .val (.int k), .val (.int (nar .char (a &&& (255 : Int32)))), .val (.int (nar .char (((a.toUInt32 >>> ((8 : Int32) &&& 31).toUInt32).toInt32) &&& (255 : Int32)))), .val (.int (nar .char (b &&& (255 : Int32)))), .val (.int (nar .char (((b.toUInt32 >>> ((8 : Int32) &&& 31).toUInt32).toInt32) &&& (255 : Int32)))), .val (.int (0 : Int32)), .unset, .unset, .unset, .unset, .unset, .unset] [(.ref a2)]
    refine Go.astore (ls' := #[.val (.int a), .val (.int b), .val (.int k), .val (.int (nar .char (a &&& (255 : Int32)))), .val (.int (nar .char (((a.toUInt32 >>> ((8 : Int32) &&& 31).toUInt32).toInt32) &&& (255 : Int32)))), .val (.int (nar .char (b &&& (255 : Int32)))), .val (.int (nar .char (((b.toUInt32 >>> ((8 : Int32) &&& 31).toUInt32).toInt32) &&& (255 : Int32)))), .val (.int (0 : Int32)), .val (.ref a2), .unset, .unset, .unset, .unset, .unset]) H at_69 rfl rfl rfl ?_
    refine Go.new H at_71 rfl w0 w1 w2 (by decide) (by decide) ?_
    intro a49 h50 g51 z52 E53 A54 D55
    have ne56 : pA ≠ a49 := Nat.ne_of_lt (Nat.lt_of_lt_of_le GA.lt (Nat.le_of_eq g51.symm))
    have ne57 : sA ≠ a49 := Nat.ne_of_lt (Nat.lt_of_lt_of_le SA.lt (Nat.le_of_eq g51.symm))
    have ne58 : bA ≠ a49 := Nat.ne_of_lt (Nat.lt_of_lt_of_le SA.ltb (Nat.le_of_eq g51.symm))
    have ne59 : pB ≠ a49 := Nat.ne_of_lt (Nat.lt_of_lt_of_le GB.lt (Nat.le_of_eq g51.symm))
    have ne60 : sB ≠ a49 := Nat.ne_of_lt (Nat.lt_of_lt_of_le SB.lt (Nat.le_of_eq g51.symm))
    have ne61 : bB ≠ a49 := Nat.ne_of_lt (Nat.lt_of_lt_of_le SB.ltb (Nat.le_of_eq g51.symm))
    have ne62 : a17 ≠ a49 := Nat.ne_of_lt (Nat.lt_of_lt_of_le F35.lt (Nat.le_of_eq g51.symm))
    have ne63 : a2 ≠ a49 := Nat.ne_of_lt (Nat.lt_of_lt_of_le S40.lt (Nat.le_of_eq g51.symm))
    have ne64 : b38 ≠ a49 := Nat.ne_of_lt (Nat.lt_of_lt_of_le S40.ltb (Nat.le_of_eq g51.symm))
    replace GA := GA.ext E53
    replace SA := SA.ext E53
    replace GB := GB.ext E53
    replace SB := SB.ext E53
    replace F35 := F35.ext E53
    replace S40 := S40.ext E53
    have F65 : Fld Z h50 a49 "java/lang/String" "coder" "B" (.int (0 : Int32)) := D55 (Or.inr w27) (ty := .byte) (by decide)
    have F66 : Fld Z h50 a49 "java/lang/String" "value" "[B" .null := D55 (Or.inr w29) (ty := (.array .byte)) (by decide)
    show Go _ _ _ _ _ _ h50 [a49, a17, a2] 4 39 74 #[.val (.int a), .val (.int b), .val (.int k), .val (.int (nar .char (a &&& (255 : Int32)))), .val (.int (nar .char (((a.toUInt32 >>> ((8 : Int32) &&& 31).toUInt32).toInt32) &&& (255 : Int32)))), .val (.int (nar .char (b &&& (255 : Int32)))), .val (.int (nar .char (((b.toUInt32 >>> ((8 : Int32) &&& 31).toUInt32).toInt32) &&& (255 : Int32)))), .val (.int (0 : Int32)), .val (.ref a2), .unset, .unset, .unset, .unset, .unset] [(.ref a49)]
    refine Go.dup H at_74 rfl rfl ?_
    refine Go.iconst (2 : Int32) H at_75 rfl rfl ?_
    refine Go.newarray 2 2 H at_76 rfl w3 rfl (by decide) (by decide) (by decide) (by decide) (by decide) (by decide) (by decide) ?_
    intro a67 h68 g69 z70 E71 F72
    have ne73 : pA ≠ a67 := Nat.ne_of_lt (Nat.lt_of_lt_of_le GA.lt (Nat.le_of_eq g69.symm))
    have ne74 : sA ≠ a67 := Nat.ne_of_lt (Nat.lt_of_lt_of_le SA.lt (Nat.le_of_eq g69.symm))
    have ne75 : bA ≠ a67 := Nat.ne_of_lt (Nat.lt_of_lt_of_le SA.ltb (Nat.le_of_eq g69.symm))
    have ne76 : pB ≠ a67 := Nat.ne_of_lt (Nat.lt_of_lt_of_le GB.lt (Nat.le_of_eq g69.symm))
    have ne77 : sB ≠ a67 := Nat.ne_of_lt (Nat.lt_of_lt_of_le SB.lt (Nat.le_of_eq g69.symm))
    have ne78 : bB ≠ a67 := Nat.ne_of_lt (Nat.lt_of_lt_of_le SB.ltb (Nat.le_of_eq g69.symm))
    have ne79 : a17 ≠ a67 := Nat.ne_of_lt (Nat.lt_of_lt_of_le F35.lt (Nat.le_of_eq g69.symm))
    have ne80 : a2 ≠ a67 := Nat.ne_of_lt (Nat.lt_of_lt_of_le S40.lt (Nat.le_of_eq g69.symm))
    have ne81 : b38 ≠ a67 := Nat.ne_of_lt (Nat.lt_of_lt_of_le S40.ltb (Nat.le_of_eq g69.symm))
    have ne82 : a49 ≠ a67 := Nat.ne_of_lt (Nat.lt_of_lt_of_le A54.lt (Nat.le_of_eq g69.symm))
    replace GA := GA.ext E71
    replace SA := SA.ext E71
    replace GB := GB.ext E71
    replace SB := SB.ext E71
    replace F35 := F35.ext E71
    replace S40 := S40.ext E71
    replace A54 := A54.ext E71
    replace F65 := F65.ext E71
    replace F66 := F66.ext E71
    replace F72 : Vec Z h68 a67 .char [(0 : Int32), (0 : Int32)] := F72
    show Go _ _ _ _ _ _ h68 [a67, a49, a17, a2] 5 41 78 #[.val (.int a), .val (.int b), .val (.int k), .val (.int (nar .char (a &&& (255 : Int32)))), .val (.int (nar .char (((a.toUInt32 >>> ((8 : Int32) &&& 31).toUInt32).toInt32) &&& (255 : Int32)))), .val (.int (nar .char (b &&& (255 : Int32)))), .val (.int (nar .char (((b.toUInt32 >>> ((8 : Int32) &&& 31).toUInt32).toInt32) &&& (255 : Int32)))), .val (.int (0 : Int32)), .val (.ref a2), .unset, .unset, .unset, .unset, .unset] [(.ref a67), (.ref a49), (.ref a49)]
    refine Go.dup H at_78 rfl rfl ?_
    refine Go.iconst (0 : Int32) H at_79 rfl rfl ?_
    refine Go.iload H at_80 rfl rfl ?_
    refine Go.castore (nar .char (b &&& (255 : Int32))) H at_82 rfl F72 0 (by decide) (by decide) (Nat.le_of_ble_eq_true rfl) own_nn z70 (by simp) ?_
    intro h83 K84 F85
    replace GA := GA.keep K84 (ninS ne73 nin0)
    replace SA := SA.keep K84 (ninS ne74 nin0) (ninS ne75 nin0)
    replace GB := GB.keep K84 (ninS ne76 nin0)
    replace SB := SB.keep K84 (ninS ne77 nin0) (ninS ne78 nin0)
    replace F35 := F35.keep K84 (ninS ne79 nin0)
    replace S40 := S40.keep K84 (ninS ne80 nin0) (ninS ne81 nin0)
    replace A54 := A54.keep K84
    replace F65 := F65.keep K84 (ninS ne82 nin0)
    replace F66 := F66.keep K84 (ninS ne82 nin0)
    replace F85 : Vec Z h83 a67 .char [(nar .char (b &&& (255 : Int32))), (0 : Int32)] := F85
    refine Go.dup H at_83 rfl rfl ?_
    refine Go.iconst (1 : Int32) H at_84 rfl rfl ?_
    refine Go.iload H at_85 rfl rfl ?_
    refine Go.castore (nar .char (((b.toUInt32 >>> ((8 : Int32) &&& 31).toUInt32).toInt32) &&& (255 : Int32))) H at_87 rfl F85 1 (by decide) (by decide) (Nat.le_of_ble_eq_true rfl) own_nn z70 (by simp) ?_
    intro h86 K87 F88
    replace GA := GA.keep K87 (ninS ne73 nin0)
    replace SA := SA.keep K87 (ninS ne74 nin0) (ninS ne75 nin0)
    replace GB := GB.keep K87 (ninS ne76 nin0)
    replace SB := SB.keep K87 (ninS ne77 nin0) (ninS ne78 nin0)
    replace F35 := F35.keep K87 (ninS ne79 nin0)
    replace S40 := S40.keep K87 (ninS ne80 nin0) (ninS ne81 nin0)
    replace A54 := A54.keep K87
    replace F65 := F65.keep K87 (ninS ne82 nin0)
    replace F66 := F66.keep K87 (ninS ne82 nin0)
    replace F88 : Vec Z h86 a67 .char [(nar .char (b &&& (255 : Int32))), (nar .char (((b.toUInt32 >>> ((8 : Int32) &&& 31).toUInt32).toInt32) &&& (255 : Int32)))] := F88
    refine Go.callI (rest := [(.ref a49)]) 1 [(.ref a67)] H at_88 rfl rfl w4 w5 w2 w6 pd_N5 (ct_new1 l W a49 a67 [(nar .char (b &&& (255 : Int32))), (nar .char (((b.toUInt32 >>> ((8 : Int32) &&& 31).toUInt32).toInt32) &&& (255 : Int32)))] h86 A54 F66 F65  F88 (own_ac (own_and255 _) (own_ac (own_and255 _) own_an)) (Nat.le_of_ble_eq_true rfl) (Nat.le_of_ble_eq_true rfl) z52) (by simp) rfl rfl rfl (Nat.le_of_eq rfl) (by decide) (by decide) (by decide) (by decide) nh_N4 ?_
    rintro _ h89 _ ⟨rfl, K90, ⟨b91, g92, S93⟩, rfl⟩
    have ne94 : pA ≠ b91 := Nat.ne_of_lt (Nat.lt_of_lt_of_le GA.lt g92)
    have ne95 : sA ≠ b91 := Nat.ne_of_lt (Nat.lt_of_lt_of_le SA.lt g92)
    have ne96 : bA ≠ b91 := Nat.ne_of_lt (Nat.lt_of_lt_of_le SA.ltb g92)
    have ne97 : pB ≠ b91 := Nat.ne_of_lt (Nat.lt_of_lt_of_le GB.lt g92)
    have ne98 : sB ≠ b91 := Nat.ne_of_lt (Nat.lt_of_lt_of_le SB.lt g92)
    have ne99 : bB ≠ b91 := Nat.ne_of_lt (Nat.lt_of_lt_of_le SB.ltb g92)
    have ne100 : a17 ≠ b91 := Nat.ne_of_lt (Nat.lt_of_lt_of_le F35.lt g92)
    have ne101 : a2 ≠ b91 := Nat.ne_of_lt (Nat.lt_of_lt_of_le S40.lt g92)
    have ne102 : b38 ≠ b91 := Nat.ne_of_lt (Nat.lt_of_lt_of_le S40.ltb g92)
    have ne103 : a49 ≠ b91 := Nat.ne_of_lt (Nat.lt_of_lt_of_le A54.lt g92)
    have ne104 : a67 ≠ b91 := Nat.ne_of_lt (Nat.lt_of_lt_of_le F88.lt g92)
    replace GA := GA.keep K90 (ninS ne56 nin0)
    replace SA := SA.keep K90 (ninS ne57 nin0) (ninS ne58 nin0)
    replace GB := GB.keep K90 (ninS ne59 nin0)
    replace SB := SB.keep K90 (ninS ne60 nin0) (ninS ne61 nin0)
    replace F35 := F35.keep K90 (ninS ne62 nin0)
    replace S40 := S40.keep K90 (ninS ne63 nin0) (ninS ne64 nin0)
    replace F88 := F88.keep K90 (ninS (Ne.symm ne82) nin0)
    show Go _ _ _ _ _ _ h89 [a67, a49, a17, a2] 6 70 91 #[.val (.int a), .val (.int b), .val (.int k), .val (.int (nar .char (a &&& (255 : Int32)))), .val (.int (nar .char (((a.toUInt32 >>> ((8 : Int32) &&& 31).toUInt32).toInt32) &&& (255 : Int32)))), .val (.int (nar .char (b &&& (255 : Int32)))), .val (.int (nar .char (((b.toUInt32 >>> ((8 : Int32) &&& 31).toUInt32).toInt32) &&& (255 : Int32)))), .val (.int (0 : Int32)), .val (.ref a2), .unset, .unset, .unset, .unset, .unset] [(.ref a49)]
    refine Go.astore (ls' := #[.val (.int a), .val (.int b), .val (.int k), .val (.int (nar .char (a &&& (255 : Int32)))), .val (.int (nar .char (((a.toUInt32 >>> ((8 : Int32) &&& 31).toUInt32).toInt32) &&& (255 : Int32)))), .val (.int (nar .char (b &&& (255 : Int32)))), .val (.int (nar .char (((b.toUInt32 >>> ((8 : Int32) &&& 31).toUInt32).toInt32) &&& (255 : Int32)))), .val (.int (0 : Int32)), .val (.ref a2), .val (.ref a49), .unset, .unset, .unset, .unset]) H at_91 rfl rfl rfl ?_
    refine Go.new H at_93 rfl w30 w31 w32 (by decide) (by decide) ?_
    intro a105 h106 g107 z108 E109 A110 D111
    have ne112 : pA ≠ a105 := Nat.ne_of_lt (Nat.lt_of_lt_of_le GA.lt (Nat.le_of_eq g107.symm))
    have ne113 : sA ≠ a105 := Nat.ne_of_lt (Nat.lt_of_lt_of_le SA.lt (Nat.le_of_eq g107.symm))
    have ne114 : bA ≠ a105 := Nat.ne_of_lt (Nat.lt_of_lt_of_le SA.ltb (Nat.le_of_eq g107.symm))
    have ne115 : pB ≠ a105 := Nat.ne_of_lt (Nat.lt_of_lt_of_le GB.lt (Nat.le_of_eq g107.symm))
    have ne116 : sB ≠ a105 := Nat.ne_of_lt (Nat.lt_of_lt_of_le SB.lt (Nat.le_of_eq g107.symm))
    have ne117 : bB ≠ a105 := Nat.ne_of_lt (Nat.lt_of_lt_of_le SB.ltb (Nat.le_of_eq g107.symm))
    have ne118 : a17 ≠ a105 := Nat.ne_of_lt (Nat.lt_of_lt_of_le F35.lt (Nat.le_of_eq g107.symm))
    have ne119 : a2 ≠ a105 := Nat.ne_of_lt (Nat.lt_of_lt_of_le S40.lt (Nat.le_of_eq g107.symm))
    have ne120 : b38 ≠ a105 := Nat.ne_of_lt (Nat.lt_of_lt_of_le S40.ltb (Nat.le_of_eq g107.symm))
    have ne121 : a67 ≠ a105 := Nat.ne_of_lt (Nat.lt_of_lt_of_le F88.lt (Nat.le_of_eq g107.symm))
    have ne122 : a49 ≠ a105 := Nat.ne_of_lt (Nat.lt_of_lt_of_le S93.lt (Nat.le_of_eq g107.symm))
    have ne123 : b91 ≠ a105 := Nat.ne_of_lt (Nat.lt_of_lt_of_le S93.ltb (Nat.le_of_eq g107.symm))
    replace GA := GA.ext E109
    replace SA := SA.ext E109
    replace GB := GB.ext E109
    replace SB := SB.ext E109
    replace F35 := F35.ext E109
    replace S40 := S40.ext E109
    replace F88 := F88.ext E109
    replace S93 := S93.ext E109
    have F124 : Fld Z h106 a105 "com/example/steady_rollout/steadyrollout/DeviceTopics" "thingsRoot" "Ljava/lang/String;" .null := D111 (Or.inr w151) (ty := (.object "java/lang/String")) (by decide)
    show Go _ _ _ _ _ _ h106 [a105, a67, a49, a17, a2] 7 71 96 #[.val (.int a), .val (.int b), .val (.int k), .val (.int (nar .char (a &&& (255 : Int32)))), .val (.int (nar .char (((a.toUInt32 >>> ((8 : Int32) &&& 31).toUInt32).toInt32) &&& (255 : Int32)))), .val (.int (nar .char (b &&& (255 : Int32)))), .val (.int (nar .char (((b.toUInt32 >>> ((8 : Int32) &&& 31).toUInt32).toInt32) &&& (255 : Int32)))), .val (.int (0 : Int32)), .val (.ref a2), .val (.ref a49), .unset, .unset, .unset, .unset] [(.ref a105)]
    refine Go.dup H at_96 rfl rfl ?_
    refine Go.aload H at_97 rfl rfl rfl ?_
    refine Go.callI (rest := [(.ref a105)]) 1 [(.ref a2)] H at_99 rfl rfl w33 w34 w32 w35 pd_N34 (ct_dti l W a105 a2 b38 [(nar .char (a &&& (255 : Int32))), (nar .char (((a.toUInt32 >>> ((8 : Int32) &&& 31).toUInt32).toInt32) &&& (255 : Int32)))] h106 A110 F124 S40 (Nat.le_of_ble_eq_true rfl) z108) (by simp) rfl rfl rfl (Nat.le_of_eq rfl) (by decide) (by decide) (by decide) (by decide) nh_N34 ?_
    rintro _ h125 _ ⟨rfl, K126, ⟨r127, rb128, F129, S130⟩, rfl⟩
    replace GA := GA.keep K126 (ninS ne112 nin0)
    replace SA := SA.keep K126 (ninS ne113 nin0) (ninS ne114 nin0)
    replace GB := GB.keep K126 (ninS ne115 nin0)
    replace SB := SB.keep K126 (ninS ne116 nin0) (ninS ne117 nin0)
    replace F35 := F35.keep K126 (ninS ne118 nin0)
    replace S40 := S40.keep K126 (ninS ne119 nin0) (ninS ne120 nin0)
    replace F88 := F88.keep K126 (ninS ne121 nin0)
    replace S93 := S93.keep K126 (ninS ne122 nin0) (ninS ne123 nin0)
    replace A110 := A110.keep K126
    show Go _ _ _ _ _ _ h125 [a105, a67, a49, a17, a2] 15 267 102 #[.val (.int a), .val (.int b), .val (.int k), .val (.int (nar .char (a &&& (255 : Int32)))), .val (.int (nar .char (((a.toUInt32 >>> ((8 : Int32) &&& 31).toUInt32).toInt32) &&& (255 : Int32)))), .val (.int (nar .char (b &&& (255 : Int32)))), .val (.int (nar .char (((b.toUInt32 >>> ((8 : Int32) &&& 31).toUInt32).toInt32) &&& (255 : Int32)))), .val (.int (0 : Int32)), .val (.ref a2), .val (.ref a49), .unset, .unset, .unset, .unset] [(.ref a105)]
    refine Go.astore (ls' := #[.val (.int a), .val (.int b), .val (.int k), .val (.int (nar .char (a &&& (255 : Int32)))), .val (.int (nar .char (((a.toUInt32 >>> ((8 : Int32) &&& 31).toUInt32).toInt32) &&& (255 : Int32)))), .val (.int (nar .char (b &&& (255 : Int32)))), .val (.int (nar .char (((b.toUInt32 >>> ((8 : Int32) &&& 31).toUInt32).toInt32) &&& (255 : Int32)))), .val (.int (0 : Int32)), .val (.ref a2), .val (.ref a49), .val (.ref a105), .unset, .unset, .unset]) H at_102 rfl rfl rfl ?_
    refine Go.iload H at_104 rfl rfl ?_
    refine Go.ifY (pc' := 115) H at_106 (by decide) (by decide) (by decide) ?_
    refine Go.getstatic H at_115 rfl w152 W.2.1 ?_
    refine Go.astore (ls' := #[.val (.int a), .val (.int b), .val (.int k), .val (.int (nar .char (a &&& (255 : Int32)))), .val (.int (nar .char (((a.toUInt32 >>> ((8 : Int32) &&& 31).toUInt32).toInt32) &&& (255 : Int32)))), .val (.int (nar .char (b &&& (255 : Int32)))), .val (.int (nar .char (((b.toUInt32 >>> ((8 : Int32) &&& 31).toUInt32).toInt32) &&& (255 : Int32)))), .val (.int (0 : Int32)), .val (.ref a2), .val (.ref a49), .val (.ref a105), .val (.ref pA), .unset, .unset]) H at_118 rfl rfl rfl ?_
    refine Go.aload H at_120 rfl rfl rfl ?_
    refine Go.aload H at_122 rfl rfl rfl ?_
    refine Go.aload H at_124 rfl rfl rfl ?_
    refine Go.callV (rest := []) 0 [(.ref a49), (.ref pA)] H at_126 rfl A110 w155 w156 w158 w157 w32 w159 pd_N35 (ct_psh l W a105 r127 rb128 a49 b91 pA sA bA ([(nar .char (a &&& (255 : Int32))), (nar .char (((a.toUInt32 >>> ((8 : Int32) &&& 31).toUInt32).toInt32) &&& (255 : Int32)))] ++ [(47 : Int32), (116 : Int32), (104 : Int32), (105 : Int32), (110 : Int32), (103 : Int32), (115 : Int32), (47 : Int32)]) [(nar .char (b &&& (255 : Int32))), (nar .char (((b.toUInt32 >>> ((8 : Int32) &&& 31).toUInt32).toInt32) &&& (255 : Int32)))] [(110 : Int32), (111 : Int32), (116 : Int32), (105 : Int32), (102 : Int32), (121 : Int32)] h125 F129 S130 S93 GA SA rfl rfl (Nat.le_of_ble_eq_true rfl)) all0 rfl rfl rfl (Nat.le_of_eq rfl) (by decide) (by decide) (by decide) (by decide) nh_N34 ?_
    rintro _ h133 _ ⟨a131, b132, rfl, E134, g135, S136, rfl⟩
    have ne137 : pA ≠ a131 := Nat.ne_of_lt (Nat.lt_of_lt_of_le GA.lt g135)
    have ne138 : sA ≠ a131 := Nat.ne_of_lt (Nat.lt_of_lt_of_le SA.lt g135)
    have ne139 : bA ≠ a131 := Nat.ne_of_lt (Nat.lt_of_lt_of_le SA.ltb g135)
    have ne140 : pB ≠ a131 := Nat.ne_of_lt (Nat.lt_of_lt_of_le GB.lt g135)
    have ne141 : sB ≠ a131 := Nat.ne_of_lt (Nat.lt_of_lt_of_le SB.lt g135)
    have ne142 : bB ≠ a131 := Nat.ne_of_lt (Nat.lt_of_lt_of_le SB.ltb g135)
    have ne143 : a17 ≠ a131 := Nat.ne_of_lt (Nat.lt_of_lt_of_le F35.lt g135)
    have ne144 : a2 ≠ a131 := Nat.ne_of_lt (Nat.lt_of_lt_of_le S40.lt g135)
    have ne145 : b38 ≠ a131 := Nat.ne_of_lt (Nat.lt_of_lt_of_le S40.ltb g135)
    have ne146 : a67 ≠ a131 := Nat.ne_of_lt (Nat.lt_of_lt_of_le F88.lt g135)
    have ne147 : a49 ≠ a131 := Nat.ne_of_lt (Nat.lt_of_lt_of_le S93.lt g135)
    have ne148 : b91 ≠ a131 := Nat.ne_of_lt (Nat.lt_of_lt_of_le S93.ltb g135)
    have ne149 : a105 ≠ a131 := Nat.ne_of_lt (Nat.lt_of_lt_of_le A110.lt g135)
    have ne150 : r127 ≠ a131 := Nat.ne_of_lt (Nat.lt_of_lt_of_le S130.lt g135)
    have ne151 : rb128 ≠ a131 := Nat.ne_of_lt (Nat.lt_of_lt_of_le S130.ltb g135)
    replace GA := GA.ext E134
    replace SA := SA.ext E134
    replace GB := GB.ext E134
    replace SB := SB.ext E134
    replace F35 := F35.ext E134
    replace S40 := S40.ext E134
    replace F88 := F88.ext E134
    replace S93 := S93.ext E134
    replace A110 := A110.ext E134
    replace F129 := F129.ext E134
    replace S130 := S130.ext E134
    show Go _ _ _ _ _ _ h133 [a105, a67, a49, a17, a2] 25 523 129 #[.val (.int a), .val (.int b), .val (.int k), .val (.int (nar .char (a &&& (255 : Int32)))), .val (.int (nar .char (((a.toUInt32 >>> ((8 : Int32) &&& 31).toUInt32).toInt32) &&& (255 : Int32)))), .val (.int (nar .char (b &&& (255 : Int32)))), .val (.int (nar .char (((b.toUInt32 >>> ((8 : Int32) &&& 31).toUInt32).toInt32) &&& (255 : Int32)))), .val (.int (0 : Int32)), .val (.ref a2), .val (.ref a49), .val (.ref a105), .val (.ref pA), .unset, .unset] [(.ref a131)]
    refine Go.astore (ls' := #[.val (.int a), .val (.int b), .val (.int k), .val (.int (nar .char (a &&& (255 : Int32)))), .val (.int (nar .char (((a.toUInt32 >>> ((8 : Int32) &&& 31).toUInt32).toInt32) &&& (255 : Int32)))), .val (.int (nar .char (b &&& (255 : Int32)))), .val (.int (nar .char (((b.toUInt32 >>> ((8 : Int32) &&& 31).toUInt32).toInt32) &&& (255 : Int32)))), .val (.int (0 : Int32)), .val (.ref a2), .val (.ref a49), .val (.ref a105), .val (.ref pA), .val (.ref a131), .unset]) H at_129 rfl rfl rfl ?_
    refine Go.iload H at_131 rfl rfl ?_
    refine Go.ifY (pc' := 312) H at_133 (by decide) (by decide) (by decide) ?_
    refine Go.bipush (24 : Int32) H at_312 rfl rfl ?_
    refine Go.newarray 24 24 H at_314 rfl w3 rfl (by decide) (by decide) (by decide) (by decide) (by decide) (by decide) (by decide) ?_
    intro a152 h153 g154 z155 E156 F157
    have ne158 : pA ≠ a152 := Nat.ne_of_lt (Nat.lt_of_lt_of_le GA.lt (Nat.le_of_eq g154.symm))
    have ne159 : sA ≠ a152 := Nat.ne_of_lt (Nat.lt_of_lt_of_le SA.lt (Nat.le_of_eq g154.symm))
    have ne160 : bA ≠ a152 := Nat.ne_of_lt (Nat.lt_of_lt_of_le SA.ltb (Nat.le_of_eq g154.symm))
    have ne161 : pB ≠ a152 := Nat.ne_of_lt (Nat.lt_of_lt_of_le GB.lt (Nat.le_of_eq g154.symm))
    have ne162 : sB ≠ a152 := Nat.ne_of_lt (Nat.lt_of_lt_of_le SB.lt (Nat.le_of_eq g154.symm))
    have ne163 : bB ≠ a152 := Nat.ne_of_lt (Nat.lt_of_lt_of_le SB.ltb (Nat.le_of_eq g154.symm))
    have ne164 : a17 ≠ a152 := Nat.ne_of_lt (Nat.lt_of_lt_of_le F35.lt (Nat.le_of_eq g154.symm))
    have ne165 : a2 ≠ a152 := Nat.ne_of_lt (Nat.lt_of_lt_of_le S40.lt (Nat.le_of_eq g154.symm))
    have ne166 : b38 ≠ a152 := Nat.ne_of_lt (Nat.lt_of_lt_of_le S40.ltb (Nat.le_of_eq g154.symm))
    have ne167 : a67 ≠ a152 := Nat.ne_of_lt (Nat.lt_of_lt_of_le F88.lt (Nat.le_of_eq g154.symm))
    have ne168 : a49 ≠ a152 := Nat.ne_of_lt (Nat.lt_of_lt_of_le S93.lt (Nat.le_of_eq g154.symm))
    have ne169 : b91 ≠ a152 := Nat.ne_of_lt (Nat.lt_of_lt_of_le S93.ltb (Nat.le_of_eq g154.symm))
    have ne170 : a105 ≠ a152 := Nat.ne_of_lt (Nat.lt_of_lt_of_le A110.lt (Nat.le_of_eq g154.symm))
    have ne171 : r127 ≠ a152 := Nat.ne_of_lt (Nat.lt_of_lt_of_le S130.lt (Nat.le_of_eq g154.symm))
    have ne172 : rb128 ≠ a152 := Nat.ne_of_lt (Nat.lt_of_lt_of_le S130.ltb (Nat.le_of_eq g154.symm))
    have ne173 : a131 ≠ a152 := Nat.ne_of_lt (Nat.lt_of_lt_of_le S136.lt (Nat.le_of_eq g154.symm))
    have ne174 : b132 ≠ a152 := Nat.ne_of_lt (Nat.lt_of_lt_of_le S136.ltb (Nat.le_of_eq g154.symm))
    replace GA := GA.ext E156
    replace SA := SA.ext E156
    replace GB := GB.ext E156
    replace SB := SB.ext E156
    replace F35 := F35.ext E156
    replace S40 := S40.ext E156
    replace F88 := F88.ext E156
    replace S93 := S93.ext E156
    replace A110 := A110.ext E156
    replace F129 := F129.ext E156
    replace S130 := S130.ext E156
    replace S136 := S136.ext E156
    replace F157 : Vec Z h153 a152 .char [(0 : Int32), (0 : Int32), (0 : Int32), (0 : Int32), (0 : Int32), (0 : Int32), (0 : Int32), (0 : Int32), (0 : Int32), (0 : Int32), (0 : Int32), (0 : Int32), (0 : Int32), (0 : Int32), (0 : Int32), (0 : Int32), (0 : Int32), (0 : Int32), (0 : Int32), (0 : Int32), (0 : Int32), (0 : Int32), (0 : Int32), (0 : Int32)] := F157
    show Go _ _ _ _ _ _ h153 [a152, a105, a67, a49, a17, a2] 26 547 316 #[.val (.int a), .val (.int b), .val (.int k), .val (.int (nar .char (a &&& (255 : Int32)))), .val (.int (nar .char (((a.toUInt32 >>> ((8 : Int32) &&& 31).toUInt32).toInt32) &&& (255 : Int32)))), .val (.int (nar .char (b &&& (255 : Int32)))), .val (.int (nar .char (((b.toUInt32 >>> ((8 : Int32) &&& 31).toUInt32).toInt32) &&& (255 : Int32)))), .val (.int (0 : Int32)), .val (.ref a2), .val (.ref a49), .val (.ref a105), .val (.ref pA), .val (.ref a131), .unset] [(.ref a152)]
    refine Go.dup H at_316 rfl rfl ?_
    refine Go.iconst (0 : Int32) H at_317 rfl rfl ?_
    refine Go.iloadN H at_318 rfl rfl ?_
    refine Go.castore (nar .char (a &&& (255 : Int32))) H at_319 rfl F157 0 (by decide) (by decide) (Nat.le_of_ble_eq_true rfl) own_nn z155 (by simp) ?_
    intro h175 K176 F177
    replace GA := GA.keep K176 (ninS ne158 nin0)
    replace SA := SA.keep K176 (ninS ne159 nin0) (ninS ne160 nin0)
    replace GB := GB.keep K176 (ninS ne161 nin0)
    replace SB := SB.keep K176 (ninS ne162 nin0) (ninS ne163 nin0)
    replace F35 := F35.keep K176 (ninS ne164 nin0)
    replace S40 := S40.keep K176 (ninS ne165 nin0) (ninS ne166 nin0)
    replace F88 := F88.keep K176 (ninS ne167 nin0)
    replace S93 := S93.keep K176 (ninS ne168 nin0) (ninS ne169 nin0)
    replace A110 := A110.keep K176
    replace F129 := F129.keep K176 (ninS ne170 nin0)
    replace S130 := S130.keep K176 (ninS ne171 nin0) (ninS ne172 nin0)
    replace S136 := S136.keep K176 (ninS ne173 nin0) (ninS ne174 nin0)
    replace F177 : Vec Z h175 a152 .char [(nar .char (a &&& (255 : Int32))), (0 : Int32), (0 : Int32), (0 : Int32), (0 : Int32), (0 : Int32), (0 : Int32), (0 : Int32), (0 : Int32), (0 : Int32), (0 : Int32), (0 : Int32), (0 : Int32), (0 : Int32), (0 : Int32), (0 : Int32), (0 : Int32), (0 : Int32), (0 : Int32), (0 : Int32), (0 : Int32), (0 : Int32), (0 : Int32), (0 : Int32)] := F177
    refine Go.dup H at_320 rfl rfl ?_
    refine Go.iconst (1 : Int32) H at_321 rfl rfl ?_
    refine Go.iload H at_322 rfl rfl ?_
    refine Go.castore (nar .char (((a.toUInt32 >>> ((8 : Int32) &&& 31).toUInt32).toInt32) &&& (255 : Int32))) H at_324 rfl F177 1 (by decide) (by decide) (Nat.le_of_ble_eq_true rfl) own_nn z155 (by simp) ?_
    intro h178 K179 F180
    replace GA := GA.keep K179 (ninS ne158 nin0)
    replace SA := SA.keep K179 (ninS ne159 nin0) (ninS ne160 nin0)
    replace GB := GB.keep K179 (ninS ne161 nin0)
    replace SB := SB.keep K179 (ninS ne162 nin0) (ninS ne163 nin0)
    replace F35 := F35.keep K179 (ninS ne164 nin0)
    replace S40 := S40.keep K179 (ninS ne165 nin0) (ninS ne166 nin0)
    replace F88 := F88.keep K179 (ninS ne167 nin0)
    replace S93 := S93.keep K179 (ninS ne168 nin0) (ninS ne169 nin0)
    replace A110 := A110.keep K179
    replace F129 := F129.keep K179 (ninS ne170 nin0)
    replace S130 := S130.keep K179 (ninS ne171 nin0) (ninS ne172 nin0)
    replace S136 := S136.keep K179 (ninS ne173 nin0) (ninS ne174 nin0)
    replace F180 : Vec Z h178 a152 .char [(nar .char (a &&& (255 : Int32))), (nar .char (((a.toUInt32 >>> ((8 : Int32) &&& 31).toUInt32).toInt32) &&& (255 : Int32))), (0 : Int32), (0 : Int32), (0 : Int32), (0 : Int32), (0 : Int32), (0 : Int32), (0 : Int32), (0 : Int32), (0 : Int32), (0 : Int32), (0 : Int32), (0 : Int32), (0 : Int32), (0 : Int32), (0 : Int32), (0 : Int32), (0 : Int32), (0 : Int32), (0 : Int32), (0 : Int32), (0 : Int32), (0 : Int32)] := F180
    refine Go.dup H at_325 rfl rfl ?_
    refine Go.iconst (2 : Int32) H at_326 rfl rfl ?_
    refine Go.bipush (47 : Int32) H at_327 rfl rfl ?_
    refine Go.castore (47 : Int32) H at_329 rfl F180 2 (by decide) (by decide) (Nat.le_of_ble_eq_true rfl) (by decide) z155 (by simp) ?_
    intro h181 K182 F183
    replace GA := GA.keep K182 (ninS ne158 nin0)
    replace SA := SA.keep K182 (ninS ne159 nin0) (ninS ne160 nin0)
    replace GB := GB.keep K182 (ninS ne161 nin0)
    replace SB := SB.keep K182 (ninS ne162 nin0) (ninS ne163 nin0)
    replace F35 := F35.keep K182 (ninS ne164 nin0)
    replace S40 := S40.keep K182 (ninS ne165 nin0) (ninS ne166 nin0)
    replace F88 := F88.keep K182 (ninS ne167 nin0)
    replace S93 := S93.keep K182 (ninS ne168 nin0) (ninS ne169 nin0)
    replace A110 := A110.keep K182
    replace F129 := F129.keep K182 (ninS ne170 nin0)
    replace S130 := S130.keep K182 (ninS ne171 nin0) (ninS ne172 nin0)
    replace S136 := S136.keep K182 (ninS ne173 nin0) (ninS ne174 nin0)
    replace F183 : Vec Z h181 a152 .char [(nar .char (a &&& (255 : Int32))), (nar .char (((a.toUInt32 >>> ((8 : Int32) &&& 31).toUInt32).toInt32) &&& (255 : Int32))), (47 : Int32), (0 : Int32), (0 : Int32), (0 : Int32), (0 : Int32), (0 : Int32), (0 : Int32), (0 : Int32), (0 : Int32), (0 : Int32), (0 : Int32), (0 : Int32), (0 : Int32), (0 : Int32), (0 : Int32), (0 : Int32), (0 : Int32), (0 : Int32), (0 : Int32), (0 : Int32), (0 : Int32), (0 : Int32)] := F183
    refine Go.dup H at_330 rfl rfl ?_
    refine Go.iconst (3 : Int32) H at_331 rfl rfl ?_
    refine Go.bipush (116 : Int32) H at_332 rfl rfl ?_
    refine Go.castore (116 : Int32) H at_334 rfl F183 3 (by decide) (by decide) (Nat.le_of_ble_eq_true rfl) (by decide) z155 (by simp) ?_
    intro h184 K185 F186
    replace GA := GA.keep K185 (ninS ne158 nin0)
    replace SA := SA.keep K185 (ninS ne159 nin0) (ninS ne160 nin0)
    replace GB := GB.keep K185 (ninS ne161 nin0)
    replace SB := SB.keep K185 (ninS ne162 nin0) (ninS ne163 nin0)
    replace F35 := F35.keep K185 (ninS ne164 nin0)
    replace S40 := S40.keep K185 (ninS ne165 nin0) (ninS ne166 nin0)
    replace F88 := F88.keep K185 (ninS ne167 nin0)
    replace S93 := S93.keep K185 (ninS ne168 nin0) (ninS ne169 nin0)
    replace A110 := A110.keep K185
    replace F129 := F129.keep K185 (ninS ne170 nin0)
    replace S130 := S130.keep K185 (ninS ne171 nin0) (ninS ne172 nin0)
    replace S136 := S136.keep K185 (ninS ne173 nin0) (ninS ne174 nin0)
    replace F186 : Vec Z h184 a152 .char [(nar .char (a &&& (255 : Int32))), (nar .char (((a.toUInt32 >>> ((8 : Int32) &&& 31).toUInt32).toInt32) &&& (255 : Int32))), (47 : Int32), (116 : Int32), (0 : Int32), (0 : Int32), (0 : Int32), (0 : Int32), (0 : Int32), (0 : Int32), (0 : Int32), (0 : Int32), (0 : Int32), (0 : Int32), (0 : Int32), (0 : Int32), (0 : Int32), (0 : Int32), (0 : Int32), (0 : Int32), (0 : Int32), (0 : Int32), (0 : Int32), (0 : Int32)] := F186
    refine Go.dup H at_335 rfl rfl ?_
    refine Go.iconst (4 : Int32) H at_336 rfl rfl ?_
    refine Go.bipush (104 : Int32) H at_337 rfl rfl ?_
    refine Go.castore (104 : Int32) H at_339 rfl F186 4 (by decide) (by decide) (Nat.le_of_ble_eq_true rfl) (by decide) z155 (by simp) ?_
    intro h187 K188 F189
    replace GA := GA.keep K188 (ninS ne158 nin0)
    replace SA := SA.keep K188 (ninS ne159 nin0) (ninS ne160 nin0)
    replace GB := GB.keep K188 (ninS ne161 nin0)
    replace SB := SB.keep K188 (ninS ne162 nin0) (ninS ne163 nin0)
    replace F35 := F35.keep K188 (ninS ne164 nin0)
    replace S40 := S40.keep K188 (ninS ne165 nin0) (ninS ne166 nin0)
    replace F88 := F88.keep K188 (ninS ne167 nin0)
    replace S93 := S93.keep K188 (ninS ne168 nin0) (ninS ne169 nin0)
    replace A110 := A110.keep K188
    replace F129 := F129.keep K188 (ninS ne170 nin0)
    replace S130 := S130.keep K188 (ninS ne171 nin0) (ninS ne172 nin0)
    replace S136 := S136.keep K188 (ninS ne173 nin0) (ninS ne174 nin0)
    replace F189 : Vec Z h187 a152 .char [(nar .char (a &&& (255 : Int32))), (nar .char (((a.toUInt32 >>> ((8 : Int32) &&& 31).toUInt32).toInt32) &&& (255 : Int32))), (47 : Int32), (116 : Int32), (104 : Int32), (0 : Int32), (0 : Int32), (0 : Int32), (0 : Int32), (0 : Int32), (0 : Int32), (0 : Int32), (0 : Int32), (0 : Int32), (0 : Int32), (0 : Int32), (0 : Int32), (0 : Int32), (0 : Int32), (0 : Int32), (0 : Int32), (0 : Int32), (0 : Int32), (0 : Int32)] := F189
    refine Go.dup H at_340 rfl rfl ?_
    refine Go.iconst (5 : Int32) H at_341 rfl rfl ?_
    refine Go.bipush (105 : Int32) H at_342 rfl rfl ?_
    refine Go.castore (105 : Int32) H at_344 rfl F189 5 (by decide) (by decide) (Nat.le_of_ble_eq_true rfl) (by decide) z155 (by simp) ?_
    intro h190 K191 F192
    replace GA := GA.keep K191 (ninS ne158 nin0)
    replace SA := SA.keep K191 (ninS ne159 nin0) (ninS ne160 nin0)
    replace GB := GB.keep K191 (ninS ne161 nin0)
    replace SB := SB.keep K191 (ninS ne162 nin0) (ninS ne163 nin0)
    replace F35 := F35.keep K191 (ninS ne164 nin0)
    replace S40 := S40.keep K191 (ninS ne165 nin0) (ninS ne166 nin0)
    replace F88 := F88.keep K191 (ninS ne167 nin0)
    replace S93 := S93.keep K191 (ninS ne168 nin0) (ninS ne169 nin0)
    replace A110 := A110.keep K191
    replace F129 := F129.keep K191 (ninS ne170 nin0)
    replace S130 := S130.keep K191 (ninS ne171 nin0) (ninS ne172 nin0)
    replace S136 := S136.keep K191 (ninS ne173 nin0) (ninS ne174 nin0)
    replace F192 : Vec Z h190 a152 .char [(nar .char (a &&& (255 : Int32))), (nar .char (((a.toUInt32 >>> ((8 : Int32) &&& 31).toUInt32).toInt32) &&& (255 : Int32))), (47 : Int32), (116 : Int32), (104 : Int32), (105 : Int32), (0 : Int32), (0 : Int32), (0 : Int32), (0 : Int32), (0 : Int32), (0 : Int32), (0 : Int32), (0 : Int32), (0 : Int32), (0 : Int32), (0 : Int32), (0 : Int32), (0 : Int32), (0 : Int32), (0 : Int32), (0 : Int32), (0 : Int32), (0 : Int32)] := F192
    refine Go.dup H at_345 rfl rfl ?_
    refine Go.bipush (6 : Int32) H at_346 rfl rfl ?_
    refine Go.bipush (110 : Int32) H at_348 rfl rfl ?_
    refine Go.castore (110 : Int32) H at_350 rfl F192 6 (by decide) (by decide) (Nat.le_of_ble_eq_true rfl) (by decide) z155 (by simp) ?_
    intro h193 K194 F195
    replace GA := GA.keep K194 (ninS ne158 nin0)
    replace SA := SA.keep K194 (ninS ne159 nin0) (ninS ne160 nin0)
    replace GB := GB.keep K194 (ninS ne161 nin0)
    replace SB := SB.keep K194 (ninS ne162 nin0) (ninS ne163 nin0)
    replace F35 := F35.keep K194 (ninS ne164 nin0)
    replace S40 := S40.keep K194 (ninS ne165 nin0) (ninS ne166 nin0)
    replace F88 := F88.keep K194 (ninS ne167 nin0)
    replace S93 := S93.keep K194 (ninS ne168 nin0) (ninS ne169 nin0)
    replace A110 := A110.keep K194
    replace F129 := F129.keep K194 (ninS ne170 nin0)
    replace S130 := S130.keep K194 (ninS ne171 nin0) (ninS ne172 nin0)
    replace S136 := S136.keep K194 (ninS ne173 nin0) (ninS ne174 nin0)
    replace F195 : Vec Z h193 a152 .char [(nar .char (a &&& (255 : Int32))), (nar .char (((a.toUInt32 >>> ((8 : Int32) &&& 31).toUInt32).toInt32) &&& (255 : Int32))), (47 : Int32), (116 : Int32), (104 : Int32), (105 : Int32), (110 : Int32), (0 : Int32), (0 : Int32), (0 : Int32), (0 : Int32), (0 : Int32), (0 : Int32), (0 : Int32), (0 : Int32), (0 : Int32), (0 : Int32), (0 : Int32), (0 : Int32), (0 : Int32), (0 : Int32), (0 : Int32), (0 : Int32), (0 : Int32)] := F195
    refine Go.dup H at_351 rfl rfl ?_
    refine Go.bipush (7 : Int32) H at_352 rfl rfl ?_
    refine Go.bipush (103 : Int32) H at_354 rfl rfl ?_
    refine Go.castore (103 : Int32) H at_356 rfl F195 7 (by decide) (by decide) (Nat.le_of_ble_eq_true rfl) (by decide) z155 (by simp) ?_
    intro h196 K197 F198
    replace GA := GA.keep K197 (ninS ne158 nin0)
    replace SA := SA.keep K197 (ninS ne159 nin0) (ninS ne160 nin0)
    replace GB := GB.keep K197 (ninS ne161 nin0)
    replace SB := SB.keep K197 (ninS ne162 nin0) (ninS ne163 nin0)
    replace F35 := F35.keep K197 (ninS ne164 nin0)
    replace S40 := S40.keep K197 (ninS ne165 nin0) (ninS ne166 nin0)
    replace F88 := F88.keep K197 (ninS ne167 nin0)
    replace S93 := S93.keep K197 (ninS ne168 nin0) (ninS ne169 nin0)
    replace A110 := A110.keep K197
    replace F129 := F129.keep K197 (ninS ne170 nin0)
    replace S130 := S130.keep K197 (ninS ne171 nin0) (ninS ne172 nin0)
    replace S136 := S136.keep K197 (ninS ne173 nin0) (ninS ne174 nin0)
    replace F198 : Vec Z h196 a152 .char [(nar .char (a &&& (255 : Int32))), (nar .char (((a.toUInt32 >>> ((8 : Int32) &&& 31).toUInt32).toInt32) &&& (255 : Int32))), (47 : Int32), (116 : Int32), (104 : Int32), (105 : Int32), (110 : Int32), (103 : Int32), (0 : Int32), (0 : Int32), (0 : Int32), (0 : Int32), (0 : Int32), (0 : Int32), (0 : Int32), (0 : Int32), (0 : Int32), (0 : Int32), (0 : Int32), (0 : Int32), (0 : Int32), (0 : Int32), (0 : Int32), (0 : Int32)] := F198
    refine Go.dup H at_357 rfl rfl ?_
    refine Go.bipush (8 : Int32) H at_358 rfl rfl ?_
    refine Go.bipush (115 : Int32) H at_360 rfl rfl ?_
    refine Go.castore (115 : Int32) H at_362 rfl F198 8 (by decide) (by decide) (Nat.le_of_ble_eq_true rfl) (by decide) z155 (by simp) ?_
    intro h199 K200 F201
    replace GA := GA.keep K200 (ninS ne158 nin0)
    replace SA := SA.keep K200 (ninS ne159 nin0) (ninS ne160 nin0)
    replace GB := GB.keep K200 (ninS ne161 nin0)
    replace SB := SB.keep K200 (ninS ne162 nin0) (ninS ne163 nin0)
    replace F35 := F35.keep K200 (ninS ne164 nin0)
    replace S40 := S40.keep K200 (ninS ne165 nin0) (ninS ne166 nin0)
    replace F88 := F88.keep K200 (ninS ne167 nin0)
    replace S93 := S93.keep K200 (ninS ne168 nin0) (ninS ne169 nin0)
    replace A110 := A110.keep K200
    replace F129 := F129.keep K200 (ninS ne170 nin0)
    replace S130 := S130.keep K200 (ninS ne171 nin0) (ninS ne172 nin0)
    replace S136 := S136.keep K200 (ninS ne173 nin0) (ninS ne174 nin0)
    replace F201 : Vec Z h199 a152 .char [(nar .char (a &&& (255 : Int32))), (nar .char (((a.toUInt32 >>> ((8 : Int32) &&& 31).toUInt32).toInt32) &&& (255 : Int32))), (47 : Int32), (116 : Int32), (104 : Int32), (105 : Int32), (110 : Int32), (103 : Int32), (115 : Int32), (0 : Int32), (0 : Int32), (0 : Int32), (0 : Int32), (0 : Int32), (0 : Int32), (0 : Int32), (0 : Int32), (0 : Int32), (0 : Int32), (0 : Int32), (0 : Int32), (0 : Int32), (0 : Int32), (0 : Int32)] := F201
    refine Go.dup H at_363 rfl rfl ?_
    refine Go.bipush (9 : Int32) H at_364 rfl rfl ?_
    refine Go.bipush (47 : Int32) H at_366 rfl rfl ?_
    refine Go.castore (47 : Int32) H at_368 rfl F201 9 (by decide) (by decide) (Nat.le_of_ble_eq_true rfl) (by decide) z155 (by simp) ?_
    intro h202 K203 F204
    replace GA := GA.keep K203 (ninS ne158 nin0)
    replace SA := SA.keep K203 (ninS ne159 nin0) (ninS ne160 nin0)
    replace GB := GB.keep K203 (ninS ne161 nin0)
    replace SB := SB.keep K203 (ninS ne162 nin0) (ninS ne163 nin0)
    replace F35 := F35.keep K203 (ninS ne164 nin0)
    replace S40 := S40.keep K203 (ninS ne165 nin0) (ninS ne166 nin0)
    replace F88 := F88.keep K203 (ninS ne167 nin0)
    replace S93 := S93.keep K203 (ninS ne168 nin0) (ninS ne169 nin0)
    replace A110 := A110.keep K203
    replace F129 := F129.keep K203 (ninS ne170 nin0)
    replace S130 := S130.keep K203 (ninS ne171 nin0) (ninS ne172 nin0)
    replace S136 := S136.keep K203 (ninS ne173 nin0) (ninS ne174 nin0)
    replace F204 : Vec Z h202 a152 .char [(nar .char (a &&& (255 : Int32))), (nar .char (((a.toUInt32 >>> ((8 : Int32) &&& 31).toUInt32).toInt32) &&& (255 : Int32))), (47 : Int32), (116 : Int32), (104 : Int32), (105 : Int32), (110 : Int32), (103 : Int32), (115 : Int32), (47 : Int32), (0 : Int32), (0 : Int32), (0 : Int32), (0 : Int32), (0 : Int32), (0 : Int32), (0 : Int32), (0 : Int32), (0 : Int32), (0 : Int32), (0 : Int32), (0 : Int32), (0 : Int32), (0 : Int32)] := F204
    refine Go.dup H at_369 rfl rfl ?_
    refine Go.bipush (10 : Int32) H at_370 rfl rfl ?_
    refine Go.iload H at_372 rfl rfl ?_
    refine Go.castore (nar .char (b &&& (255 : Int32))) H at_374 rfl F204 10 (by decide) (by decide) (Nat.le_of_ble_eq_true rfl) own_nn z155 (by simp) ?_
    intro h205 K206 F207
    replace GA := GA.keep K206 (ninS ne158 nin0)
    replace SA := SA.keep K206 (ninS ne159 nin0) (ninS ne160 nin0)
    replace GB := GB.keep K206 (ninS ne161 nin0)
    replace SB := SB.keep K206 (ninS ne162 nin0) (ninS ne163 nin0)
    replace F35 := F35.keep K206 (ninS ne164 nin0)
    replace S40 := S40.keep K206 (ninS ne165 nin0) (ninS ne166 nin0)
    replace F88 := F88.keep K206 (ninS ne167 nin0)
    replace S93 := S93.keep K206 (ninS ne168 nin0) (ninS ne169 nin0)
    replace A110 := A110.keep K206
    replace F129 := F129.keep K206 (ninS ne170 nin0)
    replace S130 := S130.keep K206 (ninS ne171 nin0) (ninS ne172 nin0)
    replace S136 := S136.keep K206 (ninS ne173 nin0) (ninS ne174 nin0)
    replace F207 : Vec Z h205 a152 .char [(nar .char (a &&& (255 : Int32))), (nar .char (((a.toUInt32 >>> ((8 : Int32) &&& 31).toUInt32).toInt32) &&& (255 : Int32))), (47 : Int32), (116 : Int32), (104 : Int32), (105 : Int32), (110 : Int32), (103 : Int32), (115 : Int32), (47 : Int32), (nar .char (b &&& (255 : Int32))), (0 : Int32), (0 : Int32), (0 : Int32), (0 : Int32), (0 : Int32), (0 : Int32), (0 : Int32), (0 : Int32), (0 : Int32), (0 : Int32), (0 : Int32), (0 : Int32), (0 : Int32)] := F207
    refine Go.dup H at_375 rfl rfl ?_
    refine Go.bipush (11 : Int32) H at_376 rfl rfl ?_
    refine Go.iload H at_378 rfl rfl ?_
    refine Go.castore (nar .char (((b.toUInt32 >>> ((8 : Int32) &&& 31).toUInt32).toInt32) &&& (255 : Int32))) H at_380 rfl F207 11 (by decide) (by decide) (Nat.le_of_ble_eq_true rfl) own_nn z155 (by simp) ?_
    intro h208 K209 F210
    replace GA := GA.keep K209 (ninS ne158 nin0)
    replace SA := SA.keep K209 (ninS ne159 nin0) (ninS ne160 nin0)
    replace GB := GB.keep K209 (ninS ne161 nin0)
    replace SB := SB.keep K209 (ninS ne162 nin0) (ninS ne163 nin0)
    replace F35 := F35.keep K209 (ninS ne164 nin0)
    replace S40 := S40.keep K209 (ninS ne165 nin0) (ninS ne166 nin0)
    replace F88 := F88.keep K209 (ninS ne167 nin0)
    replace S93 := S93.keep K209 (ninS ne168 nin0) (ninS ne169 nin0)
    replace A110 := A110.keep K209
    replace F129 := F129.keep K209 (ninS ne170 nin0)
    replace S130 := S130.keep K209 (ninS ne171 nin0) (ninS ne172 nin0)
    replace S136 := S136.keep K209 (ninS ne173 nin0) (ninS ne174 nin0)
    replace F210 : Vec Z h208 a152 .char [(nar .char (a &&& (255 : Int32))), (nar .char (((a.toUInt32 >>> ((8 : Int32) &&& 31).toUInt32).toInt32) &&& (255 : Int32))), (47 : Int32), (116 : Int32), (104 : Int32), (105 : Int32), (110 : Int32), (103 : Int32), (115 : Int32), (47 : Int32), (nar .char (b &&& (255 : Int32))), (nar .char (((b.toUInt32 >>> ((8 : Int32) &&& 31).toUInt32).toInt32) &&& (255 : Int32))), (0 : Int32), (0 : Int32), (0 : Int32), (0 : Int32), (0 : Int32), (0 : Int32), (0 : Int32), (0 : Int32), (0 : Int32), (0 : Int32), (0 : Int32), (0 : Int32)] := F210
    refine Go.dup H at_381 rfl rfl ?_
    refine Go.bipush (12 : Int32) H at_382 rfl rfl ?_
    refine Go.bipush (47 : Int32) H at_384 rfl rfl ?_
    refine Go.castore (47 : Int32) H at_386 rfl F210 12 (by decide) (by decide) (Nat.le_of_ble_eq_true rfl) (by decide) z155 (by simp) ?_
    intro h211 K212 F213
    replace GA := GA.keep K212 (ninS ne158 nin0)
    replace SA := SA.keep K212 (ninS ne159 nin0) (ninS ne160 nin0)
    replace GB := GB.keep K212 (ninS ne161 nin0)
    replace SB := SB.keep K212 (ninS ne162 nin0) (ninS ne163 nin0)
    replace F35 := F35.keep K212 (ninS ne164 nin0)
    replace S40 := S40.keep K212 (ninS ne165 nin0) (ninS ne166 nin0)
    replace F88 := F88.keep K212 (ninS ne167 nin0)
    replace S93 := S93.keep K212 (ninS ne168 nin0) (ninS ne169 nin0)
    replace A110 := A110.keep K212
    replace F129 := F129.keep K212 (ninS ne170 nin0)
    replace S130 := S130.keep K212 (ninS ne171 nin0) (ninS ne172 nin0)
    replace S136 := S136.keep K212 (ninS ne173 nin0) (ninS ne174 nin0)
    replace F213 : Vec Z h211 a152 .char [(nar .char (a &&& (255 : Int32))), (nar .char (((a.toUInt32 >>> ((8 : Int32) &&& 31).toUInt32).toInt32) &&& (255 : Int32))), (47 : Int32), (116 : Int32), (104 : Int32), (105 : Int32), (110 : Int32), (103 : Int32), (115 : Int32), (47 : Int32), (nar .char (b &&& (255 : Int32))), (nar .char (((b.toUInt32 >>> ((8 : Int32) &&& 31).toUInt32).toInt32) &&& (255 : Int32))), (47 : Int32), (0 : Int32), (0 : Int32), (0 : Int32), (0 : Int32), (0 : Int32), (0 : Int32), (0 : Int32), (0 : Int32), (0 : Int32), (0 : Int32), (0 : Int32)] := F213
    refine Go.dup H at_387 rfl rfl ?_
    refine Go.bipush (13 : Int32) H at_388 rfl rfl ?_
    refine Go.bipush (106 : Int32) H at_390 rfl rfl ?_
    refine Go.castore (106 : Int32) H at_392 rfl F213 13 (by decide) (by decide) (Nat.le_of_ble_eq_true rfl) (by decide) z155 (by simp) ?_
    intro h214 K215 F216
    replace GA := GA.keep K215 (ninS ne158 nin0)
    replace SA := SA.keep K215 (ninS ne159 nin0) (ninS ne160 nin0)
    replace GB := GB.keep K215 (ninS ne161 nin0)
    replace SB := SB.keep K215 (ninS ne162 nin0) (ninS ne163 nin0)
    replace F35 := F35.keep K215 (ninS ne164 nin0)
    replace S40 := S40.keep K215 (ninS ne165 nin0) (ninS ne166 nin0)
    replace F88 := F88.keep K215 (ninS ne167 nin0)
    replace S93 := S93.keep K215 (ninS ne168 nin0) (ninS ne169 nin0)
    replace A110 := A110.keep K215
    replace F129 := F129.keep K215 (ninS ne170 nin0)
    replace S130 := S130.keep K215 (ninS ne171 nin0) (ninS ne172 nin0)
    replace S136 := S136.keep K215 (ninS ne173 nin0) (ninS ne174 nin0)
    replace F216 : Vec Z h214 a152 .char [(nar .char (a &&& (255 : Int32))), (nar .char (((a.toUInt32 >>> ((8 : Int32) &&& 31).toUInt32).toInt32) &&& (255 : Int32))), (47 : Int32), (116 : Int32), (104 : Int32), (105 : Int32), (110 : Int32), (103 : Int32), (115 : Int32), (47 : Int32), (nar .char (b &&& (255 : Int32))), (nar .char (((b.toUInt32 >>> ((8 : Int32) &&& 31).toUInt32).toInt32) &&& (255 : Int32))), (47 : Int32), (106 : Int32), (0 : Int32), (0 : Int32), (0 : Int32), (0 : Int32), (0 : Int32), (0 : Int32), (0 : Int32), (0 : Int32), (0 : Int32), (0 : Int32)] := F216
    refine Go.dup H at_393 rfl rfl ?_
    refine Go.bipush (14 : Int32) H at_394 rfl rfl ?_
    refine Go.bipush (111 : Int32) H at_396 rfl rfl ?_
    refine Go.castore (111 : Int32) H at_398 rfl F216 14 (by decide) (by decide) (Nat.le_of_ble_eq_true rfl) (by decide) z155 (by simp) ?_
    intro h217 K218 F219
    replace GA := GA.keep K218 (ninS ne158 nin0)
    replace SA := SA.keep K218 (ninS ne159 nin0) (ninS ne160 nin0)
    replace GB := GB.keep K218 (ninS ne161 nin0)
    replace SB := SB.keep K218 (ninS ne162 nin0) (ninS ne163 nin0)
    replace F35 := F35.keep K218 (ninS ne164 nin0)
    replace S40 := S40.keep K218 (ninS ne165 nin0) (ninS ne166 nin0)
    replace F88 := F88.keep K218 (ninS ne167 nin0)
    replace S93 := S93.keep K218 (ninS ne168 nin0) (ninS ne169 nin0)
    replace A110 := A110.keep K218
    replace F129 := F129.keep K218 (ninS ne170 nin0)
    replace S130 := S130.keep K218 (ninS ne171 nin0) (ninS ne172 nin0)
    replace S136 := S136.keep K218 (ninS ne173 nin0) (ninS ne174 nin0)
    replace F219 : Vec Z h217 a152 .char [(nar .char (a &&& (255 : Int32))), (nar .char (((a.toUInt32 >>> ((8 : Int32) &&& 31).toUInt32).toInt32) &&& (255 : Int32))), (47 : Int32), (116 : Int32), (104 : Int32), (105 : Int32), (110 : Int32), (103 : Int32), (115 : Int32), (47 : Int32), (nar .char (b &&& (255 : Int32))), (nar .char (((b.toUInt32 >>> ((8 : Int32) &&& 31).toUInt32).toInt32) &&& (255 : Int32))), (47 : Int32), (106 : Int32), (111 : Int32), (0 : Int32), (0 : Int32), (0 : Int32), (0 : Int32), (0 : Int32), (0 : Int32), (0 : Int32), (0 : Int32), (0 : Int32)] := F219
    refine Go.dup H at_399 rfl rfl ?_
    refine Go.bipush (15 : Int32) H at_400 rfl rfl ?_
    refine Go.bipush (98 : Int32) H at_402 rfl rfl ?_
    refine Go.castore (98 : Int32) H at_404 rfl F219 15 (by decide) (by decide) (Nat.le_of_ble_eq_true rfl) (by decide) z155 (by simp) ?_
    intro h220 K221 F222
    replace GA := GA.keep K221 (ninS ne158 nin0)
    replace SA := SA.keep K221 (ninS ne159 nin0) (ninS ne160 nin0)
    replace GB := GB.keep K221 (ninS ne161 nin0)
    replace SB := SB.keep K221 (ninS ne162 nin0) (ninS ne163 nin0)
    replace F35 := F35.keep K221 (ninS ne164 nin0)
    replace S40 := S40.keep K221 (ninS ne165 nin0) (ninS ne166 nin0)
    replace F88 := F88.keep K221 (ninS ne167 nin0)
    replace S93 := S93.keep K221 (ninS ne168 nin0) (ninS ne169 nin0)
    replace A110 := A110.keep K221
    replace F129 := F129.keep K221 (ninS ne170 nin0)
    replace S130 := S130.keep K221 (ninS ne171 nin0) (ninS ne172 nin0)
    replace S136 := S136.keep K221 (ninS ne173 nin0) (ninS ne174 nin0)
    replace F222 : Vec Z h220 a152 .char [(nar .char (a &&& (255 : Int32))), (nar .char (((a.toUInt32 >>> ((8 : Int32) &&& 31).toUInt32).toInt32) &&& (255 : Int32))), (47 : Int32), (116 : Int32), (104 : Int32), (105 : Int32), (110 : Int32), (103 : Int32), (115 : Int32), (47 : Int32), (nar .char (b &&& (255 : Int32))), (nar .char (((b.toUInt32 >>> ((8 : Int32) &&& 31).toUInt32).toInt32) &&& (255 : Int32))), (47 : Int32), (106 : Int32), (111 : Int32), (98 : Int32), (0 : Int32), (0 : Int32), (0 : Int32), (0 : Int32), (0 : Int32), (0 : Int32), (0 : Int32), (0 : Int32)] := F222
    refine Go.dup H at_405 rfl rfl ?_
    refine Go.bipush (16 : Int32) H at_406 rfl rfl ?_
    refine Go.bipush (115 : Int32) H at_408 rfl rfl ?_
    refine Go.castore (115 : Int32) H at_410 rfl F222 16 (by decide) (by decide) (Nat.le_of_ble_eq_true rfl) (by decide) z155 (by simp) ?_
    intro h223 K224 F225
    replace GA := GA.keep K224 (ninS ne158 nin0)
    replace SA := SA.keep K224 (ninS ne159 nin0) (ninS ne160 nin0)
    replace GB := GB.keep K224 (ninS ne161 nin0)
    replace SB := SB.keep K224 (ninS ne162 nin0) (ninS ne163 nin0)
    replace F35 := F35.keep K224 (ninS ne164 nin0)
    replace S40 := S40.keep K224 (ninS ne165 nin0) (ninS ne166 nin0)
    replace F88 := F88.keep K224 (ninS ne167 nin0)
    replace S93 := S93.keep K224 (ninS ne168 nin0) (ninS ne169 nin0)
    replace A110 := A110.keep K224
    replace F129 := F129.keep K224 (ninS ne170 nin0)
    replace S130 := S130.keep K224 (ninS ne171 nin0) (ninS ne172 nin0)
    replace S136 := S136.keep K224 (ninS ne173 nin0) (ninS ne174 nin0)
    replace F225 : Vec Z h223 a152 .char [(nar .char (a &&& (255 : Int32))), (nar .char (((a.toUInt32 >>> ((8 : Int32) &&& 31).toUInt32).toInt32) &&& (255 : Int32))), (47 : Int32), (116 : Int32), (104 : Int32), (105 : Int32), (110 : Int32), (103 : Int32), (115 : Int32), (47 : Int32), (nar .char (b &&& (255 : Int32))), (nar .char (((b.toUInt32 >>> ((8 : Int32) &&& 31).toUInt32).toInt32) &&& (255 : Int32))), (47 : Int32), (106 : Int32), (111 : Int32), (98 : Int32), (115 : Int32), (0 : Int32), (0 : Int32), (0 : Int32), (0 : Int32), (0 : Int32), (0 : Int32), (0 : Int32)] := F225
    refine Go.dup H at_411 rfl rfl ?_
    refine Go.bipush (17 : Int32) H at_412 rfl rfl ?_
    refine Go.bipush (47 : Int32) H at_414 rfl rfl ?_
    refine Go.castore (47 : Int32) H at_416 rfl F225 17 (by decide) (by decide) (Nat.le_of_ble_eq_true rfl) (by decide) z155 (by simp) ?_
    intro h226 K227 F228
    replace GA := GA.keep K227 (ninS ne158 nin0)
    replace SA := SA.keep K227 (ninS ne159 nin0) (ninS ne160 nin0)
    replace GB := GB.keep K227 (ninS ne161 nin0)
    replace SB := SB.keep K227 (ninS ne162 nin0) (ninS ne163 nin0)
    replace F35 := F35.keep K227 (ninS ne164 nin0)
    replace S40 := S40.keep K227 (ninS ne165 nin0) (ninS ne166 nin0)
    replace F88 := F88.keep K227 (ninS ne167 nin0)
    replace S93 := S93.keep K227 (ninS ne168 nin0) (ninS ne169 nin0)
    replace A110 := A110.keep K227
    replace F129 := F129.keep K227 (ninS ne170 nin0)
    replace S130 := S130.keep K227 (ninS ne171 nin0) (ninS ne172 nin0)
    replace S136 := S136.keep K227 (ninS ne173 nin0) (ninS ne174 nin0)
    replace F228 : Vec Z h226 a152 .char [(nar .char (a &&& (255 : Int32))), (nar .char (((a.toUInt32 >>> ((8 : Int32) &&& 31).toUInt32).toInt32) &&& (255 : Int32))), (47 : Int32), (116 : Int32), (104 : Int32), (105 : Int32), (110 : Int32), (103 : Int32), (115 : Int32), (47 : Int32), (nar .char (b &&& (255 : Int32))), (nar .char (((b.toUInt32 >>> ((8 : Int32) &&& 31).toUInt32).toInt32) &&& (255 : Int32))), (47 : Int32), (106 : Int32), (111 : Int32), (98 : Int32), (115 : Int32), (47 : Int32), (0 : Int32), (0 : Int32), (0 : Int32), (0 : Int32), (0 : Int32), (0 : Int32)] := F228
    refine Go.dup H at_417 rfl rfl ?_
    refine Go.bipush (18 : Int32) H at_418 rfl rfl ?_
    refine Go.bipush (110 : Int32) H at_420 rfl rfl ?_
    refine Go.castore (110 : Int32) H at_422 rfl F228 18 (by decide) (by decide) (Nat.le_of_ble_eq_true rfl) (by decide) z155 (by simp) ?_
    intro h229 K230 F231
    replace GA := GA.keep K230 (ninS ne158 nin0)
    replace SA := SA.keep K230 (ninS ne159 nin0) (ninS ne160 nin0)
    replace GB := GB.keep K230 (ninS ne161 nin0)
    replace SB := SB.keep K230 (ninS ne162 nin0) (ninS ne163 nin0)
    replace F35 := F35.keep K230 (ninS ne164 nin0)
    replace S40 := S40.keep K230 (ninS ne165 nin0) (ninS ne166 nin0)
    replace F88 := F88.keep K230 (ninS ne167 nin0)
    replace S93 := S93.keep K230 (ninS ne168 nin0) (ninS ne169 nin0)
    replace A110 := A110.keep K230
    replace F129 := F129.keep K230 (ninS ne170 nin0)
    replace S130 := S130.keep K230 (ninS ne171 nin0) (ninS ne172 nin0)
    replace S136 := S136.keep K230 (ninS ne173 nin0) (ninS ne174 nin0)
    replace F231 : Vec Z h229 a152 .char [(nar .char (a &&& (255 : Int32))), (nar .char (((a.toUInt32 >>> ((8 : Int32) &&& 31).toUInt32).toInt32) &&& (255 : Int32))), (47 : Int32), (116 : Int32), (104 : Int32), (105 : Int32), (110 : Int32), (103 : Int32), (115 : Int32), (47 : Int32), (nar .char (b &&& (255 : Int32))), (nar .char (((b.toUInt32 >>> ((8 : Int32) &&& 31).toUInt32).toInt32) &&& (255 : Int32))), (47 : Int32), (106 : Int32), (111 : Int32), (98 : Int32), (115 : Int32), (47 : Int32), (110 : Int32), (0 : Int32), (0 : Int32), (0 : Int32), (0 : Int32), (0 : Int32)] := F231
    refine Go.dup H at_423 rfl rfl ?_
    refine Go.bipush (19 : Int32) H at_424 rfl rfl ?_
    refine Go.bipush (111 : Int32) H at_426 rfl rfl ?_
    refine Go.castore (111 : Int32) H at_428 rfl F231 19 (by decide) (by decide) (Nat.le_of_ble_eq_true rfl) (by decide) z155 (by simp) ?_
    intro h232 K233 F234
    replace GA := GA.keep K233 (ninS ne158 nin0)
    replace SA := SA.keep K233 (ninS ne159 nin0) (ninS ne160 nin0)
    replace GB := GB.keep K233 (ninS ne161 nin0)
    replace SB := SB.keep K233 (ninS ne162 nin0) (ninS ne163 nin0)
    replace F35 := F35.keep K233 (ninS ne164 nin0)
    replace S40 := S40.keep K233 (ninS ne165 nin0) (ninS ne166 nin0)
    replace F88 := F88.keep K233 (ninS ne167 nin0)
    replace S93 := S93.keep K233 (ninS ne168 nin0) (ninS ne169 nin0)
    replace A110 := A110.keep K233
    replace F129 := F129.keep K233 (ninS ne170 nin0)
    replace S130 := S130.keep K233 (ninS ne171 nin0) (ninS ne172 nin0)
    replace S136 := S136.keep K233 (ninS ne173 nin0) (ninS ne174 nin0)
    replace F234 : Vec Z h232 a152 .char [(nar .char (a &&& (255 : Int32))), (nar .char (((a.toUInt32 >>> ((8 : Int32) &&& 31).toUInt32).toInt32) &&& (255 : Int32))), (47 : Int32), (116 : Int32), (104 : Int32), (105 : Int32), (110 : Int32), (103 : Int32), (115 : Int32), (47 : Int32), (nar .char (b &&& (255 : Int32))), (nar .char (((b.toUInt32 >>> ((8 : Int32) &&& 31).toUInt32).toInt32) &&& (255 : Int32))), (47 : Int32), (106 : Int32), (111 : Int32), (98 : Int32), (115 : Int32), (47 : Int32), (110 : Int32), (111 : Int32), (0 : Int32), (0 : Int32), (0 : Int32), (0 : Int32)] := F234
    refine Go.dup H at_429 rfl rfl ?_
    refine Go.bipush (20 : Int32) H at_430 rfl rfl ?_
    refine Go.bipush (116 : Int32) H at_432 rfl rfl ?_
    refine Go.castore (116 : Int32) H at_434 rfl F234 20 (by decide) (by decide) (Nat.le_of_ble_eq_true rfl) (by decide) z155 (by simp) ?_
    intro h235 K236 F237
    replace GA := GA.keep K236 (ninS ne158 nin0)
    replace SA := SA.keep K236 (ninS ne159 nin0) (ninS ne160 nin0)
    replace GB := GB.keep K236 (ninS ne161 nin0)
    replace SB := SB.keep K236 (ninS ne162 nin0) (ninS ne163 nin0)
    replace F35 := F35.keep K236 (ninS ne164 nin0)
    replace S40 := S40.keep K236 (ninS ne165 nin0) (ninS ne166 nin0)
    replace F88 := F88.keep K236 (ninS ne167 nin0)
    replace S93 := S93.keep K236 (ninS ne168 nin0) (ninS ne169 nin0)
    replace A110 := A110.keep K236
    replace F129 := F129.keep K236 (ninS ne170 nin0)
    replace S130 := S130.keep K236 (ninS ne171 nin0) (ninS ne172 nin0)
    replace S136 := S136.keep K236 (ninS ne173 nin0) (ninS ne174 nin0)
    replace F237 : Vec Z h235 a152 .char [(nar .char (a &&& (255 : Int32))), (nar .char (((a.toUInt32 >>> ((8 : Int32) &&& 31).toUInt32).toInt32) &&& (255 : Int32))), (47 : Int32), (116 : Int32), (104 : Int32), (105 : Int32), (110 : Int32), (103 : Int32), (115 : Int32), (47 : Int32), (nar .char (b &&& (255 : Int32))), (nar .char (((b.toUInt32 >>> ((8 : Int32) &&& 31).toUInt32).toInt32) &&& (255 : Int32))), (47 : Int32), (106 : Int32), (111 : Int32), (98 : Int32), (115 : Int32), (47 : Int32), (110 : Int32), (111 : Int32), (116 : Int32), (0 : Int32), (0 : Int32), (0 : Int32)] := F237
    refine Go.dup H at_435 rfl rfl ?_
    refine Go.bipush (21 : Int32) H at_436 rfl rfl ?_
    refine Go.bipush (105 : Int32) H at_438 rfl rfl ?_
    refine Go.castore (105 : Int32) H at_440 rfl F237 21 (by decide) (by decide) (Nat.le_of_ble_eq_true rfl) (by decide) z155 (by simp) ?_
    intro h238 K239 F240
    replace GA := GA.keep K239 (ninS ne158 nin0)
    replace SA := SA.keep K239 (ninS ne159 nin0) (ninS ne160 nin0)
    replace GB := GB.keep K239 (ninS ne161 nin0)
    replace SB := SB.keep K239 (ninS ne162 nin0) (ninS ne163 nin0)
    replace F35 := F35.keep K239 (ninS ne164 nin0)
    replace S40 := S40.keep K239 (ninS ne165 nin0) (ninS ne166 nin0)
    replace F88 := F88.keep K239 (ninS ne167 nin0)
    replace S93 := S93.keep K239 (ninS ne168 nin0) (ninS ne169 nin0)
    replace A110 := A110.keep K239
    replace F129 := F129.keep K239 (ninS ne170 nin0)
    replace S130 := S130.keep K239 (ninS ne171 nin0) (ninS ne172 nin0)
    replace S136 := S136.keep K239 (ninS ne173 nin0) (ninS ne174 nin0)
    replace F240 : Vec Z h238 a152 .char [(nar .char (a &&& (255 : Int32))), (nar .char (((a.toUInt32 >>> ((8 : Int32) &&& 31).toUInt32).toInt32) &&& (255 : Int32))), (47 : Int32), (116 : Int32), (104 : Int32), (105 : Int32), (110 : Int32), (103 : Int32), (115 : Int32), (47 : Int32), (nar .char (b &&& (255 : Int32))), (nar .char (((b.toUInt32 >>> ((8 : Int32) &&& 31).toUInt32).toInt32) &&& (255 : Int32))), (47 : Int32), (106 : Int32), (111 : Int32), (98 : Int32), (115 : Int32), (47 : Int32), (110 : Int32), (111 : Int32), (116 : Int32), (105 : Int32), (0 : Int32), (0 : Int32)] := F240
    refine Go.dup H at_441 rfl rfl ?_
    refine Go.bipush (22 : Int32) H at_442 rfl rfl ?_
    refine Go.bipush (102 : Int32) H at_444 rfl rfl ?_
    refine Go.castore (102 : Int32) H at_446 rfl F240 22 (by decide) (by decide) (Nat.le_of_ble_eq_true rfl) (by decide) z155 (by simp) ?_
    intro h241 K242 F243
    replace GA := GA.keep K242 (ninS ne158 nin0)
    replace SA := SA.keep K242 (ninS ne159 nin0) (ninS ne160 nin0)
    replace GB := GB.keep K242 (ninS ne161 nin0)
    replace SB := SB.keep K242 (ninS ne162 nin0) (ninS ne163 nin0)
    replace F35 := F35.keep K242 (ninS ne164 nin0)
    replace S40 := S40.keep K242 (ninS ne165 nin0) (ninS ne166 nin0)
    replace F88 := F88.keep K242 (ninS ne167 nin0)
    replace S93 := S93.keep K242 (ninS ne168 nin0) (ninS ne169 nin0)
    replace A110 := A110.keep K242
    replace F129 := F129.keep K242 (ninS ne170 nin0)
    replace S130 := S130.keep K242 (ninS ne171 nin0) (ninS ne172 nin0)
    replace S136 := S136.keep K242 (ninS ne173 nin0) (ninS ne174 nin0)
    replace F243 : Vec Z h241 a152 .char [(nar .char (a &&& (255 : Int32))), (nar .char (((a.toUInt32 >>> ((8 : Int32) &&& 31).toUInt32).toInt32) &&& (255 : Int32))), (47 : Int32), (116 : Int32), (104 : Int32), (105 : Int32), (110 : Int32), (103 : Int32), (115 : Int32), (47 : Int32), (nar .char (b &&& (255 : Int32))), (nar .char (((b.toUInt32 >>> ((8 : Int32) &&& 31).toUInt32).toInt32) &&& (255 : Int32))), (47 : Int32), (106 : Int32), (111 : Int32), (98 : Int32), (115 : Int32), (47 : Int32), (110 : Int32), (111 : Int32), (116 : Int32), (105 : Int32), (102 : Int32), (0 : Int32)] := F243
    refine Go.dup H at_447 rfl rfl ?_
    refine Go.bipush (23 : Int32) H at_448 rfl rfl ?_
    refine Go.bipush (121 : Int32) H at_450 rfl rfl ?_
    refine Go.castore (121 : Int32) H at_452 rfl F243 23 (by decide) (by decide) (Nat.le_of_ble_eq_true rfl) (by decide) z155 (by simp) ?_
    intro h244 K245 F246
    replace GA := GA.keep K245 (ninS ne158 nin0)
    replace SA := SA.keep K245 (ninS ne159 nin0) (ninS ne160 nin0)
    replace GB := GB.keep K245 (ninS ne161 nin0)
    replace SB := SB.keep K245 (ninS ne162 nin0) (ninS ne163 nin0)
    replace F35 := F35.keep K245 (ninS ne164 nin0)
    replace S40 := S40.keep K245 (ninS ne165 nin0) (ninS ne166 nin0)
    replace F88 := F88.keep K245 (ninS ne167 nin0)
    replace S93 := S93.keep K245 (ninS ne168 nin0) (ninS ne169 nin0)
    replace A110 := A110.keep K245
    replace F129 := F129.keep K245 (ninS ne170 nin0)
    replace S130 := S130.keep K245 (ninS ne171 nin0) (ninS ne172 nin0)
    replace S136 := S136.keep K245 (ninS ne173 nin0) (ninS ne174 nin0)
    replace F246 : Vec Z h244 a152 .char [(nar .char (a &&& (255 : Int32))), (nar .char (((a.toUInt32 >>> ((8 : Int32) &&& 31).toUInt32).toInt32) &&& (255 : Int32))), (47 : Int32), (116 : Int32), (104 : Int32), (105 : Int32), (110 : Int32), (103 : Int32), (115 : Int32), (47 : Int32), (nar .char (b &&& (255 : Int32))), (nar .char (((b.toUInt32 >>> ((8 : Int32) &&& 31).toUInt32).toInt32) &&& (255 : Int32))), (47 : Int32), (106 : Int32), (111 : Int32), (98 : Int32), (115 : Int32), (47 : Int32), (110 : Int32), (111 : Int32), (116 : Int32), (105 : Int32), (102 : Int32), (121 : Int32)] := F246
    refine Go.astore (ls' := #[.val (.int a), .val (.int b), .val (.int k), .val (.int (nar .char (a &&& (255 : Int32)))), .val (.int (nar .char (((a.toUInt32 >>> ((8 : Int32) &&& 31).toUInt32).toInt32) &&& (255 : Int32)))), .val (.int (nar .char (b &&& (255 : Int32)))), .val (.int (nar .char (((b.toUInt32 >>> ((8 : Int32) &&& 31).toUInt32).toInt32) &&& (255 : Int32)))), .val (.int (0 : Int32)), .val (.ref a2), .val (.ref a49), .val (.ref a105), .val (.ref pA), .val (.ref a131), .val (.ref a152)]) H at_453 rfl rfl rfl ?_
    refine Go.new H at_455 rfl w0 w1 w2 (by decide) (by decide) ?_
    intro a247 h248 g249 z250 E251 A252 D253
    have ne254 : pA ≠ a247 := Nat.ne_of_lt (Nat.lt_of_lt_of_le GA.lt (Nat.le_of_eq g249.symm))
    have ne255 : sA ≠ a247 := Nat.ne_of_lt (Nat.lt_of_lt_of_le SA.lt (Nat.le_of_eq g249.symm))
    have ne256 : bA ≠ a247 := Nat.ne_of_lt (Nat.lt_of_lt_of_le SA.ltb (Nat.le_of_eq g249.symm))
    have ne257 : pB ≠ a247 := Nat.ne_of_lt (Nat.lt_of_lt_of_le GB.lt (Nat.le_of_eq g249.symm))
    have ne258 : sB ≠ a247 := Nat.ne_of_lt (Nat.lt_of_lt_of_le SB.lt (Nat.le_of_eq g249.symm))
    have ne259 : bB ≠ a247 := Nat.ne_of_lt (Nat.lt_of_lt_of_le SB.ltb (Nat.le_of_eq g249.symm))
    have ne260 : a17 ≠ a247 := Nat.ne_of_lt (Nat.lt_of_lt_of_le F35.lt (Nat.le_of_eq g249.symm))
    have ne261 : a2 ≠ a247 := Nat.ne_of_lt (Nat.lt_of_lt_of_le S40.lt (Nat.le_of_eq g249.symm))
    have ne262 : b38 ≠ a247 := Nat.ne_of_lt (Nat.lt_of_lt_of_le S40.ltb (Nat.le_of_eq g249.symm))
    have ne263 : a67 ≠ a247 := Nat.ne_of_lt (Nat.lt_of_lt_of_le F88.lt (Nat.le_of_eq g249.symm))
    have ne264 : a49 ≠ a247 := Nat.ne_of_lt (Nat.lt_of_lt_of_le S93.lt (Nat.le_of_eq g249.symm))
    have ne265 : b91 ≠ a247 := Nat.ne_of_lt (Nat.lt_of_lt_of_le S93.ltb (Nat.le_of_eq g249.symm))
    have ne266 : a105 ≠ a247 := Nat.ne_of_lt (Nat.lt_of_lt_of_le A110.lt (Nat.le_of_eq g249.symm))
    have ne267 : r127 ≠ a247 := Nat.ne_of_lt (Nat.lt_of_lt_of_le S130.lt (Nat.le_of_eq g249.symm))
    have ne268 : rb128 ≠ a247 := Nat.ne_of_lt (Nat.lt_of_lt_of_le S130.ltb (Nat.le_of_eq g249.symm))
    have ne269 : a131 ≠ a247 := Nat.ne_of_lt (Nat.lt_of_lt_of_le S136.lt (Nat.le_of_eq g249.symm))
    have ne270 : b132 ≠ a247 := Nat.ne_of_lt (Nat.lt_of_lt_of_le S136.ltb (Nat.le_of_eq g249.symm))
    have ne271 : a152 ≠ a247 := Nat.ne_of_lt (Nat.lt_of_lt_of_le F246.lt (Nat.le_of_eq g249.symm))
    replace GA := GA.ext E251
    replace SA := SA.ext E251
    replace GB := GB.ext E251
    replace SB := SB.ext E251
    replace F35 := F35.ext E251
    replace S40 := S40.ext E251
    replace F88 := F88.ext E251
    replace S93 := S93.ext E251
    replace A110 := A110.ext E251
    replace F129 := F129.ext E251
    replace S130 := S130.ext E251
    replace S136 := S136.ext E251
    replace F246 := F246.ext E251
    have F272 : Fld Z h248 a247 "java/lang/String" "coder" "B" (.int (0 : Int32)) := D253 (Or.inr w27) (ty := .byte) (by decide)
    have F273 : Fld Z h248 a247 "java/lang/String" "value" "[B" .null := D253 (Or.inr w29) (ty := (.array .byte)) (by decide)
    show Go _ _ _ _ _ _ h248 [a247, a152, a105, a67, a49, a17, a2] 27 551 458 #[.val (.int a), .val (.int b), .val (.int k), .val (.int (nar .char (a &&& (255 : Int32)))), .val (.int (nar .char (((a.toUInt32 >>> ((8 : Int32) &&& 31).toUInt32).toInt32) &&& (255 : Int32)))), .val (.int (nar .char (b &&& (255 : Int32)))), .val (.int (nar .char (((b.toUInt32 >>> ((8 : Int32) &&& 31).toUInt32).toInt32) &&& (255 : Int32)))), .val (.int (0 : Int32)), .val (.ref a2), .val (.ref a49), .val (.ref a105), .val (.ref pA), .val (.ref a131), .val (.ref a152)] [(.ref a247)]
    refine Go.dup H at_458 rfl rfl ?_
    refine Go.aload H at_459 rfl rfl rfl ?_
    refine Go.callI (rest := [(.ref a247)]) 1 [(.ref a152)] H at_461 rfl rfl w4 w5 w2 w6 pd_N5 (ct_new1 l W a247 a152 [(nar .char (a &&& (255 : Int32))), (nar .char (((a.toUInt32 >>> ((8 : Int32) &&& 31).toUInt32).toInt32) &&& (255 : Int32))), (47 : Int32), (116 : Int32), (104 : Int32), (105 : Int32), (110 : Int32), (103 : Int32), (115 : Int32), (47 : Int32), (nar .char (b &&& (255 : Int32))), (nar .char (((b.toUInt32 >>> ((8 : Int32) &&& 31).toUInt32).toInt32) &&& (255 : Int32))), (47 : Int32), (106 : Int32), (111 : Int32), (98 : Int32), (115 : Int32), (47 : Int32), (110 : Int32), (111 : Int32), (116 : Int32), (105 : Int32), (102 : Int32), (121 : Int32)] h248 A252 F273 F272  F246 (own_ac (own_and255 _) (own_ac (own_and255 _) (own_ac (show isL (47 : Int32) from ⟨by decide, by decide⟩) (own_ac (show isL (116 : Int32) from ⟨by decide, by decide⟩) (own_ac (show isL (104 : Int32) from ⟨by decide, by decide⟩) (own_ac (show isL (105 : Int32) from ⟨by decide, by decide⟩) (own_ac (show isL (110 : Int32) from ⟨by decide, by decide⟩) (own_ac (show isL (103 : Int32) from ⟨by decide, by decide⟩) (own_ac (show isL (115 : Int32) from ⟨by decide, by decide⟩) (own_ac (show isL (47 : Int32) from ⟨by decide, by decide⟩) (own_ac (own_and255 _) (own_ac (own_and255 _) (own_ac (show isL (47 : Int32) from ⟨by decide, by decide⟩) (own_ac (show isL (106 : Int32) from ⟨by decide, by decide⟩) (own_ac (show isL (111 : Int32) from ⟨by decide, by decide⟩) (own_ac (show isL (98 : Int32) from ⟨by decide, by decide⟩) (own_ac (show isL (115 : Int32) from ⟨by decide, by decide⟩) (own_ac (show isL (47 : Int32) from ⟨by decide, by decide⟩) (own_ac (show isL (110 : Int32) from ⟨by decide, by decide⟩) (own_ac (show isL (111 : Int32) from ⟨by decide, by decide⟩) (own_ac (show isL (116 : Int32) from ⟨by decide, by decide⟩) (own_ac (show isL (105 : Int32) from ⟨by decide, by decide⟩) (own_ac (show isL (102 : Int32) from ⟨by decide, by decide⟩) (own_ac (show isL (121 : Int32) from ⟨by decide, by decide⟩) own_an)))))))))))))))))))))))) (Nat.le_of_ble_eq_true rfl) (Nat.le_of_ble_eq_true rfl) z250) (by simp) rfl rfl rfl (Nat.le_of_eq rfl) (by decide) (by decide) (by decide) (by decide) nh_N4 ?_
    rintro _ h274 _ ⟨rfl, K275, ⟨b276, g277, S278⟩, rfl⟩
    have ne279 : pA ≠ b276 := Nat.ne_of_lt (Nat.lt_of_lt_of_le GA.lt g277)
    have ne280 : sA ≠ b276 := Nat.ne_of_lt (Nat.lt_of_lt_of_le SA.lt g277)
    have ne281 : bA ≠ b276 := Nat.ne_of_lt (Nat.lt_of_lt_of_le SA.ltb g277)
    have ne282 : pB ≠ b276 := Nat.ne_of_lt (Nat.lt_of_lt_of_le GB.lt g277)
    have ne283 : sB ≠ b276 := Nat.ne_of_lt (Nat.lt_of_lt_of_le SB.lt g277)
    have ne284 : bB ≠ b276 := Nat.ne_of_lt (Nat.lt_of_lt_of_le SB.ltb g277)
    have ne285 : a17 ≠ b276 := Nat.ne_of_lt (Nat.lt_of_lt_of_le F35.lt g277)
    have ne286 : a2 ≠ b276 := Nat.ne_of_lt (Nat.lt_of_lt_of_le S40.lt g277)
    have ne287 : b38 ≠ b276 := Nat.ne_of_lt (Nat.lt_of_lt_of_le S40.ltb g277)
    have ne288 : a67 ≠ b276 := Nat.ne_of_lt (Nat.lt_of_lt_of_le F88.lt g277)
    have ne289 : a49 ≠ b276 := Nat.ne_of_lt (Nat.lt_of_lt_of_le S93.lt g277)
    have ne290 : b91 ≠ b276 := Nat.ne_of_lt (Nat.lt_of_lt_of_le S93.ltb g277)
    have ne291 : a105 ≠ b276 := Nat.ne_of_lt (Nat.lt_of_lt_of_le A110.lt g277)
    have ne292 : r127 ≠ b276 := Nat.ne_of_lt (Nat.lt_of_lt_of_le S130.lt g277)
    have ne293 : rb128 ≠ b276 := Nat.ne_of_lt (Nat.lt_of_lt_of_le S130.ltb g277)
    have ne294 : a131 ≠ b276 := Nat.ne_of_lt (Nat.lt_of_lt_of_le S136.lt g277)
    have ne295 : b132 ≠ b276 := Nat.ne_of_lt (Nat.lt_of_lt_of_le S136.ltb g277)
    have ne296 : a152 ≠ b276 := Nat.ne_of_lt (Nat.lt_of_lt_of_le F246.lt g277)
    have ne297 : a247 ≠ b276 := Nat.ne_of_lt (Nat.lt_of_lt_of_le A252.lt g277)
    replace GA := GA.keep K275 (ninS ne254 nin0)
    replace SA := SA.keep K275 (ninS ne255 nin0) (ninS ne256 nin0)
    replace GB := GB.keep K275 (ninS ne257 nin0)
    replace SB := SB.keep K275 (ninS ne258 nin0) (ninS ne259 nin0)
    replace F35 := F35.keep K275 (ninS ne260 nin0)
    replace S40 := S40.keep K275 (ninS ne261 nin0) (ninS ne262 nin0)
    replace F88 := F88.keep K275 (ninS ne263 nin0)
    replace S93 := S93.keep K275 (ninS ne264 nin0) (ninS ne265 nin0)
    replace A110 := A110.keep K275
    replace F129 := F129.keep K275 (ninS ne266 nin0)
    replace S130 := S130.keep K275 (ninS ne267 nin0) (ninS ne268 nin0)
    replace S136 := S136.keep K275 (ninS ne269 nin0) (ninS ne270 nin0)
    replace F246 := F246.keep K275 (ninS ne271 nin0)
    show Go _ _ _ _ _ _ h274 [a247, a152, a105, a67, a49, a17, a2] 28 580 464 #[.val (.int a), .val (.int b), .val (.int k), .val (.int (nar .char (a &&& (255 : Int32)))), .val (.int (nar .char (((a.toUInt32 >>> ((8 : Int32) &&& 31).toUInt32).toInt32) &&& (255 : Int32)))), .val (.int (nar .char (b &&& (255 : Int32)))), .val (.int (nar .char (((b.toUInt32 >>> ((8 : Int32) &&& 31).toUInt32).toInt32) &&& (255 : Int32)))), .val (.int (0 : Int32)), .val (.ref a2), .val (.ref a49), .val (.ref a105), .val (.ref pA), .val (.ref a131), .val (.ref a152)] [(.ref a247)]
    refine Go.aload H at_464 rfl rfl rfl ?_
    refine Go.callV (rest := []) 0 [(.ref a131)] H at_466 rfl S278.1 w180 w181 w183 w182 w2 w184 pd_N9 (ct_eq l W a247 b276 a131 b132 [(nar .char (a &&& (255 : Int32))), (nar .char (((a.toUInt32 >>> ((8 : Int32) &&& 31).toUInt32).toInt32) &&& (255 : Int32))), (47 : Int32), (116 : Int32), (104 : Int32), (105 : Int32), (110 : Int32), (103 : Int32), (115 : Int32), (47 : Int32), (nar .char (b &&& (255 : Int32))), (nar .char (((b.toUInt32 >>> ((8 : Int32) &&& 31).toUInt32).toInt32) &&& (255 : Int32))), (47 : Int32), (106 : Int32), (111 : Int32), (98 : Int32), (115 : Int32), (47 : Int32), (110 : Int32), (111 : Int32), (116 : Int32), (105 : Int32), (102 : Int32), (121 : Int32)] (((([(nar .char (a &&& (255 : Int32))), (nar .char (((a.toUInt32 >>> ((8 : Int32) &&& 31).toUInt32).toInt32) &&& (255 : Int32)))] ++ [(47 : Int32), (116 : Int32), (104 : Int32), (105 : Int32), (110 : Int32), (103 : Int32), (115 : Int32), (47 : Int32)]) ++ [(nar .char (b &&& (255 : Int32))), (nar .char (((b.toUInt32 >>> ((8 : Int32) &&& 31).toUInt32).toInt32) &&& (255 : Int32)))]) ++ [(47 : Int32), (106 : Int32), (111 : Int32), (98 : Int32), (115 : Int32), (47 : Int32)]) ++ [(110 : Int32), (111 : Int32), (116 : Int32), (105 : Int32), (102 : Int32), (121 : Int32)]) h274 S278 S136) all0 rfl rfl rfl (Nat.le_of_eq rfl) (by decide) (by decide) (by decide) (by decide) nh_N4 ?_
    rintro _ _ _ ⟨rfl, rfl, rfl⟩
    show Go _ _ _ _ _ _ h274 [a247, a152, a105, a67, a49, a17, a2] 28 580 469 #[.val (.int a), .val (.int b), .val (.int k), .val (.int (nar .char (a &&& (255 : Int32)))), .val (.int (nar .char (((a.toUInt32 >>> ((8 : Int32) &&& 31).toUInt32).toInt32) &&& (255 : Int32)))), .val (.int (nar .char (b &&& (255 : Int32)))), .val (.int (nar .char (((b.toUInt32 >>> ((8 : Int32) &&& 31).toUInt32).toInt32) &&& (255 : Int32)))), .val (.int (0 : Int32)), .val (.ref a2), .val (.ref a49), .val (.ref a105), .val (.ref pA), .val (.ref a131), .val (.ref a152)] [(.int (if [(nar .char (a &&& (255 : Int32))), (nar .char (((a.toUInt32 >>> ((8 : Int32) &&& 31).toUInt32).toInt32) &&& (255 : Int32))), (47 : Int32), (116 : Int32), (104 : Int32), (105 : Int32), (110 : Int32), (103 : Int32), (115 : Int32), (47 : Int32), (nar .char (b &&& (255 : Int32))), (nar .char (((b.toUInt32 >>> ((8 : Int32) &&& 31).toUInt32).toInt32) &&& (255 : Int32))), (47 : Int32), (106 : Int32), (111 : Int32), (98 : Int32), (115 : Int32), (47 : Int32), (110 : Int32), (111 : Int32), (116 : Int32), (105 : Int32), (102 : Int32), (121 : Int32)] = (((([(nar .char (a &&& (255 : Int32))), (nar .char (((a.toUInt32 >>> ((8 : Int32) &&& 31).toUInt32).toInt32) &&& (255 : Int32)))] ++ [(47 : Int32), (116 : Int32), (104 : Int32), (105 : Int32), (110 : Int32), (103 : Int32), (115 : Int32), (47 : Int32)]) ++ [(nar .char (b &&& (255 : Int32))), (nar .char (((b.toUInt32 >>> ((8 : Int32) &&& 31).toUInt32).toInt32) &&& (255 : Int32)))]) ++ [(47 : Int32), (106 : Int32), (111 : Int32), (98 : Int32), (115 : Int32), (47 : Int32)]) ++ [(110 : Int32), (111 : Int32), (116 : Int32), (105 : Int32), (102 : Int32), (121 : Int32)]) then (1 : Int32) else 0))]
    exact Go.ireturn 1 [] H at_469 (by simp) (by rw [if_pos (by rfl)]; decide) ⟨rfl, trivial⟩ all0 (by decide) (by decide)
  ·
    refine Go.ifN H at_40 (feq c1).1 rfl ?_
    refine Go.iconst (1 : Int32) H at_43 rfl rfl ?_
    refine Go.goto (pc' := 48) H at_44 (by decide) (by decide) ?_
    refine Go.istore (ls' := #[.val (.int a), .val (.int b), .val (.int k), .val (.int (nar .char (a &&& (255 : Int32)))), .val (.int (nar .char (((a.toUInt32 >>> ((8 : Int32) &&& 31).toUInt32).toInt32) &&& (255 : Int32)))), .val (.int (nar .char (b &&& (255 : Int32)))), .val (.int (nar .char (((b.toUInt32 >>> ((8 : Int32) &&& 31).toUInt32).toInt32) &&& (255 : Int32)))), .val (.int (1 : Int32)), .unset, .unset, .unset, .unset, .unset, .unset]) H at_48 rfl rfl ?_
    refine Go.new H at_50 rfl w0 w1 w2 (by decide) (by decide) ?_
    intro a298 h299 g300 z301 E302 A303 D304
    have ne305 : pA ≠ a298 := Nat.ne_of_lt (Nat.lt_of_lt_of_le GA.lt (Nat.le_of_eq g300.symm))
    have ne306 : sA ≠ a298 := Nat.ne_of_lt (Nat.lt_of_lt_of_le SA.lt (Nat.le_of_eq g300.symm))
    have ne307 : bA ≠ a298 := Nat.ne_of_lt (Nat.lt_of_lt_of_le SA.ltb (Nat.le_of_eq g300.symm))
    have ne308 : pB ≠ a298 := Nat.ne_of_lt (Nat.lt_of_lt_of_le GB.lt (Nat.le_of_eq g300.symm))
    have ne309 : sB ≠ a298 := Nat.ne_of_lt (Nat.lt_of_lt_of_le SB.lt (Nat.le_of_eq g300.symm))
    have ne310 : bB ≠ a298 := Nat.ne_of_lt (Nat.lt_of_lt_of_le SB.ltb (Nat.le_of_eq g300.symm))
    replace GA := GA.ext E302
    replace SA := SA.ext E302
    replace GB := GB.ext E302
    replace SB := SB.ext E302
    have F311 : Fld Z h299 a298 "java/lang/String" "coder" "B" (.int (0 : Int32)) := D304 (Or.inr w27) (ty := .byte) (by decide)
    have F312 : Fld Z h299 a298 "java/lang/String" "value" "[B" .null := D304 (Or.inr w29) (ty := (.array .byte)) (by decide)
    show Go _ _ _ _ _ _ h299 [a298] 1 4 53 #[.val (.int a), .val (.int b), .val (.int k), .val (.int (nar .char (a &&& (255 : Int32)))), .val (.int (nar .char (((a.toUInt32 >>> ((8 : Int32) &&& 31).toUInt32).toInt32) &&& (255 : Int32)))), .val (.int (nar .char (b &&& (255 : Int32)))), .val (.int (nar .char (((b.toUInt32 >>> ((8 : Int32) &&& 31).toUInt32).toInt32) &&& (255 : Int32)))), .val (.int (1 : Int32)), .unset, .unset, .unset, .unset, .unset, .unset] [(.ref a298)]
    refine Go.dup H at_53 rfl rfl ?_
    refine Go.iconst (2 : Int32) H at_54 rfl rfl ?_
    refine Go.newarray 2 2 H at_55 rfl w3 rfl (by decide) (by decide) (by decide) (by decide) (by decide) (by decide) (by decide) ?_
    intro a313 h314 g315 z316 E317 F318
    have ne319 : pA ≠ a313 := Nat.ne_of_lt (Nat.lt_of_lt_of_le GA.lt (Nat.le_of_eq g315.symm))
    have ne320 : sA ≠ a313 := Nat.ne_of_lt (Nat.lt_of_lt_of_le SA.lt (Nat.le_of_eq g315.symm))
    have ne321 : bA ≠ a313 := Nat.ne_of_lt (Nat.lt_of_lt_of_le SA.ltb (Nat.le_of_eq g315.symm))
    have ne322 : pB ≠ a313 := Nat.ne_of_lt (Nat.lt_of_lt_of_le GB.lt (Nat.le_of_eq g315.symm))
    have ne323 : sB ≠ a313 := Nat.ne_of_lt (Nat.lt_of_lt_of_le SB.lt (Nat.le_of_eq g315.symm))
    have ne324 : bB ≠ a313 := Nat.ne_of_lt (Nat.lt_of_lt_of_le SB.ltb (Nat.le_of_eq g315.symm))
    have ne325 : a298 ≠ a313 := Nat.ne_of_lt (Nat.lt_of_lt_of_le A303.lt (Nat.le_of_eq g315.symm))
    replace GA := GA.ext E317
    replace SA := SA.ext E317
    replace GB := GB.ext E317
    replace SB := SB.ext E317
    replace A303 := A303.ext E317
    replace F311 := F311.ext E317
    replace F312 := F312.ext E317
    replace F318 : Vec Z h314 a313 .char [(0 : Int32), (0 : Int32)] := F318
    show Go _ _ _ _ _ _ h314 [a313, a298] 2 6 57 #[.val (.int a), .val (.int b), .val (.int k), .val (.int (nar .char (a &&& (255 : Int32)))), .val (.int (nar .char (((a.toUInt32 >>> ((8 : Int32) &&& 31).toUInt32).toInt32) &&& (255 : Int32)))), .val (.int (nar .char (b &&& (255 : Int32)))), .val (.int (nar .char (((b.toUInt32 >>> ((8 : Int32) &&& 31).toUInt32).toInt32) &&& (255 : Int32)))), .val (.int (1 : Int32)), .unset, .unset, .unset, .unset, .unset, .unset] [(.ref a313), (.ref a298), (.ref a298)]
    refine Go.dup H at_57 rfl rfl ?_
    refine Go.iconst (0 : Int32) H at_58 rfl rfl ?_
    refine Go.iloadN H at_59 rfl rfl ?_
    refine Go.castore (nar .char (a &&& (255 : Int32))) H at_60 rfl F318 0 (by decide) (by decide) (Nat.le_of_ble_eq_true rfl) own_nn z316 (by simp) ?_
    intro h326 K327 F328
    replace GA := GA.keep K327 (ninS ne319 nin0)
    replace SA := SA.keep K327 (ninS ne320 nin0) (ninS ne321 nin0)
    replace GB := GB.keep K327 (ninS ne322 nin0)
    replace SB := SB.keep K327 (ninS ne323 nin0) (ninS ne324 nin0)
    replace A303 := A303.keep K327
    replace F311 := F311.keep K327 (ninS ne325 nin0)
    replace F312 := F312.keep K327 (ninS ne325 nin0)
    replace F328 : Vec Z h326 a313 .char [(nar .char (a &&& (255 : Int32))), (0 : Int32)] := F328
    refine Go.dup H at_61 rfl rfl ?_
    refine Go.iconst (1 : Int32) H at_62 rfl rfl ?_
    refine Go.iload H at_63 rfl rfl ?_
    refine Go.castore (nar .char (((a.toUInt32 >>> ((8 : Int32) &&& 31).toUInt32).toInt32) &&& (255 : Int32))) H at_65 rfl F328 1 (by decide) (by decide) (Nat.le_of_ble_eq_true rfl) own_nn z316 (by simp) ?_
    intro h329 K330 F331
    replace GA := GA.keep K330 (ninS ne319 nin0)
    replace SA := SA.keep K330 (ninS ne320 nin0) (ninS ne321 nin0)
    replace GB := GB.keep K330 (ninS ne322 nin0)
    replace SB := SB.keep K330 (ninS ne323 nin0) (ninS ne324 nin0)
    replace A303 := A303.keep K330
    replace F311 := F311.keep K330 (ninS ne325 nin0)
    replace F312 := F312.keep K330 (ninS ne325 nin0)
    replace F331 : Vec Z h329 a313 .char [(nar .char (a &&& (255 : Int32))), (nar .char (((a.toUInt32 >>> ((8 : Int32) &&& 31).toUInt32).toInt32) &&& (255 : Int32)))] := F331
    refine Go.callI (rest := [(.ref a298)]) 1 [(.ref a313)] H at_66 rfl rfl w4 w5 w2 w6 pd_N5 (ct_new1 l W a298 a313 [(nar .char (a &&& (255 : Int32))), (nar .char (((a.toUInt32 >>> ((8 : Int32) &&& 31).toUInt32).toInt32) &&& (255 : Int32)))] h329 A303 F312 F311  F331 (own_ac (own_and255 _) (own_ac (own_and255 _) own_an)) (Nat.le_of_ble_eq_true rfl) (Nat.le_of_ble_eq_true rfl) z301) (by simp) rfl rfl rfl (Nat.le_of_eq rfl) (by decide) (by decide) (by decide) (by decide) nh_N4 ?_
    rintro _ h332 _ ⟨rfl, K333, ⟨b334, g335, S336⟩, rfl⟩
    have ne337 : pA ≠ b334 := Nat.ne_of_lt (Nat.lt_of_lt_of_le GA.lt g335)
    have ne338 : sA ≠ b334 := Nat.ne_of_lt (Nat.lt_of_lt_of_le SA.lt g335)
    have ne339 : bA ≠ b334 := Nat.ne_of_lt (Nat.lt_of_lt_of_le SA.ltb g335)
    have ne340 : pB ≠ b334 := Nat.ne_of_lt (Nat.lt_of_lt_of_le GB.lt g335)
    have ne341 : sB ≠ b334 := Nat.ne_of_lt (Nat.lt_of_lt_of_le SB.lt g335)
    have ne342 : bB ≠ b334 := Nat.ne_of_lt (Nat.lt_of_lt_of_le SB.ltb g335)
    have ne343 : a298 ≠ b334 := Nat.ne_of_lt (Nat.lt_of_lt_of_le A303.lt g335)
    have ne344 : a313 ≠ b334 := Nat.ne_of_lt (Nat.lt_of_lt_of_le F331.lt g335)
    replace GA := GA.keep K333 (ninS ne305 nin0)
    replace SA := SA.keep K333 (ninS ne306 nin0) (ninS ne307 nin0)
    replace GB := GB.keep K333 (ninS ne308 nin0)
    replace SB := SB.keep K333 (ninS ne309 nin0) (ninS ne310 nin0)
    replace F331 := F331.keep K333 (ninS (Ne.symm ne325) nin0)
    show Go _ _ _ _ _ _ h332 [a313, a298] 3 35 69 #[.val (.int a), .val (.int b), .val (.int k), .val (.int (nar .char (a &&& (255 : Int32)))), .val (.int (nar .char (((a.toUInt32 >>> ((8 : Int32) &&& 31).toUInt32).toInt32) &&& (255 : Int32)))), .val (.int (nar .char (b &&& (255 : Int32)))), .val (.int (nar .char (((b.toUInt32 >>> ((8 : Int32) &&& 31).toUInt32).toInt32) &&& (255 : Int32)))), .val (.int (1 : Int32)), .unset, .unset, .unset, .unset, .unset, .unset] [(.ref a298)]
    refine Go.astore (ls' := #[.val (.int a), .val (.int b), .val (.int k), .val (.int (nar .char (a &&& (255 : Int32)))), .val (.int (nar .char (((a.toUInt32 >>> ((8 : Int32) &&& 31).toUInt32).toInt32) &&& (255 : Int32)))), .val (.int (nar .char (b &&& (255 : Int32)))), .val (.int (nar .char (((b.toUInt32 >>> ((8 : Int32) &&& 31).toUInt32).toInt32) &&& (255 : Int32)))), .val (.int (1 : Int32)), .val (.ref a298), .unset, .unset, .unset, .unset, .unset]) H at_69 rfl rfl rfl ?_
    refine Go.new H at_71 rfl w0 w1 w2 (by decide) (by decide) ?_
    intro a345 h346 g347 z348 E349 A350 D351
    have ne352 : pA ≠ a345 := Nat.ne_of_lt (Nat.lt_of_lt_of_le GA.lt (Nat.le_of_eq g347.symm))
    have ne353 : sA ≠ a345 := Nat.ne_of_lt (Nat.lt_of_lt_of_le SA.lt (Nat.le_of_eq g347.symm))
    have ne354 : bA ≠ a345 := Nat.ne_of_lt (Nat.lt_of_lt_of_le SA.ltb (Nat.le_of_eq g347.symm))
    have ne355 : pB ≠ a345 := Nat.ne_of_lt (Nat.lt_of_lt_of_le GB.lt (Nat.le_of_eq g347.symm))
    have ne356 : sB ≠ a345 := Nat.ne_of_lt (Nat.lt_of_lt_of_le SB.lt (Nat.le_of_eq g347.symm))
    have ne357 : bB ≠ a345 := Nat.ne_of_lt (Nat.lt_of_lt_of_le SB.ltb (Nat.le_of_eq g347.symm))
    have ne358 : a313 ≠ a345 := Nat.ne_of_lt (Nat.lt_of_lt_of_le F331.lt (Nat.le_of_eq g347.symm))
    have ne359 : a298 ≠ a345 := Nat.ne_of_lt (Nat.lt_of_lt_of_le S336.lt (Nat.le_of_eq g347.symm))
    have ne360 : b334 ≠ a345 := Nat.ne_of_lt (Nat.lt_of_lt_of_le S336.ltb (Nat.le_of_eq g347.symm))
    replace GA := GA.ext E349
    replace SA := SA.ext E349
    replace GB := GB.ext E349
    replace SB := SB.ext E349
    replace F331 := F331.ext E349
    replace S336 := S336.ext E349
    have F361 : Fld Z h346 a345 "java/lang/String" "coder" "B" (.int (0 : Int32)) := D351 (Or.inr w27) (ty := .byte) (by decide)
    have F362 : Fld Z h346 a345 "java/lang/String" "value" "[B" .null := D351 (Or.inr w29) (ty := (.array .byte)) (by decide)
    show Go _ _ _ _ _ _ h346 [a345, a313, a298] 4 39 74 #[.val (.int a), .val (.int b), .val (.int k), .val (.int (nar .char (a &&& (255 : Int32)))), .val (.int (nar .char (((a.toUInt32 >>> ((8 : Int32) &&& 31).toUInt32).toInt32) &&& (255 : Int32)))), .val (.int (nar .char (b &&& (255 : Int32)))), .val (.int (nar .char (((b.toUInt32 >>> ((8 : Int32) &&& 31).toUInt32).toInt32) &&& (255 : Int32)))), .val (.int (1 : Int32)), .val (.ref a298), .unset, .unset, .unset, .unset, .unset] [(.ref a345)]
    refine Go.dup H at_74 rfl rfl ?_
    refine Go.iconst (2 : Int32) H at_75 rfl rfl ?_
    refine Go.newarray 2 2 H at_76 rfl w3 rfl (by decide) (by decide) (by decide) (by decide) (by decide) (by decide) (by decide) ?_
    intro a363 h364 g365 z366 E367 F368
    have ne369 : pA ≠ a363 := Nat.ne_of_lt (Nat.lt_of_lt_of_le GA.lt (Nat.le_of_eq g365.symm))
    have ne370 : sA ≠ a363 := Nat.ne_of_lt (Nat.lt_of_lt_of_le SA.lt (Nat.le_of_eq g365.symm))
    have ne371 : bA ≠ a363 := Nat.ne_of_lt (Nat.lt_of_lt_of_le SA.ltb (Nat.le_of_eq g365.symm))
    have ne372 : pB ≠ a363 := Nat.ne_of_lt (Nat.lt_of_lt_of_le GB.lt (Nat.le_of_eq g365.symm))
    have ne373 : sB ≠ a363 := Nat.ne_of_lt (Nat.lt_of_lt_of_le SB.lt (Nat.le_of_eq g365.symm))
    have ne374 : bB ≠ a363 := Nat.ne_of_lt (Nat.lt_of_lt_of_le SB.ltb (Nat.le_of_eq g365.symm))
    have ne375 : a313 ≠ a363 := Nat.ne_of_lt (Nat.lt_of_lt_of_le F331.lt (Nat.le_of_eq g365.symm))
    have ne376 : a298 ≠ a363 := Nat.ne_of_lt (Nat.lt_of_lt_of_le S336.lt (Nat.le_of_eq g365.symm))
    have ne377 : b334 ≠ a363 := Nat.ne_of_lt (Nat.lt_of_lt_of_le S336.ltb (Nat.le_of_eq g365.symm))
    have ne378 : a345 ≠ a363 := Nat.ne_of_lt (Nat.lt_of_lt_of_le A350.lt (Nat.le_of_eq g365.symm))
    replace GA := GA.ext E367
    replace SA := SA.ext E367
    replace GB := GB.ext E367
    replace SB := SB.ext E367
    replace F331 := F331.ext E367
    replace S336 := S336.ext E367
    replace A350 := A350.ext E367
    replace F361 := F361.ext E367
    replace F362 := F362.ext E367
    replace F368 : Vec Z h364 a363 .char [(0 : Int32), (0 : Int32)] := F368
    show Go _ _ _ _ _ _ h364 [a363, a345, a313, a298] 5 41 78 #[.val (.int a), .val (.int b), .val (.int k), .val (.int (nar .char (a &&& (255 : Int32)))), .val (.int (nar .char (((a.toUInt32 >>> ((8 : Int32) &&& 31).toUInt32).toInt32) &&& (255 : Int32)))), .val (.int (nar .char (b &&& (255 : Int32)))), .val (.int (nar .char (((b.toUInt32 >>> ((8 : Int32) &&& 31).toUInt32).toInt32) &&& (255 : Int32)))), .val (.int (1 : Int32)), .val (.ref a298), .unset, .unset, .unset, .unset, .unset] [(.ref a363), (.ref a345), (.ref a345)]
    refine Go.dup H at_78 rfl rfl ?_
    refine Go.iconst (0 : Int32) H at_79 rfl rfl ?_
    refine Go.iload H at_80 rfl rfl ?_
    refine Go.castore (nar .char (b &&& (255 : Int32))) H at_82 rfl F368 0 (by decide) (by decide) (Nat.le_of_ble_eq_true rfl) own_nn z366 (by simp) ?_
    intro h379 K380 F381
    replace GA := GA.keep K380 (ninS ne369 nin0)
    replace SA := SA.keep K380 (ninS ne370 nin0) (ninS ne371 nin0)
    replace GB := GB.keep K380 (ninS ne372 nin0)
    replace SB := SB.keep K380 (ninS ne373 nin0) (ninS ne374 nin0)
    replace F331 := F331.keep K380 (ninS ne375 nin0)
    replace S336 := S336.keep K380 (ninS ne376 nin0) (ninS ne377 nin0)
    replace A350 := A350.keep K380
    replace F361 := F361.keep K380 (ninS ne378 nin0)
    replace F362 := F362.keep K380 (ninS ne378 nin0)
    replace F381 : Vec Z h379 a363 .char [(nar .char (b &&& (255 : Int32))), (0 : Int32)] := F381
    refine Go.dup H at_83 rfl rfl ?_
    refine Go.iconst (1 : Int32) H at_84 rfl rfl ?_
    refine Go.iload H at_85 rfl rfl ?_
    refine Go.castore (nar .char (((b.toUInt32 >>> ((8 : Int32) &&& 31).toUInt32).toInt32) &&& (255 : Int32))) H at_87 rfl F381 1 (by decide) (by decide) (Nat.le_of_ble_eq_true rfl) own_nn z366 (by simp) ?_
    intro h382 K383 F384
    replace GA := GA.keep K383 (ninS ne369 nin0)
    replace SA := SA.keep K383 (ninS ne370 nin0) (ninS ne371 nin0)
    replace GB := GB.keep K383 (ninS ne372 nin0)
    replace SB := SB.keep K383 (ninS ne373 nin0) (ninS ne374 nin0)
    replace F331 := F331.keep K383 (ninS ne375 nin0)
    replace S336 := S336.keep K383 (ninS ne376 nin0) (ninS ne377 nin0)
    replace A350 := A350.keep K383
    replace F361 := F361.keep K383 (ninS ne378 nin0)
    replace F362 := F362.keep K383 (ninS ne378 nin0)
    replace F384 : Vec Z h382 a363 .char [(nar .char (b &&& (255 : Int32))), (nar .char (((b.toUInt32 >>> ((8 : Int32) &&& 31).toUInt32).toInt32) &&& (255 : Int32)))] := F384
    refine Go.callI (rest := [(.ref a345)]) 1 [(.ref a363)] H at_88 rfl rfl w4 w5 w2 w6 pd_N5 (ct_new1 l W a345 a363 [(nar .char (b &&& (255 : Int32))), (nar .char (((b.toUInt32 >>> ((8 : Int32) &&& 31).toUInt32).toInt32) &&& (255 : Int32)))] h382 A350 F362 F361  F384 (own_ac (own_and255 _) (own_ac (own_and255 _) own_an)) (Nat.le_of_ble_eq_true rfl) (Nat.le_of_ble_eq_true rfl) z348) (by simp) rfl rfl rfl (Nat.le_of_eq rfl) (by decide) (by decide) (by decide) (by decide) nh_N4 ?_
    rintro _ h385 _ ⟨rfl, K386, ⟨b387, g388, S389⟩, rfl⟩
    have ne390 : pA ≠ b387 := Nat.ne_of_lt (Nat.lt_of_lt_of_le GA.lt g388)
    have ne391 : sA ≠ b387 := Nat.ne_of_lt (Nat.lt_of_lt_of_le SA.lt g388)
    have ne392 : bA ≠ b387 := Nat.ne_of_lt (Nat.lt_of_lt_of_le SA.ltb g388)
    have ne393 : pB ≠ b387 := Nat.ne_of_lt (Nat.lt_of_lt_of_le GB.lt g388)
    have ne394 : sB ≠ b387 := Nat.ne_of_lt (Nat.lt_of_lt_of_le SB.lt g388)
    have ne395 : bB ≠ b387 := Nat.ne_of_lt (Nat.lt_of_lt_of_le SB.ltb g388)
    have ne396 : a313 ≠ b387 := Nat.ne_of_lt (Nat.lt_of_lt_of_le F331.lt g388)
    have ne397 : a298 ≠ b387 := Nat.ne_of_lt (Nat.lt_of_lt_of_le S336.lt g388)
    have ne398 : b334 ≠ b387 := Nat.ne_of_lt (Nat.lt_of_lt_of_le S336.ltb g388)
    have ne399 : a345 ≠ b387 := Nat.ne_of_lt (Nat.lt_of_lt_of_le A350.lt g388)
    have ne400 : a363 ≠ b387 := Nat.ne_of_lt (Nat.lt_of_lt_of_le F384.lt g388)
    replace GA := GA.keep K386 (ninS ne352 nin0)
    replace SA := SA.keep K386 (ninS ne353 nin0) (ninS ne354 nin0)
    replace GB := GB.keep K386 (ninS ne355 nin0)
    replace SB := SB.keep K386 (ninS ne356 nin0) (ninS ne357 nin0)
    replace F331 := F331.keep K386 (ninS ne358 nin0)
    replace S336 := S336.keep K386 (ninS ne359 nin0) (ninS ne360 nin0)
    replace F384 := F384.keep K386 (ninS (Ne.symm ne378) nin0)
    show Go _ _ _ _ _ _ h385 [a363, a345, a313, a298] 6 70 91 #[.val (.int a), .val (.int b), .val (.int k), .val (.int (nar .char (a &&& (255 : Int32)))), .val (.int (nar .char (((a.toUInt32 >>> ((8 : Int32) &&& 31).toUInt32).toInt32) &&& (255 : Int32)))), .val (.int (nar .char (b &&& (255 : Int32)))), .val (.int (nar .char (((b.toUInt32 >>> ((8 : Int32) &&& 31).toUInt32).toInt32) &&& (255 : Int32)))), .val (.int (1 : Int32)), .val (.ref a298), .unset, .unset, .unset, .unset, .unset] [(.ref a345)]
    refine Go.astore (ls' := #[.val (.int a), .val (.int b), .val (.int k), .val (.int (nar .char (a &&& (255 : Int32)))), .val (.int (nar .char (((a.toUInt32 >>> ((8 : Int32) &&& 31).toUInt32).toInt32) &&& (255 : Int32)))), .val (.int (nar .char (b &&& (255 : Int32)))), .val (.int (nar .char (((b.toUInt32 >>> ((8 : Int32) &&& 31).toUInt32).toInt32) &&& (255 : Int32)))), .val (.int (1 : Int32)), .val (.ref a298), .val (.ref a345), .unset, .unset, .unset, .unset]) H at_91 rfl rfl rfl ?_
    refine Go.new H at_93 rfl w30 w31 w32 (by decide) (by decide) ?_
    intro a401 h402 g403 z404 E405 A406 D407
    have ne408 : pA ≠ a401 := Nat.ne_of_lt (Nat.lt_of_lt_of_le GA.lt (Nat.le_of_eq g403.symm))
    have ne409 : sA ≠ a401 := Nat.ne_of_lt (Nat.lt_of_lt_of_le SA.lt (Nat.le_of_eq g403.symm))
    have ne410 : bA ≠ a401 := Nat.ne_of_lt (Nat.lt_of_lt_of_le SA.ltb (Nat.le_of_eq g403.symm))
    have ne411 : pB ≠ a401 := Nat.ne_of_lt (Nat.lt_of_lt_of_le GB.lt (Nat.le_of_eq g403.symm))
    have ne412 : sB ≠ a401 := Nat.ne_of_lt (Nat.lt_of_lt_of_le SB.lt (Nat.le_of_eq g403.symm))
    have ne413 : bB ≠ a401 := Nat.ne_of_lt (Nat.lt_of_lt_of_le SB.ltb (Nat.le_of_eq g403.symm))
    have ne414 : a313 ≠ a401 := Nat.ne_of_lt (Nat.lt_of_lt_of_le F331.lt (Nat.le_of_eq g403.symm))
    have ne415 : a298 ≠ a401 := Nat.ne_of_lt (Nat.lt_of_lt_of_le S336.lt (Nat.le_of_eq g403.symm))
    have ne416 : b334 ≠ a401 := Nat.ne_of_lt (Nat.lt_of_lt_of_le S336.ltb (Nat.le_of_eq g403.symm))
    have ne417 : a363 ≠ a401 := Nat.ne_of_lt (Nat.lt_of_lt_of_le F384.lt (Nat.le_of_eq g403.symm))
    have ne418 : a345 ≠ a401 := Nat.ne_of_lt (Nat.lt_of_lt_of_le S389.lt (Nat.le_of_eq g403.symm))
    have ne419 : b387 ≠ a401 := Nat.ne_of_lt (Nat.lt_of_lt_of_le S389.ltb (Nat.le_of_eq g403.symm))
    replace GA := GA.ext E405
    replace SA := SA.ext E405
    replace GB := GB.ext E405
    replace SB := SB.ext E405
    replace F331 := F331.ext E405
    replace S336 := S336.ext E405
    replace F384 := F384.ext E405
    replace S389 := S389.ext E405
    have F420 : Fld Z h402 a401 "com/example/steady_rollout/steadyrollout/DeviceTopics" "thingsRoot" "Ljava/lang/String;" .null := D407 (Or.inr w151) (ty := (.object "java/lang/String")) (by decide)
    show Go _ _ _ _ _ _ h402 [a401, a363, a345, a313, a298] 7 71 96 #[.val (.int a), .val (.int b), .val (.int k), .val (.int (nar .char (a &&& (255 : Int32)))), .val (.int (nar .char (((a.toUInt32 >>> ((8 : Int32) &&& 31).toUInt32).toInt32) &&& (255 : Int32)))), .val (.int (nar .char (b &&& (255 : Int32)))), .val (.int (nar .char (((b.toUInt32 >>> ((8 : Int32) &&& 31).toUInt32).toInt32) &&& (255 : Int32)))), .val (.int (1 : Int32)), .val (.ref a298), .val (.ref a345), .unset, .unset, .unset, .unset] [(.ref a401)]
    refine Go.dup H at_96 rfl rfl ?_
    refine Go.aload H at_97 rfl rfl rfl ?_
    refine Go.callI (rest := [(.ref a401)]) 1 [(.ref a298)] H at_99 rfl rfl w33 w34 w32 w35 pd_N34 (ct_dti l W a401 a298 b334 [(nar .char (a &&& (255 : Int32))), (nar .char (((a.toUInt32 >>> ((8 : Int32) &&& 31).toUInt32).toInt32) &&& (255 : Int32)))] h402 A406 F420 S336 (Nat.le_of_ble_eq_true rfl) z404) (by simp) rfl rfl rfl (Nat.le_of_eq rfl) (by decide) (by decide) (by decide) (by decide) nh_N34 ?_
    rintro _ h421 _ ⟨rfl, K422, ⟨r423, rb424, F425, S426⟩, rfl⟩
    replace GA := GA.keep K422 (ninS ne408 nin0)
    replace SA := SA.keep K422 (ninS ne409 nin0) (ninS ne410 nin0)
    replace GB := GB.keep K422 (ninS ne411 nin0)
    replace SB := SB.keep K422 (ninS ne412 nin0) (ninS ne413 nin0)
    replace F331 := F331.keep K422 (ninS ne414 nin0)
    replace S336 := S336.keep K422 (ninS ne415 nin0) (ninS ne416 nin0)
    replace F384 := F384.keep K422 (ninS ne417 nin0)
    replace S389 := S389.keep K422 (ninS ne418 nin0) (ninS ne419 nin0)
    replace A406 := A406.keep K422
    show Go _ _ _ _ _ _ h421 [a401, a363, a345, a313, a298] 15 267 102 #[.val (.int a), .val (.int b), .val (.int k), .val (.int (nar .char (a &&& (255 : Int32)))), .val (.int (nar .char (((a.toUInt32 >>> ((8 : Int32) &&& 31).toUInt32).toInt32) &&& (255 : Int32)))), .val (.int (nar .char (b &&& (255 : Int32)))), .val (.int (nar .char (((b.toUInt32 >>> ((8 : Int32) &&& 31).toUInt32).toInt32) &&& (255 : Int32)))), .val (.int (1 : Int32)), .val (.ref a298), .val (.ref a345), .unset, .unset, .unset, .unset] [(.ref a401)]
    refine Go.astore (ls' := #[.val (.int a), .val (.int b), .val (.int k), .val (.int (nar .char (a &&& (255 : Int32)))), .val (.int (nar .char (((a.toUInt32 >>> ((8 : Int32) &&& 31).toUInt32).toInt32) &&& (255 : Int32)))), .val (.int (nar .char (b &&& (255 : Int32)))), .val (.int (nar .char (((b.toUInt32 >>> ((8 : Int32) &&& 31).toUInt32).toInt32) &&& (255 : Int32)))), .val (.int (1 : Int32)), .val (.ref a298), .val (.ref a345), .val (.ref a401), .unset, .unset, .unset]) H at_102 rfl rfl rfl ?_
    refine Go.iload H at_104 rfl rfl ?_
    refine Go.ifN H at_106 (by decide) rfl ?_
    refine Go.getstatic H at_109 rfl w190 W.2.2.1 ?_
    refine Go.goto (pc' := 118) H at_112 (by decide) (by decide) ?_
    refine Go.astore (ls' := #[.val (.int a), .val (.int b), .val (.int k), .val (.int (nar .char (a &&& (255 : Int32)))), .val (.int (nar .char (((a.toUInt32 >>> ((8 : Int32) &&& 31).toUInt32).toInt32) &&& (255 : Int32)))), .val (.int (nar .char (b &&& (255 : Int32)))), .val (.int (nar .char (((b.toUInt32 >>> ((8 : Int32) &&& 31).toUInt32).toInt32) &&& (255 : Int32)))), .val (.int (1 : Int32)), .val (.ref a298), .val (.ref a345), .val (.ref a401), .val (.ref pB), .unset, .unset]) H at_118 rfl rfl rfl ?_
    refine Go.aload H at_120 rfl rfl rfl ?_
    refine Go.aload H at_122 rfl rfl rfl ?_
    refine Go.aload H at_124 rfl rfl rfl ?_
    refine Go.callV (rest := []) 0 [(.ref a345), (.ref pB)] H at_126 rfl A406 w155 w156 w158 w157 w32 w159 pd_N35 (ct_psh l W a401 r423 rb424 a345 b387 pB sB bB ([(nar .char (a &&& (255 : Int32))), (nar .char (((a.toUInt32 >>> ((8 : Int32) &&& 31).toUInt32).toInt32) &&& (255 : Int32)))] ++ [(47 : Int32), (116 : Int32), (104 : Int32), (105 : Int32), (110 : Int32), (103 : Int32), (115 : Int32), (47 : Int32)]) [(nar .char (b &&& (255 : Int32))), (nar .char (((b.toUInt32 >>> ((8 : Int32) &&& 31).toUInt32).toInt32) &&& (255 : Int32)))] [(110 : Int32), (111 : Int32), (116 : Int32), (105 : Int32), (102 : Int32), (121 : Int32), (45 : Int32), (110 : Int32), (101 : Int32), (120 : Int32), (116 : Int32)] h421 F425 S426 S389 GB SB rfl rfl (Nat.le_of_ble_eq_true rfl)) all0 rfl rfl rfl (Nat.le_of_eq rfl) (by decide) (by decide) (by decide) (by decide) nh_N34 ?_
    rintro _ h429 _ ⟨a427, b428, rfl, E430, g431, S432, rfl⟩
    have ne433 : pA ≠ a427 := Nat.ne_of_lt (Nat.lt_of_lt_of_le GA.lt g431)
    have ne434 : sA ≠ a427 := Nat.ne_of_lt (Nat.lt_of_lt_of_le SA.lt g431)
    have ne435 : bA ≠ a427 := Nat.ne_of_lt (Nat.lt_of_lt_of_le SA.ltb g431)
    have ne436 : pB ≠ a427 := Nat.ne_of_lt (Nat.lt_of_lt_of_le GB.lt g431)
    have ne437 : sB ≠ a427 := Nat.ne_of_lt (Nat.lt_of_lt_of_le SB.lt g431)
    have ne438 : bB ≠ a427 := Nat.ne_of_lt (Nat.lt_of_lt_of_le SB.ltb g431)
    have ne439 : a313 ≠ a427 := Nat.ne_of_lt (Nat.lt_of_lt_of_le F331.lt g431)
    have ne440 : a298 ≠ a427 := Nat.ne_of_lt (Nat.lt_of_lt_of_le S336.lt g431)
    have ne441 : b334 ≠ a427 := Nat.ne_of_lt (Nat.lt_of_lt_of_le S336.ltb g431)
    have ne442 : a363 ≠ a427 := Nat.ne_of_lt (Nat.lt_of_lt_of_le F384.lt g431)
    have ne443 : a345 ≠ a427 := Nat.ne_of_lt (Nat.lt_of_lt_of_le S389.lt g431)
    have ne444 : b387 ≠ a427 := Nat.ne_of_lt (Nat.lt_of_lt_of_le S389.ltb g431)
    have ne445 : a401 ≠ a427 := Nat.ne_of_lt (Nat.lt_of_lt_of_le A406.lt g431)
    have ne446 : r423 ≠ a427 := Nat.ne_of_lt (Nat.lt_of_lt_of_le S426.lt g431)
    have ne447 : rb424 ≠ a427 := Nat.ne_of_lt (Nat.lt_of_lt_of_le S426.ltb g431)
    replace GA := GA.ext E430
    replace SA := SA.ext E430
    replace GB := GB.ext E430
    replace SB := SB.ext E430
    replace F331 := F331.ext E430
    replace S336 := S336.ext E430
    replace F384 := F384.ext E430
    replace S389 := S389.ext E430
    replace A406 := A406.ext E430
    replace F425 := F425.ext E430
    replace S426 := S426.ext E430
    show Go _ _ _ _ _ _ h429 [a401, a363, a345, a313, a298] 25 523 129 #[.val (.int a), .val (.int b), .val (.int k), .val (.int (nar .char (a &&& (255 : Int32)))), .val (.int (nar .char (((a.toUInt32 >>> ((8 : Int32) &&& 31).toUInt32).toInt32) &&& (255 : Int32)))), .val (.int (nar .char (b &&& (255 : Int32)))), .val (.int (nar .char (((b.toUInt32 >>> ((8 : Int32) &&& 31).toUInt32).toInt32) &&& (255 : Int32)))), .val (.int (1 : Int32)), .val (.ref a298), .val (.ref a345), .val (.ref a401), .val (.ref pB), .unset, .unset] [(.ref a427)]
    refine Go.astore (ls' := #[.val (.int a), .val (.int b), .val (.int k), .val (.int (nar .char (a &&& (255 : Int32)))), .val (.int (nar .char (((a.toUInt32 >>> ((8 : Int32) &&& 31).toUInt32).toInt32) &&& (255 : Int32)))), .val (.int (nar .char (b &&& (255 : Int32)))), .val (.int (nar .char (((b.toUInt32 >>> ((8 : Int32) &&& 31).toUInt32).toInt32) &&& (255 : Int32)))), .val (.int (1 : Int32)), .val (.ref a298), .val (.ref a345), .val (.ref a401), .val (.ref pB), .val (.ref a427), .unset]) H at_129 rfl rfl rfl ?_
    refine Go.iload H at_131 rfl rfl ?_
    refine Go.ifN H at_133 (by decide) rfl ?_
    refine Go.bipush (29 : Int32) H at_136 rfl rfl ?_
    refine Go.newarray 29 29 H at_138 rfl w3 rfl (by decide) (by decide) (by decide) (by decide) (by decide) (by decide) (by decide) ?_
    intro a448 h449 g450 z451 E452 F453
    have ne454 : pA ≠ a448 := Nat.ne_of_lt (Nat.lt_of_lt_of_le GA.lt (Nat.le_of_eq g450.symm))
    have ne455 : sA ≠ a448 := Nat.ne_of_lt (Nat.lt_of_lt_of_le SA.lt (Nat.le_of_eq g450.symm))
    have ne456 : bA ≠ a448 := Nat.ne_of_lt (Nat.lt_of_lt_of_le SA.ltb (Nat.le_of_eq g450.symm))
    have ne457 : pB ≠ a448 := Nat.ne_of_lt (Nat.lt_of_lt_of_le GB.lt (Nat.le_of_eq g450.symm))
    have ne458 : sB ≠ a448 := Nat.ne_of_lt (Nat.lt_of_lt_of_le SB.lt (Nat.le_of_eq g450.symm))
    have ne459 : bB ≠ a448 := Nat.ne_of_lt (Nat.lt_of_lt_of_le SB.ltb (Nat.le_of_eq g450.symm))
    have ne460 : a313 ≠ a448 := Nat.ne_of_lt (Nat.lt_of_lt_of_le F331.lt (Nat.le_of_eq g450.symm))
    have ne461 : a298 ≠ a448 := Nat.ne_of_lt (Nat.lt_of_lt_of_le S336.lt (Nat.le_of_eq g450.symm))
    have ne462 : b334 ≠ a448 := Nat.ne_of_lt (Nat.lt_of_lt_of_le S336.ltb (Nat.le_of_eq g450.symm))
    have ne463 : a363 ≠ a448 := Nat.ne_of_lt (Nat.lt_of_lt_of_le F384.lt (Nat.le_of_eq g450.symm))
    have ne464 : a345 ≠ a448 := Nat.ne_of_lt (Nat.lt_of_lt_of_le S389.lt (Nat.le_of_eq g450.symm))
    have ne465 : b387 ≠ a448 := Nat.ne_of_lt (Nat.lt_of_lt_of_le S389.ltb (Nat.le_of_eq g450.symm))
    have ne466 : a401 ≠ a448 := Nat.ne_of_lt (Nat.lt_of_lt_of_le A406.lt (Nat.le_of_eq g450.symm))
    have ne467 : r423 ≠ a448 := Nat.ne_of_lt (Nat.lt_of_lt_of_le S426.lt (Nat.le_of_eq g450.symm))
    have ne468 : rb424 ≠ a448 := Nat.ne_of_lt (Nat.lt_of_lt_of_le S426.ltb (Nat.le_of_eq g450.symm))
    have ne469 : a427 ≠ a448 := Nat.ne_of_lt (Nat.lt_of_lt_of_le S432.lt (Nat.le_of_eq g450.symm))
    have ne470 : b428 ≠ a448 := Nat.ne_of_lt (Nat.lt_of_lt_of_le S432.ltb (Nat.le_of_eq g450.symm))
    replace GA := GA.ext E452
    replace SA := SA.ext E452
    replace GB := GB.ext E452
    replace SB := SB.ext E452
    replace F331 := F331.ext E452
    replace S336 := S336.ext E452
    replace F384 := F384.ext E452
    replace S389 := S389.ext E452
    replace A406 := A406.ext E452
    replace F425 := F425.ext E452
    replace S426 := S426.ext E452
    replace S432 := S432.ext E452
    replace F453 : Vec Z h449 a448 .char [(0 : Int32), (0 : Int32), (0 : Int32), (0 : Int32), (0 : Int32), (0 : Int32), (0 : Int32), (0 : Int32), (0 : Int32), (0 : Int32), (0 : Int32), (0 : Int32), (0 : Int32), (0 : Int32), (0 : Int32), (0 : Int32), (0 : Int32), (0 : Int32), (0 : Int32), (0 : Int32), (0 : Int32), (0 : Int32), (0 : Int32), (0 : Int32), (0 : Int32), (0 : Int32), (0 : Int32), (0 : Int32), (0 : Int32)] := F453
    show Go _ _ _ _ _ _ h449 [a448, a401, a363, a345, a313, a298] 26 552 140 #[.val (.int a), .val (.int b), .val (.int k), .val (.int (nar .char (a &&& (255 : Int32)))), .val (.int (nar .char (((a.toUInt32 >>> ((8 : Int32) &&& 31).toUInt32).toInt32) &&& (255 : Int32)))), .val (.int (nar .char (b &&& (255 : Int32)))), .val (.int (nar .char (((b.toUInt32 >>> ((8 : Int32) &&& 31).toUInt32).toInt32) &&& (255 : Int32)))), .val (.int (1 : Int32)), .val (.ref a298), .val (.ref a345), .val (.ref a401), .val (.ref pB), .val (.ref a427), .unset] [(.ref a448)]
    refine Go.dup H at_140 rfl rfl ?_
    refine Go.iconst (0 : Int32) H at_141 rfl rfl ?_
    refine Go.iloadN H at_142 rfl rfl ?_
    refine Go.castore (nar .char (a &&& (255 : Int32))) H at_143 rfl F453 0 (by decide) (by decide) (Nat.le_of_ble_eq_true rfl) own_nn z451 (by simp) ?_
    intro h471 K472 F473
    replace GA := GA.keep K472 (ninS ne454 nin0)
    replace SA := SA.keep K472 (ninS ne455 nin0) (ninS ne456 nin0)
    replace GB := GB.keep K472 (ninS ne457 nin0)
    replace SB := SB.keep K472 (ninS ne458 nin0) (ninS ne459 nin0)
    replace F331 := F331.keep K472 (ninS ne460 nin0)
    replace S336 := S336.keep K472 (ninS ne461 nin0) (ninS ne462 nin0)
    replace F384 := F384.keep K472 (ninS ne463 nin0)
    replace S389 := S389.keep K472 (ninS ne464 nin0) (ninS ne465 nin0)
    replace A406 := A406.keep K472
    replace F425 := F425.keep K472 (ninS ne466 nin0)
    replace S426 := S426.keep K472 (ninS ne467 nin0) (ninS ne468 nin0)
    replace S432 := S432.keep K472 (ninS ne469 nin0) (ninS ne470 nin0)
    replace F473 : Vec Z h471 a448 .char [(nar .char (a &&& (255 : Int32))), (0 : Int32), (0 : Int32), (0 : Int32), (0 : Int32), (0 : Int32), (0 : Int32), (0 : Int32), (0 : Int32), (0 : Int32), (0 : Int32), (0 : Int32), (0 : Int32), (0 : Int32), (0 : Int32), (0 : Int32), (0 : Int32), (0 : Int32), (0 : Int32), (0 : Int32), (0 : Int32), (0 : Int32), (0 : Int32), (0 : Int32), (0 : Int32), (0 : Int32), (0 : Int32), (0 : Int32), (0 : Int32)] := F473
    refine Go.dup H at_144 rfl rfl ?_
    refine Go.iconst (1 : Int32) H at_145 rfl rfl ?_
    refine Go.iload H at_146 rfl rfl ?_
    refine Go.castore (nar .char (((a.toUInt32 >>> ((8 : Int32) &&& 31).toUInt32).toInt32) &&& (255 : Int32))) H at_148 rfl F473 1 (by decide) (by decide) (Nat.le_of_ble_eq_true rfl) own_nn z451 (by simp) ?_
    intro h474 K475 F476
    replace GA := GA.keep K475 (ninS ne454 nin0)
    replace SA := SA.keep K475 (ninS ne455 nin0) (ninS ne456 nin0)
    replace GB := GB.keep K475 (ninS ne457 nin0)
    replace SB := SB.keep K475 (ninS ne458 nin0) (ninS ne459 nin0)
    replace F331 := F331.keep K475 (ninS ne460 nin0)
    replace S336 := S336.keep K475 (ninS ne461 nin0) (ninS ne462 nin0)
    replace F384 := F384.keep K475 (ninS ne463 nin0)
    replace S389 := S389.keep K475 (ninS ne464 nin0) (ninS ne465 nin0)
    replace A406 := A406.keep K475
    replace F425 := F425.keep K475 (ninS ne466 nin0)
    replace S426 := S426.keep K475 (ninS ne467 nin0) (ninS ne468 nin0)
    replace S432 := S432.keep K475 (ninS ne469 nin0) (ninS ne470 nin0)
    replace F476 : Vec Z h474 a448 .char [(nar .char (a &&& (255 : Int32))), (nar .char (((a.toUInt32 >>> ((8 : Int32) &&& 31).toUInt32).toInt32) &&& (255 : Int32))), (0 : Int32), (0 : Int32), (0 : Int32), (0 : Int32), (0 : Int32), (0 : Int32), (0 : Int32), (0 : Int32), (0 : Int32), (0 : Int32), (0 : Int32), (0 : Int32), (0 : Int32), (0 : Int32), (0 : Int32), (0 : Int32), (0 : Int32), (0 : Int32), (0 : Int32), (0 : Int32), (0 : Int32), (0 : Int32), (0 : Int32), (0 : Int32), (0 : Int32), (0 : Int32), (0 : Int32)] := F476
    refine Go.dup H at_149 rfl rfl ?_
    refine Go.iconst (2 : Int32) H at_150 rfl rfl ?_
    refine Go.bipush (47 : Int32) H at_151 rfl rfl ?_
    refine Go.castore (47 : Int32) H at_153 rfl F476 2 (by decide) (by decide) (Nat.le_of_ble_eq_true rfl) (by decide) z451 (by simp) ?_
    intro h477 K478 F479
    replace GA := GA.keep K478 (ninS ne454 nin0)
    replace SA := SA.keep K478 (ninS ne455 nin0) (ninS ne456 nin0)
    replace GB := GB.keep K478 (ninS ne457 nin0)
    replace SB := SB.keep K478 (ninS ne458 nin0) (ninS ne459 nin0)
    replace F331 := F331.keep K478 (ninS ne460 nin0)
    replace S336 := S336.keep K478 (ninS ne461 nin0) (ninS ne462 nin0)
    replace F384 := F384.keep K478 (ninS ne463 nin0)
    replace S389 := S389.keep K478 (ninS ne464 nin0) (ninS ne465 nin0)
    replace A406 := A406.keep K478
    replace F425 := F425.keep K478 (ninS ne466 nin0)
    replace S426 := S426.keep K478 (ninS ne467 nin0) (ninS ne468 nin0)
    replace S432 := S432.keep K478 (ninS ne469 nin0) (ninS ne470 nin0)
    replace F479 : Vec Z h477 a448 .char [(nar .char (a &&& (255 : Int32))), (nar .char (((a.toUInt32 >>> ((8 : Int32) &&& 31).toUInt32).toInt32) &&& (255 : Int32))), (47 : Int32), (0 : Int32), (0 : Int32), (0 : Int32), (0 : Int32), (0 : Int32), (0 : Int32), (0 : Int32), (0 : Int32), (0 : Int32), (0 : Int32), (0 : Int32), (0 : Int32), (0 : Int32), (0 : Int32), (0 : Int32), (0 : Int32), (0 : Int32), (0 : Int32), (0 : Int32), (0 : Int32), (0 : Int32), (0 : Int32), (0 : Int32), (0 : Int32), (0 : Int32), (0 : Int32)] := F479
    refine Go.dup H at_154 rfl rfl ?_
    refine Go.iconst (3 : Int32) H at_155 rfl rfl ?_
    refine Go.bipush (116 : Int32) H at_156 rfl rfl ?_
    refine Go.castore (116 : Int32) H at_158 rfl F479 3 (by decide) (by decide) (Nat.le_of_ble_eq_true rfl) (by decide) z451 (by simp) ?_
    intro h480 K481 F482
    replace GA := GA.keep K481 (ninS ne454 nin0)
    replace SA := SA.keep K481 (ninS ne455 nin0) (ninS ne456 nin0)
    replace GB := GB.keep K481 (ninS ne457 nin0)
    replace SB := SB.keep K481 (ninS ne458 nin0) (ninS ne459 nin0)
    replace F331 := F331.keep K481 (ninS ne460 nin0)
    replace S336 := S336.keep K481 (ninS ne461 nin0) (ninS ne462 nin0)
    replace F384 := F384.keep K481 (ninS ne463 nin0)
    replace S389 := S389.keep K481 (ninS ne464 nin0) (ninS ne465 nin0)
    replace A406 := A406.keep K481
    replace F425 := F425.keep K481 (ninS ne466 nin0)
    replace S426 := S426.keep K481 (ninS ne467 nin0) (ninS ne468 nin0)
    replace S432 := S432.keep K481 (ninS ne469 nin0) (ninS ne470 nin0)
    replace F482 : Vec Z h480 a448 .char [(nar .char (a &&& (255 : Int32))), (nar .char (((a.toUInt32 >>> ((8 : Int32) &&& 31).toUInt32).toInt32) &&& (255 : Int32))), (47 : Int32), (116 : Int32), (0 : Int32), (0 : Int32), (0 : Int32), (0 : Int32), (0 : Int32), (0 : Int32), (0 : Int32), (0 : Int32), (0 : Int32), (0 : Int32), (0 : Int32), (0 : Int32), (0 : Int32), (0 : Int32), (0 : Int32), (0 : Int32), (0 : Int32), (0 : Int32), (0 : Int32), (0 : Int32), (0 : Int32), (0 : Int32), (0 : Int32), (0 : Int32), (0 : Int32)] := F482
    refine Go.dup H at_159 rfl rfl ?_
    refine Go.iconst (4 : Int32) H at_160 rfl rfl ?_
    refine Go.bipush (104 : Int32) H at_161 rfl rfl ?_
    refine Go.castore (104 : Int32) H at_163 rfl F482 4 (by decide) (by decide) (Nat.le_of_ble_eq_true rfl) (by decide) z451 (by simp) ?_
    intro h483 K484 F485
    replace GA := GA.keep K484 (ninS ne454 nin0)
    replace SA := SA.keep K484 (ninS ne455 nin0) (ninS ne456 nin0)
    replace GB := GB.keep K484 (ninS ne457 nin0)
    replace SB := SB.keep K484 (ninS ne458 nin0) (ninS ne459 nin0)
    replace F331 := F331.keep K484 (ninS ne460 nin0)
    replace S336 := S336.keep K484 (ninS ne461 nin0) (ninS ne462 nin0)
    replace F384 := F384.keep K484 (ninS ne463 nin0)
    replace S389 := S389.keep K484 (ninS ne464 nin0) (ninS ne465 nin0)
    replace A406 := A406.keep K484
    replace F425 := F425.keep K484 (ninS ne466 nin0)
    replace S426 := S426.keep K484 (ninS ne467 nin0) (ninS ne468 nin0)
    replace S432 := S432.keep K484 (ninS ne469 nin0) (ninS ne470 nin0)
    replace F485 : Vec Z h483 a448 .char [(nar .char (a &&& (255 : Int32))), (nar .char (((a.toUInt32 >>> ((8 : Int32) &&& 31).toUInt32).toInt32) &&& (255 : Int32))), (47 : Int32), (116 : Int32), (104 : Int32), (0 : Int32), (0 : Int32), (0 : Int32), (0 : Int32), (0 : Int32), (0 : Int32), (0 : Int32), (0 : Int32), (0 : Int32), (0 : Int32), (0 : Int32), (0 : Int32), (0 : Int32), (0 : Int32), (0 : Int32), (0 : Int32), (0 : Int32), (0 : Int32), (0 : Int32), (0 : Int32), (0 : Int32), (0 : Int32), (0 : Int32), (0 : Int32)] := F485
    refine Go.dup H at_164 rfl rfl ?_
    refine Go.iconst (5 : Int32) H at_165 rfl rfl ?_
    refine Go.bipush (105 : Int32) H at_166 rfl rfl ?_
    refine Go.castore (105 : Int32) H at_168 rfl F485 5 (by decide) (by decide) (Nat.le_of_ble_eq_true rfl) (by decide) z451 (by simp) ?_
    intro h486 K487 F488
    replace GA := GA.keep K487 (ninS ne454 nin0)
    replace SA := SA.keep K487 (ninS ne455 nin0) (ninS ne456 nin0)
    replace GB := GB.keep K487 (ninS ne457 nin0)
    replace SB := SB.keep K487 (ninS ne458 nin0) (ninS ne459 nin0)
    replace F331 := F331.keep K487 (ninS ne460 nin0)
    replace S336 := S336.keep K487 (ninS ne461 nin0) (ninS ne462 nin0)
    replace F384 := F384.keep K487 (ninS ne463 nin0)
    replace S389 := S389.keep K487 (ninS ne464 nin0) (ninS ne465 nin0)
    replace A406 := A406.keep K487
    replace F425 := F425.keep K487 (ninS ne466 nin0)
    replace S426 := S426.keep K487 (ninS ne467 nin0) (ninS ne468 nin0)
    replace S432 := S432.keep K487 (ninS ne469 nin0) (ninS ne470 nin0)
    replace F488 : Vec Z h486 a448 .char [(nar .char (a &&& (255 : Int32))), (nar .char (((a.toUInt32 >>> ((8 : Int32) &&& 31).toUInt32).toInt32) &&& (255 : Int32))), (47 : Int32), (116 : Int32), (104 : Int32), (105 : Int32), (0 : Int32), (0 : Int32), (0 : Int32), (0 : Int32), (0 : Int32), (0 : Int32), (0 : Int32), (0 : Int32), (0 : Int32), (0 : Int32), (0 : Int32), (0 : Int32), (0 : Int32), (0 : Int32), (0 : Int32), (0 : Int32), (0 : Int32), (0 : Int32), (0 : Int32), (0 : Int32), (0 : Int32), (0 : Int32), (0 : Int32)] := F488
    refine Go.dup H at_169 rfl rfl ?_
    refine Go.bipush (6 : Int32) H at_170 rfl rfl ?_
    refine Go.bipush (110 : Int32) H at_172 rfl rfl ?_
    refine Go.castore (110 : Int32) H at_174 rfl F488 6 (by decide) (by decide) (Nat.le_of_ble_eq_true rfl) (by decide) z451 (by simp) ?_
    intro h489 K490 F491
    replace GA := GA.keep K490 (ninS ne454 nin0)
    replace SA := SA.keep K490 (ninS ne455 nin0) (ninS ne456 nin0)
    replace GB := GB.keep K490 (ninS ne457 nin0)
    replace SB := SB.keep K490 (ninS ne458 nin0) (ninS ne459 nin0)
    replace F331 := F331.keep K490 (ninS ne460 nin0)
    replace S336 := S336.keep K490 (ninS ne461 nin0) (ninS ne462 nin0)
    replace F384 := F384.keep K490 (ninS ne463 nin0)
    replace S389 := S389.keep K490 (ninS ne464 nin0) (ninS ne465 nin0)
    replace A406 := A406.keep K490
    replace F425 := F425.keep K490 (ninS ne466 nin0)
    replace S426 := S426.keep K490 (ninS ne467 nin0) (ninS ne468 nin0)
    replace S432 := S432.keep K490 (ninS ne469 nin0) (ninS ne470 nin0)
    replace F491 : Vec Z h489 a448 .char [(nar .char (a &&& (255 : Int32))), (nar .char (((a.toUInt32 >>> ((8 : Int32) &&& 31).toUInt32).toInt32) &&& (255 : Int32))), (47 : Int32), (116 : Int32), (104 : Int32), (105 : Int32), (110 : Int32), (0 : Int32), (0 : Int32), (0 : Int32), (0 : Int32), (0 : Int32), (0 : Int32), (0 : Int32), (0 : Int32), (0 : Int32), (0 : Int32), (0 : Int32), (0 : Int32), (0 : Int32), (0 : Int32), (0 : Int32), (0 : Int32), (0 : Int32), (0 : Int32), (0 : Int32), (0 : Int32), (0 : Int32), (0 : Int32)] := F491
    refine Go.dup H at_175 rfl rfl ?_
    refine Go.bipush (7 : Int32) H at_176 rfl rfl ?_
    refine Go.bipush (103 : Int32) H at_178 rfl rfl ?_
    refine Go.castore (103 : Int32) H at_180 rfl F491 7 (by decide) (by decide) (Nat.le_of_ble_eq_true rfl) (by decide) z451 (by simp) ?_
    intro h492 K493 F494
    replace GA := GA.keep K493 (ninS ne454 nin0)
    replace SA := SA.keep K493 (ninS ne455 nin0) (ninS ne456 nin0)
    replace GB := GB.keep K493 (ninS ne457 nin0)
    replace SB := SB.keep K493 (ninS ne458 nin0) (ninS ne459 nin0)
    replace F331 := F331.keep K493 (ninS ne460 nin0)
    replace S336 := S336.keep K493 (ninS ne461 nin0) (ninS ne462 nin0)
    replace F384 := F384.keep K493 (ninS ne463 nin0)
    replace S389 := S389.keep K493 (ninS ne464 nin0) (ninS ne465 nin0)
    replace A406 := A406.keep K493
    replace F425 := F425.keep K493 (ninS ne466 nin0)
    replace S426 := S426.keep K493 (ninS ne467 nin0) (ninS ne468 nin0)
    replace S432 := S432.keep K493 (ninS ne469 nin0) (ninS ne470 nin0)
    replace F494 : Vec Z h492 a448 .char [(nar .char (a &&& (255 : Int32))), (nar .char (((a.toUInt32 >>> ((8 : Int32) &&& 31).toUInt32).toInt32) &&& (255 : Int32))), (47 : Int32), (116 : Int32), (104 : Int32), (105 : Int32), (110 : Int32), (103 : Int32), (0 : Int32), (0 : Int32), (0 : Int32), (0 : Int32), (0 : Int32), (0 : Int32), (0 : Int32), (0 : Int32), (0 : Int32), (0 : Int32), (0 : Int32), (0 : Int32), (0 : Int32), (0 : Int32), (0 : Int32), (0 : Int32), (0 : Int32), (0 : Int32), (0 : Int32), (0 : Int32), (0 : Int32)] := F494
    refine Go.dup H at_181 rfl rfl ?_
    refine Go.bipush (8 : Int32) H at_182 rfl rfl ?_
    refine Go.bipush (115 : Int32) H at_184 rfl rfl ?_
    refine Go.castore (115 : Int32) H at_186 rfl F494 8 (by decide) (by decide) (Nat.le_of_ble_eq_true rfl) (by decide) z451 (by simp) ?_
    intro h495 K496 F497
    replace GA := GA.keep K496 (ninS ne454 nin0)
    replace SA := SA.keep K496 (ninS ne455 nin0) (ninS ne456 nin0)
    replace GB := GB.keep K496 (ninS ne457 nin0)
    replace SB := SB.keep K496 (ninS ne458 nin0) (ninS ne459 nin0)
    replace F331 := F331.keep K496 (ninS ne460 nin0)
    replace S336 := S336.keep K496 (ninS ne461 nin0) (ninS ne462 nin0)
    replace F384 := F384.keep K496 (ninS ne463 nin0)
    replace S389 := S389.keep K496 (ninS ne464 nin0) (ninS ne465 nin0)
    replace A406 := A406.keep K496
    replace F425 := F425.keep K496 (ninS ne466 nin0)
    replace S426 := S426.keep K496 (ninS ne467 nin0) (ninS ne468 nin0)
    replace S432 := S432.keep K496 (ninS ne469 nin0) (ninS ne470 nin0)
    replace F497 : Vec Z h495 a448 .char [(nar .char (a &&& (255 : Int32))), (nar .char (((a.toUInt32 >>> ((8 : Int32) &&& 31).toUInt32).toInt32) &&& (255 : Int32))), (47 : Int32), (116 : Int32), (104 : Int32), (105 : Int32), (110 : Int32), (103 : Int32), (115 : Int32), (0 : Int32), (0 : Int32), (0 : Int32), (0 : Int32), (0 : Int32), (0 : Int32), (0 : Int32), (0 : Int32), (0 : Int32), (0 : Int32), (0 : Int32), (0 : Int32), (0 : Int32), (0 : Int32), (0 : Int32), (0 : Int32), (0 : Int32), (0 : Int32), (0 : Int32), (0 : Int32)] := F497
    refine Go.dup H at_187 rfl rfl ?_
    refine Go.bipush (9 : Int32) H at_188 rfl rfl ?_
    refine Go.bipush (47 : Int32) H at_190 rfl rfl ?_
    refine Go.castore (47 : Int32) H at_192 rfl F497 9 (by decide) (by decide) (Nat.le_of_ble_eq_true rfl) (by decide) z451 (by simp) ?_
    intro h498 K499 F500
    replace GA := GA.keep K499 (ninS ne454 nin0)
    replace SA := SA.keep K499 (ninS ne455 nin0) (ninS ne456 nin0)
    replace GB := GB.keep K499 (ninS ne457 nin0)
    replace SB := SB.keep K499 (ninS ne458 nin0) (ninS ne459 nin0)
    replace F331 := F331.keep K499 (ninS ne460 nin0)
    replace S336 := S336.keep K499 (ninS ne461 nin0) (ninS ne462 nin0)
    replace F384 := F384.keep K499 (ninS ne463 nin0)
    replace S389 := S389.keep K499 (ninS ne464 nin0) (ninS ne465 nin0)
    replace A406 := A406.keep K499
    replace F425 := F425.keep K499 (ninS ne466 nin0)
    replace S426 := S426.keep K499 (ninS ne467 nin0) (ninS ne468 nin0)
    replace S432 := S432.keep K499 (ninS ne469 nin0) (ninS ne470 nin0)
    replace F500 : Vec Z h498 a448 .char [(nar .char (a &&& (255 : Int32))), (nar .char (((a.toUInt32 >>> ((8 : Int32) &&& 31).toUInt32).toInt32) &&& (255 : Int32))), (47 : Int32), (116 : Int32), (104 : Int32), (105 : Int32), (110 : Int32), (103 : Int32), (115 : Int32), (47 : Int32), (0 : Int32), (0 : Int32), (0 : Int32), (0 : Int32), (0 : Int32), (0 : Int32), (0 : Int32), (0 : Int32), (0 : Int32), (0 : Int32), (0 : Int32), (0 : Int32), (0 : Int32), (0 : Int32), (0 : Int32), (0 : Int32), (0 : Int32), (0 : Int32), (0 : Int32)] := F500
    refine Go.dup H at_193 rfl rfl ?_
    refine Go.bipush (10 : Int32) H at_194 rfl rfl ?_
    refine Go.iload H at_196 rfl rfl ?_
    refine Go.castore (nar .char (b &&& (255 : Int32))) H at_198 rfl F500 10 (by decide) (by decide) (Nat.le_of_ble_eq_true rfl) own_nn z451 (by simp) ?_
    intro h501 K502 F503
    replace GA := GA.keep K502 (ninS ne454 nin0)
    replace SA := SA.keep K502 (ninS ne455 nin0) (ninS ne456 nin0)
    replace GB := GB.keep K502 (ninS ne457 nin0)
    replace SB := SB.keep K502 (ninS ne458 nin0) (ninS ne459 nin0)
    replace F331 := F331.keep K502 (ninS ne460 nin0)
    replace S336 := S336.keep K502 (ninS ne461 nin0) (ninS ne462 nin0)
    replace F384 := F384.keep K502 (ninS ne463 nin0)
    replace S389 := S389.keep K502 (ninS ne464 nin0) (ninS ne465 nin0)
    replace A406 := A406.keep K502
    replace F425 := F425.keep K502 (ninS ne466 nin0)
    replace S426 := S426.keep K502 (ninS ne467 nin0) (ninS ne468 nin0)
    replace S432 := S432.keep K502 (ninS ne469 nin0) (ninS ne470 nin0)
    replace F503 : Vec Z h501 a448 .char [(nar .char (a &&& (255 : Int32))), (nar .char (((a.toUInt32 >>> ((8 : Int32) &&& 31).toUInt32).toInt32) &&& (255 : Int32))), (47 : Int32), (116 : Int32), (104 : Int32), (105 : Int32), (110 : Int32), (103 : Int32), (115 : Int32), (47 : Int32), (nar .char (b &&& (255 : Int32))), (0 : Int32), (0 : Int32), (0 : Int32), (0 : Int32), (0 : Int32), (0 : Int32), (0 : Int32), (0 : Int32), (0 : Int32), (0 : Int32), (0 : Int32), (0 : Int32), (0 : Int32), (0 : Int32), (0 : Int32), (0 : Int32), (0 : Int32), (0 : Int32)] := F503
    refine Go.dup H at_199 rfl rfl ?_
    refine Go.bipush (11 : Int32) H at_200 rfl rfl ?_
    refine Go.iload H at_202 rfl rfl ?_
    refine Go.castore (nar .char (((b.toUInt32 >>> ((8 : Int32) &&& 31).toUInt32).toInt32) &&& (255 : Int32))) H at_204 rfl F503 11 (by decide) (by decide) (Nat.le_of_ble_eq_true rfl) own_nn z451 (by simp) ?_
    intro h504 K505 F506
    replace GA := GA.keep K505 (ninS ne454 nin0)
    replace SA := SA.keep K505 (ninS ne455 nin0) (ninS ne456 nin0)
    replace GB := GB.keep K505 (ninS ne457 nin0)
    replace SB := SB.keep K505 (ninS ne458 nin0) (ninS ne459 nin0)
    replace F331 := F331.keep K505 (ninS ne460 nin0)
    replace S336 := S336.keep K505 (ninS ne461 nin0) (ninS ne462 nin0)
    replace F384 := F384.keep K505 (ninS ne463 nin0)
    replace S389 := S389.keep K505 (ninS ne464 nin0) (ninS ne465 nin0)
    replace A406 := A406.keep K505
    replace F425 := F425.keep K505 (ninS ne466 nin0)
    replace S426 := S426.keep K505 (ninS ne467 nin0) (ninS ne468 nin0)
    replace S432 := S432.keep K505 (ninS ne469 nin0) (ninS ne470 nin0)
    replace F506 : Vec Z h504 a448 .char [(nar .char (a &&& (255 : Int32))), (nar .char (((a.toUInt32 >>> ((8 : Int32) &&& 31).toUInt32).toInt32) &&& (255 : Int32))), (47 : Int32), (116 : Int32), (104 : Int32), (105 : Int32), (110 : Int32), (103 : Int32), (115 : Int32), (47 : Int32), (nar .char (b &&& (255 : Int32))), (nar .char (((b.toUInt32 >>> ((8 : Int32) &&& 31).toUInt32).toInt32) &&& (255 : Int32))), (0 : Int32), (0 : Int32), (0 : Int32), (0 : Int32), (0 : Int32), (0 : Int32), (0 : Int32), (0 : Int32), (0 : Int32), (0 : Int32), (0 : Int32), (0 : Int32), (0 : Int32), (0 : Int32), (0 : Int32), (0 : Int32), (0 : Int32)] := F506
    refine Go.dup H at_205 rfl rfl ?_
    refine Go.bipush (12 : Int32) H at_206 rfl rfl ?_
    refine Go.bipush (47 : Int32) H at_208 rfl rfl ?_
    refine Go.castore (47 : Int32) H at_210 rfl F506 12 (by decide) (by decide) (Nat.le_of_ble_eq_true rfl) (by decide) z451 (by simp) ?_
    intro h507 K508 F509
    replace GA := GA.keep K508 (ninS ne454 nin0)
    replace SA := SA.keep K508 (ninS ne455 nin0) (ninS ne456 nin0)
    replace GB := GB.keep K508 (ninS ne457 nin0)
    replace SB := SB.keep K508 (ninS ne458 nin0) (ninS ne459 nin0)
    replace F331 := F331.keep K508 (ninS ne460 nin0)
    replace S336 := S336.keep K508 (ninS ne461 nin0) (ninS ne462 nin0)
    replace F384 := F384.keep K508 (ninS ne463 nin0)
    replace S389 := S389.keep K508 (ninS ne464 nin0) (ninS ne465 nin0)
    replace A406 := A406.keep K508
    replace F425 := F425.keep K508 (ninS ne466 nin0)
    replace S426 := S426.keep K508 (ninS ne467 nin0) (ninS ne468 nin0)
    replace S432 := S432.keep K508 (ninS ne469 nin0) (ninS ne470 nin0)
    replace F509 : Vec Z h507 a448 .char [(nar .char (a &&& (255 : Int32))), (nar .char (((a.toUInt32 >>> ((8 : Int32) &&& 31).toUInt32).toInt32) &&& (255 : Int32))), (47 : Int32), (116 : Int32), (104 : Int32), (105 : Int32), (110 : Int32), (103 : Int32), (115 : Int32), (47 : Int32), (nar .char (b &&& (255 : Int32))), (nar .char (((b.toUInt32 >>> ((8 : Int32) &&& 31).toUInt32).toInt32) &&& (255 : Int32))), (47 : Int32), (0 : Int32), (0 : Int32), (0 : Int32), (0 : Int32), (0 : Int32), (0 : Int32), (0 : Int32), (0 : Int32), (0 : Int32), (0 : Int32), (0 : Int32), (0 : Int32), (0 : Int32), (0 : Int32), (0 : Int32), (0 : Int32)] := F509
    refine Go.dup H at_211 rfl rfl ?_
    refine Go.bipush (13 : Int32) H at_212 rfl rfl ?_
    refine Go.bipush (106 : Int32) H at_214 rfl rfl ?_
    refine Go.castore (106 : Int32) H at_216 rfl F509 13 (by decide) (by decide) (Nat.le_of_ble_eq_true rfl) (by decide) z451 (by simp) ?_
    intro h510 K511 F512
    replace GA := GA.keep K511 (ninS ne454 nin0)
    replace SA := SA.keep K511 (ninS ne455 nin0) (ninS ne456 nin0)
    replace GB := GB.keep K511 (ninS ne457 nin0)
    replace SB := SB.keep K511 (ninS ne458 nin0) (ninS ne459 nin0)
    replace F331 := F331.keep K511 (ninS ne460 nin0)
    replace S336 := S336.keep K511 (ninS ne461 nin0) (ninS ne462 nin0)
    replace F384 := F384.keep K511 (ninS ne463 nin0)
    replace S389 := S389.keep K511 (ninS ne464 nin0) (ninS ne465 nin0)
    replace A406 := A406.keep K511
    replace F425 := F425.keep K511 (ninS ne466 nin0)
    replace S426 := S426.keep K511 (ninS ne467 nin0) (ninS ne468 nin0)
    replace S432 := S432.keep K511 (ninS ne469 nin0) (ninS ne470 nin0)
    replace F512 : Vec Z h510 a448 .char [(nar .char (a &&& (255 : Int32))), (nar .char (((a.toUInt32 >>> ((8 : Int32) &&& 31).toUInt32).toInt32) &&& (255 : Int32))), (47 : Int32), (116 : Int32), (104 : Int32), (105 : Int32), (110 : Int32), (103 : Int32), (115 : Int32), (47 : Int32), (nar .char (b &&& (255 : Int32))), (nar .char (((b.toUInt32 >>> ((8 : Int32) &&& 31).toUInt32).toInt32) &&& (255 : Int32))), (47 : Int32), (106 : Int32), (0 : Int32), (0 : Int32), (0 : Int32), (0 : Int32), (0 : Int32), (0 : Int32), (0 : Int32), (0 : Int32), (0 : Int32), (0 : Int32), (0 : Int32), (0 : Int32), (0 : Int32), (0 : Int32), (0 : Int32)] := F512
    refine Go.dup H at_217 rfl rfl ?_
    refine Go.bipush (14 : Int32) H at_218 rfl rfl ?_
    refine Go.bipush (111 : Int32) H at_220 rfl rfl ?_
    refine Go.castore (111 : Int32) H at_222 rfl F512 14 (by decide) (by decide) (Nat.le_of_ble_eq_true rfl) (by decide) z451 (by simp) ?_
    intro h513 K514 F515
    replace GA := GA.keep K514 (ninS ne454 nin0)
    replace SA := SA.keep K514 (ninS ne455 nin0) (ninS ne456 nin0)
    replace GB := GB.keep K514 (ninS ne457 nin0)
    replace SB := SB.keep K514 (ninS ne458 nin0) (ninS ne459 nin0)
    replace F331 := F331.keep K514 (ninS ne460 nin0)
    replace S336 := S336.keep K514 (ninS ne461 nin0) (ninS ne462 nin0)
    replace F384 := F384.keep K514 (ninS ne463 nin0)
    replace S389 := S389.keep K514 (ninS ne464 nin0) (ninS ne465 nin0)
    replace A406 := A406.keep K514
    replace F425 := F425.keep K514 (ninS ne466 nin0)
    replace S426 := S426.keep K514 (ninS ne467 nin0) (ninS ne468 nin0)
    replace S432 := S432.keep K514 (ninS ne469 nin0) (ninS ne470 nin0)
    replace F515 : Vec Z h513 a448 .char [(nar .char (a &&& (255 : Int32))), (nar .char (((a.toUInt32 >>> ((8 : Int32) &&& 31).toUInt32).toInt32) &&& (255 : Int32))), (47 : Int32), (116 : Int32), (104 : Int32), (105 : Int32), (110 : Int32), (103 : Int32), (115 : Int32), (47 : Int32), (nar .char (b &&& (255 : Int32))), (nar .char (((b.toUInt32 >>> ((8 : Int32) &&& 31).toUInt32).toInt32) &&& (255 : Int32))), (47 : Int32), (106 : Int32), (111 : Int32), (0 : Int32), (0 : Int32), (0 : Int32), (0 : Int32), (0 : Int32), (0 : Int32), (0 : Int32), (0 : Int32), (0 : Int32), (0 : Int32), (0 : Int32), (0 : Int32), (0 : Int32), (0 : Int32)] := F515
    refine Go.dup H at_223 rfl rfl ?_
    refine Go.bipush (15 : Int32) H at_224 rfl rfl ?_
    refine Go.bipush (98 : Int32) H at_226 rfl rfl ?_
    refine Go.castore (98 : Int32) H at_228 rfl F515 15 (by decide) (by decide) (Nat.le_of_ble_eq_true rfl) (by decide) z451 (by simp) ?_
    intro h516 K517 F518
    replace GA := GA.keep K517 (ninS ne454 nin0)
    replace SA := SA.keep K517 (ninS ne455 nin0) (ninS ne456 nin0)
    replace GB := GB.keep K517 (ninS ne457 nin0)
    replace SB := SB.keep K517 (ninS ne458 nin0) (ninS ne459 nin0)
    replace F331 := F331.keep K517 (ninS ne460 nin0)
    replace S336 := S336.keep K517 (ninS ne461 nin0) (ninS ne462 nin0)
    replace F384 := F384.keep K517 (ninS ne463 nin0)
    replace S389 := S389.keep K517 (ninS ne464 nin0) (ninS ne465 nin0)
    replace A406 := A406.keep K517
    replace F425 := F425.keep K517 (ninS ne466 nin0)
    replace S426 := S426.keep K517 (ninS ne467 nin0) (ninS ne468 nin0)
    replace S432 := S432.keep K517 (ninS ne469 nin0) (ninS ne470 nin0)
    replace F518 : Vec Z h516 a448 .char [(nar .char (a &&& (255 : Int32))), (nar .char (((a.toUInt32 >>> ((8 : Int32) &&& 31).toUInt32).toInt32) &&& (255 : Int32))), (47 : Int32), (116 : Int32), (104 : Int32), (105 : Int32), (110 : Int32), (103 : Int32), (115 : Int32), (47 : Int32), (nar .char (b &&& (255 : Int32))), (nar .char (((b.toUInt32 >>> ((8 : Int32) &&& 31).toUInt32).toInt32) &&& (255 : Int32))), (47 : Int32), (106 : Int32), (111 : Int32), (98 : Int32), (0 : Int32), (0 : Int32), (0 : Int32), (0 : Int32), (0 : Int32), (0 : Int32), (0 : Int32), (0 : Int32), (0 : Int32), (0 : Int32), (0 : Int32), (0 : Int32), (0 : Int32)] := F518
    refine Go.dup H at_229 rfl rfl ?_
    refine Go.bipush (16 : Int32) H at_230 rfl rfl ?_
    refine Go.bipush (115 : Int32) H at_232 rfl rfl ?_
    refine Go.castore (115 : Int32) H at_234 rfl F518 16 (by decide) (by decide) (Nat.le_of_ble_eq_true rfl) (by decide) z451 (by simp) ?_
    intro h519 K520 F521
    replace GA := GA.keep K520 (ninS ne454 nin0)
    replace SA := SA.keep K520 (ninS ne455 nin0) (ninS ne456 nin0)
    replace GB := GB.keep K520 (ninS ne457 nin0)
    replace SB := SB.keep K520 (ninS ne458 nin0) (ninS ne459 nin0)
    replace F331 := F331.keep K520 (ninS ne460 nin0)
    replace S336 := S336.keep K520 (ninS ne461 nin0) (ninS ne462 nin0)
    replace F384 := F384.keep K520 (ninS ne463 nin0)
    replace S389 := S389.keep K520 (ninS ne464 nin0) (ninS ne465 nin0)
    replace A406 := A406.keep K520
    replace F425 := F425.keep K520 (ninS ne466 nin0)
    replace S426 := S426.keep K520 (ninS ne467 nin0) (ninS ne468 nin0)
    replace S432 := S432.keep K520 (ninS ne469 nin0) (ninS ne470 nin0)
    replace F521 : Vec Z h519 a448 .char [(nar .char (a &&& (255 : Int32))), (nar .char (((a.toUInt32 >>> ((8 : Int32) &&& 31).toUInt32).toInt32) &&& (255 : Int32))), (47 : Int32), (116 : Int32), (104 : Int32), (105 : Int32), (110 : Int32), (103 : Int32), (115 : Int32), (47 : Int32), (nar .char (b &&& (255 : Int32))), (nar .char (((b.toUInt32 >>> ((8 : Int32) &&& 31).toUInt32).toInt32) &&& (255 : Int32))), (47 : Int32), (106 : Int32), (111 : Int32), (98 : Int32), (115 : Int32), (0 : Int32), (0 : Int32), (0 : Int32), (0 : Int32), (0 : Int32), (0 : Int32), (0 : Int32), (0 : Int32), (0 : Int32), (0 : Int32), (0 : Int32), (0 : Int32)] := F521
    refine Go.dup H at_235 rfl rfl ?_
    refine Go.bipush (17 : Int32) H at_236 rfl rfl ?_
    refine Go.bipush (47 : Int32) H at_238 rfl rfl ?_
    refine Go.castore (47 : Int32) H at_240 rfl F521 17 (by decide) (by decide) (Nat.le_of_ble_eq_true rfl) (by decide) z451 (by simp) ?_
    intro h522 K523 F524
    replace GA := GA.keep K523 (ninS ne454 nin0)
    replace SA := SA.keep K523 (ninS ne455 nin0) (ninS ne456 nin0)
    replace GB := GB.keep K523 (ninS ne457 nin0)
    replace SB := SB.keep K523 (ninS ne458 nin0) (ninS ne459 nin0)
    replace F331 := F331.keep K523 (ninS ne460 nin0)
    replace S336 := S336.keep K523 (ninS ne461 nin0) (ninS ne462 nin0)
    replace F384 := F384.keep K523 (ninS ne463 nin0)
    replace S389 := S389.keep K523 (ninS ne464 nin0) (ninS ne465 nin0)
    replace A406 := A406.keep K523
    replace F425 := F425.keep K523 (ninS ne466 nin0)
    replace S426 := S426.keep K523 (ninS ne467 nin0) (ninS ne468 nin0)
    replace S432 := S432.keep K523 (ninS ne469 nin0) (ninS ne470 nin0)
    replace F524 : Vec Z h522 a448 .char [(nar .char (a &&& (255 : Int32))), (nar .char (((a.toUInt32 >>> ((8 : Int32) &&& 31).toUInt32).toInt32) &&& (255 : Int32))), (47 : Int32), (116 : Int32), (104 : Int32), (105 : Int32), (110 : Int32), (103 : Int32), (115 : Int32), (47 : Int32), (nar .char (b &&& (255 : Int32))), (nar .char (((b.toUInt32 >>> ((8 : Int32) &&& 31).toUInt32).toInt32) &&& (255 : Int32))), (47 : Int32), (106 : Int32), (111 : Int32), (98 : Int32), (115 : Int32), (47 : Int32), (0 : Int32), (0 : Int32), (0 : Int32), (0 : Int32), (0 : Int32), (0 : Int32), (0 : Int32), (0 : Int32), (0 : Int32), (0 : Int32), (0 : Int32)] := F524
    refine Go.dup H at_241 rfl rfl ?_
    refine Go.bipush (18 : Int32) H at_242 rfl rfl ?_
    refine Go.bipush (110 : Int32) H at_244 rfl rfl ?_
    refine Go.castore (110 : Int32) H at_246 rfl F524 18 (by decide) (by decide) (Nat.le_of_ble_eq_true rfl) (by decide) z451 (by simp) ?_
    intro h525 K526 F527
    replace GA := GA.keep K526 (ninS ne454 nin0)
    replace SA := SA.keep K526 (ninS ne455 nin0) (ninS ne456 nin0)
    replace GB := GB.keep K526 (ninS ne457 nin0)
    replace SB := SB.keep K526 (ninS ne458 nin0) (ninS ne459 nin0)
    replace F331 := F331.keep K526 (ninS ne460 nin0)
    replace S336 := S336.keep K526 (ninS ne461 nin0) (ninS ne462 nin0)
    replace F384 := F384.keep K526 (ninS ne463 nin0)
    replace S389 := S389.keep K526 (ninS ne464 nin0) (ninS ne465 nin0)
    replace A406 := A406.keep K526
    replace F425 := F425.keep K526 (ninS ne466 nin0)
    replace S426 := S426.keep K526 (ninS ne467 nin0) (ninS ne468 nin0)
    replace S432 := S432.keep K526 (ninS ne469 nin0) (ninS ne470 nin0)
    replace F527 : Vec Z h525 a448 .char [(nar .char (a &&& (255 : Int32))), (nar .char (((a.toUInt32 >>> ((8 : Int32) &&& 31).toUInt32).toInt32) &&& (255 : Int32))), (47 : Int32), (116 : Int32), (104 : Int32), (105 : Int32), (110 : Int32), (103 : Int32), (115 : Int32), (47 : Int32), (nar .char (b &&& (255 : Int32))), (nar .char (((b.toUInt32 >>> ((8 : Int32) &&& 31).toUInt32).toInt32) &&& (255 : Int32))), (47 : Int32), (106 : Int32), (111 : Int32), (98 : Int32), (115 : Int32), (47 : Int32), (110 : Int32), (0 : Int32), (0 : Int32), (0 : Int32), (0 : Int32), (0 : Int32), (0 : Int32), (0 : Int32), (0 : Int32), (0 : Int32), (0 : Int32)] := F527
    refine Go.dup H at_247 rfl rfl ?_
    refine Go.bipush (19 : Int32) H at_248 rfl rfl ?_
    refine Go.bipush (111 : Int32) H at_250 rfl rfl ?_
    refine Go.castore (111 : Int32) H at_252 rfl F527 19 (by decide) (by decide) (Nat.le_of_ble_eq_true rfl) (by decide) z451 (by simp) ?_
    intro h528 K529 F530
    replace GA := GA.keep K529 (ninS ne454 nin0)
    replace SA := SA.keep K529 (ninS ne455 nin0) (ninS ne456 nin0)
    replace GB := GB.keep K529 (ninS ne457 nin0)
    replace SB := SB.keep K529 (ninS ne458 nin0) (ninS ne459 nin0)
    replace F331 := F331.keep K529 (ninS ne460 nin0)
    replace S336 := S336.keep K529 (ninS ne461 nin0) (ninS ne462 nin0)
    replace F384 := F384.keep K529 (ninS ne463 nin0)
    replace S389 := S389.keep K529 (ninS ne464 nin0) (ninS ne465 nin0)
    replace A406 := A406.keep K529
    replace F425 := F425.keep K529 (ninS ne466 nin0)
    replace S426 := S426.keep K529 (ninS ne467 nin0) (ninS ne468 nin0)
    replace S432 := S432.keep K529 (ninS ne469 nin0) (ninS ne470 nin0)
    replace F530 : Vec Z h528 a448 .char [(nar .char (a &&& (255 : Int32))), (nar .char (((a.toUInt32 >>> ((8 : Int32) &&& 31).toUInt32).toInt32) &&& (255 : Int32))), (47 : Int32), (116 : Int32), (104 : Int32), (105 : Int32), (110 : Int32), (103 : Int32), (115 : Int32), (47 : Int32), (nar .char (b &&& (255 : Int32))), (nar .char (((b.toUInt32 >>> ((8 : Int32) &&& 31).toUInt32).toInt32) &&& (255 : Int32))), (47 : Int32), (106 : Int32), (111 : Int32), (98 : Int32), (115 : Int32), (47 : Int32), (110 : Int32), (111 : Int32), (0 : Int32), (0 : Int32), (0 : Int32), (0 : Int32), (0 : Int32), (0 : Int32), (0 : Int32), (0 : Int32), (0 : Int32)] := F530
    refine Go.dup H at_253 rfl rfl ?_
    refine Go.bipush (20 : Int32) H at_254 rfl rfl ?_
    refine Go.bipush (116 : Int32) H at_256 rfl rfl ?_
    refine Go.castore (116 : Int32) H at_258 rfl F530 20 (by decide) (by decide) (Nat.le_of_ble_eq_true rfl) (by decide) z451 (by simp) ?_
    intro h531 K532 F533
    replace GA := GA.keep K532 (ninS ne454 nin0)
    replace SA := SA.keep K532 (ninS ne455 nin0) (ninS ne456 nin0)
    replace GB := GB.keep K532 (ninS ne457 nin0)
    replace SB := SB.keep K532 (ninS ne458 nin0) (ninS ne459 nin0)
    replace F331 := F331.keep K532 (ninS ne460 nin0)
    replace S336 := S336.keep K532 (ninS ne461 nin0) (ninS ne462 nin0)
    replace F384 := F384.keep K532 (ninS ne463 nin0)
    replace S389 := S389.keep K532 (ninS ne464 nin0) (ninS ne465 nin0)
    replace A406 := A406.keep K532
    replace F425 := F425.keep K532 (ninS ne466 nin0)
    replace S426 := S426.keep K532 (ninS ne467 nin0) (ninS ne468 nin0)
    replace S432 := S432.keep K532 (ninS ne469 nin0) (ninS ne470 nin0)
    replace F533 : Vec Z h531 a448 .char [(nar .char (a &&& (255 : Int32))), (nar .char (((a.toUInt32 >>> ((8 : Int32) &&& 31).toUInt32).toInt32) &&& (255 : Int32))), (47 : Int32), (116 : Int32), (104 : Int32), (105 : Int32), (110 : Int32), (103 : Int32), (115 : Int32), (47 : Int32), (nar .char (b &&& (255 : Int32))), (nar .char (((b.toUInt32 >>> ((8 : Int32) &&& 31).toUInt32).toInt32) &&& (255 : Int32))), (47 : Int32), (106 : Int32), (111 : Int32), (98 : Int32), (115 : Int32), (47 : Int32), (110 : Int32), (111 : Int32), (116 : Int32), (0 : Int32), (0 : Int32), (0 : Int32), (0 : Int32), (0 : Int32), (0 : Int32), (0 : Int32), (0 : Int32)] := F533
    refine Go.dup H at_259 rfl rfl ?_
    refine Go.bipush (21 : Int32) H at_260 rfl rfl ?_
    refine Go.bipush (105 : Int32) H at_262 rfl rfl ?_
    refine Go.castore (105 : Int32) H at_264 rfl F533 21 (by decide) (by decide) (Nat.le_of_ble_eq_true rfl) (by decide) z451 (by simp) ?_
    intro h534 K535 F536
    replace GA := GA.keep K535 (ninS ne454 nin0)
    replace SA := SA.keep K535 (ninS ne455 nin0) (ninS ne456 nin0)
    replace GB := GB.keep K535 (ninS ne457 nin0)
    replace SB := SB.keep K535 (ninS ne458 nin0) (ninS ne459 nin0)
    replace F331 := F331.keep K535 (ninS ne460 nin0)
    replace S336 := S336.keep K535 (ninS ne461 nin0) (ninS ne462 nin0)
    replace F384 := F384.keep K535 (ninS ne463 nin0)
    replace S389 := S389.keep K535 (ninS ne464 nin0) (ninS ne465 nin0)
    replace A406 := A406.keep K535
    replace F425 := F425.keep K535 (ninS ne466 nin0)
    replace S426 := S426.keep K535 (ninS ne467 nin0) (ninS ne468 nin0)
    replace S432 := S432.keep K535 (ninS ne469 nin0) (ninS ne470 nin0)
    replace F536 : Vec Z h534 a448 .char [(nar .char (a &&& (255 : Int32))), (nar .char (((a.toUInt32 >>> ((8 : Int32) &&& 31).toUInt32).toInt32) &&& (255 : Int32))), (47 : Int32), (116 : Int32), (104 : Int32), (105 : Int32), (110 : Int32), (103 : Int32), (115 : Int32), (47 : Int32), (nar .char (b &&& (255 : Int32))), (nar .char (((b.toUInt32 >>> ((8 : Int32) &&& 31).toUInt32).toInt32) &&& (255 : Int32))), (47 : Int32), (106 : Int32), (111 : Int32), (98 : Int32), (115 : Int32), (47 : Int32), (110 : Int32), (111 : Int32), (116 : Int32), (105 : Int32), (0 : Int32), (0 : Int32), (0 : Int32), (0 : Int32), (0 : Int32), (0 : Int32), (0 : Int32)] := F536
    refine Go.dup H at_265 rfl rfl ?_
    refine Go.bipush (22 : Int32) H at_266 rfl rfl ?_
    refine Go.bipush (102 : Int32) H at_268 rfl rfl ?_
    refine Go.castore (102 : Int32) H at_270 rfl F536 22 (by decide) (by decide) (Nat.le_of_ble_eq_true rfl) (by decide) z451 (by simp) ?_
    intro h537 K538 F539
    replace GA := GA.keep K538 (ninS ne454 nin0)
    replace SA := SA.keep K538 (ninS ne455 nin0) (ninS ne456 nin0)
    replace GB := GB.keep K538 (ninS ne457 nin0)
    replace SB := SB.keep K538 (ninS ne458 nin0) (ninS ne459 nin0)
    replace F331 := F331.keep K538 (ninS ne460 nin0)
    replace S336 := S336.keep K538 (ninS ne461 nin0) (ninS ne462 nin0)
    replace F384 := F384.keep K538 (ninS ne463 nin0)
    replace S389 := S389.keep K538 (ninS ne464 nin0) (ninS ne465 nin0)
    replace A406 := A406.keep K538
    replace F425 := F425.keep K538 (ninS ne466 nin0)
    replace S426 := S426.keep K538 (ninS ne467 nin0) (ninS ne468 nin0)
    replace S432 := S432.keep K538 (ninS ne469 nin0) (ninS ne470 nin0)
    replace F539 : Vec Z h537 a448 .char [(nar .char (a &&& (255 : Int32))), (nar .char (((a.toUInt32 >>> ((8 : Int32) &&& 31).toUInt32).toInt32) &&& (255 : Int32))), (47 : Int32), (116 : Int32), (104 : Int32), (105 : Int32), (110 : Int32), (103 : Int32), (115 : Int32), (47 : Int32), (nar .char (b &&& (255 : Int32))), (nar .char (((b.toUInt32 >>> ((8 : Int32) &&& 31).toUInt32).toInt32) &&& (255 : Int32))), (47 : Int32), (106 : Int32), (111 : Int32), (98 : Int32), (115 : Int32), (47 : Int32), (110 : Int32), (111 : Int32), (116 : Int32), (105 : Int32), (102 : Int32), (0 : Int32), (0 : Int32), (0 : Int32), (0 : Int32), (0 : Int32), (0 : Int32)] := F539
    refine Go.dup H at_271 rfl rfl ?_
    refine Go.bipush (23 : Int32) H at_272 rfl rfl ?_
    refine Go.bipush (121 : Int32) H at_274 rfl rfl ?_
    refine Go.castore (121 : Int32) H at_276 rfl F539 23 (by decide) (by decide) (Nat.le_of_ble_eq_true rfl) (by decide) z451 (by simp) ?_
    intro h540 K541 F542
    replace GA := GA.keep K541 (ninS ne454 nin0)
    replace SA := SA.keep K541 (ninS ne455 nin0) (ninS ne456 nin0)
    replace GB := GB.keep K541 (ninS ne457 nin0)
    replace SB := SB.keep K541 (ninS ne458 nin0) (ninS ne459 nin0)
    replace F331 := F331.keep K541 (ninS ne460 nin0)
    replace S336 := S336.keep K541 (ninS ne461 nin0) (ninS ne462 nin0)
    replace F384 := F384.keep K541 (ninS ne463 nin0)
    replace S389 := S389.keep K541 (ninS ne464 nin0) (ninS ne465 nin0)
    replace A406 := A406.keep K541
    replace F425 := F425.keep K541 (ninS ne466 nin0)
    replace S426 := S426.keep K541 (ninS ne467 nin0) (ninS ne468 nin0)
    replace S432 := S432.keep K541 (ninS ne469 nin0) (ninS ne470 nin0)
    replace F542 : Vec Z h540 a448 .char [(nar .char (a &&& (255 : Int32))), (nar .char (((a.toUInt32 >>> ((8 : Int32) &&& 31).toUInt32).toInt32) &&& (255 : Int32))), (47 : Int32), (116 : Int32), (104 : Int32), (105 : Int32), (110 : Int32), (103 : Int32), (115 : Int32), (47 : Int32), (nar .char (b &&& (255 : Int32))), (nar .char (((b.toUInt32 >>> ((8 : Int32) &&& 31).toUInt32).toInt32) &&& (255 : Int32))), (47 : Int32), (106 : Int32), (111 : Int32), (98 : Int32), (115 : Int32), (47 : Int32), (110 : Int32), (111 : Int32), (116 : Int32), (105 : Int32), (102 : Int32), (121 : Int32), (0 : Int32), (0 : Int32), (0 : Int32), (0 : Int32), (0 : Int32)] := F542
    refine Go.dup H at_277 rfl rfl ?_
    refine Go.bipush (24 : Int32) H at_278 rfl rfl ?_
    refine Go.bipush (45 : Int32) H at_280 rfl rfl ?_
    refine Go.castore (45 : Int32) H at_282 rfl F542 24 (by decide) (by decide) (Nat.le_of_ble_eq_true rfl) (by decide) z451 (by simp) ?_
    intro h543 K544 F545
    replace GA := GA.keep K544 (ninS ne454 nin0)
    replace SA := SA.keep K544 (ninS ne455 nin0) (ninS ne456 nin0)
    replace GB := GB.keep K544 (ninS ne457 nin0)
    replace SB := SB.keep K544 (ninS ne458 nin0) (ninS ne459 nin0)
    replace F331 := F331.keep K544 (ninS ne460 nin0)
    replace S336 := S336.keep K544 (ninS ne461 nin0) (ninS ne462 nin0)
    replace F384 := F384.keep K544 (ninS ne463 nin0)
    replace S389 := S389.keep K544 (ninS ne464 nin0) (ninS ne465 nin0)
    replace A406 := A406.keep K544
    replace F425 := F425.keep K544 (ninS ne466 nin0)
    replace S426 := S426.keep K544 (ninS ne467 nin0) (ninS ne468 nin0)
    replace S432 := S432.keep K544 (ninS ne469 nin0) (ninS ne470 nin0)
    replace F545 : Vec Z h543 a448 .char [(nar .char (a &&& (255 : Int32))), (nar .char (((a.toUInt32 >>> ((8 : Int32) &&& 31).toUInt32).toInt32) &&& (255 : Int32))), (47 : Int32), (116 : Int32), (104 : Int32), (105 : Int32), (110 : Int32), (103 : Int32), (115 : Int32), (47 : Int32), (nar .char (b &&& (255 : Int32))), (nar .char (((b.toUInt32 >>> ((8 : Int32) &&& 31).toUInt32).toInt32) &&& (255 : Int32))), (47 : Int32), (106 : Int32), (111 : Int32), (98 : Int32), (115 : Int32), (47 : Int32), (110 : Int32), (111 : Int32), (116 : Int32), (105 : Int32), (102 : Int32), (121 : Int32), (45 : Int32), (0 : Int32), (0 : Int32), (0 : Int32), (0 : Int32)] := F545
    refine Go.dup H at_283 rfl rfl ?_
    refine Go.bipush (25 : Int32) H at_284 rfl rfl ?_
    refine Go.bipush (110 : Int32) H at_286 rfl rfl ?_
    refine Go.castore (110 : Int32) H at_288 rfl F545 25 (by decide) (by decide) (Nat.le_of_ble_eq_true rfl) (by decide) z451 (by simp) ?_
    intro h546 K547 F548
    replace GA := GA.keep K547 (ninS ne454 nin0)
    replace SA := SA.keep K547 (ninS ne455 nin0) (ninS ne456 nin0)
    replace GB := GB.keep K547 (ninS ne457 nin0)
    replace SB := SB.keep K547 (ninS ne458 nin0) (ninS ne459 nin0)
    replace F331 := F331.keep K547 (ninS ne460 nin0)
    replace S336 := S336.keep K547 (ninS ne461 nin0) (ninS ne462 nin0)
    replace F384 := F384.keep K547 (ninS ne463 nin0)
    replace S389 := S389.keep K547 (ninS ne464 nin0) (ninS ne465 nin0)
    replace A406 := A406.keep K547
    replace F425 := F425.keep K547 (ninS ne466 nin0)
    replace S426 := S426.keep K547 (ninS ne467 nin0) (ninS ne468 nin0)
    replace S432 := S432.keep K547 (ninS ne469 nin0) (ninS ne470 nin0)
    replace F548 : Vec Z h546 a448 .char [(nar .char (a &&& (255 : Int32))), (nar .char (((a.toUInt32 >>> ((8 : Int32) &&& 31).toUInt32).toInt32) &&& (255 : Int32))), (47 : Int32), (116 : Int32), (104 : Int32), (105 : Int32), (110 : Int32), (103 : Int32), (115 : Int32), (47 : Int32), (nar .char (b &&& (255 : Int32))), (nar .char (((b.toUInt32 >>> ((8 : Int32) &&& 31).toUInt32).toInt32) &&& (255 : Int32))), (47 : Int32), (106 : Int32), (111 : Int32), (98 : Int32), (115 : Int32), (47 : Int32), (110 : Int32), (111 : Int32), (116 : Int32), (105 : Int32), (102 : Int32), (121 : Int32), (45 : Int32), (110 : Int32), (0 : Int32), (0 : Int32), (0 : Int32)] := F548
    refine Go.dup H at_289 rfl rfl ?_
    refine Go.bipush (26 : Int32) H at_290 rfl rfl ?_
    refine Go.bipush (101 : Int32) H at_292 rfl rfl ?_
    refine Go.castore (101 : Int32) H at_294 rfl F548 26 (by decide) (by decide) (Nat.le_of_ble_eq_true rfl) (by decide) z451 (by simp) ?_
    intro h549 K550 F551
    replace GA := GA.keep K550 (ninS ne454 nin0)
    replace SA := SA.keep K550 (ninS ne455 nin0) (ninS ne456 nin0)
    replace GB := GB.keep K550 (ninS ne457 nin0)
    replace SB := SB.keep K550 (ninS ne458 nin0) (ninS ne459 nin0)
    replace F331 := F331.keep K550 (ninS ne460 nin0)
    replace S336 := S336.keep K550 (ninS ne461 nin0) (ninS ne462 nin0)
    replace F384 := F384.keep K550 (ninS ne463 nin0)
    replace S389 := S389.keep K550 (ninS ne464 nin0) (ninS ne465 nin0)
    replace A406 := A406.keep K550
    replace F425 := F425.keep K550 (ninS ne466 nin0)
    replace S426 := S426.keep K550 (ninS ne467 nin0) (ninS ne468 nin0)
    replace S432 := S432.keep K550 (ninS ne469 nin0) (ninS ne470 nin0)
    replace F551 : Vec Z h549 a448 .char [(nar .char (a &&& (255 : Int32))), (nar .char (((a.toUInt32 >>> ((8 : Int32) &&& 31).toUInt32).toInt32) &&& (255 : Int32))), (47 : Int32), (116 : Int32), (104 : Int32), (105 : Int32), (110 : Int32), (103 : Int32), (115 : Int32), (47 : Int32), (nar .char (b &&& (255 : Int32))), (nar .char (((b.toUInt32 >>> ((8 : Int32) &&& 31).toUInt32).toInt32) &&& (255 : Int32))), (47 : Int32), (106 : Int32), (111 : Int32), (98 : Int32), (115 : Int32), (47 : Int32), (110 : Int32), (111 : Int32), (116 : Int32), (105 : Int32), (102 : Int32), (121 : Int32), (45 : Int32), (110 : Int32), (101 : Int32), (0 : Int32), (0 : Int32)] := F551
    refine Go.dup H at_295 rfl rfl ?_
    refine Go.bipush (27 : Int32) H at_296 rfl rfl ?_
    refine Go.bipush (120 : Int32) H at_298 rfl rfl ?_
    refine Go.castore (120 : Int32) H at_300 rfl F551 27 (by decide) (by decide) (Nat.le_of_ble_eq_true rfl) (by decide) z451 (by simp) ?_
    intro h552 K553 F554
    replace GA := GA.keep K553 (ninS ne454 nin0)
    replace SA := SA.keep K553 (ninS ne455 nin0) (ninS ne456 nin0)
    replace GB := GB.keep K553 (ninS ne457 nin0)
    replace SB := SB.keep K553 (ninS ne458 nin0) (ninS ne459 nin0)
    replace F331 := F331.keep K553 (ninS ne460 nin0)
    replace S336 := S336.keep K553 (ninS ne461 nin0) (ninS ne462 nin0)
    replace F384 := F384.keep K553 (ninS ne463 nin0)
    replace S389 := S389.keep K553 (ninS ne464 nin0) (ninS ne465 nin0)
    replace A406 := A406.keep K553
    replace F425 := F425.keep K553 (ninS ne466 nin0)
    replace S426 := S426.keep K553 (ninS ne467 nin0) (ninS ne468 nin0)
    replace S432 := S432.keep K553 (ninS ne469 nin0) (ninS ne470 nin0)
    replace F554 : Vec Z h552 a448 .char [(nar .char (a &&& (255 : Int32))), (nar .char (((a.toUInt32 >>> ((8 : Int32) &&& 31).toUInt32).toInt32) &&& (255 : Int32))), (47 : Int32), (116 : Int32), (104 : Int32), (105 : Int32), (110 : Int32), (103 : Int32), (115 : Int32), (47 : Int32), (nar .char (b &&& (255 : Int32))), (nar .char (((b.toUInt32 >>> ((8 : Int32) &&& 31).toUInt32).toInt32) &&& (255 : Int32))), (47 : Int32), (106 : Int32), (111 : Int32), (98 : Int32), (115 : Int32), (47 : Int32), (110 : Int32), (111 : Int32), (116 : Int32), (105 : Int32), (102 : Int32), (121 : Int32), (45 : Int32), (110 : Int32), (101 : Int32), (120 : Int32), (0 : Int32)] := F554
    refine Go.dup H at_301 rfl rfl ?_
    refine Go.bipush (28 : Int32) H at_302 rfl rfl ?_
    refine Go.bipush (116 : Int32) H at_304 rfl rfl ?_
    refine Go.castore (116 : Int32) H at_306 rfl F554 28 (by decide) (by decide) (Nat.le_of_ble_eq_true rfl) (by decide) z451 (by simp) ?_
    intro h555 K556 F557
    replace GA := GA.keep K556 (ninS ne454 nin0)
    replace SA := SA.keep K556 (ninS ne455 nin0) (ninS ne456 nin0)
    replace GB := GB.keep K556 (ninS ne457 nin0)
    replace SB := SB.keep K556 (ninS ne458 nin0) (ninS ne459 nin0)
    replace F331 := F331.keep K556 (ninS ne460 nin0)
    replace S336 := S336.keep K556 (ninS ne461 nin0) (ninS ne462 nin0)
    replace F384 := F384.keep K556 (ninS ne463 nin0)
    replace S389 := S389.keep K556 (ninS ne464 nin0) (ninS ne465 nin0)
    replace A406 := A406.keep K556
    replace F425 := F425.keep K556 (ninS ne466 nin0)
    replace S426 := S426.keep K556 (ninS ne467 nin0) (ninS ne468 nin0)
    replace S432 := S432.keep K556 (ninS ne469 nin0) (ninS ne470 nin0)
    replace F557 : Vec Z h555 a448 .char [(nar .char (a &&& (255 : Int32))), (nar .char (((a.toUInt32 >>> ((8 : Int32) &&& 31).toUInt32).toInt32) &&& (255 : Int32))), (47 : Int32), (116 : Int32), (104 : Int32), (105 : Int32), (110 : Int32), (103 : Int32), (115 : Int32), (47 : Int32), (nar .char (b &&& (255 : Int32))), (nar .char (((b.toUInt32 >>> ((8 : Int32) &&& 31).toUInt32).toInt32) &&& (255 : Int32))), (47 : Int32), (106 : Int32), (111 : Int32), (98 : Int32), (115 : Int32), (47 : Int32), (110 : Int32), (111 : Int32), (116 : Int32), (105 : Int32), (102 : Int32), (121 : Int32), (45 : Int32), (110 : Int32), (101 : Int32), (120 : Int32), (116 : Int32)] := F557
    refine Go.astore (ls' := #[.val (.int a), .val (.int b), .val (.int k), .val (.int (nar .char (a &&& (255 : Int32)))), .val (.int (nar .char (((a.toUInt32 >>> ((8 : Int32) &&& 31).toUInt32).toInt32) &&& (255 : Int32)))), .val (.int (nar .char (b &&& (255 : Int32)))), .val (.int (nar .char (((b.toUInt32 >>> ((8 : Int32) &&& 31).toUInt32).toInt32) &&& (255 : Int32)))), .val (.int (1 : Int32)), .val (.ref a298), .val (.ref a345), .val (.ref a401), .val (.ref pB), .val (.ref a427), .val (.ref a448)]) H at_307 rfl rfl rfl ?_
    refine Go.goto (pc' := 455) H at_309 (by decide) (by decide) ?_
    refine Go.new H at_455 rfl w0 w1 w2 (by decide) (by decide) ?_
    intro a558 h559 g560 z561 E562 A563 D564
    have ne565 : pA ≠ a558 := Nat.ne_of_lt (Nat.lt_of_lt_of_le GA.lt (Nat.le_of_eq g560.symm))
    have ne566 : sA ≠ a558 := Nat.ne_of_lt (Nat.lt_of_lt_of_le SA.lt (Nat.le_of_eq g560.symm))
    have ne567 : bA ≠ a558 := Nat.ne_of_lt (Nat.lt_of_lt_of_le SA.ltb (Nat.le_of_eq g560.symm))
    have ne568 : pB ≠ a558 := Nat.ne_of_lt (Nat.lt_of_lt_of_le GB.lt (Nat.le_of_eq g560.symm))
    have ne569 : sB ≠ a558 := Nat.ne_of_lt (Nat.lt_of_lt_of_le SB.lt (Nat.le_of_eq g560.symm))
    have ne570 : bB ≠ a558 := Nat.ne_of_lt (Nat.lt_of_lt_of_le SB.ltb (Nat.le_of_eq g560.symm))
    have ne571 : a313 ≠ a558 := Nat.ne_of_lt (Nat.lt_of_lt_of_le F331.lt (Nat.le_of_eq g560.symm))
    have ne572 : a298 ≠ a558 := Nat.ne_of_lt (Nat.lt_of_lt_of_le S336.lt (Nat.le_of_eq g560.symm))
    have ne573 : b334 ≠ a558 := Nat.ne_of_lt (Nat.lt_of_lt_of_le S336.ltb (Nat.le_of_eq g560.symm))
    have ne574 : a363 ≠ a558 := Nat.ne_of_lt (Nat.lt_of_lt_of_le F384.lt (Nat.le_of_eq g560.symm))
    have ne575 : a345 ≠ a558 := Nat.ne_of_lt (Nat.lt_of_lt_of_le S389.lt (Nat.le_of_eq g560.symm))
    have ne576 : b387 ≠ a558 := Nat.ne_of_lt (Nat.lt_of_lt_of_le S389.ltb (Nat.le_of_eq g560.symm))
    have ne577 : a401 ≠ a558 := Nat.ne_of_lt (Nat.lt_of_lt_of_le A406.lt (Nat.le_of_eq g560.symm))
    have ne578 : r423 ≠ a558 := Nat.ne_of_lt (Nat.lt_of_lt_of_le S426.lt (Nat.le_of_eq g560.symm))
    have ne579 : rb424 ≠ a558 := Nat.ne_of_lt (Nat.lt_of_lt_of_le S426.ltb (Nat.le_of_eq g560.symm))
    have ne580 : a427 ≠ a558 := Nat.ne_of_lt (Nat.lt_of_lt_of_le S432.lt (Nat.le_of_eq g560.symm))
    have ne581 : b428 ≠ a558 := Nat.ne_of_lt (Nat.lt_of_lt_of_le S432.ltb (Nat.le_of_eq g560.symm))
    have ne582 : a448 ≠ a558 := Nat.ne_of_lt (Nat.lt_of_lt_of_le F557.lt (Nat.le_of_eq g560.symm))
    replace GA := GA.ext E562
    replace SA := SA.ext E562
    replace GB := GB.ext E562
    replace SB := SB.ext E562
    replace F331 := F331.ext E562
    replace S336 := S336.ext E562
    replace F384 := F384.ext E562
    replace S389 := S389.ext E562
    replace A406 := A406.ext E562
    replace F425 := F425.ext E562
    replace S426 := S426.ext E562
    replace S432 := S432.ext E562
    replace F557 := F557.ext E562
    have F583 : Fld Z h559 a558 "java/lang/String" "coder" "B" (.int (0 : Int32)) := D564 (Or.inr w27) (ty := .byte) (by decide)
    have F584 : Fld Z h559 a558 "java/lang/String" "value" "[B" .null := D564 (Or.inr w29) (ty := (.array .byte)) (by decide)
    show Go _ _ _ _ _ _ h559 [a558, a448, a401, a363, a345, a313, a298] 27 556 458 #[.val (.int a), .val (.int b), .val (.int k), .val (.int (nar .char (a &&& (255 : Int32)))), .val (.int (nar .char (((a.toUInt32 >>> ((8 : Int32) &&& 31).toUInt32).toInt32) &&& (255 : Int32)))), .val (.int (nar .char (b &&& (255 : Int32)))), .val (.int (nar .char (((b.toUInt32 >>> ((8 : Int32) &&& 31).toUInt32).toInt32) &&& (255 : Int32)))), .val (.int (1 : Int32)), .val (.ref a298), .val (.ref a345), .val (.ref a401), .val (.ref pB), .val (.ref a427), .val (.ref a448)] [(.ref a558)]
    refine Go.dup H at_458 rfl rfl ?_
    refine Go.aload H at_459 rfl rfl rfl ?_
    refine Go.callI (rest := [(.ref a558)]) 1 [(.ref a448)] H at_461 rfl rfl w4 w5 w2 w6 pd_N5 (ct_new1 l W a558 a448 [(nar .char (a &&& (255 : Int32))), (nar .char (((a.toUInt32 >>> ((8 : Int32) &&& 31).toUInt32).toInt32) &&& (255 : Int32))), (47 : Int32), (116 : Int32), (104 : Int32), (105 : Int32), (110 : Int32), (103 : Int32), (115 : Int32), (47 : Int32), (nar .char (b &&& (255 : Int32))), (nar .char (((b.toUInt32 >>> ((8 : Int32) &&& 31).toUInt32).toInt32) &&& (255 : Int32))), (47 : Int32), (106 : Int32), (111 : Int32), (98 : Int32), (115 : Int32), (47 : Int32), (110 : Int32), (111 : Int32), (116 : Int32), (105 : Int32), (102 : Int32), (121 : Int32), (45 : Int32), (110 : Int32), (101 : Int32), (120 : Int32), (116 : Int32)] h559 A563 F584 F583  F557 (own_ac (own_and255 _) (own_ac (own_and255 _) (own_ac (show isL (47 : Int32) from ⟨by decide, by decide⟩) (own_ac (show isL (116 : Int32) from ⟨by decide, by decide⟩) (own_ac (show isL (104 : Int32) from ⟨by decide, by decide⟩) (own_ac (show isL (105 : Int32) from ⟨by decide, by decide⟩) (own_ac (show isL (110 : Int32) from ⟨by decide, by decide⟩) (own_ac (show isL (103 : Int32) from ⟨by decide, by decide⟩) (own_ac (show isL (115 : Int32) from ⟨by decide, by decide⟩) (own_ac (show isL (47 : Int32) from ⟨by decide, by decide⟩) (own_ac (own_and255 _) (own_ac (own_and255 _) (own_ac (show isL (47 : Int32) from ⟨by decide, by decide⟩) (own_ac (show isL (106 : Int32) from ⟨by decide, by decide⟩) (own_ac (show isL (111 : Int32) from ⟨by decide, by decide⟩) (own_ac (show isL (98 : Int32) from ⟨by decide, by decide⟩) (own_ac (show isL (115 : Int32) from ⟨by decide, by decide⟩) (own_ac (show isL (47 : Int32) from ⟨by decide, by decide⟩) (own_ac (show isL (110 : Int32) from ⟨by decide, by decide⟩) (own_ac (show isL (111 : Int32) from ⟨by decide, by decide⟩) (own_ac (show isL (116 : Int32) from ⟨by decide, by decide⟩) (own_ac (show isL (105 : Int32) from ⟨by decide, by decide⟩) (own_ac (show isL (102 : Int32) from ⟨by decide, by decide⟩) (own_ac (show isL (121 : Int32) from ⟨by decide, by decide⟩) (own_ac (show isL (45 : Int32) from ⟨by decide, by decide⟩) (own_ac (show isL (110 : Int32) from ⟨by decide, by decide⟩) (own_ac (show isL (101 : Int32) from ⟨by decide, by decide⟩) (own_ac (show isL (120 : Int32) from ⟨by decide, by decide⟩) (own_ac (show isL (116 : Int32) from ⟨by decide, by decide⟩) own_an))))))))))))))))))))))))))))) (Nat.le_of_ble_eq_true rfl) (Nat.le_of_ble_eq_true rfl) z561) (by simp) rfl rfl rfl (Nat.le_of_eq rfl) (by decide) (by decide) (by decide) (by decide) nh_N4 ?_
    rintro _ h585 _ ⟨rfl, K586, ⟨b587, g588, S589⟩, rfl⟩
    have ne590 : pA ≠ b587 := Nat.ne_of_lt (Nat.lt_of_lt_of_le GA.lt g588)
    have ne591 : sA ≠ b587 := Nat.ne_of_lt (Nat.lt_of_lt_of_le SA.lt g588)
    have ne592 : bA ≠ b587 := Nat.ne_of_lt (Nat.lt_of_lt_of_le SA.ltb g588)
    have ne593 : pB ≠ b587 := Nat.ne_of_lt (Nat.lt_of_lt_of_le GB.lt g588)
    have ne594 : sB ≠ b587 := Nat.ne_of_lt (Nat.lt_of_lt_of_le SB.lt g588)
    have ne595 : bB ≠ b587 := Nat.ne_of_lt (Nat.lt_of_lt_of_le SB.ltb g588)
    have ne596 : a313 ≠ b587 := Nat.ne_of_lt (Nat.lt_of_lt_of_le F331.lt g588)
    have ne597 : a298 ≠ b587 := Nat.ne_of_lt (Nat.lt_of_lt_of_le S336.lt g588)
    have ne598 : b334 ≠ b587 := Nat.ne_of_lt (Nat.lt_of_lt_of_le S336.ltb g588)
    have ne599 : a363 ≠ b587 := Nat.ne_of_lt (Nat.lt_of_lt_of_le F384.lt g588)
    have ne600 : a345 ≠ b587 := Nat.ne_of_lt (Nat.lt_of_lt_of_le S389.lt g588)
    have ne601 : b387 ≠ b587 := Nat.ne_of_lt (Nat.lt_of_lt_of_le S389.ltb g588)
    have ne602 : a401 ≠ b587 := Nat.ne_of_lt (Nat.lt_of_lt_of_le A406.lt g588)
    have ne603 : r423 ≠ b587 := Nat.ne_of_lt (Nat.lt_of_lt_of_le S426.lt g588)
    have ne604 : rb424 ≠ b587 := Nat.ne_of_lt (Nat.lt_of_lt_of_le S426.ltb g588)
    have ne605 : a427 ≠ b587 := Nat.ne_of_lt (Nat.lt_of_lt_of_le S432.lt g588)
    have ne606 : b428 ≠ b587 := Nat.ne_of_lt (Nat.lt_of_lt_of_le S432.ltb g588)
    have ne607 : a448 ≠ b587 := Nat.ne_of_lt (Nat.lt_of_lt_of_le F557.lt g588)
    have ne608 : a558 ≠ b587 := Nat.ne_of_lt (Nat.lt_of_lt_of_le A563.lt g588)
    replace GA := GA.keep K586 (ninS ne565 nin0)
    replace SA := SA.keep K586 (ninS ne566 nin0) (ninS ne567 nin0)
    replace GB := GB.keep K586 (ninS ne568 nin0)
    replace SB := SB.keep K586 (ninS ne569 nin0) (ninS ne570 nin0)
    replace F331 := F331.keep K586 (ninS ne571 nin0)
    replace S336 := S336.keep K586 (ninS ne572 nin0) (ninS ne573 nin0)
    replace F384 := F384.keep K586 (ninS ne574 nin0)
    replace S389 := S389.keep K586 (ninS ne575 nin0) (ninS ne576 nin0)
    replace A406 := A406.keep K586
    replace F425 := F425.keep K586 (ninS ne577 nin0)
    replace S426 := S426.keep K586 (ninS ne578 nin0) (ninS ne579 nin0)
    replace S432 := S432.keep K586 (ninS ne580 nin0) (ninS ne581 nin0)
    replace F557 := F557.keep K586 (ninS ne582 nin0)
    show Go _ _ _ _ _ _ h585 [a558, a448, a401, a363, a345, a313, a298] 28 585 464 #[.val (.int a), .val (.int b), .val (.int k), .val (.int (nar .char (a &&& (255 : Int32)))), .val (.int (nar .char (((a.toUInt32 >>> ((8 : Int32) &&& 31).toUInt32).toInt32) &&& (255 : Int32)))), .val (.int (nar .char (b &&& (255 : Int32)))), .val (.int (nar .char (((b.toUInt32 >>> ((8 : Int32) &&& 31).toUInt32).toInt32) &&& (255 : Int32)))), .val (.int (1 : Int32)), .val (.ref a298), .val (.ref a345), .val (.ref a401), .val (.ref pB), .val (.ref a427), .val (.ref a448)] [(.ref a558)]
    refine Go.aload H at_464 rfl rfl rfl ?_
    refine Go.callV (rest := []) 0 [(.ref a427)] H at_466 rfl S589.1 w180 w181 w183 w182 w2 w184 pd_N9 (ct_eq l W a558 b587 a427 b428 [(nar .char (a &&& (255 : Int32))), (nar .char (((a.toUInt32 >>> ((8 : Int32) &&& 31).toUInt32).toInt32) &&& (255 : Int32))), (47 : Int32), (116 : Int32), (104 : Int32), (105 : Int32), (110 : Int32), (103 : Int32), (115 : Int32), (47 : Int32), (nar .char (b &&& (255 : Int32))), (nar .char (((b.toUInt32 >>> ((8 : Int32) &&& 31).toUInt32).toInt32) &&& (255 : Int32))), (47 : Int32), (106 : Int32), (111 : Int32), (98 : Int32), (115 : Int32), (47 : Int32), (110 : Int32), (111 : Int32), (116 : Int32), (105 : Int32), (102 : Int32), (121 : Int32), (45 : Int32), (110 : Int32), (101 : Int32), (120 : Int32), (116 : Int32)] (((([(nar .char (a &&& (255 : Int32))), (nar .char (((a.toUInt32 >>> ((8 : Int32) &&& 31).toUInt32).toInt32) &&& (255 : Int32)))] ++ [(47 : Int32), (116 : Int32), (104 : Int32), (105 : Int32), (110 : Int32), (103 : Int32), (115 : Int32), (47 : Int32)]) ++ [(nar .char (b &&& (255 : Int32))), (nar .char (((b.toUInt32 >>> ((8 : Int32) &&& 31).toUInt32).toInt32) &&& (255 : Int32)))]) ++ [(47 : Int32), (106 : Int32), (111 : Int32), (98 : Int32), (115 : Int32), (47 : Int32)]) ++ [(110 : Int32), (111 : Int32), (116 : Int32), (105 : Int32), (102 : Int32), (121 : Int32), (45 : Int32), (110 : Int32), (101 : Int32), (120 : Int32), (116 : Int32)]) h585 S589 S432) all0 rfl rfl rfl (Nat.le_of_eq rfl) (by decide) (by decide) (by decide) (by decide) nh_N4 ?_
    rintro _ _ _ ⟨rfl, rfl, rfl⟩
    show Go _ _ _ _ _ _ h585 [a558, a448, a401, a363, a345, a313, a298] 28 585 469 #[.val (.int a), .val (.int b), .val (.int k), .val (.int (nar .char (a &&& (255 : Int32)))), .val (.int (nar .char (((a.toUInt32 >>> ((8 : Int32) &&& 31).toUInt32).toInt32) &&& (255 : Int32)))), .val (.int (nar .char (b &&& (255 : Int32)))), .val (.int (nar .char (((b.toUInt32 >>> ((8 : Int32) &&& 31).toUInt32).toInt32) &&& (255 : Int32)))), .val (.int (1 : Int32)), .val (.ref a298), .val (.ref a345), .val (.ref a401), .val (.ref pB), .val (.ref a427), .val (.ref a448)] [(.int (if [(nar .char (a &&& (255 : Int32))), (nar .char (((a.toUInt32 >>> ((8 : Int32) &&& 31).toUInt32).toInt32) &&& (255 : Int32))), (47 : Int32), (116 : Int32), (104 : Int32), (105 : Int32), (110 : Int32), (103 : Int32), (115 : Int32), (47 : Int32), (nar .char (b &&& (255 : Int32))), (nar .char (((b.toUInt32 >>> ((8 : Int32) &&& 31).toUInt32).toInt32) &&& (255 : Int32))), (47 : Int32), (106 : Int32), (111 : Int32), (98 : Int32), (115 : Int32), (47 : Int32), (110 : Int32), (111 : Int32), (116 : Int32), (105 : Int32), (102 : Int32), (121 : Int32), (45 : Int32), (110 : Int32), (101 : Int32), (120 : Int32), (116 : Int32)] = (((([(nar .char (a &&& (255 : Int32))), (nar .char (((a.toUInt32 >>> ((8 : Int32) &&& 31).toUInt32).toInt32) &&& (255 : Int32)))] ++ [(47 : Int32), (116 : Int32), (104 : Int32), (105 : Int32), (110 : Int32), (103 : Int32), (115 : Int32), (47 : Int32)]) ++ [(nar .char (b &&& (255 : Int32))), (nar .char (((b.toUInt32 >>> ((8 : Int32) &&& 31).toUInt32).toInt32) &&& (255 : Int32)))]) ++ [(47 : Int32), (106 : Int32), (111 : Int32), (98 : Int32), (115 : Int32), (47 : Int32)]) ++ [(110 : Int32), (111 : Int32), (116 : Int32), (105 : Int32), (102 : Int32), (121 : Int32), (45 : Int32), (110 : Int32), (101 : Int32), (120 : Int32), (116 : Int32)]) then (1 : Int32) else 0))]
    exact Go.ireturn 1 [] H at_469 (by simp) (by rw [if_pos (by rfl)]; decide) ⟨rfl, trivial⟩ all0 (by decide) (by decide)
theorem w153 : Jvm.Cond.initialized "com/example/steady_rollout/steadyrollout/DeviceTopics$Push" ∈ tables_1 := List.mem_of_getElem? (i := 153) rfl
theorem w154 : Jvm.Cond.laysStatic "com/example/steady_rollout/steadyrollout/DeviceTopics$Push" "NOTIFY" "Lcom/example/steady_rollout/steadyrollout/DeviceTopics$Push;" ∈ tables_1 := List.mem_of_getElem? (i := 154) rfl
theorem w191 : Jvm.Cond.laysStatic "com/example/steady_rollout/steadyrollout/DeviceTopics$Push" "NOTIFY_NEXT" "Lcom/example/steady_rollout/steadyrollout/DeviceTopics$Push;" ∈ tables_1 := List.mem_of_getElem? (i := 191) rfl
theorem w103 : Jvm.Cond.soleField "java/lang/String" "value" ∈ tables_1 := List.mem_of_getElem? (i := 103) rfl
theorem w104 : Jvm.Cond.soleField "java/lang/String" "coder" ∈ tables_1 := List.mem_of_getElem? (i := 104) rfl
set_option maxRecDepth 65536 in
set_option maxHeartbeats 4000000 in
theorem comes_1 {Post : Tables → Env → Array Value → State → Outcome → State → Prop} (hpost : ∀ tb e args s v u, (limb_1_1.after args s (.returned v) u = true ∧ limb_1_2.after args s (.returned v) u = true ∧ True) → ReturnedEndW s (.returned v) u (Jvm.fieldLocs frame_1_writes args s ++ Jvm.arrayLocs frame_1_arrays args s ++ Jvm.staticLocs frame_1_statics s) 56 2560 → Post tb e args s (.returned v) u) :
    ArmFor flags0 classFile x code maxLocals ret World_1 tables_1 room_1 Calls_1 rest_1 Pre_1 Post := by
  intro l hfl _ _ p e ha hc hk s m args below hf hA hF happ hP
  obtain ⟨hcalls, hrest, hpre⟩ := hP
  obtain ⟨-, -, -, hnamed, -, -, -, hat⟩ := (Spec.applies_iff hf).mp happ
  obtain ⟨hg, hn⟩ := and_e (Cond.before_iff.mp (show (Jvm.Cond.and given_1 narrow_1).before args s = true from hpre))
  obtain ⟨h1, h2⟩ := and_e hg
  obtain ⟨k0, r0⟩ := and_e h2
  obtain ⟨k1, r1⟩ := and_e r0
  obtain ⟨w0, w1, w2, rfl⟩ : ∃ w0 w1 w2 : Value, args = #[w0, w1, w2] := by
    have hs : args.size = 3 := by simpa [Cond.value, given_1] using h1
    obtain ⟨L⟩ := args
    match L, hs with
    | [w0, w1, w2], _ => exact ⟨w0, w1, w2, rfl⟩
  have hw := fun d (hd : d ∈ tables_1) => atoms_spec (ws := Jvm.Cond.code x code maxLocals ret :: tables_1) hat d (List.mem_cons_of_mem _ hd)
  obtain ⟨hsets, hown0⟩ := atoms_of _ (rest_1_c_eq ▸ (show rest_1_c.before _ s = true from hrest))
  have hfit : Fit s := fun {y c} hc i hi => by
    obtain ⟨ha, rfl⟩ := Array.getElem?_eq_some_iff.mp hc
    have q := List.all_eq_true.mp ((Array.all_eq_true_iff_forall_mem.mp hF) _ (Array.getElem_mem ha)) i (List.mem_range.mpr hi)
    simpa [Array.getElem?_eq_getElem hi] using q
  obtain ⟨i0, e0⟩ := is_v k0
  obtain rfl : w0 = (.int i0) := Option.some.inj e0
  obtain ⟨i1, e1⟩ := is_v k1
  obtain rfl : w1 = (.int i1) := Option.some.inj e1
  obtain ⟨i2, e2⟩ := is_v r1
  obtain rfl : w2 = (.int i2) := Option.some.inj e2
  have n5 := not_v (Cond.before_iff.mp (hsets _ (List.mem_of_getElem? (i := 2) rfl)))
  obtain ⟨iz, ez⟩ := is_v (Cond.before_iff.mp (hsets _ (List.mem_of_getElem? (i := 1) rfl)))
  have Sz : Sta s s.heap "java/lang/String" "COMPACT_STRINGS" "Z" (.int iz) := Sta.start ez (Or.inl (hsets _ (List.mem_of_getElem? (i := 0) rfl)))
  obtain ⟨vf, ef, rf⟩ := isR_v (Cond.before_iff.mp (hsets _ (List.mem_of_getElem? (i := 8) rfl)))
  have Sf : Sta s s.heap "jdk/internal/util/Preconditions" "SIOOBE_FORMATTER" "Ljava/util/function/BiFunction;" vf := Sta.start ef (Or.inl (hsets _ (List.mem_of_getElem? (i := 7) rfl)))
  have cz : ¬ (iz = (0 : Int32)) := gotF (Cond.eq_ints ez (Term.int_eval (0))) n5
  obtain ⟨q0, hn0⟩ := and_e hn
  obtain ⟨q1, hn1⟩ := and_e hn0
  obtain ⟨q2, hn2⟩ := and_e hn1
  obtain ⟨q3, hn3⟩ := and_e hn2
  obtain ⟨q4, hn4⟩ := and_e hn3
  obtain ⟨q5, hn5⟩ := and_e hn4
  obtain ⟨q6, hn6⟩ := and_e hn5
  obtain ⟨q7, hn7⟩ := and_e hn6
  obtain ⟨q8, hn8⟩ := and_e hn7
  obtain ⟨q9, hn9⟩ := and_e hn8
  obtain ⟨q10, hn10⟩ := and_e hn9
  obtain ⟨q11, hn11⟩ := and_e hn10
  obtain ⟨q12, hn12⟩ := and_e hn11
  obtain ⟨q13, hn13⟩ := and_e hn12
  obtain ⟨q14, hn14⟩ := and_e hn13
  obtain ⟨q15, hn15⟩ := and_e hn14
  obtain ⟨q16, hn16⟩ := and_e hn15
  obtain ⟨q17, hn17⟩ := and_e hn16
  obtain ⟨q18, hn18⟩ := and_e hn17
  obtain ⟨q19, hn19⟩ := and_e hn18
  obtain ⟨q20, hn20⟩ := and_e hn19
  obtain ⟨q21, hn21⟩ := and_e hn20
  obtain ⟨q22, hn22⟩ := and_e hn21
  obtain ⟨q23, hn23⟩ := and_e hn22
  obtain ⟨q24, hn24⟩ := and_e hn23
  obtain ⟨q25, hn25⟩ := and_e hn24
  obtain ⟨q26, hn26⟩ := and_e hn25
  obtain ⟨q27, hn27⟩ := and_e hn26
  have q28 := hn27
  obtain ⟨pA, epA⟩ := exa_v q0
  have SpA : Sta s s.heap "com/example/steady_rollout/steadyrollout/DeviceTopics$Push" "NOTIFY" "Lcom/example/steady_rollout/steadyrollout/DeviceTopics$Push;" (.ref pA) := Sta.start epA (Or.inr ⟨hw _ w153, hw _ w154⟩)
  obtain ⟨sA, bA, esA, TA⟩ := own_oldstr (vs := [(110 : Int32), (111 : Int32), (116 : Int32), (105 : Int32), (102 : Int32), (121 : Int32)]) (cs := [(110 : Int32), (111 : Int32), (116 : Int32), (105 : Int32), (102 : Int32), (121 : Int32)]) hfit q1 q5 q2 q4 (by decide) (by decide) (fun c x ex hx => ⟨own_el 0 ex hx (by decide) q12, ⟨own_el 1 ex hx (by decide) q13, ⟨own_el 2 ex hx (by decide) q14, ⟨own_el 3 ex hx (by decide) q15, ⟨own_el 4 ex hx (by decide) q16, ⟨own_el 5 ex hx (by decide) q17, trivial⟩⟩⟩⟩⟩⟩) (by decide) (own_ac (show isL (110 : Int32) from ⟨by decide, by decide⟩) (own_ac (show isL (111 : Int32) from ⟨by decide, by decide⟩) (own_ac (show isL (116 : Int32) from ⟨by decide, by decide⟩) (own_ac (show isL (105 : Int32) from ⟨by decide, by decide⟩) (own_ac (show isL (102 : Int32) from ⟨by decide, by decide⟩) (own_ac (show isL (121 : Int32) from ⟨by decide, by decide⟩) (own_an))))))) (by decide)
  have GA : Fld s s.heap pA "com/example/steady_rollout/steadyrollout/DeviceTopics$Push" "level" "Ljava/lang/String;" (.ref sA) := Fld.start ((fld_at epA).symm.trans esA)
  obtain ⟨pB, epB⟩ := exa_v q6
  have SpB : Sta s s.heap "com/example/steady_rollout/steadyrollout/DeviceTopics$Push" "NOTIFY_NEXT" "Lcom/example/steady_rollout/steadyrollout/DeviceTopics$Push;" (.ref pB) := Sta.start epB (Or.inr ⟨hw _ w153, hw _ w191⟩)
  obtain ⟨sB, bB, esB, TB⟩ := own_oldstr (vs := [(110 : Int32), (111 : Int32), (116 : Int32), (105 : Int32), (102 : Int32), (121 : Int32), (45 : Int32), (110 : Int32), (101 : Int32), (120 : Int32), (116 : Int32)]) (cs := [(110 : Int32), (111 : Int32), (116 : Int32), (105 : Int32), (102 : Int32), (121 : Int32), (45 : Int32), (110 : Int32), (101 : Int32), (120 : Int32), (116 : Int32)]) hfit q7 q11 q8 q10 (by decide) (by decide) (fun c x ex hx => ⟨own_el 0 ex hx (by decide) q18, ⟨own_el 1 ex hx (by decide) q19, ⟨own_el 2 ex hx (by decide) q20, ⟨own_el 3 ex hx (by decide) q21, ⟨own_el 4 ex hx (by decide) q22, ⟨own_el 5 ex hx (by decide) q23, ⟨own_el 6 ex hx (by decide) q24, ⟨own_el 7 ex hx (by decide) q25, ⟨own_el 8 ex hx (by decide) q26, ⟨own_el 9 ex hx (by decide) q27, ⟨own_el 10 ex hx (by decide) q28, trivial⟩⟩⟩⟩⟩⟩⟩⟩⟩⟩⟩) (by decide) (own_ac (show isL (110 : Int32) from ⟨by decide, by decide⟩) (own_ac (show isL (111 : Int32) from ⟨by decide, by decide⟩) (own_ac (show isL (116 : Int32) from ⟨by decide, by decide⟩) (own_ac (show isL (105 : Int32) from ⟨by decide, by decide⟩) (own_ac (show isL (102 : Int32) from ⟨by decide, by decide⟩) (own_ac (show isL (121 : Int32) from ⟨by decide, by decide⟩) (own_ac (show isL (45 : Int32) from ⟨by decide, by decide⟩) (own_ac (show isL (110 : Int32) from ⟨by decide, by decide⟩) (own_ac (show isL (101 : Int32) from ⟨by decide, by decide⟩) (own_ac (show isL (120 : Int32) from ⟨by decide, by decide⟩) (own_ac (show isL (116 : Int32) from ⟨by decide, by decide⟩) (own_an)))))))))))) (by decide)
  have GB : Fld s s.heap pB "com/example/steady_rollout/steadyrollout/DeviceTopics$Push" "level" "Ljava/lang/String;" (.ref sB) := Fld.start ((fld_at epB).symm.trans esB)
  have hEL : EW s _ consts_1 := (EW.cons (hw _ w102) (by decide) (EW.cons (hw _ w160) (by decide) EW.nil))
  have hat7 : ∀ a ∈ Bundle.stringAtoms, a.before _ s = true := fun a ha => by
    simp only [Bundle.stringAtoms, List.mem_cons, List.not_mem_nil, or_false] at ha
    rcases ha with rfl | rfl | rfl | rfl | rfl | rfl | rfl
    · exact hw _ w2
    · exact hw _ w1
    · exact hw _ w19
    · exact hw _ w29
    · exact hw _ w27
    · exact hw _ w103
    · exact hw _ w104
  have hCH : CHv s consts_1 s.vm s.heap := CHv.start hEL (fun p hp => hcalls.1 p hp) (hsets _ (List.mem_of_getElem? (i := 2) rfl)) (hw _ w19) (hw _ w1)
  obtain ⟨n, o, h1, h2, h3, _, L, rfl, ⟨⟨sn, ⟨rfl, -⟩, -⟩, N, -⟩, -, hq⟩ := ct_law l (Z := s) (n0 := s.heap.size) ⟨⟨⟨_, hw, hEL, hat7⟩, cz, Sz, rf, Sf⟩, SpA, SpB, GA, TA, GB, TB⟩ i0 i1 i2 s.heap (Old.start s) tables_1 p e ha hc hk s m _ below hf ((Spec.applies_iff_loose hf).mp happ).1 ⟨rfl, State.Warmed39.refl s, rfl, hCH, fun x q => nomatch q⟩ trivial
  refine ⟨n, _, h1, h2, h3, hpost _ _ _ _ _ _ ⟨Cond.after_iff.mpr rfl, Cond.after_iff.mpr (eq_i res_at (Term.int_eval (1)) rfl), trivial⟩ ⟨hq.1, hq.2.1, hq.2.2.1, (hq.2.2.2.sift fun y hy => Or.inr (N y hy)).mono (by decide) (by decide)⟩⟩
theorem main_1_1 : Claimed_1_1 := comes_1 fun _ _ _ _ _ _ h hF => ⟨h.1, hF⟩
theorem main_1_2 : Claimed_1_2 := comes_1 fun _ _ _ _ _ _ h hF => ⟨h.2.1, hF⟩
end Jvm.Pilot.@@N@@
namespace Jvm.Pilot.@@N@@
open Jvm Jvm.ClassFile Sem Op Lib Jvm.Free Jvm.Stand Jvm.Pilot.@@N@@.Jvm.D
/-! MADE BY PROGRAM (witnessworld.py) out of the Statement's table words and the real class files: 28 classes; the members and pool entries that the words name. The judged class is class 1, her method 1. -/
namespace start1
open Jvm.ClassFile
def u (s : String) : CpInfo := .utf8 (stringToUtf16 s)
/-- a pool by its gaps: so many unusable entries, then the entry; so many at the end -/
def gap : Nat → List CpInfo → List CpInfo
  | 0, r => r
  | n + 1, r => .unusable :: gap n r
def poolList (es : List (Nat × CpInfo)) (last : Nat) : List CpInfo := es.foldr (fun e r => gap e.1 (e.2 :: r)) (gap last [])
def pool (es : List (Nat × CpInfo)) (last : Nat) : Array CpInfo := ⟨poolList es last⟩
def fileOf (pool : Array CpInfo) (this : Nat) (attrs : Array Attribute := #[]) (ms : Array MethodInfo := #[]) (fl : Nat := 33) (sup : Nat := 0) (ifs : Array Nat := #[]) (fds : Array FieldInfo := #[]) : ClassFile where
  minorVersion := 0
  majorVersion := 65
  constantPool := pool
  accessFlags := fl
  thisClass := this
  superClass := sup
  interfaces := ifs
  fields := fds
  methods := ms
  attributes := attrs
def plain (name : String) (sup : Option ClassId) : Class where
  name := name
  kind := .ordinary
  loader := none
  accessFlags := 33
  super := sup
  interfaces := #[]
  cf := none
  fields := #[]
  methods := #[]
  instanceTypes := #[]
  staticTypes := #[]
  resolved := #[]
  callSites := []
  init := .initialized
  statics := none
  mirror := none

def pool0 : Array CpInfo := pool [(5, u "<init>"), (0, u "()V"), (1, .class_ 10), (1, u "java/lang/Object")] 113

def k0c0 : Code := { maxStack := 0, maxLocals := 1, code := object_method_1_code, exceptionTable := #[], attributes := #[] }
def k0m0 : Method := { name := "<init>", desc := "()V", sig := { parameters := [], returnType := none }, accessFlags := 1, code := some k0c0 }
/-- java/lang/Object -/
def k0 : Class := { plain "java/lang/Object" none with
  accessFlags := 33
  interfaces := #[]
  cf := some (fileOf pool0 8 #[] #[{ accessFlags := 1, nameIndex := 5, descriptorIndex := 6, attributes := #[] }] 33 0 #[] #[])
  fields := #[]
  methods := #[k0m0]
  instanceTypes := #[]
  staticTypes := #[]
  resolved := Array.replicate 124 none
  statics := none }

def pool1 : Array CpInfo := pool [(2, .class_ 4), (1, u "java/lang/Object"), (0, u "<init>"), (0, u "()V"), (0, .class_ 8), (0, u "java/lang/String"), (0, .methodref 7 10), (0, .nameAndType 5 11), (0, u "([C)V"), (0, .class_ 13), (0, u "com/example/steady_rollout/steadyrollout/DeviceTopics"), (0, .methodref 12 15), (0, .nameAndType 5 16), (0, u "(Ljava/lang/String;)V"), (0, .fieldref 18 19), (0, .class_ 20), (0, .nameAndType 21 22), (0, u "com/example/steady_rollout/steadyrollout/DeviceTopics$Push"), (0, u "NOTIFY_NEXT"), (0, u "Lcom/example/steady_rollout/steadyrollout/DeviceTopics$Push;"), (0, .fieldref 18 24), (0, .nameAndType 25 22), (0, u "NOTIFY"), (0, .methodref 12 27), (0, .nameAndType 28 29), (0, u "push"), (0, u "(Ljava/lang/String;Lcom/example/steady_rollout/steadyrollout/DeviceTopics$Push;)Ljava/lang/String;"), (0, .methodref 7 31), (0, .nameAndType 32 33), (0, u "equals"), (0, u "(Ljava/lang/Object;)Z"), (0, .class_ 35), (0, u "com/example/steady_rollout/steadyrollout/DeviceTopicsPushPinLaw"), (2, u "law"), (0, u "(III)Z")] 7

def k1m0 : Method := { name := "<init>", desc := "()V", sig := { parameters := [], returnType := none }, accessFlags := 1, code := none }
def k1c1 : Code := { maxStack := 6, maxLocals := 14, code := code, exceptionTable := #[], attributes := #[] }
def k1m1 : Method := { name := "law", desc := "(III)Z", sig := { parameters := [.int, .int, .int], returnType := some .boolean }, accessFlags := 9, code := some k1c1 }
/-- com/example/steady_rollout/steadyrollout/DeviceTopicsPushPinLaw -/
def k1 : Class := { plain "com/example/steady_rollout/steadyrollout/DeviceTopicsPushPinLaw" (some 0) with
  accessFlags := 49
  interfaces := #[]
  cf := some (fileOf pool1 34 #[] #[{ accessFlags := 1, nameIndex := 5, descriptorIndex := 6, attributes := #[] }, { accessFlags := 9, nameIndex := 38, descriptorIndex := 39, attributes := #[] }] 49 2 #[] #[])
  fields := #[]
  methods := #[k1m0, k1m1]
  instanceTypes := #[]
  staticTypes := #[]
  resolved := Array.replicate 47 none
  statics := none }

def pool2 : Array CpInfo := pool [(1, .class_ 2), (0, u "java/io/Serializable"), (0, .class_ 4), (0, u "java/lang/Object")] 2

/-- java/io/Serializable -/
def k2 : Class := { plain "java/io/Serializable" (some 0) with
  accessFlags := 1537
  interfaces := #[]
  cf := some (fileOf pool2 1 #[] #[] 1537 3 #[] #[])
  fields := #[]
  methods := #[]
  instanceTypes := #[]
  staticTypes := #[]
  resolved := Array.replicate 7 none
  statics := none }

def pool3 : Array CpInfo := pool [(1, .class_ 2), (0, u "java/lang/Comparable"), (0, .class_ 4), (0, u "java/lang/Object")] 7

/-- java/lang/Comparable -/
def k3 : Class := { plain "java/lang/Comparable" (some 0) with
  accessFlags := 1537
  interfaces := #[]
  cf := some (fileOf pool3 1 #[] #[] 1537 3 #[] #[])
  fields := #[]
  methods := #[]
  instanceTypes := #[]
  staticTypes := #[]
  resolved := Array.replicate 12 none
  statics := none }

def pool4 : Array CpInfo := pool [(2, .class_ 4), (1, u "java/lang/CharSequence"), (42, .class_ 48), (0, u "java/lang/CharSequence$1CodePointIterator"), (10, .class_ 60), (0, u "java/lang/CharSequence$1CharIterator"), (5, .class_ 67), (0, u "java/lang/Object")] 63

/-- java/lang/CharSequence -/
def k4 : Class := { plain "java/lang/CharSequence" (some 0) with
  accessFlags := 1537
  interfaces := #[]
  cf := some (fileOf pool4 2 #[.nestMembers #[47, 59]] #[] 1537 66 #[] #[])
  fields := #[]
  methods := #[]
  instanceTypes := #[]
  staticTypes := #[]
  resolved := Array.replicate 131 none
  statics := none }

def pool5 : Array CpInfo := pool [(1, .class_ 2), (0, u "java/lang/constant/Constable"), (0, .class_ 4), (0, u "java/lang/Object")] 6

/-- java/lang/constant/Constable -/
def k5 : Class := { plain "java/lang/constant/Constable" (some 0) with
  accessFlags := 1537
  interfaces := #[]
  cf := some (fileOf pool5 1 #[] #[] 1537 3 #[] #[])
  fields := #[]
  methods := #[]
  instanceTypes := #[]
  staticTypes := #[]
  resolved := Array.replicate 11 none
  statics := none }

def pool6 : Array CpInfo := pool [(1, .class_ 2), (0, u "java/lang/constant/ConstantDesc"), (0, .class_ 4), (0, u "java/lang/Object")] 32

/-- java/lang/constant/ConstantDesc -/
def k6 : Class := { plain "java/lang/constant/ConstantDesc" (some 0) with
  accessFlags := 1537
  interfaces := #[]
  cf := some (fileOf pool6 1 #[] #[] 1537 3 #[] #[])
  fields := #[]
  methods := #[]
  instanceTypes := #[]
  staticTypes := #[]
  resolved := Array.replicate 37 none
  statics := none }

def pool7 : Array CpInfo := pool [(1, .methodref 2 3), (0, .class_ 4), (0, .nameAndType 5 6), (0, u "java/lang/Object"), (0, u "<init>"), (0, u "()V"), (2, .fieldref 10 11), (0, .class_ 12), (0, .nameAndType 13 14), (0, u "java/lang/String"), (0, u "value"), (0, u "[B"), (0, .fieldref 10 16), (0, .nameAndType 17 18), (0, u "coder"), (0, u "B"), (2, u "hash"), (0, u "I"), (2, u "hashIsZero"), (0, u "Z"), (0, .methodref 10 28), (0, .nameAndType 5 29), (0, u "([CIILjava/lang/Void;)V"), (8, .fieldref 10 39), (0, .nameAndType 40 26), (0, u "COMPACT_STRINGS"), (1, .class_ 44), (1, u "java/lang/StringUTF16"), (0, u "compress"), (1, .methodref 42 48), (0, .nameAndType 49 50), (0, u "coderFromArrayLen"), (0, u "([BI)B"), (3, .methodref 55 56), (0, .class_ 57), (0, .nameAndType 58 59), (0, u "java/util/Arrays"), (0, u "copyOfRange"), (0, u "([BII)[B"), (47, .class_ 109), (1, u "java/lang/StringLatin1"), (32, u "()Z"), (34, .methodref 42 178), (0, .nameAndType 45 179), (0, u "([CII)[B"), (13, .class_ 195), (1, u "java/lang/System"), (16, .methodref 193 213), (0, .nameAndType 214 215), (0, u "arraycopy"), (0, u "(Ljava/lang/Object;ILjava/lang/Object;II)V"), (118, u "()I"), (0, .methodref 10 336), (0, .nameAndType 17 337), (0, u "()B"), (2, u "()[B"), (148, .methodref 10 490), (0, .nameAndType 5 491), (0, u "(Ljava/lang/AbstractStringBuilder;Ljava/lang/Void;)V"), (1, .nameAndType 494 142), (0, u "isLatin1"), (11, .nameAndType 507 334), (0, u "length"), (24, u "getBytes"), (8, .methodref 107 542), (0, .nameAndType 543 544), (0, u "equals"), (0, u "([B[B)Z"), (4, .methodref 550 506), (0, .class_ 551), (0, u "java/lang/AbstractStringBuilder"), (0, .methodref 550 553), (0, .nameAndType 554 340), (0, u "getValue"), (18, u "(Ljava/lang/Object;)Z"), (1, .class_ 576), (0, u "java/lang/CharSequence"), (22, u "CASE_INSENSITIVE_ORDER"), (0, u "Ljava/util/Comparator;"), (220, u "([BIB)V"), (188, u "([C)V"), (36, .methodref 550 493), (53, u "serialPersistentFields"), (0, u "[Ljava/io/ObjectStreamField;"), (0, .class_ 1104), (0, u "java/lang/String$CaseInsensitiveComparator"), (1, .class_ 1107), (0, u "java/io/Serializable"), (0, .class_ 1109), (0, u "java/lang/Comparable"), (0, .class_ 1111), (0, u "java/lang/constant/Constable"), (0, .class_ 1113), (0, u "java/lang/constant/ConstantDesc"), (2, u "serialVersionUID"), (0, u "J"), (3, u "REPL"), (0, u "C"), (2, u "LATIN1"), (1, u "UTF16"), (105, u "(Ljava/lang/StringBuilder;)V")] 217

def k7m0 : Method := { name := "<init>", desc := "()V", sig := { parameters := [], returnType := none }, accessFlags := 1, code := none }
def k7c1 : Code := { maxStack := 5, maxLocals := 2, code := jdk_42_method_3_code, exceptionTable := #[], attributes := #[] }
def k7m1 : Method := { name := "<init>", desc := "([C)V", sig := { parameters := [(.array .char)], returnType := none }, accessFlags := 1, code := some k7c1 }
def k7c2 : Code := { maxStack := 3, maxLocals := 2, code := jdk_42_method_53_code, exceptionTable := #[], attributes := #[] }
def k7m2 : Method := { name := "<init>", desc := "(Ljava/lang/StringBuilder;)V", sig := { parameters := [(.object "java/lang/StringBuilder")], returnType := none }, accessFlags := 1, code := some k7c2 }
def k7c3 : Code := { maxStack := 2, maxLocals := 1, code := jdk_42_method_54_code, exceptionTable := #[], attributes := #[] }
def k7m3 : Method := { name := "length", desc := "()I", sig := { parameters := [], returnType := some .int }, accessFlags := 1, code := some k7c3 }
def k7c4 : Code := { maxStack := 2, maxLocals := 3, code := jdk_42_method_66_code, exceptionTable := #[], attributes := #[] }
def k7m4 : Method := { name := "equals", desc := "(Ljava/lang/Object;)Z", sig := { parameters := [(.object "java/lang/Object")], returnType := some .boolean }, accessFlags := 1, code := some k7c4 }
def k7c5 : Code := { maxStack := 5, maxLocals := 4, code := jdk_42_method_147_code, exceptionTable := #[], attributes := #[] }
def k7m5 : Method := { name := "getBytes", desc := "([BIB)V", sig := { parameters := [(.array .byte), .int, .byte], returnType := none }, accessFlags := 0, code := some k7c5 }
def k7c6 : Code := { maxStack := 4, maxLocals := 6, code := jdk_42_method_149_code, exceptionTable := #[], attributes := #[] }
def k7m6 : Method := { name := "<init>", desc := "([CIILjava/lang/Void;)V", sig := { parameters := [(.array .char), .int, .int, (.object "java/lang/Void")], returnType := none }, accessFlags := 2, code := some k7c6 }
def k7c7 : Code := { maxStack := 5, maxLocals := 5, code := jdk_42_method_150_code, exceptionTable := #[], attributes := #[] }
def k7m7 : Method := { name := "<init>", desc := "(Ljava/lang/AbstractStringBuilder;Ljava/lang/Void;)V", sig := { parameters := [(.object "java/lang/AbstractStringBuilder"), (.object "java/lang/Void")], returnType := none }, accessFlags := 0, code := some k7c7 }
def k7c8 : Code := { maxStack := 1, maxLocals := 1, code := jdk_42_method_152_code, exceptionTable := #[], attributes := #[] }
def k7m8 : Method := { name := "coder", desc := "()B", sig := { parameters := [], returnType := some .byte }, accessFlags := 0, code := some k7c8 }
/-- java/lang/String -/
def k7 : Class := { plain "java/lang/String" (some 0) with
  accessFlags := 49
  interfaces := #[2, 3, 4, 5, 6]
  cf := some (fileOf pool7 10 #[.nestMembers #[1103]] #[{ accessFlags := 1, nameIndex := 5, descriptorIndex := 6, attributes := #[] }, { accessFlags := 1, nameIndex := 5, descriptorIndex := 1010, attributes := #[] }, { accessFlags := 1, nameIndex := 5, descriptorIndex := 1233, attributes := #[] }, { accessFlags := 1, nameIndex := 507, descriptorIndex := 334, attributes := #[] }, { accessFlags := 1, nameIndex := 543, descriptorIndex := 573, attributes := #[] }, { accessFlags := 0, nameIndex := 532, descriptorIndex := 821, attributes := #[] }, { accessFlags := 2, nameIndex := 5, descriptorIndex := 29, attributes := #[] }, { accessFlags := 0, nameIndex := 5, descriptorIndex := 491, attributes := #[] }, { accessFlags := 0, nameIndex := 17, descriptorIndex := 337, attributes := #[] }] 49 2 #[1106, 1108, 575, 1110, 1112] #[{ accessFlags := 18, nameIndex := 13, descriptorIndex := 14, attributes := #[] }, { accessFlags := 18, nameIndex := 17, descriptorIndex := 18, attributes := #[] }, { accessFlags := 2, nameIndex := 21, descriptorIndex := 22, attributes := #[] }, { accessFlags := 2, nameIndex := 25, descriptorIndex := 26, attributes := #[] }, { accessFlags := 26, nameIndex := 1116, descriptorIndex := 1117, attributes := #[] }, { accessFlags := 24, nameIndex := 40, descriptorIndex := 26, attributes := #[] }, { accessFlags := 26, nameIndex := 1101, descriptorIndex := 1102, attributes := #[] }, { accessFlags := 26, nameIndex := 1121, descriptorIndex := 1122, attributes := #[] }, { accessFlags := 25, nameIndex := 599, descriptorIndex := 600, attributes := #[] }, { accessFlags := 24, nameIndex := 1125, descriptorIndex := 18, attributes := #[] }, { accessFlags := 24, nameIndex := 1127, descriptorIndex := 18, attributes := #[] }])
  fields := #[{ name := "value", type := (.array .byte), accessFlags := 18, slot := 0, constantValue := 0 }, { name := "coder", type := .byte, accessFlags := 18, slot := 1, constantValue := 0 }, { name := "hash", type := .int, accessFlags := 2, slot := 2, constantValue := 0 }, { name := "hashIsZero", type := .boolean, accessFlags := 2, slot := 3, constantValue := 0 }, { name := "serialVersionUID", type := .long, accessFlags := 26, slot := 0, constantValue := 0 }, { name := "COMPACT_STRINGS", type := .boolean, accessFlags := 24, slot := 1, constantValue := 0 }, { name := "serialPersistentFields", type := (.array (.object "java/io/ObjectStreamField")), accessFlags := 26, slot := 2, constantValue := 0 }, { name := "REPL", type := .char, accessFlags := 26, slot := 3, constantValue := 0 }, { name := "CASE_INSENSITIVE_ORDER", type := (.object "java/util/Comparator"), accessFlags := 25, slot := 4, constantValue := 0 }, { name := "LATIN1", type := .byte, accessFlags := 24, slot := 5, constantValue := 0 }, { name := "UTF16", type := .byte, accessFlags := 24, slot := 6, constantValue := 0 }]
  methods := #[k7m0, k7m1, k7m2, k7m3, k7m4, k7m5, k7m6, k7m7, k7m8]
  instanceTypes := #[(.array .byte), .byte, .int, .boolean]
  staticTypes := #[.long, .boolean, (.array (.object "java/io/ObjectStreamField")), .char, (.object "java/util/Comparator"), .byte, .byte]
  resolved := Array.replicate 1451 none
  statics := some 0 }

def pool8 : Array CpInfo := pool [(6, .class_ 8), (1, u "java/lang/Object"), (0, u "<init>"), (0, u "()V"), (1, .class_ 14), (1, u "java/lang/StringUTF16"), (31, u "$assertionsDisabled"), (0, u "Z"), (13, u "HI_BYTE_SHIFT"), (0, u "I"), (2, u "LO_BYTE_SHIFT"), (49, .methodref 12 116), (0, .nameAndType 117 118), (0, u "compress"), (0, u "([CI[BII)I"), (3, u "([CII)[B"), (138, u "coderFromArrayLen"), (0, u "([BI)B"), (106, .class_ 371), (1, u "java/lang/StringUTF16$LinesSpliterator"), (58, u "MAX_LENGTH"), (196, .class_ 628), (0, u "java/lang/StringUTF16$CodePointsSpliterator"), (0, .class_ 630), (0, u "java/lang/StringUTF16$CharsSpliterator")] 4

def k8m0 : Method := { name := "<init>", desc := "()V", sig := { parameters := [], returnType := none }, accessFlags := 0, code := none }
def k8c1 : Code := { maxStack := 2, maxLocals := 2, code := jdk_52_method_15_code, exceptionTable := #[], attributes := #[] }
def k8m1 : Method := { name := "coderFromArrayLen", desc := "([BI)B", sig := { parameters := [(.array .byte), .int], returnType := some .byte }, accessFlags := 8, code := some k8c1 }
def k8c2 : Code := { maxStack := 5, maxLocals := 6, code := jdk_52_method_16_code, exceptionTable := #[], attributes := #[] }
def k8m2 : Method := { name := "compress", desc := "([CII)[B", sig := { parameters := [(.array .char), .int, .int], returnType := some (.array .byte) }, accessFlags := 9, code := some k8c2 }
def k8c3 : Code := { maxStack := 3, maxLocals := 7, code := jdk_52_method_21_code, exceptionTable := #[], attributes := #[] }
def k8m3 : Method := { name := "compress", desc := "([CI[BII)I", sig := { parameters := [(.array .char), .int, (.array .byte), .int, .int], returnType := some .int }, accessFlags := 9, code := some k8c3 }
/-- java/lang/StringUTF16 -/
def k8 : Class := { plain "java/lang/StringUTF16" (some 0) with
  accessFlags := 48
  interfaces := #[]
  cf := some (fileOf pool8 12 #[.nestMembers #[627, 629, 369]] #[{ accessFlags := 0, nameIndex := 9, descriptorIndex := 10, attributes := #[] }, { accessFlags := 8, nameIndex := 261, descriptorIndex := 262, attributes := #[] }, { accessFlags := 9, nameIndex := 117, descriptorIndex := 122, attributes := #[] }, { accessFlags := 9, nameIndex := 117, descriptorIndex := 118, attributes := #[] }] 48 6 #[] #[{ accessFlags := 26, nameIndex := 61, descriptorIndex := 62, attributes := #[] }, { accessFlags := 26, nameIndex := 65, descriptorIndex := 62, attributes := #[] }, { accessFlags := 24, nameIndex := 430, descriptorIndex := 62, attributes := #[] }, { accessFlags := 4120, nameIndex := 46, descriptorIndex := 47, attributes := #[] }])
  fields := #[{ name := "HI_BYTE_SHIFT", type := .int, accessFlags := 26, slot := 0, constantValue := 0 }, { name := "LO_BYTE_SHIFT", type := .int, accessFlags := 26, slot := 1, constantValue := 0 }, { name := "MAX_LENGTH", type := .int, accessFlags := 24, slot := 2, constantValue := 0 }, { name := "$assertionsDisabled", type := .boolean, accessFlags := 4120, slot := 3, constantValue := 0 }]
  methods := #[k8m0, k8m1, k8m2, k8m3]
  instanceTypes := #[]
  staticTypes := #[.int, .int, .int, .boolean]
  resolved := Array.replicate 635 none
  statics := none }

def pool9 : Array CpInfo := pool [(1, .methodref 2 3), (0, .class_ 4), (0, .nameAndType 5 6), (0, u "java/lang/Object"), (0, u "<init>"), (0, u "()V"), (0, .class_ 8), (0, u "java/lang/StringBuilder"), (0, .methodref 7 3), (0, .methodref 7 11), (0, .nameAndType 12 13), (0, u "append"), (0, u "(Ljava/lang/String;)Ljava/lang/StringBuilder;"), (0, .string 15), (0, u "/things/"), (0, .methodref 7 17), (0, .nameAndType 18 19), (0, u "toString"), (0, u "()Ljava/lang/String;"), (0, .fieldref 21 22), (0, .class_ 23), (0, .nameAndType 24 25), (0, u "com/example/steady_rollout/steadyrollout/DeviceTopics"), (0, u "thingsRoot"), (0, u "Ljava/lang/String;"), (36, u "REPLIES"), (0, u "Ljava/util/Set;"), (13, .class_ 78), (0, u "com/example/steady_rollout/steadyrollout/DeviceTopics$Request"), (1, .class_ 82), (1, u "com/example/steady_rollout/steadyrollout/DeviceTopics$Operation"), (33, .class_ 118), (1, u "com/example/steady_rollout/steadyrollout/DeviceTopics$Push"), (18, .string 138), (0, u "/jobs/"), (0, .fieldref 116 140), (0, .nameAndType 141 25), (0, u "level"), (11, u "NEXT"), (1, u "START_NEXT_LEVEL"), (0, u "UPDATE_LEVEL"), (2, u "(Ljava/lang/String;)V"), (12, u "push"), (0, u "(Ljava/lang/String;Lcom/example/steady_rollout/steadyrollout/DeviceTopics$Push;)Ljava/lang/String;")] 29

def k9c0 : Code := { maxStack := 3, maxLocals := 2, code := prog_4_method_1_code, exceptionTable := #[], attributes := #[] }
def k9m0 : Method := { name := "<init>", desc := "(Ljava/lang/String;)V", sig := { parameters := [(.object "java/lang/String")], returnType := none }, accessFlags := 0, code := some k9c0 }
def k9c1 : Code := { maxStack := 2, maxLocals := 3, code := prog_4_method_7_code, exceptionTable := #[], attributes := #[] }
def k9m1 : Method := { name := "push", desc := "(Ljava/lang/String;Lcom/example/steady_rollout/steadyrollout/DeviceTopics$Push;)Ljava/lang/String;", sig := { parameters := [(.object "java/lang/String"), (.object "com/example/steady_rollout/steadyrollout/DeviceTopics$Push")], returnType := some (.object "java/lang/String") }, accessFlags := 0, code := some k9c1 }
/-- com/example/steady_rollout/steadyrollout/DeviceTopics -/
def k9 : Class := { plain "com/example/steady_rollout/steadyrollout/DeviceTopics" (some 0) with
  accessFlags := 48
  interfaces := #[]
  cf := some (fileOf pool9 21 #[.nestMembers #[116, 77, 80]] #[{ accessFlags := 0, nameIndex := 5, descriptorIndex := 159, attributes := #[] }, { accessFlags := 0, nameIndex := 172, descriptorIndex := 173, attributes := #[] }] 48 2 #[] #[{ accessFlags := 26, nameIndex := 153, descriptorIndex := 25, attributes := #[] }, { accessFlags := 26, nameIndex := 155, descriptorIndex := 25, attributes := #[] }, { accessFlags := 26, nameIndex := 156, descriptorIndex := 25, attributes := #[] }, { accessFlags := 26, nameIndex := 62, descriptorIndex := 63, attributes := #[] }, { accessFlags := 18, nameIndex := 24, descriptorIndex := 25, attributes := #[] }])
  fields := #[{ name := "NEXT", type := (.object "java/lang/String"), accessFlags := 26, slot := 0, constantValue := 0 }, { name := "START_NEXT_LEVEL", type := (.object "java/lang/String"), accessFlags := 26, slot := 1, constantValue := 0 }, { name := "UPDATE_LEVEL", type := (.object "java/lang/String"), accessFlags := 26, slot := 2, constantValue := 0 }, { name := "REPLIES", type := (.object "java/util/Set"), accessFlags := 26, slot := 3, constantValue := 0 }, { name := "thingsRoot", type := (.object "java/lang/String"), accessFlags := 18, slot := 0, constantValue := 0 }]
  methods := #[k9m0, k9m1]
  instanceTypes := #[(.object "java/lang/String")]
  staticTypes := #[(.object "java/lang/String"), (.object "java/lang/String"), (.object "java/lang/String"), (.object "java/util/Set")]
  resolved := (Array.replicate 203 none).setIfInBounds 139 (some (.field 17 2))
  statics := none }

def pool10 : Array CpInfo := pool [(1, .class_ 2), (0, u "java/lang/Appendable"), (0, .class_ 4), (0, u "java/lang/Object")] 9

/-- java/lang/Appendable -/
def k10 : Class := { plain "java/lang/Appendable" (some 0) with
  accessFlags := 1537
  interfaces := #[]
  cf := some (fileOf pool10 1 #[] #[] 1537 3 #[] #[])
  fields := #[]
  methods := #[]
  instanceTypes := #[]
  staticTypes := #[]
  resolved := Array.replicate 14 none
  statics := none }

def pool11 : Array CpInfo := pool [(1, .class_ 2), (0, u "java/lang/String"), (0, .methodref 4 5), (0, .class_ 6), (0, .nameAndType 7 8), (0, u "java/lang/Object"), (0, u "<init>"), (0, u "()V"), (1, .class_ 12), (1, u "java/lang/AbstractStringBuilder"), (0, u "EMPTYVALUE"), (0, u "[B"), (0, .fieldref 10 16), (0, .nameAndType 17 14), (0, u "value"), (0, .fieldref 1 19), (0, .nameAndType 20 21), (0, u "COMPACT_STRINGS"), (0, u "Z"), (0, .fieldref 10 23), (0, .nameAndType 24 25), (0, u "coder"), (0, u "B"), (6, .methodref 1 33), (0, .nameAndType 34 35), (0, u "length"), (0, u "()I"), (3, .integer 2147483647), (0, .methodref 1 41), (0, .nameAndType 24 42), (0, u "()B"), (2, u "append"), (0, u "(Ljava/lang/String;)Ljava/lang/AbstractStringBuilder;"), (1, .class_ 49), (0, u "java/lang/CharSequence"), (19, u "(Ljava/lang/String;)V"), (5, u "maybeLatin1"), (3, .fieldref 10 80), (0, .nameAndType 81 82), (0, u "count"), (0, u "I"), (2, u "isLatin1"), (0, u "()Z"), (13, .methodref 10 101), (0, .nameAndType 102 103), (0, u "ensureCapacityInternal"), (0, u "(I)V"), (0, .methodref 10 105), (0, .nameAndType 106 107), (0, u "newCapacity"), (0, u "(I)I"), (0, .methodref 109 110), (0, .class_ 111), (0, .nameAndType 112 113), (0, u "java/util/Arrays"), (0, u "copyOf"), (0, u "([BI)[B"), (0, .methodref 115 116), (0, .class_ 117), (0, .nameAndType 118 119), (0, u "jdk/internal/util/ArraysSupport"), (0, u "newLength"), (0, u "(III)I"), (88, .methodref 10 209), (0, .nameAndType 210 211), (0, u "putStringAt"), (0, u "(ILjava/lang/String;)V"), (5, u "inflateIfNeededFor"), (2, .nameAndType 221 222), (0, u "getBytes"), (0, u "([BIB)V"), (174, .methodref 10 398), (0, .nameAndType 217 69), (0, .methodref 1 220), (3, u "()[B"), (40, .class_ 445), (0, u "java/lang/Appendable"), (106, u "getValue")] 56

def k11m0 : Method := { name := "<init>", desc := "()V", sig := { parameters := [], returnType := none }, accessFlags := 0, code := none }
def k11c1 : Code := { maxStack := 2, maxLocals := 2, code := jdk_68_method_2_code, exceptionTable := #[], attributes := #[] }
def k11m1 : Method := { name := "<init>", desc := "(I)V", sig := { parameters := [.int], returnType := none }, accessFlags := 0, code := some k11c1 }
def k11c2 : Code := { maxStack := 1, maxLocals := 1, code := jdk_68_method_6_code, exceptionTable := #[], attributes := #[] }
def k11m2 : Method := { name := "length", desc := "()I", sig := { parameters := [], returnType := some .int }, accessFlags := 1, code := some k11c2 }
def k11c3 : Code := { maxStack := 4, maxLocals := 3, code := jdk_68_method_9_code, exceptionTable := #[], attributes := #[] }
def k11m3 : Method := { name := "ensureCapacityInternal", desc := "(I)V", sig := { parameters := [.int], returnType := none }, accessFlags := 2, code := some k11c3 }
def k11c4 : Code := { maxStack := 5, maxLocals := 6, code := jdk_68_method_10_code, exceptionTable := #[], attributes := #[] }
def k11m4 : Method := { name := "newCapacity", desc := "(I)I", sig := { parameters := [.int], returnType := some .int }, accessFlags := 2, code := some k11c4 }
def k11c5 : Code := { maxStack := 3, maxLocals := 3, code := jdk_68_method_22_code, exceptionTable := #[], attributes := #[] }
def k11m5 : Method := { name := "append", desc := "(Ljava/lang/String;)Ljava/lang/AbstractStringBuilder;", sig := { parameters := [(.object "java/lang/String")], returnType := some (.object "java/lang/AbstractStringBuilder") }, accessFlags := 1, code := some k11c5 }
def k11c6 : Code := { maxStack := 1, maxLocals := 1, code := jdk_68_method_64_code, exceptionTable := #[], attributes := #[] }
def k11m6 : Method := { name := "getValue", desc := "()[B", sig := { parameters := [], returnType := some (.array .byte) }, accessFlags := 16, code := some k11c6 }
def k11c7 : Code := { maxStack := 1, maxLocals := 1, code := jdk_68_method_68_code, exceptionTable := #[], attributes := #[] }
def k11m7 : Method := { name := "isLatin1", desc := "()Z", sig := { parameters := [], returnType := some .boolean }, accessFlags := 16, code := some k11c7 }
def k11c8 : Code := { maxStack := 2, maxLocals := 2, code := jdk_68_method_71_code, exceptionTable := #[], attributes := #[] }
def k11m8 : Method := { name := "inflateIfNeededFor", desc := "(Ljava/lang/String;)V", sig := { parameters := [(.object "java/lang/String")], returnType := none }, accessFlags := 2, code := some k11c8 }
def k11c9 : Code := { maxStack := 4, maxLocals := 3, code := jdk_68_method_73_code, exceptionTable := #[], attributes := #[] }
def k11m9 : Method := { name := "putStringAt", desc := "(ILjava/lang/String;)V", sig := { parameters := [.int, (.object "java/lang/String")], returnType := none }, accessFlags := 2, code := some k11c9 }
/-- java/lang/AbstractStringBuilder -/
def k11 : Class := { plain "java/lang/AbstractStringBuilder" (some 0) with
  accessFlags := 1056
  interfaces := #[10, 4]
  cf := some (fileOf pool11 10 #[] #[{ accessFlags := 0, nameIndex := 7, descriptorIndex := 8, attributes := #[] }, { accessFlags := 0, nameIndex := 7, descriptorIndex := 103, attributes := #[] }, { accessFlags := 1, nameIndex := 34, descriptorIndex := 35, attributes := #[] }, { accessFlags := 2, nameIndex := 102, descriptorIndex := 103, attributes := #[] }, { accessFlags := 2, nameIndex := 106, descriptorIndex := 107, attributes := #[] }, { accessFlags := 1, nameIndex := 45, descriptorIndex := 46, attributes := #[] }, { accessFlags := 16, nameIndex := 552, descriptorIndex := 403, attributes := #[] }, { accessFlags := 16, nameIndex := 85, descriptorIndex := 86, attributes := #[] }, { accessFlags := 2, nameIndex := 217, descriptorIndex := 69, attributes := #[] }, { accessFlags := 2, nameIndex := 210, descriptorIndex := 211, attributes := #[] }] 1056 4 #[444, 48] #[{ accessFlags := 0, nameIndex := 17, descriptorIndex := 14, attributes := #[] }, { accessFlags := 0, nameIndex := 24, descriptorIndex := 25, attributes := #[] }, { accessFlags := 0, nameIndex := 75, descriptorIndex := 21, attributes := #[] }, { accessFlags := 0, nameIndex := 81, descriptorIndex := 82, attributes := #[] }, { accessFlags := 26, nameIndex := 13, descriptorIndex := 14, attributes := #[] }])
  fields := #[{ name := "value", type := (.array .byte), accessFlags := 0, slot := 0, constantValue := 0 }, { name := "coder", type := .byte, accessFlags := 0, slot := 1, constantValue := 0 }, { name := "maybeLatin1", type := .boolean, accessFlags := 0, slot := 2, constantValue := 0 }, { name := "count", type := .int, accessFlags := 0, slot := 3, constantValue := 0 }, { name := "EMPTYVALUE", type := (.array .byte), accessFlags := 26, slot := 0, constantValue := 0 }]
  methods := #[k11m0, k11m1, k11m2, k11m3, k11m4, k11m5, k11m6, k11m7, k11m8, k11m9]
  instanceTypes := #[(.array .byte), .byte, .boolean, .int]
  staticTypes := #[(.array .byte)]
  resolved := Array.replicate 609 none
  statics := none }

def pool12 : Array CpInfo := pool [(1, .methodref 2 3), (0, .class_ 4), (0, .nameAndType 5 6), (0, u "java/lang/AbstractStringBuilder"), (0, u "<init>"), (0, u "(I)V"), (11, .class_ 20), (1, u "java/lang/String"), (3, .class_ 26), (1, u "java/lang/StringBuilder"), (0, u "append"), (0, u "(Ljava/lang/String;)Ljava/lang/StringBuilder;"), (0, .methodref 2 30), (0, .nameAndType 27 31), (0, u "(Ljava/lang/String;)Ljava/lang/AbstractStringBuilder;"), (105, .methodref 18 138), (0, .nameAndType 5 139), (0, u "(Ljava/lang/StringBuilder;)V"), (5, u "()V"), (10, u "()I"), (186, .methodref 2 344), (0, .nameAndType 345 156), (0, u "length"), (3, .class_ 350), (0, u "java/lang/Appendable"), (0, .class_ 352), (0, u "java/io/Serializable"), (0, .class_ 354), (0, u "java/lang/Comparable"), (0, .class_ 356), (0, u "java/lang/CharSequence"), (0, u "serialVersionUID"), (0, u "J"), (40, u "toString"), (0, u "()Ljava/lang/String;")] 21

def k12c0 : Code := { maxStack := 2, maxLocals := 1, code := jdk_67_method_1_code, exceptionTable := #[], attributes := #[] }
def k12m0 : Method := { name := "<init>", desc := "()V", sig := { parameters := [], returnType := none }, accessFlags := 1, code := some k12c0 }
def k12c1 : Code := { maxStack := 2, maxLocals := 2, code := jdk_67_method_7_code, exceptionTable := #[], attributes := #[] }
def k12m1 : Method := { name := "append", desc := "(Ljava/lang/String;)Ljava/lang/StringBuilder;", sig := { parameters := [(.object "java/lang/String")], returnType := some (.object "java/lang/StringBuilder") }, accessFlags := 1, code := some k12c1 }
def k12c2 : Code := { maxStack := 3, maxLocals := 1, code := jdk_67_method_42_code, exceptionTable := #[], attributes := #[] }
def k12m2 : Method := { name := "toString", desc := "()Ljava/lang/String;", sig := { parameters := [], returnType := some (.object "java/lang/String") }, accessFlags := 1, code := some k12c2 }
def k12c3 : Code := { maxStack := 1, maxLocals := 1, code := jdk_67_method_93_code, exceptionTable := #[], attributes := #[] }
def k12m3 : Method := { name := "length", desc := "()I", sig := { parameters := [], returnType := some .int }, accessFlags := 4161, code := some k12c3 }
/-- java/lang/StringBuilder -/
def k12 : Class := { plain "java/lang/StringBuilder" (some 11) with
  accessFlags := 49
  interfaces := #[10, 2, 3, 4]
  cf := some (fileOf pool12 24 #[] #[{ accessFlags := 1, nameIndex := 5, descriptorIndex := 145, attributes := #[] }, { accessFlags := 1, nameIndex := 27, descriptorIndex := 28, attributes := #[] }, { accessFlags := 1, nameIndex := 399, descriptorIndex := 400, attributes := #[] }, { accessFlags := 4161, nameIndex := 345, descriptorIndex := 156, attributes := #[] }] 49 2 #[349, 351, 353, 355] #[{ accessFlags := 24, nameIndex := 357, descriptorIndex := 358, attributes := #[] }])
  fields := #[{ name := "serialVersionUID", type := .long, accessFlags := 24, slot := 0, constantValue := 0 }]
  methods := #[k12m0, k12m1, k12m2, k12m3]
  instanceTypes := #[(.array .byte), .byte, .boolean, .int]
  staticTypes := #[.long]
  resolved := Array.replicate 422 none
  statics := none }

def pool13 : Array CpInfo := pool [(2, .class_ 4), (1, u "java/lang/Object"), (0, u "<init>"), (0, u "()V"), (1, .class_ 10), (1, u "java/lang/System"), (0, u "allowSecurityManager"), (0, u "I"), (16, u "cons"), (0, u "Ljava/io/Console;"), (77, .class_ 110), (1, u "java/lang/System$CallersHolder"), (43, u "initialErrStream"), (0, u "Ljava/io/PrintStream;"), (19, u "security"), (0, u "Ljava/lang/SecurityManager;"), (31, .class_ 209), (0, u "java/lang/System$1"), (7, u "props"), (0, u "Ljava/util/Properties;"), (2, u "lineSeparator"), (0, u "Ljava/lang/String;"), (96, .class_ 321), (1, u "java/lang/System$LoggerFinder"), (5, .class_ 328), (0, u "java/lang/System$Logger"), (67, u "err"), (2, u "out"), (91, u "notSupportedJnuEncoding"), (15, u "in"), (17, u "initialIn"), (0, u "Ljava/io/InputStream;"), (35, u "bootLayer"), (0, u "Ljava/lang/ModuleLayer;"), (99, .class_ 664), (0, u "java/lang/System$2"), (9, u "NEVER"), (2, u "MAYBE"), (49, u "arraycopy"), (0, u "(Ljava/lang/Object;ILjava/lang/Object;II)V"), (72, .class_ 802), (0, u "java/lang/System$Logger$Level")] 31

def k13m0 : Method := { name := "<init>", desc := "()V", sig := { parameters := [], returnType := none }, accessFlags := 2, code := none }
def k13m1 : Method := { name := "arraycopy", desc := "(Ljava/lang/Object;ILjava/lang/Object;II)V", sig := { parameters := [(.object "java/lang/Object"), .int, (.object "java/lang/Object"), .int, .int], returnType := none }, accessFlags := 265, code := none }
/-- java/lang/System -/
def k13 : Class := { plain "java/lang/System" (some 0) with
  accessFlags := 49
  interfaces := #[]
  cf := some (fileOf pool13 8 #[.nestMembers #[319, 327, 801, 108, 663, 208]] #[{ accessFlags := 2, nameIndex := 5, descriptorIndex := 6, attributes := #[] }, { accessFlags := 265, nameIndex := 727, descriptorIndex := 728, attributes := #[] }] 49 2 #[] #[{ accessFlags := 25, nameIndex := 507, descriptorIndex := 526, attributes := #[] }, { accessFlags := 25, nameIndex := 399, descriptorIndex := 155, attributes := #[] }, { accessFlags := 25, nameIndex := 396, descriptorIndex := 155, attributes := #[] }, { accessFlags := 10, nameIndex := 525, descriptorIndex := 526, attributes := #[] }, { accessFlags := 26, nameIndex := 674, descriptorIndex := 12, attributes := #[] }, { accessFlags := 26, nameIndex := 677, descriptorIndex := 12, attributes := #[] }, { accessFlags := 10, nameIndex := 11, descriptorIndex := 12, attributes := #[] }, { accessFlags := 74, nameIndex := 175, descriptorIndex := 176, attributes := #[] }, { accessFlags := 10, nameIndex := 491, descriptorIndex := 222, attributes := #[] }, { accessFlags := 74, nameIndex := 29, descriptorIndex := 30, attributes := #[] }, { accessFlags := 74, nameIndex := 154, descriptorIndex := 155, attributes := #[] }, { accessFlags := 10, nameIndex := 217, descriptorIndex := 218, attributes := #[] }, { accessFlags := 10, nameIndex := 221, descriptorIndex := 222, attributes := #[] }, { accessFlags := 8, nameIndex := 562, descriptorIndex := 563, attributes := #[] }])
  fields := #[{ name := "in", type := (.object "java/io/InputStream"), accessFlags := 25, slot := 0, constantValue := 0 }, { name := "out", type := (.object "java/io/PrintStream"), accessFlags := 25, slot := 1, constantValue := 0 }, { name := "err", type := (.object "java/io/PrintStream"), accessFlags := 25, slot := 2, constantValue := 0 }, { name := "initialIn", type := (.object "java/io/InputStream"), accessFlags := 10, slot := 3, constantValue := 0 }, { name := "NEVER", type := .int, accessFlags := 26, slot := 4, constantValue := 0 }, { name := "MAYBE", type := .int, accessFlags := 26, slot := 5, constantValue := 0 }, { name := "allowSecurityManager", type := .int, accessFlags := 10, slot := 6, constantValue := 0 }, { name := "security", type := (.object "java/lang/SecurityManager"), accessFlags := 74, slot := 7, constantValue := 0 }, { name := "notSupportedJnuEncoding", type := (.object "java/lang/String"), accessFlags := 10, slot := 8, constantValue := 0 }, { name := "cons", type := (.object "java/io/Console"), accessFlags := 74, slot := 9, constantValue := 0 }, { name := "initialErrStream", type := (.object "java/io/PrintStream"), accessFlags := 74, slot := 10, constantValue := 0 }, { name := "props", type := (.object "java/util/Properties"), accessFlags := 10, slot := 11, constantValue := 0 }, { name := "lineSeparator", type := (.object "java/lang/String"), accessFlags := 10, slot := 12, constantValue := 0 }, { name := "bootLayer", type := (.object "java/lang/ModuleLayer"), accessFlags := 8, slot := 13, constantValue := 0 }]
  methods := #[k13m0, k13m1]
  instanceTypes := #[]
  staticTypes := #[(.object "java/io/InputStream"), (.object "java/io/PrintStream"), (.object "java/io/PrintStream"), (.object "java/io/InputStream"), .int, .int, .int, (.object "java/lang/SecurityManager"), (.object "java/lang/String"), (.object "java/io/Console"), (.object "java/io/PrintStream"), (.object "java/util/Properties"), (.object "java/lang/String"), (.object "java/lang/ModuleLayer")]
  resolved := Array.replicate 834 none
  statics := none }

def pool14 : Array CpInfo := pool [(2, .class_ 4), (1, u "java/lang/Object"), (0, u "<init>"), (0, u "()V"), (7, .class_ 16), (1, u "java/util/Arrays"), (57, .class_ 76), (1, u "java/util/Arrays$NaturalOrder"), (36, .class_ 115), (1, u "java/util/Arrays$LegacyMergeSort"), (1, u "Z"), (21, u "copyOfRange"), (10, .methodref 151 152), (0, .class_ 153), (0, .nameAndType 154 155), (0, u "java/lang/System"), (0, u "arraycopy"), (0, u "(Ljava/lang/Object;ILjava/lang/Object;II)V"), (146, u "copyOf"), (1, .methodref 305 306), (0, .class_ 307), (0, .nameAndType 308 309), (0, u "java/lang/Math"), (0, u "min"), (0, u "(II)I"), (29, .methodref 14 340), (0, .nameAndType 341 342), (0, u "copyOfRangeByte"), (0, u "([BII)[B"), (0, .methodref 14 344), (0, .nameAndType 345 346), (0, u "checkLength"), (0, u "(II)V"), (28, .class_ 376), (0, u "java/util/Arrays$ArrayList"), (68, u "$assertionsDisabled"), (269, u "MIN_ARRAY_SORT_GRAN"), (0, u "I"), (2, u "INSERTIONSORT_THRESHOLD"), (149, u "([BI)[B"), (105, .class_ 976), (0, u "java/util/Arrays$ArrayItr")] 52

def k14m0 : Method := { name := "<init>", desc := "()V", sig := { parameters := [], returnType := none }, accessFlags := 2, code := none }
def k14c1 : Code := { maxStack := 6, maxLocals := 3, code := jdk_65_method_121_code, exceptionTable := #[], attributes := #[] }
def k14m1 : Method := { name := "copyOf", desc := "([BI)[B", sig := { parameters := [(.array .byte), .int], returnType := some (.array .byte) }, accessFlags := 9, code := some k14c1 }
def k14c2 : Code := { maxStack := 4, maxLocals := 2, code := jdk_65_method_131_code, exceptionTable := #[], attributes := #[] }
def k14m2 : Method := { name := "checkLength", desc := "(II)V", sig := { parameters := [.int, .int], returnType := none }, accessFlags := 10, code := some k14c2 }
def k14c3 : Code := { maxStack := 3, maxLocals := 3, code := jdk_65_method_132_code, exceptionTable := #[], attributes := #[] }
def k14m3 : Method := { name := "copyOfRange", desc := "([BII)[B", sig := { parameters := [(.array .byte), .int, .int], returnType := some (.array .byte) }, accessFlags := 9, code := some k14c3 }
def k14c4 : Code := { maxStack := 6, maxLocals := 5, code := jdk_65_method_133_code, exceptionTable := #[], attributes := #[] }
def k14m4 : Method := { name := "copyOfRangeByte", desc := "([BII)[B", sig := { parameters := [(.array .byte), .int, .int], returnType := some (.array .byte) }, accessFlags := 10, code := some k14c4 }
/-- java/util/Arrays -/
def k14 : Class := { plain "java/util/Arrays" (some 0) with
  accessFlags := 49
  interfaces := #[]
  cf := some (fileOf pool14 14 #[.nestMembers #[975, 375, 113, 74]] #[{ accessFlags := 2, nameIndex := 5, descriptorIndex := 6, attributes := #[] }, { accessFlags := 9, nameIndex := 302, descriptorIndex := 869, attributes := #[] }, { accessFlags := 10, nameIndex := 345, descriptorIndex := 346, attributes := #[] }, { accessFlags := 9, nameIndex := 139, descriptorIndex := 342, attributes := #[] }, { accessFlags := 10, nameIndex := 341, descriptorIndex := 342, attributes := #[] }] 49 2 #[] #[{ accessFlags := 26, nameIndex := 715, descriptorIndex := 716, attributes := #[] }, { accessFlags := 26, nameIndex := 719, descriptorIndex := 716, attributes := #[] }, { accessFlags := 4120, nameIndex := 445, descriptorIndex := 117, attributes := #[] }])
  fields := #[{ name := "MIN_ARRAY_SORT_GRAN", type := .int, accessFlags := 26, slot := 0, constantValue := 0 }, { name := "INSERTIONSORT_THRESHOLD", type := .int, accessFlags := 26, slot := 1, constantValue := 0 }, { name := "$assertionsDisabled", type := .boolean, accessFlags := 4120, slot := 2, constantValue := 0 }]
  methods := #[k14m0, k14m1, k14m2, k14m3, k14m4]
  instanceTypes := #[]
  staticTypes := #[.int, .int, .boolean]
  resolved := Array.replicate 1029 none
  statics := none }

def pool15 : Array CpInfo := pool [(1, .class_ 2), (0, u "java/lang/Math"), (1, .class_ 6), (1, u "java/lang/Object"), (0, u "<init>"), (0, u "()V"), (89, .class_ 100), (1, u "java/lang/Math$RandomNumberGeneratorHolder"), (71, u "negativeZeroFloatBits"), (0, u "J"), (2, u "negativeZeroDoubleBits"), (21, u "max"), (2, u "min"), (43, u "$assertionsDisabled"), (0, u "Z"), (88, u "(II)I"), (2, u "twoToTheDoubleScaleDown"), (0, u "D"), (4, u "twoToTheDoubleScaleUp"), (9, u "E"), (3, u "PI"), (2, u "TAU"), (2, u "DEGREES_TO_RADIANS"), (0, u "RADIANS_TO_DEGREES")] 94

def k15m0 : Method := { name := "<init>", desc := "()V", sig := { parameters := [], returnType := none }, accessFlags := 2, code := none }
def k15c1 : Code := { maxStack := 2, maxLocals := 2, code := jdk_29_method_65_code, exceptionTable := #[], attributes := #[] }
def k15m1 : Method := { name := "max", desc := "(II)I", sig := { parameters := [.int, .int], returnType := some .int }, accessFlags := 9, code := some k15c1 }
def k15c2 : Code := { maxStack := 2, maxLocals := 2, code := jdk_29_method_69_code, exceptionTable := #[], attributes := #[] }
def k15m2 : Method := { name := "min", desc := "(II)I", sig := { parameters := [.int, .int], returnType := some .int }, accessFlags := 9, code := some k15c2 }
/-- java/lang/Math -/
def k15 : Class := { plain "java/lang/Math" (some 0) with
  accessFlags := 49
  interfaces := #[]
  cf := some (fileOf pool15 1 #[.nestMembers #[98]] #[{ accessFlags := 2, nameIndex := 7, descriptorIndex := 8, attributes := #[] }, { accessFlags := 9, nameIndex := 198, descriptorIndex := 335, attributes := #[] }, { accessFlags := 9, nameIndex := 201, descriptorIndex := 335, attributes := #[] }] 49 4 #[] #[{ accessFlags := 25, nameIndex := 354, descriptorIndex := 339, attributes := #[] }, { accessFlags := 25, nameIndex := 358, descriptorIndex := 339, attributes := #[] }, { accessFlags := 25, nameIndex := 361, descriptorIndex := 339, attributes := #[] }, { accessFlags := 26, nameIndex := 364, descriptorIndex := 339, attributes := #[] }, { accessFlags := 26, nameIndex := 365, descriptorIndex := 339, attributes := #[] }, { accessFlags := 26, nameIndex := 172, descriptorIndex := 173, attributes := #[] }, { accessFlags := 26, nameIndex := 176, descriptorIndex := 173, attributes := #[] }, { accessFlags := 8, nameIndex := 344, descriptorIndex := 339, attributes := #[] }, { accessFlags := 8, nameIndex := 338, descriptorIndex := 339, attributes := #[] }, { accessFlags := 4120, nameIndex := 245, descriptorIndex := 246, attributes := #[] }])
  fields := #[{ name := "E", type := .double, accessFlags := 25, slot := 0, constantValue := 0 }, { name := "PI", type := .double, accessFlags := 25, slot := 1, constantValue := 0 }, { name := "TAU", type := .double, accessFlags := 25, slot := 2, constantValue := 0 }, { name := "DEGREES_TO_RADIANS", type := .double, accessFlags := 26, slot := 3, constantValue := 0 }, { name := "RADIANS_TO_DEGREES", type := .double, accessFlags := 26, slot := 4, constantValue := 0 }, { name := "negativeZeroFloatBits", type := .long, accessFlags := 26, slot := 5, constantValue := 0 }, { name := "negativeZeroDoubleBits", type := .long, accessFlags := 26, slot := 6, constantValue := 0 }, { name := "twoToTheDoubleScaleUp", type := .double, accessFlags := 8, slot := 7, constantValue := 0 }, { name := "twoToTheDoubleScaleDown", type := .double, accessFlags := 8, slot := 8, constantValue := 0 }, { name := "$assertionsDisabled", type := .boolean, accessFlags := 4120, slot := 9, constantValue := 0 }]
  methods := #[k15m0, k15m1, k15m2]
  instanceTypes := #[]
  staticTypes := #[.double, .double, .double, .double, .double, .long, .long, .double, .double, .boolean]
  resolved := Array.replicate 460 none
  statics := none }

def pool16 : Array CpInfo := pool [(2, .class_ 4), (1, u "java/lang/Enum"), (0, u "name"), (0, u "Ljava/lang/String;"), (2, u "ordinal"), (0, u "I"), (1, .class_ 14), (1, u "java/lang/Object"), (4, u "hash"), (86, .class_ 108), (1, u "java/lang/Enum$EnumDesc"), (2, .class_ 112), (0, u "java/lang/constant/Constable"), (0, .class_ 114), (0, u "java/lang/Comparable"), (0, .class_ 116), (0, u "java/io/Serializable")] 87

/-- java/lang/Enum -/
def k16 : Class := { plain "java/lang/Enum" (some 0) with
  accessFlags := 1057
  interfaces := #[5, 3, 2]
  cf := some (fileOf pool16 2 #[.nestMembers #[106]] #[] 1057 12 #[111, 113, 115] #[{ accessFlags := 18, nameIndex := 5, descriptorIndex := 6, attributes := #[] }, { accessFlags := 18, nameIndex := 9, descriptorIndex := 10, attributes := #[] }, { accessFlags := 2, nameIndex := 19, descriptorIndex := 10, attributes := #[] }])
  fields := #[{ name := "name", type := (.object "java/lang/String"), accessFlags := 18, slot := 0, constantValue := 0 }, { name := "ordinal", type := .int, accessFlags := 18, slot := 1, constantValue := 0 }, { name := "hash", type := .int, accessFlags := 2, slot := 2, constantValue := 0 }]
  methods := #[]
  instanceTypes := #[(.object "java/lang/String"), .int, .int]
  staticTypes := #[]
  resolved := Array.replicate 204 none
  statics := none }

def pool17 : Array CpInfo := pool [(1, .class_ 2), (0, u "com/example/steady_rollout/steadyrollout/DeviceTopics$Push"), (2, u "NOTIFY"), (0, u "Lcom/example/steady_rollout/steadyrollout/DeviceTopics$Push;"), (2, u "NOTIFY_NEXT"), (2, u "$VALUES"), (0, u "[Lcom/example/steady_rollout/steadyrollout/DeviceTopics$Push;"), (6, .class_ 22), (1, u "java/lang/Enum"), (8, u "level"), (0, u "Ljava/lang/String;"), (26, .class_ 60), (0, u "com/example/steady_rollout/steadyrollout/DeviceTopics")] 2

/-- com/example/steady_rollout/steadyrollout/DeviceTopics$Push -/
def k17 : Class := { plain "com/example/steady_rollout/steadyrollout/DeviceTopics$Push" (some 16) with
  accessFlags := 16432
  interfaces := #[]
  cf := some (fileOf pool17 1 #[.nestHost 59] #[] 16432 20 #[] #[{ accessFlags := 16409, nameIndex := 5, descriptorIndex := 6, attributes := #[] }, { accessFlags := 16409, nameIndex := 9, descriptorIndex := 6, attributes := #[] }, { accessFlags := 18, nameIndex := 31, descriptorIndex := 32, attributes := #[] }, { accessFlags := 4122, nameIndex := 12, descriptorIndex := 13, attributes := #[] }])
  fields := #[{ name := "NOTIFY", type := (.object "com/example/steady_rollout/steadyrollout/DeviceTopics$Push"), accessFlags := 16409, slot := 0, constantValue := 0 }, { name := "NOTIFY_NEXT", type := (.object "com/example/steady_rollout/steadyrollout/DeviceTopics$Push"), accessFlags := 16409, slot := 1, constantValue := 0 }, { name := "level", type := (.object "java/lang/String"), accessFlags := 18, slot := 3, constantValue := 0 }, { name := "$VALUES", type := (.array (.object "com/example/steady_rollout/steadyrollout/DeviceTopics$Push")), accessFlags := 4122, slot := 2, constantValue := 0 }]
  methods := #[]
  instanceTypes := #[(.object "java/lang/String"), .int, .int, (.object "java/lang/String")]
  staticTypes := #[(.object "com/example/steady_rollout/steadyrollout/DeviceTopics$Push"), (.object "com/example/steady_rollout/steadyrollout/DeviceTopics$Push"), (.array (.object "com/example/steady_rollout/steadyrollout/DeviceTopics$Push"))]
  resolved := Array.replicate 63 none
  statics := some 1 }

def pool18 : Array CpInfo := pool [(9, u "<init>"), (6, .class_ 18), (1, u "java/lang/Object"), (0, u "()V"), (1, .class_ 23), (1, u "jdk/internal/util/ArraysSupport"), (0, u "LOG2_ARRAY_LONG_INDEX_SCALE"), (0, u "I"), (2, u "U"), (0, u "Ljdk/internal/misc/Unsafe;"), (8, u "BIG_ENDIAN"), (0, u "Z"), (8, u "LOG2_BYTE_BIT_SIZE"), (4, u "LOG2_ARRAY_INT_INDEX_SCALE"), (54, u "JLA"), (0, u "Ljdk/internal/access/JavaLangAccess;"), (11, u "LOG2_ARRAY_BOOLEAN_INDEX_SCALE"), (9, u "LOG2_ARRAY_BYTE_INDEX_SCALE"), (5, u "LOG2_ARRAY_CHAR_INDEX_SCALE"), (5, u "LOG2_ARRAY_SHORT_INDEX_SCALE"), (18, u "LOG2_ARRAY_FLOAT_INDEX_SCALE"), (24, u "LOG2_ARRAY_DOUBLE_INDEX_SCALE"), (6, .methodref 195 196), (0, .class_ 197), (0, .nameAndType 198 199), (0, u "java/lang/Math"), (0, u "max"), (0, u "(II)I"), (0, .integer 2147483639), (76, u "T_BOOLEAN"), (2, u "T_CHAR"), (1, u "T_FLOAT"), (1, u "T_DOUBLE"), (1, u "T_BYTE"), (1, u "T_SHORT"), (1, u "T_INT"), (1, u "T_LONG"), (1, u "SOFT_MAX_ARRAY_LENGTH"), (56, u "newLength"), (0, u "(III)I")] 25

def k18m0 : Method := { name := "<init>", desc := "()V", sig := { parameters := [], returnType := none }, accessFlags := 2, code := none }
def k18c1 : Code := { maxStack := 3, maxLocals := 4, code := jdk_48_method_27_code, exceptionTable := #[], attributes := #[] }
def k18m1 : Method := { name := "newLength", desc := "(III)I", sig := { parameters := [.int, .int, .int], returnType := some .int }, accessFlags := 9, code := some k18c1 }
/-- jdk/internal/util/ArraysSupport -/
def k18 : Class := { plain "jdk/internal/util/ArraysSupport" (some 0) with
  accessFlags := 33
  interfaces := #[]
  cf := some (fileOf pool18 21 #[] #[{ accessFlags := 2, nameIndex := 9, descriptorIndex := 19, attributes := #[] }, { accessFlags := 9, nameIndex := 351, descriptorIndex := 352, attributes := #[] }] 33 16 #[] #[{ accessFlags := 24, nameIndex := 28, descriptorIndex := 29, attributes := #[] }, { accessFlags := 26, nameIndex := 38, descriptorIndex := 39, attributes := #[] }, { accessFlags := 25, nameIndex := 121, descriptorIndex := 25, attributes := #[] }, { accessFlags := 25, nameIndex := 131, descriptorIndex := 25, attributes := #[] }, { accessFlags := 25, nameIndex := 137, descriptorIndex := 25, attributes := #[] }, { accessFlags := 25, nameIndex := 143, descriptorIndex := 25, attributes := #[] }, { accessFlags := 25, nameIndex := 53, descriptorIndex := 25, attributes := #[] }, { accessFlags := 25, nameIndex := 24, descriptorIndex := 25, attributes := #[] }, { accessFlags := 25, nameIndex := 162, descriptorIndex := 25, attributes := #[] }, { accessFlags := 25, nameIndex := 187, descriptorIndex := 25, attributes := #[] }, { accessFlags := 26, nameIndex := 48, descriptorIndex := 25, attributes := #[] }, { accessFlags := 25, nameIndex := 277, descriptorIndex := 25, attributes := #[] }, { accessFlags := 25, nameIndex := 280, descriptorIndex := 25, attributes := #[] }, { accessFlags := 25, nameIndex := 282, descriptorIndex := 25, attributes := #[] }, { accessFlags := 25, nameIndex := 284, descriptorIndex := 25, attributes := #[] }, { accessFlags := 25, nameIndex := 286, descriptorIndex := 25, attributes := #[] }, { accessFlags := 25, nameIndex := 288, descriptorIndex := 25, attributes := #[] }, { accessFlags := 25, nameIndex := 290, descriptorIndex := 25, attributes := #[] }, { accessFlags := 25, nameIndex := 292, descriptorIndex := 25, attributes := #[] }, { accessFlags := 26, nameIndex := 108, descriptorIndex := 109, attributes := #[] }, { accessFlags := 25, nameIndex := 294, descriptorIndex := 25, attributes := #[] }])
  fields := #[{ name := "U", type := (.object "jdk/internal/misc/Unsafe"), accessFlags := 24, slot := 0, constantValue := 0 }, { name := "BIG_ENDIAN", type := .boolean, accessFlags := 26, slot := 1, constantValue := 0 }, { name := "LOG2_ARRAY_BOOLEAN_INDEX_SCALE", type := .int, accessFlags := 25, slot := 2, constantValue := 0 }, { name := "LOG2_ARRAY_BYTE_INDEX_SCALE", type := .int, accessFlags := 25, slot := 3, constantValue := 0 }, { name := "LOG2_ARRAY_CHAR_INDEX_SCALE", type := .int, accessFlags := 25, slot := 4, constantValue := 0 }, { name := "LOG2_ARRAY_SHORT_INDEX_SCALE", type := .int, accessFlags := 25, slot := 5, constantValue := 0 }, { name := "LOG2_ARRAY_INT_INDEX_SCALE", type := .int, accessFlags := 25, slot := 6, constantValue := 0 }, { name := "LOG2_ARRAY_LONG_INDEX_SCALE", type := .int, accessFlags := 25, slot := 7, constantValue := 0 }, { name := "LOG2_ARRAY_FLOAT_INDEX_SCALE", type := .int, accessFlags := 25, slot := 8, constantValue := 0 }, { name := "LOG2_ARRAY_DOUBLE_INDEX_SCALE", type := .int, accessFlags := 25, slot := 9, constantValue := 0 }, { name := "LOG2_BYTE_BIT_SIZE", type := .int, accessFlags := 26, slot := 10, constantValue := 0 }, { name := "T_BOOLEAN", type := .int, accessFlags := 25, slot := 11, constantValue := 0 }, { name := "T_CHAR", type := .int, accessFlags := 25, slot := 12, constantValue := 0 }, { name := "T_FLOAT", type := .int, accessFlags := 25, slot := 13, constantValue := 0 }, { name := "T_DOUBLE", type := .int, accessFlags := 25, slot := 14, constantValue := 0 }, { name := "T_BYTE", type := .int, accessFlags := 25, slot := 15, constantValue := 0 }, { name := "T_SHORT", type := .int, accessFlags := 25, slot := 16, constantValue := 0 }, { name := "T_INT", type := .int, accessFlags := 25, slot := 17, constantValue := 0 }, { name := "T_LONG", type := .int, accessFlags := 25, slot := 18, constantValue := 0 }, { name := "JLA", type := (.object "jdk/internal/access/JavaLangAccess"), accessFlags := 26, slot := 19, constantValue := 0 }, { name := "SOFT_MAX_ARRAY_LENGTH", type := .int, accessFlags := 25, slot := 20, constantValue := 0 }]
  methods := #[k18m0, k18m1]
  instanceTypes := #[]
  staticTypes := #[(.object "jdk/internal/misc/Unsafe"), .boolean, .int, .int, .int, .int, .int, .int, .int, .int, .int, .int, .int, .int, .int, .int, .int, .int, .int, (.object "jdk/internal/access/JavaLangAccess"), .int]
  resolved := Array.replicate 378 none
  statics := none }

def pool19 : Array CpInfo := pool [(4, .class_ 6), (1, u "java/lang/Object"), (0, u "<init>"), (0, u "()V"), (5, .class_ 16), (1, u "java/lang/StringLatin1"), (104, u "$assertionsDisabled"), (0, u "Z"), (98, .class_ 223), (1, u "java/lang/StringLatin1$LinesSpliterator"), (57, u "equals"), (0, u "([B[B)Z"), (107, .class_ 391), (0, u "java/lang/StringLatin1$CharsSpliterator")] 3

def k19m0 : Method := { name := "<init>", desc := "()V", sig := { parameters := [], returnType := none }, accessFlags := 0, code := none }
def k19c1 : Code := { maxStack := 3, maxLocals := 3, code := jdk_43_method_13_code, exceptionTable := #[], attributes := #[] }
def k19m1 : Method := { name := "equals", desc := "([B[B)Z", sig := { parameters := [(.array .byte), (.array .byte)], returnType := some .boolean }, accessFlags := 9, code := some k19c1 }
/-- java/lang/StringLatin1 -/
def k19 : Class := { plain "java/lang/StringLatin1" (some 0) with
  accessFlags := 48
  interfaces := #[]
  cf := some (fileOf pool19 14 #[.nestMembers #[390, 221]] #[{ accessFlags := 0, nameIndex := 7, descriptorIndex := 8, attributes := #[] }, { accessFlags := 9, nameIndex := 281, descriptorIndex := 282, attributes := #[] }] 48 4 #[] #[{ accessFlags := 4120, nameIndex := 121, descriptorIndex := 122, attributes := #[] }])
  fields := #[{ name := "$assertionsDisabled", type := .boolean, accessFlags := 4120, slot := 0, constantValue := 0 }]
  methods := #[k19m0, k19m1]
  instanceTypes := #[]
  staticTypes := #[.boolean]
  resolved := Array.replicate 395 none
  statics := none }

def pool20 : Array CpInfo := pool [(2, .class_ 4), (1, u "java/lang/Object"), (0, u "<init>"), (0, u "()V"), (17, .class_ 26), (1, u "jdk/internal/util/Preconditions"), (28, .class_ 56), (0, u "jdk/internal/util/Preconditions$4"), (57, .class_ 115), (0, u "jdk/internal/util/Preconditions$1"), (7, u "SIOOBE_FORMATTER"), (0, u "Ljava/util/function/BiFunction;"), (0, .class_ 126), (0, u "jdk/internal/util/Preconditions$2"), (3, u "AIOOBE_FORMATTER"), (0, .class_ 132), (0, u "jdk/internal/util/Preconditions$3"), (3, u "IOOBE_FORMATTER")] 57

def k20m0 : Method := { name := "<init>", desc := "()V", sig := { parameters := [], returnType := none }, accessFlags := 1, code := none }
/-- jdk/internal/util/Preconditions -/
def k20 : Class := { plain "jdk/internal/util/Preconditions" (some 0) with
  accessFlags := 33
  interfaces := #[]
  cf := some (fileOf pool20 24 #[.nestMembers #[55, 131, 125, 114]] #[{ accessFlags := 1, nameIndex := 5, descriptorIndex := 6, attributes := #[] }] 33 2 #[] #[{ accessFlags := 25, nameIndex := 123, descriptorIndex := 124, attributes := #[] }, { accessFlags := 25, nameIndex := 130, descriptorIndex := 124, attributes := #[] }, { accessFlags := 25, nameIndex := 136, descriptorIndex := 124, attributes := #[] }])
  fields := #[{ name := "SIOOBE_FORMATTER", type := (.object "java/util/function/BiFunction"), accessFlags := 25, slot := 0, constantValue := 0 }, { name := "AIOOBE_FORMATTER", type := (.object "java/util/function/BiFunction"), accessFlags := 25, slot := 1, constantValue := 0 }, { name := "IOOBE_FORMATTER", type := (.object "java/util/function/BiFunction"), accessFlags := 25, slot := 2, constantValue := 0 }]
  methods := #[k20m0]
  instanceTypes := #[]
  staticTypes := #[(.object "java/util/function/BiFunction"), (.object "java/util/function/BiFunction"), (.object "java/util/function/BiFunction")]
  resolved := Array.replicate 194 none
  statics := some 2 }

def pool21 : Array CpInfo := pool [(1, u "java/lang/Cloneable"), (0, .class_ 1), (0, u "java/lang/Object"), (0, .class_ 3)] 3

/-- java/lang/Cloneable -/
def k21 : Class := { plain "java/lang/Cloneable" (some 0) with
  accessFlags := 1537
  interfaces := #[]
  cf := some (fileOf pool21 2 #[] #[] 1537 4 #[] #[])
  fields := #[]
  methods := #[]
  instanceTypes := #[]
  staticTypes := #[]
  resolved := Array.replicate 8 none
  statics := none }

/-- the primitive byte -/
def k22 : Class := { plain "byte" none with kind := .primitive 'B', accessFlags := 0x411 }
/-- [B -/
def k23 : Class := { plain "[B" (some 0) with kind := .array 22 .byte, interfaces := #[21, 2], accessFlags := 1041 }

/-- the primitive char -/
def k24 : Class := { plain "char" none with kind := .primitive 'C', accessFlags := 0x411 }
/-- [C -/
def k25 : Class := { plain "[C" (some 0) with kind := .array 24 .char, interfaces := #[21, 2], accessFlags := 1041 }

/-- the primitive int -/
def k26 : Class := { plain "int" none with kind := .primitive 'I', accessFlags := 0x411 }
/-- [I -/
def k27 : Class := { plain "[I" (some 0) with kind := .array 26 .int, interfaces := #[21, 2], accessFlags := 1041 }

def heap : Heap := #[{ cls := 7, slots := #[.long 0, .int 1, .null, .int 0, .null, .int 0, .int 0], vm := .statics 7 },
  { cls := 17, slots := #[.ref 5, .ref 8, .null], vm := .statics 17 },
  { cls := 20, slots := #[.null, .null, .null], vm := .statics 20 },
  { cls := 23, slots := #[.int 110, .int 111, .int 116, .int 105, .int 102, .int 121], vm := .none },
  { cls := 7, slots := #[.ref 3, .int 0, .int 0, .int 0], vm := .none },
  { cls := 17, slots := #[.null, .int 0, .int 0, .ref 4], vm := .none },
  { cls := 23, slots := #[.int 110, .int 111, .int 116, .int 105, .int 102, .int 121, .int 45, .int 110, .int 101, .int 120, .int 116], vm := .none },
  { cls := 7, slots := #[.ref 6, .int 0, .int 0, .int 0], vm := .none },
  { cls := 17, slots := #[.null, .int 0, .int 0, .ref 7], vm := .none }]
def classes : Array Class := #[k0, k1, k2, k3, k4, k5, k6, k7, k8, k9, k10, k11, k12, k13, k14, k15, k16, k17, k18, k19, k20, k21, k22, k23, k24, k25, k26, k27]
def interned : List (Array UInt16 × Addr) := []
def slotsUsed : Nat := 46
def theMethod : MethodId := ⟨1, 1⟩
def args0 : Array Value := #[.int 5, .int 6, .int 7]
def aboutOver (below : List Frame) : State where
  vm := { classes := classes, interned := interned.toArray }
  heap := heap
  slotsUsed := slotsUsed
  threads := #[{ frames := .invoking theMethod args0 :: below }]
def below0 : List Frame := [.native { method := ⟨0, 0⟩, args := #[] }]
def about1 : State := aboutOver below0
def p0 : Program := .bare "" "" ""
def e0 : Env := launch0.env 0 0 0
theorem w_frames : about1.frames = Frame.invoking theMethod args0 :: below0 := rfl
set_option maxRecDepth 65536 in
theorem w_args : argsFit about1.vm theMethod args0 = true := by decide +kernel
set_option maxRecDepth 65536 in
theorem w_heap : heapFits about1 = true := by decide +kernel
set_option maxRecDepth 65536 in
theorem w_runnable : about1.curStatus? = some .runnable := by decide +kernel
set_option maxRecDepth 65536 in
theorem w_alone : about1.alone = true := by decide +kernel
set_option maxRecDepth 65536 in
theorem w_named : about1.methodNamed? x = some theMethod := by decide +kernel
set_option maxRecDepth 65536 in
theorem w_hears : about1.hears theMethod below0 = true := by decide +kernel
set_option maxRecDepth 65536 in
theorem w_ripe : about1.ripe theMethod args0 below0 = true := by decide +kernel
theorem w_running : about1.status = .running := rfl
set_option maxRecDepth 65536 in
theorem w_room : about1.hasRoom e0.platform room_1 = true :=
  launch0.hasRoom_least _ room_1 (by decide +kernel) (by decide +kernel) (by decide +kernel) (by decide +kernel) (by decide +kernel) (by decide +kernel)
theorem allAtoms_all (ts : List Jvm.Cond) (a : Array Jvm.Value) (st : Jvm.State) : (allAtoms ts).before a st = ts.all (fun c => c.before a st) := by
  induction ts with
  | nil => rfl
  | cons c t ih =>
    show (Jvm.Cond.and c (allAtoms t)).before a st = _
    rw [Jvm.Cond.before_and, ih, List.all_cons]
def words1 : List Jvm.Cond := Jvm.Cond.code x code maxLocals ret :: tables_1
/-- a 'code' word, met by the world's own term for the bytes: nothing is compared byte by byte -/
theorem code_word {y : MethodName} {bytes : ByteArray} {mx : Nat} {rt : Option FieldType} {a : Array Value} {s : State} {m : MethodId} {meth : Method} {c : Code} (h1 : s.methodNamed? y = some m) (h2 : s.vm.method? m = some meth) (h3 : meth.code = some c) (h4 : c.code = bytes)
    (h5 : (c.maxLocals == mx && c.exceptionTable.isEmpty && decide (c.maxStack ≤ mostOperands) && decide (meth.sig.returnType = rt) && !meth.locks && decide (parseMethodDescriptor y.desc = some meth.sig)) = true) : (Jvm.Cond.code y bytes mx rt).before a s = true := by
  simp only [Bool.and_eq_true, beq_iff_eq, Bool.not_eq_true', decide_eq_true_eq] at h5
  obtain ⟨⟨⟨⟨⟨g1, g2⟩, g3⟩, g4⟩, g5⟩, g6⟩ := h5
  simp [Cond.before, Cond.holds, Cond.value, h1, h2, h3, h4, g1, g2, g3, g4, g5, g6]
def isCode : Jvm.Cond → Bool
  | .code _ _ _ _ => true
  | _ => false
theorem all_split {L : List Jvm.Cond} {P : Jvm.Cond → Bool} (h1 : L.all (fun c => isCode c || P c) = true) (h2 : ∀ c ∈ L.filter isCode, P c = true) : L.all P = true := by
  refine List.all_eq_true.mpr fun c hc => ?_
  have h := List.all_eq_true.mp h1 c hc
  rcases Bool.eq_false_or_eq_true (isCode c) with hi | hi
  · exact h2 c (List.mem_filter.mpr ⟨hc, hi⟩)
  · simpa [hi] using h
set_option maxRecDepth 65536 in
theorem w_c0 : (Jvm.Cond.code x code maxLocals ret).before args0 about1 = true := code_word (m := ⟨1, 1⟩) (meth := k1m1) (c := k1c1) (by decide +kernel) rfl rfl rfl (by decide +kernel)
set_option maxRecDepth 65536 in
theorem w_c1 : (Jvm.Cond.code ({ cls := "java/lang/String", name := "<init>", desc := "([C)V" } : Jvm.MethodName) jdk_42_method_3_code (2 : Nat) (Option.none : Option Jvm.ClassFile.FieldType)).before args0 about1 = true := code_word (m := ⟨7, 1⟩) (meth := k7m1) (c := k7c1) (by decide +kernel) rfl rfl rfl (by decide +kernel)
set_option maxRecDepth 65536 in
theorem w_c2 : (Jvm.Cond.code ({ cls := "java/lang/String", name := "<init>", desc := "([CIILjava/lang/Void;)V" } : Jvm.MethodName) jdk_42_method_149_code (6 : Nat) (Option.none : Option Jvm.ClassFile.FieldType)).before args0 about1 = true := code_word (m := ⟨7, 6⟩) (meth := k7m6) (c := k7c6) (by decide +kernel) rfl rfl rfl (by decide +kernel)
set_option maxRecDepth 65536 in
theorem w_c3 : (Jvm.Cond.code ({ cls := "java/lang/Object", name := "<init>", desc := "()V" } : Jvm.MethodName) object_method_1_code (1 : Nat) (Option.none : Option Jvm.ClassFile.FieldType)).before args0 about1 = true := code_word (m := ⟨0, 0⟩) (meth := k0m0) (c := k0c0) (by decide +kernel) rfl rfl rfl (by decide +kernel)
set_option maxRecDepth 65536 in
theorem w_c4 : (Jvm.Cond.code ({ cls := "java/lang/StringUTF16", name := "compress", desc := "([CII)[B" } : Jvm.MethodName) jdk_52_method_16_code (6 : Nat) (Option.some (Jvm.ClassFile.FieldType.array Jvm.ClassFile.FieldType.byte))).before args0 about1 = true := code_word (m := ⟨8, 2⟩) (meth := k8m2) (c := k8c2) (by decide +kernel) rfl rfl rfl (by decide +kernel)
set_option maxRecDepth 65536 in
theorem w_c5 : (Jvm.Cond.code ({ cls := "java/lang/StringUTF16", name := "compress", desc := "([CI[BII)I" } : Jvm.MethodName) jdk_52_method_21_code (7 : Nat) (Option.some Jvm.ClassFile.FieldType.int)).before args0 about1 = true := code_word (m := ⟨8, 3⟩) (meth := k8m3) (c := k8c3) (by decide +kernel) rfl rfl rfl (by decide +kernel)
set_option maxRecDepth 65536 in
theorem w_c6 : (Jvm.Cond.code ({ cls := "java/lang/StringUTF16", name := "coderFromArrayLen", desc := "([BI)B" } : Jvm.MethodName) jdk_52_method_15_code (2 : Nat) (Option.some Jvm.ClassFile.FieldType.byte)).before args0 about1 = true := code_word (m := ⟨8, 1⟩) (meth := k8m1) (c := k8c1) (by decide +kernel) rfl rfl rfl (by decide +kernel)
set_option maxRecDepth 65536 in
theorem w_c7 : (Jvm.Cond.code ({ cls := "com/example/steady_rollout/steadyrollout/DeviceTopics", name := "<init>", desc := "(Ljava/lang/String;)V" } : Jvm.MethodName) prog_4_method_1_code (2 : Nat) (Option.none : Option Jvm.ClassFile.FieldType)).before args0 about1 = true := code_word (m := ⟨9, 0⟩) (meth := k9m0) (c := k9c0) (by decide +kernel) rfl rfl rfl (by decide +kernel)
set_option maxRecDepth 65536 in
theorem w_c8 : (Jvm.Cond.code ({ cls := "java/lang/StringBuilder", name := "<init>", desc := "()V" } : Jvm.MethodName) jdk_67_method_1_code (1 : Nat) (Option.none : Option Jvm.ClassFile.FieldType)).before args0 about1 = true := code_word (m := ⟨12, 0⟩) (meth := k12m0) (c := k12c0) (by decide +kernel) rfl rfl rfl (by decide +kernel)
set_option maxRecDepth 65536 in
theorem w_c9 : (Jvm.Cond.code ({ cls := "java/lang/AbstractStringBuilder", name := "<init>", desc := "(I)V" } : Jvm.MethodName) jdk_68_method_2_code (2 : Nat) (Option.none : Option Jvm.ClassFile.FieldType)).before args0 about1 = true := code_word (m := ⟨11, 1⟩) (meth := k11m1) (c := k11c1) (by decide +kernel) rfl rfl rfl (by decide +kernel)
set_option maxRecDepth 65536 in
theorem w_c10 : (Jvm.Cond.code ({ cls := "java/lang/StringBuilder", name := "append", desc := "(Ljava/lang/String;)Ljava/lang/StringBuilder;" } : Jvm.MethodName) jdk_67_method_7_code (2 : Nat) (Option.some (Jvm.ClassFile.FieldType.object "java/lang/StringBuilder"))).before args0 about1 = true := code_word (m := ⟨12, 1⟩) (meth := k12m1) (c := k12c1) (by decide +kernel) rfl rfl rfl (by decide +kernel)
set_option maxRecDepth 65536 in
theorem w_c11 : (Jvm.Cond.code ({ cls := "java/lang/AbstractStringBuilder", name := "append", desc := "(Ljava/lang/String;)Ljava/lang/AbstractStringBuilder;" } : Jvm.MethodName) jdk_68_method_22_code (3 : Nat) (Option.some (Jvm.ClassFile.FieldType.object "java/lang/AbstractStringBuilder"))).before args0 about1 = true := code_word (m := ⟨11, 5⟩) (meth := k11m5) (c := k11c5) (by decide +kernel) rfl rfl rfl (by decide +kernel)
set_option maxRecDepth 65536 in
theorem w_c12 : (Jvm.Cond.code ({ cls := "java/lang/String", name := "length", desc := "()I" } : Jvm.MethodName) jdk_42_method_54_code (1 : Nat) (Option.some Jvm.ClassFile.FieldType.int)).before args0 about1 = true := code_word (m := ⟨7, 3⟩) (meth := k7m3) (c := k7c3) (by decide +kernel) rfl rfl rfl (by decide +kernel)
set_option maxRecDepth 65536 in
theorem w_c13 : (Jvm.Cond.code ({ cls := "java/lang/String", name := "coder", desc := "()B" } : Jvm.MethodName) jdk_42_method_152_code (1 : Nat) (Option.some Jvm.ClassFile.FieldType.byte)).before args0 about1 = true := code_word (m := ⟨7, 8⟩) (meth := k7m8) (c := k7c8) (by decide +kernel) rfl rfl rfl (by decide +kernel)
set_option maxRecDepth 65536 in
theorem w_c14 : (Jvm.Cond.code ({ cls := "java/lang/AbstractStringBuilder", name := "ensureCapacityInternal", desc := "(I)V" } : Jvm.MethodName) jdk_68_method_9_code (3 : Nat) (Option.none : Option Jvm.ClassFile.FieldType)).before args0 about1 = true := code_word (m := ⟨11, 3⟩) (meth := k11m3) (c := k11c3) (by decide +kernel) rfl rfl rfl (by decide +kernel)
set_option maxRecDepth 65536 in
theorem w_c15 : (Jvm.Cond.code ({ cls := "java/lang/AbstractStringBuilder", name := "putStringAt", desc := "(ILjava/lang/String;)V" } : Jvm.MethodName) jdk_68_method_73_code (3 : Nat) (Option.none : Option Jvm.ClassFile.FieldType)).before args0 about1 = true := code_word (m := ⟨11, 9⟩) (meth := k11m9) (c := k11c9) (by decide +kernel) rfl rfl rfl (by decide +kernel)
set_option maxRecDepth 65536 in
theorem w_c16 : (Jvm.Cond.code ({ cls := "java/lang/AbstractStringBuilder", name := "inflateIfNeededFor", desc := "(Ljava/lang/String;)V" } : Jvm.MethodName) jdk_68_method_71_code (2 : Nat) (Option.none : Option Jvm.ClassFile.FieldType)).before args0 about1 = true := code_word (m := ⟨11, 8⟩) (meth := k11m8) (c := k11c8) (by decide +kernel) rfl rfl rfl (by decide +kernel)
set_option maxRecDepth 65536 in
theorem w_c17 : (Jvm.Cond.code ({ cls := "java/lang/String", name := "getBytes", desc := "([BIB)V" } : Jvm.MethodName) jdk_42_method_147_code (4 : Nat) (Option.none : Option Jvm.ClassFile.FieldType)).before args0 about1 = true := code_word (m := ⟨7, 5⟩) (meth := k7m5) (c := k7c5) (by decide +kernel) rfl rfl rfl (by decide +kernel)
set_option maxRecDepth 65536 in
theorem w_c18 : (Jvm.Cond.code ({ cls := "java/lang/StringBuilder", name := "toString", desc := "()Ljava/lang/String;" } : Jvm.MethodName) jdk_67_method_42_code (1 : Nat) (Option.some (Jvm.ClassFile.FieldType.object "java/lang/String"))).before args0 about1 = true := code_word (m := ⟨12, 2⟩) (meth := k12m2) (c := k12c2) (by decide +kernel) rfl rfl rfl (by decide +kernel)
set_option maxRecDepth 65536 in
theorem w_c19 : (Jvm.Cond.code ({ cls := "java/lang/String", name := "<init>", desc := "(Ljava/lang/StringBuilder;)V" } : Jvm.MethodName) jdk_42_method_53_code (2 : Nat) (Option.none : Option Jvm.ClassFile.FieldType)).before args0 about1 = true := code_word (m := ⟨7, 2⟩) (meth := k7m2) (c := k7c2) (by decide +kernel) rfl rfl rfl (by decide +kernel)
set_option maxRecDepth 65536 in
theorem w_c20 : (Jvm.Cond.code ({ cls := "java/lang/String", name := "<init>", desc := "(Ljava/lang/AbstractStringBuilder;Ljava/lang/Void;)V" } : Jvm.MethodName) jdk_42_method_150_code (5 : Nat) (Option.none : Option Jvm.ClassFile.FieldType)).before args0 about1 = true := code_word (m := ⟨7, 7⟩) (meth := k7m7) (c := k7c7) (by decide +kernel) rfl rfl rfl (by decide +kernel)
set_option maxRecDepth 65536 in
theorem w_c21 : (Jvm.Cond.code ({ cls := "java/lang/AbstractStringBuilder", name := "getValue", desc := "()[B" } : Jvm.MethodName) jdk_68_method_64_code (1 : Nat) (Option.some (Jvm.ClassFile.FieldType.array Jvm.ClassFile.FieldType.byte))).before args0 about1 = true := code_word (m := ⟨11, 6⟩) (meth := k11m6) (c := k11c6) (by decide +kernel) rfl rfl rfl (by decide +kernel)
set_option maxRecDepth 65536 in
theorem w_c22 : (Jvm.Cond.code ({ cls := "java/lang/StringBuilder", name := "length", desc := "()I" } : Jvm.MethodName) jdk_67_method_93_code (1 : Nat) (Option.some Jvm.ClassFile.FieldType.int)).before args0 about1 = true := code_word (m := ⟨12, 3⟩) (meth := k12m3) (c := k12c3) (by decide +kernel) rfl rfl rfl (by decide +kernel)
set_option maxRecDepth 65536 in
theorem w_c23 : (Jvm.Cond.code ({ cls := "java/lang/AbstractStringBuilder", name := "length", desc := "()I" } : Jvm.MethodName) jdk_68_method_6_code (1 : Nat) (Option.some Jvm.ClassFile.FieldType.int)).before args0 about1 = true := code_word (m := ⟨11, 2⟩) (meth := k11m2) (c := k11c2) (by decide +kernel) rfl rfl rfl (by decide +kernel)
set_option maxRecDepth 65536 in
theorem w_c24 : (Jvm.Cond.code ({ cls := "java/lang/AbstractStringBuilder", name := "isLatin1", desc := "()Z" } : Jvm.MethodName) jdk_68_method_68_code (1 : Nat) (Option.some Jvm.ClassFile.FieldType.boolean)).before args0 about1 = true := code_word (m := ⟨11, 7⟩) (meth := k11m7) (c := k11c7) (by decide +kernel) rfl rfl rfl (by decide +kernel)
set_option maxRecDepth 65536 in
theorem w_c25 : (Jvm.Cond.code ({ cls := "java/util/Arrays", name := "copyOfRange", desc := "([BII)[B" } : Jvm.MethodName) jdk_65_method_132_code (3 : Nat) (Option.some (Jvm.ClassFile.FieldType.array Jvm.ClassFile.FieldType.byte))).before args0 about1 = true := code_word (m := ⟨14, 3⟩) (meth := k14m3) (c := k14c3) (by decide +kernel) rfl rfl rfl (by decide +kernel)
set_option maxRecDepth 65536 in
theorem w_c26 : (Jvm.Cond.code ({ cls := "java/util/Arrays", name := "copyOfRangeByte", desc := "([BII)[B" } : Jvm.MethodName) jdk_65_method_133_code (5 : Nat) (Option.some (Jvm.ClassFile.FieldType.array Jvm.ClassFile.FieldType.byte))).before args0 about1 = true := code_word (m := ⟨14, 4⟩) (meth := k14m4) (c := k14c4) (by decide +kernel) rfl rfl rfl (by decide +kernel)
set_option maxRecDepth 65536 in
theorem w_c27 : (Jvm.Cond.code ({ cls := "java/util/Arrays", name := "checkLength", desc := "(II)V" } : Jvm.MethodName) jdk_65_method_131_code (2 : Nat) (Option.none : Option Jvm.ClassFile.FieldType)).before args0 about1 = true := code_word (m := ⟨14, 2⟩) (meth := k14m2) (c := k14c2) (by decide +kernel) rfl rfl rfl (by decide +kernel)
set_option maxRecDepth 65536 in
theorem w_c28 : (Jvm.Cond.code ({ cls := "java/lang/Math", name := "min", desc := "(II)I" } : Jvm.MethodName) jdk_29_method_69_code (2 : Nat) (Option.some Jvm.ClassFile.FieldType.int)).before args0 about1 = true := code_word (m := ⟨15, 2⟩) (meth := k15m2) (c := k15c2) (by decide +kernel) rfl rfl rfl (by decide +kernel)
set_option maxRecDepth 65536 in
theorem w_c29 : (Jvm.Cond.code ({ cls := "com/example/steady_rollout/steadyrollout/DeviceTopics", name := "push", desc := "(Ljava/lang/String;Lcom/example/steady_rollout/steadyrollout/DeviceTopics$Push;)Ljava/lang/String;" } : Jvm.MethodName) prog_4_method_7_code (3 : Nat) (Option.some (Jvm.ClassFile.FieldType.object "java/lang/String"))).before args0 about1 = true := code_word (m := ⟨9, 1⟩) (meth := k9m1) (c := k9c1) (by decide +kernel) rfl rfl rfl (by decide +kernel)
set_option maxRecDepth 65536 in
theorem w_c30 : (Jvm.Cond.code ({ cls := "java/lang/AbstractStringBuilder", name := "newCapacity", desc := "(I)I" } : Jvm.MethodName) jdk_68_method_10_code (6 : Nat) (Option.some Jvm.ClassFile.FieldType.int)).before args0 about1 = true := code_word (m := ⟨11, 4⟩) (meth := k11m4) (c := k11c4) (by decide +kernel) rfl rfl rfl (by decide +kernel)
set_option maxRecDepth 65536 in
theorem w_c31 : (Jvm.Cond.code ({ cls := "jdk/internal/util/ArraysSupport", name := "newLength", desc := "(III)I" } : Jvm.MethodName) jdk_48_method_27_code (4 : Nat) (Option.some Jvm.ClassFile.FieldType.int)).before args0 about1 = true := code_word (m := ⟨18, 1⟩) (meth := k18m1) (c := k18c1) (by decide +kernel) rfl rfl rfl (by decide +kernel)
set_option maxRecDepth 65536 in
theorem w_c32 : (Jvm.Cond.code ({ cls := "java/lang/Math", name := "max", desc := "(II)I" } : Jvm.MethodName) jdk_29_method_65_code (2 : Nat) (Option.some Jvm.ClassFile.FieldType.int)).before args0 about1 = true := code_word (m := ⟨15, 1⟩) (meth := k15m1) (c := k15c1) (by decide +kernel) rfl rfl rfl (by decide +kernel)
set_option maxRecDepth 65536 in
theorem w_c33 : (Jvm.Cond.code ({ cls := "java/util/Arrays", name := "copyOf", desc := "([BI)[B" } : Jvm.MethodName) jdk_65_method_121_code (3 : Nat) (Option.some (Jvm.ClassFile.FieldType.array Jvm.ClassFile.FieldType.byte))).before args0 about1 = true := code_word (m := ⟨14, 1⟩) (meth := k14m1) (c := k14c1) (by decide +kernel) rfl rfl rfl (by decide +kernel)
set_option maxRecDepth 65536 in
theorem w_c34 : (Jvm.Cond.code ({ cls := "java/lang/String", name := "equals", desc := "(Ljava/lang/Object;)Z" } : Jvm.MethodName) jdk_42_method_66_code (3 : Nat) (Option.some Jvm.ClassFile.FieldType.boolean)).before args0 about1 = true := code_word (m := ⟨7, 4⟩) (meth := k7m4) (c := k7c4) (by decide +kernel) rfl rfl rfl (by decide +kernel)
set_option maxRecDepth 65536 in
theorem w_c35 : (Jvm.Cond.code ({ cls := "java/lang/StringLatin1", name := "equals", desc := "([B[B)Z" } : Jvm.MethodName) jdk_43_method_13_code (3 : Nat) (Option.some Jvm.ClassFile.FieldType.boolean)).before args0 about1 = true := code_word (m := ⟨19, 1⟩) (meth := k19m1) (c := k19c1) (by decide +kernel) rfl rfl rfl (by decide +kernel)
def codes1 : List Jvm.Cond := [Jvm.Cond.code x code maxLocals ret, Jvm.Cond.code ({ cls := "java/lang/String", name := "<init>", desc := "([C)V" } : Jvm.MethodName) jdk_42_method_3_code (2 : Nat) (Option.none : Option Jvm.ClassFile.FieldType), Jvm.Cond.code ({ cls := "java/lang/String", name := "<init>", desc := "([CIILjava/lang/Void;)V" } : Jvm.MethodName) jdk_42_method_149_code (6 : Nat) (Option.none : Option Jvm.ClassFile.FieldType), Jvm.Cond.code ({ cls := "java/lang/Object", name := "<init>", desc := "()V" } : Jvm.MethodName) object_method_1_code (1 : Nat) (Option.none : Option Jvm.ClassFile.FieldType), Jvm.Cond.code ({ cls := "java/lang/StringUTF16", name := "compress", desc := "([CII)[B" } : Jvm.MethodName) jdk_52_method_16_code (6 : Nat) (Option.some (Jvm.ClassFile.FieldType.array Jvm.ClassFile.FieldType.byte)), Jvm.Cond.code ({ cls := "java/lang/StringUTF16", name := "compress", desc := "([CI[BII)I" } : Jvm.MethodName) jdk_52_method_21_code (7 : Nat) (Option.some Jvm.ClassFile.FieldType.int), Jvm.Cond.code ({ cls := "java/lang/StringUTF16", name := "coderFromArrayLen", desc := "([BI)B" } : Jvm.MethodName) jdk_52_method_15_code (2 : Nat) (Option.some Jvm.ClassFile.FieldType.byte), Jvm.Cond.code ({ cls := "com/example/steady_rollout/steadyrollout/DeviceTopics", name := "<init>", desc := "(Ljava/lang/String;)V" } : Jvm.MethodName) prog_4_method_1_code (2 : Nat) (Option.none : Option Jvm.ClassFile.FieldType), Jvm.Cond.code ({ cls := "java/lang/StringBuilder", name := "<init>", desc := "()V" } : Jvm.MethodName) jdk_67_method_1_code (1 : Nat) (Option.none : Option Jvm.ClassFile.FieldType), Jvm.Cond.code ({ cls := "java/lang/AbstractStringBuilder", name := "<init>", desc := "(I)V" } : Jvm.MethodName) jdk_68_method_2_code (2 : Nat) (Option.none : Option Jvm.ClassFile.FieldType), Jvm.Cond.code ({ cls := "java/lang/StringBuilder", name := "append", desc := "(Ljava/lang/String;)Ljava/lang/StringBuilder;" } : Jvm.MethodName) jdk_67_method_7_code (2 : Nat) (Option.some (Jvm.ClassFile.FieldType.object "java/lang/StringBuilder")), Jvm.Cond.code ({ cls := "java/lang/AbstractStringBuilder", name := "append", desc := "(Ljava/lang/String;)Ljava/lang/AbstractStringBuilder;" } : Jvm.MethodName) jdk_68_method_22_code (3 : Nat) (Option.some (Jvm.ClassFile.FieldType.object "java/lang/AbstractStringBuilder")), Jvm.Cond.code ({ cls := "java/lang/String", name := "length", desc := "()I" } : Jvm.MethodName) jdk_42_method_54_code (1 : Nat) (Option.some Jvm.ClassFile.FieldType.int), Jvm.Cond.code ({ cls := "java/lang/String", name := "coder", desc := "()B" } : Jvm.MethodName) jdk_42_method_152_code (1 : Nat) (Option.some Jvm.ClassFile.FieldType.byte), Jvm.Cond.code ({ cls := "java/lang/AbstractStringBuilder", name := "ensureCapacityInternal", desc := "(I)V" } : Jvm.MethodName) jdk_68_method_9_code (3 : Nat) (Option.none : Option Jvm.ClassFile.FieldType), Jvm.Cond.code ({ cls := "java/lang/AbstractStringBuilder", name := "putStringAt", desc := "(ILjava/lang/String;)V" } : Jvm.MethodName) jdk_68_method_73_code (3 : Nat) (Option.none : Option Jvm.ClassFile.FieldType), Jvm.Cond.code ({ cls := "java/lang/AbstractStringBuilder", name := "inflateIfNeededFor", desc := "(Ljava/lang/String;)V" } : Jvm.MethodName) jdk_68_method_71_code (2 : Nat) (Option.none : Option Jvm.ClassFile.FieldType), Jvm.Cond.code ({ cls := "java/lang/String", name := "getBytes", desc := "([BIB)V" } : Jvm.MethodName) jdk_42_method_147_code (4 : Nat) (Option.none : Option Jvm.ClassFile.FieldType), Jvm.Cond.code ({ cls := "java/lang/StringBuilder", name := "toString", desc := "()Ljava/lang/String;" } : Jvm.MethodName) jdk_67_method_42_code (1 : Nat) (Option.some (Jvm.ClassFile.FieldType.object "java/lang/String")), Jvm.Cond.code ({ cls := "java/lang/String", name := "<init>", desc := "(Ljava/lang/StringBuilder;)V" } : Jvm.MethodName) jdk_42_method_53_code (2 : Nat) (Option.none : Option Jvm.ClassFile.FieldType), Jvm.Cond.code ({ cls := "java/lang/String", name := "<init>", desc := "(Ljava/lang/AbstractStringBuilder;Ljava/lang/Void;)V" } : Jvm.MethodName) jdk_42_method_150_code (5 : Nat) (Option.none : Option Jvm.ClassFile.FieldType), Jvm.Cond.code ({ cls := "java/lang/AbstractStringBuilder", name := "getValue", desc := "()[B" } : Jvm.MethodName) jdk_68_method_64_code (1 : Nat) (Option.some (Jvm.ClassFile.FieldType.array Jvm.ClassFile.FieldType.byte)), Jvm.Cond.code ({ cls := "java/lang/StringBuilder", name := "length", desc := "()I" } : Jvm.MethodName) jdk_67_method_93_code (1 : Nat) (Option.some Jvm.ClassFile.FieldType.int), Jvm.Cond.code ({ cls := "java/lang/AbstractStringBuilder", name := "length", desc := "()I" } : Jvm.MethodName) jdk_68_method_6_code (1 : Nat) (Option.some Jvm.ClassFile.FieldType.int), Jvm.Cond.code ({ cls := "java/lang/AbstractStringBuilder", name := "isLatin1", desc := "()Z" } : Jvm.MethodName) jdk_68_method_68_code (1 : Nat) (Option.some Jvm.ClassFile.FieldType.boolean), Jvm.Cond.code ({ cls := "java/util/Arrays", name := "copyOfRange", desc := "([BII)[B" } : Jvm.MethodName) jdk_65_method_132_code (3 : Nat) (Option.some (Jvm.ClassFile.FieldType.array Jvm.ClassFile.FieldType.byte)), Jvm.Cond.code ({ cls := "java/util/Arrays", name := "copyOfRangeByte", desc := "([BII)[B" } : Jvm.MethodName) jdk_65_method_133_code (5 : Nat) (Option.some (Jvm.ClassFile.FieldType.array Jvm.ClassFile.FieldType.byte)), Jvm.Cond.code ({ cls := "java/util/Arrays", name := "checkLength", desc := "(II)V" } : Jvm.MethodName) jdk_65_method_131_code (2 : Nat) (Option.none : Option Jvm.ClassFile.FieldType), Jvm.Cond.code ({ cls := "java/lang/Math", name := "min", desc := "(II)I" } : Jvm.MethodName) jdk_29_method_69_code (2 : Nat) (Option.some Jvm.ClassFile.FieldType.int), Jvm.Cond.code ({ cls := "com/example/steady_rollout/steadyrollout/DeviceTopics", name := "push", desc := "(Ljava/lang/String;Lcom/example/steady_rollout/steadyrollout/DeviceTopics$Push;)Ljava/lang/String;" } : Jvm.MethodName) prog_4_method_7_code (3 : Nat) (Option.some (Jvm.ClassFile.FieldType.object "java/lang/String")), Jvm.Cond.code ({ cls := "java/lang/AbstractStringBuilder", name := "newCapacity", desc := "(I)I" } : Jvm.MethodName) jdk_68_method_10_code (6 : Nat) (Option.some Jvm.ClassFile.FieldType.int), Jvm.Cond.code ({ cls := "jdk/internal/util/ArraysSupport", name := "newLength", desc := "(III)I" } : Jvm.MethodName) jdk_48_method_27_code (4 : Nat) (Option.some Jvm.ClassFile.FieldType.int), Jvm.Cond.code ({ cls := "java/lang/Math", name := "max", desc := "(II)I" } : Jvm.MethodName) jdk_29_method_65_code (2 : Nat) (Option.some Jvm.ClassFile.FieldType.int), Jvm.Cond.code ({ cls := "java/util/Arrays", name := "copyOf", desc := "([BI)[B" } : Jvm.MethodName) jdk_65_method_121_code (3 : Nat) (Option.some (Jvm.ClassFile.FieldType.array Jvm.ClassFile.FieldType.byte)), Jvm.Cond.code ({ cls := "java/lang/String", name := "equals", desc := "(Ljava/lang/Object;)Z" } : Jvm.MethodName) jdk_42_method_66_code (3 : Nat) (Option.some Jvm.ClassFile.FieldType.boolean), Jvm.Cond.code ({ cls := "java/lang/StringLatin1", name := "equals", desc := "([B[B)Z" } : Jvm.MethodName) jdk_43_method_13_code (3 : Nat) (Option.some Jvm.ClassFile.FieldType.boolean)]
set_option maxRecDepth 65536 in
theorem codes_eq : words1.filter isCode = codes1 := rfl
theorem w_codes : ∀ c ∈ words1.filter isCode, c.before args0 about1 = true := by
  rw [codes_eq]
  intro c hc
  simp only [codes1, List.mem_cons, List.not_mem_nil, or_false] at hc
  rcases hc with rfl | rfl | rfl | rfl | rfl | rfl | rfl | rfl | rfl | rfl | rfl | rfl | rfl | rfl | rfl | rfl | rfl | rfl | rfl | rfl | rfl | rfl | rfl | rfl | rfl | rfl | rfl | rfl | rfl | rfl | rfl | rfl | rfl | rfl | rfl | rfl
  · exact w_c0
  · exact w_c1
  · exact w_c2
  · exact w_c3
  · exact w_c4
  · exact w_c5
  · exact w_c6
  · exact w_c7
  · exact w_c8
  · exact w_c9
  · exact w_c10
  · exact w_c11
  · exact w_c12
  · exact w_c13
  · exact w_c14
  · exact w_c15
  · exact w_c16
  · exact w_c17
  · exact w_c18
  · exact w_c19
  · exact w_c20
  · exact w_c21
  · exact w_c22
  · exact w_c23
  · exact w_c24
  · exact w_c25
  · exact w_c26
  · exact w_c27
  · exact w_c28
  · exact w_c29
  · exact w_c30
  · exact w_c31
  · exact w_c32
  · exact w_c33
  · exact w_c34
  · exact w_c35
set_option maxRecDepth 65536 in
theorem w_t1 : (words1.take 24).all (fun c => isCode c || c.before args0 about1) = true := by decide +kernel
set_option maxRecDepth 65536 in
theorem w_t2 : ((words1.drop 24).take 24).all (fun c => isCode c || c.before args0 about1) = true := by decide +kernel
set_option maxRecDepth 65536 in
theorem w_t3 : (((words1.drop 24).drop 24).take 24).all (fun c => isCode c || c.before args0 about1) = true := by decide +kernel
set_option maxRecDepth 65536 in
theorem w_t4 : ((((words1.drop 24).drop 24).drop 24).take 24).all (fun c => isCode c || c.before args0 about1) = true := by decide +kernel
set_option maxRecDepth 65536 in
theorem w_t5 : (((((words1.drop 24).drop 24).drop 24).drop 24).take 24).all (fun c => isCode c || c.before args0 about1) = true := by decide +kernel
set_option maxRecDepth 65536 in
theorem w_t6 : ((((((words1.drop 24).drop 24).drop 24).drop 24).drop 24).take 24).all (fun c => isCode c || c.before args0 about1) = true := by decide +kernel
set_option maxRecDepth 65536 in
theorem w_t7 : (((((((words1.drop 24).drop 24).drop 24).drop 24).drop 24).drop 24).take 24).all (fun c => isCode c || c.before args0 about1) = true := by decide +kernel
set_option maxRecDepth 65536 in
theorem w_t8 : ((((((((words1.drop 24).drop 24).drop 24).drop 24).drop 24).drop 24).drop 24).take 24).all (fun c => isCode c || c.before args0 about1) = true := by decide +kernel
set_option maxRecDepth 65536 in
theorem w_t9 : ((((((((words1.drop 24).drop 24).drop 24).drop 24).drop 24).drop 24).drop 24).drop 24).all (fun c => isCode c || c.before args0 about1) = true := by decide +kernel
theorem w_tables : (allAtoms (Jvm.Cond.code x code maxLocals ret :: tables_1)).before args0 about1 = true := by
  rw [allAtoms_all]
  show words1.all (fun c => c.before args0 about1) = true
  refine all_split ?_ w_codes
  rw [← List.take_append_drop 24 words1, List.all_append, w_t1, ← List.take_append_drop 24 (words1.drop 24), List.all_append, w_t2, ← List.take_append_drop 24 ((words1.drop 24).drop 24), List.all_append, w_t3, ← List.take_append_drop 24 (((words1.drop 24).drop 24).drop 24), List.all_append, w_t4, ← List.take_append_drop 24 ((((words1.drop 24).drop 24).drop 24).drop 24), List.all_append, w_t5, ← List.take_append_drop 24 (((((words1.drop 24).drop 24).drop 24).drop 24).drop 24), List.all_append, w_t6, ← List.take_append_drop 24 ((((((words1.drop 24).drop 24).drop 24).drop 24).drop 24).drop 24), List.all_append, w_t7, ← List.take_append_drop 24 (((((((words1.drop 24).drop 24).drop 24).drop 24).drop 24).drop 24).drop 24), List.all_append, w_t8, w_t9]
  rfl
set_option maxRecDepth 65536 in
theorem w_rest : rest_1_c.before args0 about1 = true := by decide +kernel
set_option maxRecDepth 65536 in
theorem w_case : (Jvm.Cond.and given_1 narrow_1).before args0 about1 = true := by decide +kernel
set_option maxRecDepth 65536 in
theorem w_consts : constsHeld consts_1 about1 := Jvm.Lit.constsHeldB_iff.mp (by decide +kernel)
theorem w_applies : (headSpec (Jvm.Cond.code x code maxLocals ret :: tables_1) room_1).applies x e0.platform about1 = true :=
  (Spec.applies_iff w_frames).mpr ⟨w_running, w_runnable, w_alone, w_named, w_hears, w_ripe, w_room, w_tables⟩
theorem atStart : AtStart classFile x code maxLocals ret World_1 tables_1 room_1 Calls_1 rest_1 Pre_1 launch0 p0 e0 about1 theMethod args0 below0 :=
  ⟨lists_1, trivial, launch0.admits_env _ _ _, launch0.least_env, fairChoices_fair.cas, fairChoices_fair.clock, w_frames, w_args, w_heap, w_applies, ⟨w_consts, trivial⟩, w_rest, w_case⟩
end start1
theorem witness_1 : WitnessClaimed_1 := ⟨start1.p0, start1.e0, start1.about1, start1.theMethod, start1.args0, start1.below0, start1.atStart⟩
end Jvm.Pilot.@@N@@
