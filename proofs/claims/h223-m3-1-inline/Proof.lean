import JvmDerived
import JvmDerived.Pilot.@@N@@Statement
import JvmDerived.Pilot.@@N@@Code
set_option linter.unusedVariables false
set_option linter.unusedSimpArgs false
namespace Jvm.Pilot.@@N@@
open Jvm Jvm.ClassFile Sem Op Lib Jvm.Free Jvm.Stand Jvm.LawKit Jvm.RoadKit Bundle Jvm.Pilot.@@N@@.Jvm.D
/-! the walk's own layer (wide form): Go = "from here the body returns, and Q"; String constants may be loaded on the way -/
abbrev Cx : Type := Program × Env × State × MethodId × Array Value × List Frame × Method × Code
def Wds (Z : State) : Prop := ∃ a0 : Array Value, (∀ d ∈ tables_1, d.before a0 Z = true) ∧ EW Z a0 consts_1 ∧ ∀ a ∈ Bundle.stringAtoms, a.before a0 Z = true
theorem Wds.w {Z : State} (W : Wds Z) : ∃ a0 : Array Value, ∀ d ∈ tables_1, d.before a0 Z = true := by obtain ⟨a0, h, -⟩ := W; exact ⟨a0, h⟩
def Ok (Z : State) (K : Cx) (own : String) (bytes : ByteArray) (maxL : Nat) (ret : Option FieldType) (nm : String) : Prop :=
  match K with
  | (p, e, s, m, args, below, meth, c) => p.tables.exec = Jvm.exec ∧ c.code = bytes ∧ c.maxLocals = maxL ∧ meth.sig.returnType = ret ∧ s.vm.findClass own = some m.cls ∧ Z.Warmed39 s.vm ∧ meth.name = nm ∧ meth.locks = false ∧ Wds Z
abbrev Sfs (Z : State) (vm : Vm) (h : Heap) (sf : List Addr) : Prop := ∀ x ∈ sf, x < h.size ∧ Safe Z consts_1 vm h x
abbrev Fnl (Z : State) (n0 : Nat) (Q : Option Value → Heap → List Addr → Prop) (v : Option Value) (t : State) (L : List Loc) : Prop := (∃ sn, Q v t.heap sn ∧ Sfs Z t.vm t.heap sn) ∧ Fr n0 L ∧ Old Z n0 t.heap
def Go (l : Launch) (Z : State) (n0 : Nat) (R : Room) (K : Cx) (Q : Option Value → Heap → List Addr → Prop) (h : Heap) (sf : List Addr) (k j : Nat) (pc : Nat) (ls : Array Slot) (st : List Value) : Prop :=
  match K with
  | (p, e, s, m, args, below, meth, c) => ∀ (vm0 : Vm) (k0 : Nat) (T : State) (locs : List Loc), Stand p l e R (s.setVm vm0) m args below meth c T locs k j → T.heap = h → s.Since vm0 k0 → k0 ≤ h.size → CHr Z consts_1 s.vm s.heap vm0 h → Sfs Z vm0 h sf → Fr n0 locs → Old Z n0 h →
      ∃ (s₂ : State) (o : Outcome), Steps p.tables e below (T.setTop (mkF m pc ls st)) s₂ ∧ s₂.status = .running ∧ Ended s₂ below o ∧ ∃ (v : Option Value) (L : List Loc), o = .returned v ∧ Fnl Z n0 Q v s₂ L ∧ CHr Z consts_1 s.vm s.heap s₂.vm s₂.heap ∧ ReturnedEndW s o s₂ L R.cells R.slots
def Ctr (l : Launch) (Z : State) (n0 : Nat) (y : MethodName) (bytes : ByteArray) (maxL : Nat) (ret : Option FieldType) (rm : Room) (as : Array Value) (h : Heap) (sf : List Addr) (Q : Option Value → Heap → List Addr → Prop) : Prop :=
  Old Z n0 h → ∀ ws : List Jvm.Cond, MetFree l y (head1 (Jvm.Cond.code y bytes maxL ret :: ws) rm) (fun a U => a = as ∧ Z.Warmed39 U.vm ∧ U.heap = h ∧ CHv Z consts_1 U.vm h ∧ Sfs Z U.vm h sf) (fun _ _ _ _ _ => True) (fun _ U o U' => ∃ v L, o = .returned v ∧ Fnl Z n0 Q v U' L ∧ CHr Z consts_1 U.vm U.heap U'.vm U'.heap ∧ ReturnedEndW U o U' L rm.cells rm.slots)
section Kit
variable {l : Launch} {Z : State} {n0 : Nat} {R : Room} {K : Cx} {Q : Option Value → Heap → List Addr → Prop} {h : Heap} {sf : List Addr} {k j pc pc' : Nat} {ls : Array Slot} {st : List Value} {own : String} {bytes : ByteArray} {maxL : Nat} {ret : Option FieldType} {nm : String}
theorem Sfs.ext {vm : Vm} {h' : Heap} (E : Ext h h') (H : CHv Z consts_1 vm h) (S : Sfs Z vm h sf) : Sfs Z vm h' sf := fun x q => ⟨Nat.lt_of_lt_of_le (S x q).1 E.1, Safe.ext E H (S x q).2⟩
theorem Sfs.cons {vm : Vm} {a : Addr} (q : a < h.size) (Sa : Safe Z consts_1 vm h a) (S : Sfs Z vm h sf) : Sfs Z vm h (a :: sf) := fun x hx => by
  rcases List.mem_cons.mp hx with rfl | hx
  · exact ⟨q, Sa⟩
  · exact S x hx
theorem Sfs.chr {vm vm' : Vm} {h' : Heap} (A : CHr Z consts_1 vm h vm' h') (S : Sfs Z vm h sf) : Sfs Z vm' h' sf := fun x q => ⟨Nat.lt_of_lt_of_le (S x q).1 A.2.1, A.safe (S x q).1 (S x q).2⟩
theorem Sfs.app {vm : Vm} {sn : List Addr} (S : Sfs Z vm h sn) (S' : Sfs Z vm h sf) : Sfs Z vm h (sn ++ sf) := fun x q => (List.mem_append.mp q).elim (S x) (S' x)
theorem Ctr.of_go {y : MethodName} {rm : Room} {as : Array Value} (W : Wds Z) (hp : plainFor y = true) (hef : ∀ m, entryFrame m as maxL = mkF m 0 ls []) (hgo : ∀ K, Ok Z K y.cls bytes maxL ret y.name → Go l Z n0 rm K Q h sf 0 0 0 ls []) : Ctr l Z n0 y bytes maxL ret rm as h sf Q := fun hO ws => by
  refine MetFree.of_bodySF hp hisR ?_
  intro p e s m args below meth c s₁ Bd hml0 hP hK
  obtain ⟨rfl, hZ, hh, hC, hS⟩ := hP
  have X0 : Stand p l e rm (s.setVm s.vm) m args below meth c s₁ [] 0 0 := Stand.of_body Bd
  have e0 : s₁.heap = h := by rw [← hh, Bd.state]; rfl
  have hnm := (name_of_methodNamed Bd.named Bd.method).1
  have hlk : meth.locks = false := BodyLoose.notSynchronized Bd
  have hS0 : s.Since s.vm 0 := (State.WarmedH.refl s).since _
  obtain ⟨s₂, o, h1, h2⟩ := hgo (p, e, s, m, args, below, meth, c) ⟨Bd.exec, Bd.bytes, hml0, Bd.returns, findClass_of_methodNamed Bd.named, hZ, hnm, hlk, W⟩ s.vm 0 s₁ [] X0 e0 hS0 (Nat.zero_le _) (by rw [hh]; exact CHr.refl hC) hS (Fr.nil n0) hO
  exact ⟨s₂, o, castTop (hef m) h1, h2⟩
theorem Go.of {ls' : Array Slot} {st' : List Value} (H : Ok Z K own bytes maxL ret nm) (step : ∀ (p : Program) (e : Env) (below : List Frame) (T target : State) (m : MethodId) (c : Code), At T m c below → p.tables.exec = Jvm.exec → c.code = bytes → Steps p.tables e below (T.setTop (mkF m pc' ls' st')) target → Steps p.tables e below (T.setTop (mkF m pc ls st)) target) (r : Go l Z n0 R K Q h sf k j pc' ls' st') : Go l Z n0 R K Q h sf k j pc ls st := by
  obtain ⟨p, e, s, m, args, below, meth, c⟩ := K
  intro vm0 k0 T locs X eT hS hk hC hSf hF hO
  obtain ⟨s₂, o, h1, h2⟩ := r vm0 k0 T locs X eT hS hk hC hSf hF hO
  exact ⟨s₂, o, step p e below T s₂ m c X.here H.1 H.2.1 h1, h2⟩
/-- a step that keeps the heap and may warm the tables -/
theorem Go.of2 {st' : List Value} (H : Ok Z K own bytes maxL ret nm) (step : ∀ (p : Program) (e : Env) (s : State) (m : MethodId) (args : Array Value) (below : List Frame) (meth : Method) (c : Code) (T : State) (locs : List Loc) (a0 : Array Value), (∀ d ∈ tables_1, d.before a0 Z = true) → Stand p l e R s m args below meth c T locs k j → p.tables.exec = Jvm.exec → c.code = bytes → c.maxLocals = maxL → Z.Warmed39 s.vm → s.vm.findClass own = some m.cls → T.heap = h → Old Z n0 h →
      ∃ T', Stand p l e R s m args below meth c T' locs k j ∧ T'.heap = h ∧ ∀ target, Steps p.tables e below (T'.setTop (mkF m pc' ls st')) target → Steps p.tables e below (T.setTop (mkF m pc ls st)) target) (r : Go l Z n0 R K Q h sf k j pc' ls st') : Go l Z n0 R K Q h sf k j pc ls st := by
  obtain ⟨p, e, s, m, args, below, meth, c⟩ := K
  intro vm0 k0 T locs X eT hS hk hC hSf hF hO
  obtain ⟨H1, H2, H3, H4, H5, H6, H7, H8, a0, hw, hEL, hat⟩ := H
  obtain ⟨T', X', eT', st⟩ := step p e (s.setVm vm0) m args below meth c T locs a0 hw X H1 H2 H3 (State.Warmed39.trans H6 hS.1) ((hS.1.alike.findClass _ _).trans H5) eT hO
  obtain ⟨s₂, o, h1, h2⟩ := r vm0 k0 T' locs X' eT' hS hk hC hSf hF hO
  exact ⟨s₂, o, st _ h1, h2⟩
/-- a step that makes cells -/
theorem Go.ofNew {st' : List Value} {dk dj : Nat} {P : Addr → Heap → Prop} (H : Ok Z K own bytes maxL ret nm) (step : ∀ (p : Program) (e : Env) (s : State) (m : MethodId) (args : Array Value) (below : List Frame) (meth : Method) (c : Code) (T : State) (locs : List Loc) (a0 : Array Value), (∀ d ∈ tables_1, d.before a0 Z = true) → Stand p l e R s m args below meth c T locs k j → p.tables.exec = Jvm.exec → c.code = bytes → Z.Warmed39 s.vm → s.vm.findClass own = some m.cls → T.heap = h →
      ∃ T' h', Stand p l e R s m args below meth c T' locs (k + dk) (j + dj) ∧ T'.heap = h' ∧ Ext h h' ∧ P h.size h' ∧ ∀ target, Steps p.tables e below (T'.setTop (mkF m pc' ls (.ref h.size :: st'))) target → Steps p.tables e below (T.setTop (mkF m pc ls st)) target)
    (hnew : ∀ a h', P a h' → a < h'.size)
    (r : ∀ (a : Addr) (h' : Heap), a = h.size → n0 ≤ a → Ext h h' → P a h' → Go l Z n0 R K Q h' (a :: sf) (k + dk) (j + dj) pc' ls (.ref a :: st')) : Go l Z n0 R K Q h sf k j pc ls st := by
  obtain ⟨p, e, s, m, args, below, meth, c⟩ := K
  intro vm0 k0 T locs X eT hS hk hC hSf hF hO
  obtain ⟨H1, H2, H3, H4, H5, H6, H7, H8, a0, hw, hEL, hat⟩ := H
  obtain ⟨T', h', X', eT', E, hP, st⟩ := step p e (s.setVm vm0) m args below meth c T locs a0 hw X H1 H2 (State.Warmed39.trans H6 hS.1) ((hS.1.alike.findClass _ _).trans H5) eT
  obtain ⟨s₂, o, h1, h2⟩ := r h.size h' rfl (hO.1 ▸ hO.2.1) E hP vm0 k0 T' locs X' eT' hS (Nat.le_trans hk E.1) (hC.trans (CHr.ext E hC.1)) ((hSf.ext E hC.1).cons (hnew _ _ hP) (Safe.ext E hC.1 (Safe.new (Nat.le_refl _)))) hF (hO.ext E)
  exact ⟨s₂, o, st _ h1, h2⟩
/-- a step that writes one slot of a cell that is new since n0 -/
theorem Go.ofWr {st' : List Value} {a : Addr} {sl : Nat} {v : Value} (H : Ok Z K own bytes maxL ret nm) (ha : n0 ≤ a) (hs : a ∈ sf) (step : ∀ (p : Program) (e : Env) (s : State) (m : MethodId) (args : Array Value) (below : List Frame) (meth : Method) (c : Code) (T : State) (locs : List Loc) (a0 : Array Value), (∀ d ∈ tables_1, d.before a0 Z = true) → Stand p l e R s m args below meth c T locs k j → p.tables.exec = Jvm.exec → c.code = bytes → Z.Warmed39 s.vm → s.vm.findClass own = some m.cls → meth.name = nm → T.heap = h →
      ∃ T' h', Stand p l e R s m args below meth c T' (locs ++ [⟨a, sl⟩]) k j ∧ T'.heap = h' ∧ Wr h h' a sl v ∧ ∀ target, Steps p.tables e below (T'.setTop (mkF m pc' ls st')) target → Steps p.tables e below (T.setTop (mkF m pc ls st)) target)
    (r : ∀ (h' : Heap), Wr h h' a sl v → Go l Z n0 R K Q h' sf k j pc' ls st') : Go l Z n0 R K Q h sf k j pc ls st := by
  obtain ⟨p, e, s, m, args, below, meth, c⟩ := K
  intro vm0 k0 T locs X eT hS hk hC hSf hF hO
  obtain ⟨H1, H2, H3, H4, H5, H6, H7, H8, a0, hw, hEL, hat⟩ := H
  obtain ⟨T', h', X', eT', W, st⟩ := step p e (s.setVm vm0) m args below meth c T locs a0 hw X H1 H2 (State.Warmed39.trans H6 hS.1) ((hS.1.alike.findClass _ _).trans H5) H7 eT
  have hsz := W.size
  obtain ⟨s₂, o, h1, h2⟩ := r h' W vm0 k0 T' _ X' eT' hS (by rw [hsz]; exact hk) (hC.trans (CHr.wr W (hSf a hs).2 hC.1)) (fun x q => ⟨by rw [hsz]; exact (hSf x q).1, Safe.wr W (hSf a hs).2 hC.1 (hSf x q).2⟩) (Fr.snoc X' hF ha) (hO.wr W ha)
  exact ⟨s₂, o, st _ h1, h2⟩
/-- a step that may write any slots of one cell that is new since n0 -/
theorem Go.ofKeep {st' : List Value} {b : Addr} {P : Heap → Prop} (H : Ok Z K own bytes maxL ret nm) (ha : n0 ≤ b) (hs : b ∈ sf) (step : ∀ (p : Program) (e : Env) (s : State) (m : MethodId) (args : Array Value) (below : List Frame) (meth : Method) (c : Code) (T : State) (locs : List Loc) (a0 : Array Value), (∀ d ∈ tables_1, d.before a0 Z = true) → Stand p l e R s m args below meth c T locs k j → p.tables.exec = Jvm.exec → c.code = bytes → c.maxLocals = maxL → Z.Warmed39 s.vm → s.vm.findClass own = some m.cls → T.heap = h → Fr n0 locs →
      ∃ T' h' L, Stand p l e R s m args below meth c T' L k j ∧ T'.heap = h' ∧ Fr n0 L ∧ Keep h h' [b] ∧ P h' ∧ ∀ target, Steps p.tables e below (T'.setTop (mkF m pc' ls st')) target → Steps p.tables e below (T.setTop (mkF m pc ls st)) target)
    (r : ∀ (h' : Heap), Keep h h' [b] → P h' → Go l Z n0 R K Q h' sf k j pc' ls st') : Go l Z n0 R K Q h sf k j pc ls st := by
  obtain ⟨p, e, s, m, args, below, meth, c⟩ := K
  intro vm0 k0 T locs X eT hS hk hC hSf hF hO
  obtain ⟨H1, H2, H3, H4, H5, H6, H7, H8, a0, hw, hEL, hat⟩ := H
  obtain ⟨T', h', L, X', eT', hL, hK, hP, st⟩ := step p e (s.setVm vm0) m args below meth c T locs a0 hw X H1 H2 H3 (State.Warmed39.trans H6 hS.1) ((hS.1.alike.findClass _ _).trans H5) eT hF
  have hsafe : ∀ x ∈ [b], Safe Z consts_1 vm0 h x := allS (hSf b hs).2 all0
  obtain ⟨s₂, o, h1, h2⟩ := r h' hK hP vm0 k0 T' L X' eT' hS (Nat.le_trans hk hK.1) (hC.trans (CHr.keep hK hsafe hC.1)) (fun x q => ⟨Nat.lt_of_lt_of_le (hSf x q).1 hK.1, Safe.keep hK hsafe hC.1 (hSf x q).2⟩) hL (hO.keep hK (allS ha all0))
  exact ⟨s₂, o, st _ h1, h2⟩
theorem Ctr.backS {p : Program} {e : Env} {s : State} {args : Array Value} {below : List Frame} {vm0 : Vm} {a0 : Array Value} {y : MethodName} {ybytes : ByteArray} {ymaxL : Nat} {yret : Option FieldType} {rm : Room} {as : Array Value} {Qc : Option Value → Heap → List Addr → Prop} {sfc : List Addr} {W : Nat} (ct : Ctr l Z n0 y ybytes ymaxL yret rm as h sfc Qc) (hO : Old Z n0 h)
    (hZ : Z.Warmed39 vm0) (hEL : EW Z a0 consts_1) (hC : CHv Z consts_1 vm0 h) (hSf : Sfs Z vm0 h sfc) (wc : (Jvm.Cond.code y ybytes ymaxL yret).before a0 Z = true) (wz : (Jvm.Cond.initialized y.cls).before a0 Z = true) (hfr : rm.frames + 1 ≤ R.frames) (hlo : W + (ymaxL + 11) + rm.locals ≤ R.locals) :
    BackS l R p e below (s.setVm vm0) args y 3 W (fun A a => a = as ∧ A.U.heap = h ∧ A.cells + rm.cells ≤ R.cells ∧ A.slots + rm.slots ≤ R.slots)
      (fun A _ v B => ∃ L, Fnl Z n0 Qc v B.U L ∧ B.locs = A.locs ++ L ∧ B.cells = A.cells + rm.cells ∧ B.slots = A.slots + rm.slots ∧ CHr Z consts_1 vm0 h B.U.vm B.U.heap) := by
  refine BackS.of_freeW (bytes := ybytes) (maxL := ymaxL) (ret := yret) (E := fun _ U o t L k n => (k = rm.cells ∧ n = rm.slots) ∧ (∃ v, o = .returned v ∧ Fnl Z n0 Qc v t L) ∧ CHr Z consts_1 U.vm U.heap t.vm t.heap) (ct hO []) hfr hlo ?_ ?_ (fun _ _ _ _ _ _ _ _ _ => trivial) ?_ ?_
  · intro m meth c A a Y hp
    have hU : Z.Warmed39 A.U.vm := wtrans (s := s.setVm vm0) hZ Y.warmed
    exact ⟨by show (Jvm.Cond.and _ .tt).before a A.U = true; rw [Cond.before_and, mv hU wc]; rfl, mv hU wc, mv hU wz, hp.2.2.1, hp.2.2.2⟩
  · intro m meth c A a g mk Y hp
    have q := CHv.at Y hZ hEL hC
    exact ⟨hp.1, wtrans (s := s.setVm vm0) hZ Y.warmed, hp.2.1, q.1, hSf.chr q⟩
  · rintro a U o t ⟨v, L, h1, h2, h3, h4⟩
    exact ⟨L, _, _, h4, ⟨rfl, rfl⟩, ⟨v, h1, h2⟩, h3⟩
  · rintro m meth c A a g mk v t L k n Y hp - - ⟨⟨rfl, rfl⟩, ⟨v', e3, e4⟩, e5⟩
    cases e3
    refine ⟨L, e4, rfl, rfl, rfl, (CHv.at Y hZ hEL hC).trans ?_⟩
    rw [← hp.2.1]; exact e5
/-- a call, by whatever law of calls -/
theorem Go.ofCall {y : MethodName} {ybytes : ByteArray} {ymaxL : Nat} {yret : Option FieldType} {rm : Room} {as : Array Value} {Qc : Option Value → Heap → List Addr → Prop} {sfc : List Addr} {rest : List Value} {W : Nat} (H : Ok Z K own bytes maxL ret nm) (ct : Ctr l Z n0 y ybytes ymaxL yret rm as h sfc Qc) (hsf : ∀ x ∈ sfc, x ∈ sf)
    (hc : Jvm.Cond.code y ybytes ymaxL yret ∈ tables_1) (hi : Jvm.Cond.initialized y.cls ∈ tables_1) (hfr : rm.frames + 1 ≤ R.frames) (hlo : W + (ymaxL + 11) + rm.locals ≤ R.locals) (hce : k + rm.cells ≤ R.cells) (hsl : j + rm.slots ≤ R.slots)
    (law : ∀ (p : Program) (e : Env) (s : State) (m : MethodId) (args : Array Value) (below : List Frame) (meth : Method) (c : Code) (T : State) (locs : List Loc) (a0 : Array Value), (∀ d ∈ tables_1, d.before a0 Z = true) → Stand p l e R s m args below meth c T locs k j → p.tables.exec = Jvm.exec → c.code = bytes → c.maxLocals = maxL → Z.Warmed39 s.vm → s.vm.findClass own = some m.cls → T.heap = h →
      ∀ (Pre : Pt → Array Value → Prop) (Post : Pt → Array Value → Option Value → Pt → Prop), BackS l R p e below s args y 3 W Pre Post → (∀ vm₁, s.WarmedH vm₁ → Pre ⟨T.setVm vm₁, locs, k, j⟩ as) →
      ∃ (v : Option Value) (vm₁ : Vm) (B : Pt), Stand p l e R (s.setVm B.U.vm) m args below meth c B.U B.locs B.cells B.slots ∧ s.Since B.U.vm B.U.heap.size ∧ T.heap.size ≤ B.U.heap.size ∧ Post ⟨T.setVm vm₁, locs, k, j⟩ as v B ∧ ∀ target, Steps p.tables e below (B.U.setTop (mkF m pc' ls (v.toList ++ rest))) target → Steps p.tables e below (T.setTop (mkF m pc ls st)) target)
    (r : ∀ (v : Option Value) (h' : Heap) (sn : List Addr), Qc v h' sn → Go l Z n0 R K Q h' (sn ++ sf) (k + rm.cells) (j + rm.slots) pc' ls (v.toList ++ rest)) : Go l Z n0 R K Q h sf k j pc ls st := by
  obtain ⟨p, e, s, m, args, below, meth, c⟩ := K
  intro vm0 k0 T locs X eT hS hk hC hSf hF hO
  obtain ⟨H1, H2, H3, H4, H5, H6, H7, H8, a0, hw, hEL, hat⟩ := H
  have hZ0 : Z.Warmed39 (s.setVm vm0).vm := State.Warmed39.trans H6 hS.1
  have hown0 : (s.setVm vm0).vm.findClass own = some m.cls := (hS.1.alike.findClass _ _).trans H5
  have hB := Ctr.backS (p := p) (e := e) (s := s) (args := args) (below := below) (R := R) (W := W) (vm0 := vm0) ct hO hZ0 hEL hC.1 (fun x q => hSf x (hsf x q)) (hw _ hc) (hw _ hi) hfr hlo
  obtain ⟨v, vm₁, B, X', hS2, hgr, ⟨L, ⟨⟨sn, hq, hsn⟩, hFL, hO'⟩, e1, e2, e3, e4⟩, stp⟩ := law p e (s.setVm vm0) m args below meth c T locs a0 hw X H1 H2 H3 hZ0 hown0 eT _ _ hB (fun vm₁ _ => ⟨rfl, eT, hce, hsl⟩)
  obtain ⟨U, Lc, kc, jc⟩ := B
  dsimp only [Pt.U, Pt.locs, Pt.cells, Pt.slots] at X' hS2 hgr hq hsn hO' e1 e2 e3 e4 stp
  subst e1 e2 e3
  rw [eT] at hgr
  obtain ⟨X2, hS3, -, -⟩ := rebS hS hk X' hS2 hgr hZ0 hown0
  obtain ⟨s₂, o, h1, h2⟩ := r v _ sn hq U.vm _ U _ X2 rfl hS3 (Nat.le_refl _) (hC.trans e4) (hsn.app (hSf.chr e4)) (hF.app hFL) hO'
  exact ⟨s₂, o, stp _ h1, h2⟩
theorem Go.callS {y : MethodName} {ybytes : ByteArray} {ymaxL : Nat} {yret : Option FieldType} {rm : Room} {Qc : Option Value → Heap → List Addr → Prop} {sfc : List Addr} {rest : List Value} (W : Nat) {idx : Nat} (argsL : List Value) {ps : List FieldType} {rt : Option FieldType} (H : Ok Z K own bytes maxL ret nm) (d : decode bytes pc = .ok (.invokestatic idx, 3)) (hp : pc + 3 = pc')
    (hl : Jvm.Cond.methodLink own idx y ∈ tables_1) (hst : Jvm.Cond.static y ∈ tables_1) (hi : Jvm.Cond.initialized y.cls ∈ tables_1) (hc : Jvm.Cond.code y ybytes ymaxL yret ∈ tables_1) (hpd : parseMethodDescriptor y.desc = some ⟨ps, rt⟩)
    (ct : Ctr l Z n0 y ybytes ymaxL yret rm argsL.toArray h sfc Qc) (hsf : ∀ x ∈ sfc, x ∈ sf) (hlen : argsL.length = ps.length) (hsz : ls.size = maxL) (hstk : st = argsL.reverse ++ rest) (hW : (rest.map fun v => v.category).sum ≤ W)
    (hfr : rm.frames + 1 ≤ R.frames) (hlo : W + (ymaxL + 11) + rm.locals ≤ R.locals) (hce : k + rm.cells ≤ R.cells) (hsl : j + rm.slots ≤ R.slots) (hy : y.cls ≠ "java/lang/invoke/MethodHandle" ∧ y.cls ≠ "java/lang/invoke/VarHandle")
    (r : ∀ (v : Option Value) (h' : Heap) (sn : List Addr), Qc v h' sn → Go l Z n0 R K Q h' (sn ++ sf) (k + rm.cells) (j + rm.slots) pc' ls (v.toList ++ rest)) : Go l Z n0 R K Q h sf k j pc ls st := by
  subst hp
  refine Go.ofCall (W := W) (rest := rest) H ct hsf hc hi hfr hlo hce hsl ?_ r
  intro p e s m args below meth c T locs a0 hw X hx hby hml hZ hown eT Pre Post hB hpre
  obtain ⟨v, vm₁, B, -, X', hS2, hgr, hpost, stp⟩ := Jvm.RoadKit.callSS X hx (y := y) hown (mvT hZ (hw _ hl)) (mvT hZ (hw _ hst)) (mvT hZ (hw _ hi)) (mvT hZ (hw _ hc)) hy hB (g := mkF m pc ls st) rfl (by rw [hml]; exact hsz) (argsL := argsL) (rest := rest) (lenOf hpd hlen) hstk (by show 2 * 0 + _ ≤ _; simpa using hW) (hb hby d) hpre
  exact ⟨v, vm₁, B, X', hS2, hgr, hpost, fun t ht => stp.trans ht⟩
theorem Go.callI {y : MethodName} {ybytes : ByteArray} {ymaxL : Nat} {rm : Room} {Qc : Option Value → Heap → List Addr → Prop} {sfc : List Addr} {rest : List Value} (W : Nat) {idx : Nat} {a : Addr} (argsL : List Value) {ps : List FieldType} {rt : Option FieldType} (H : Ok Z K own bytes maxL ret nm) (d : decode bytes pc = .ok (.invokespecial idx, 3)) (hp : pc + 3 = pc') (hy1 : y.name = "<init>")
    (hl : Jvm.Cond.methodLink own idx y ∈ tables_1) (hst : Jvm.Cond.instanceMethod y ∈ tables_1) (hi : Jvm.Cond.initialized y.cls ∈ tables_1) (hc : Jvm.Cond.code y ybytes ymaxL none ∈ tables_1) (hpd : parseMethodDescriptor y.desc = some ⟨ps, rt⟩)
    (ct : Ctr l Z n0 y ybytes ymaxL none rm (.ref a :: argsL).toArray h sfc Qc) (hsf : ∀ x ∈ sfc, x ∈ sf) (hlen : argsL.length = ps.length) (hsz : ls.size = maxL) (hstk : st = argsL.reverse ++ .ref a :: rest) (hW : (rest.map fun v => v.category).sum ≤ W)
    (hfr : rm.frames + 1 ≤ R.frames) (hlo : W + (ymaxL + 11) + rm.locals ≤ R.locals) (hce : k + rm.cells ≤ R.cells) (hsl : j + rm.slots ≤ R.slots) (hy : y.cls ≠ "java/lang/invoke/MethodHandle" ∧ y.cls ≠ "java/lang/invoke/VarHandle")
    (r : ∀ (v : Option Value) (h' : Heap) (sn : List Addr), Qc v h' sn → Go l Z n0 R K Q h' (sn ++ sf) (k + rm.cells) (j + rm.slots) pc' ls (v.toList ++ rest)) : Go l Z n0 R K Q h sf k j pc ls st := by
  subst hp
  refine Go.ofCall (W := W) (rest := rest) H ct hsf hc hi hfr hlo hce hsl ?_ r
  intro p e s m args below meth c T locs a0 hw X hx hby hml hZ hown eT Pre Post hB hpre
  obtain ⟨v, vm₁, B, -, X', hS2, hgr, hpost, stp⟩ := X.specialBackS hx (y := y) hy1 hown (mvT hZ (hw _ hl)) (mvT hZ (hw _ hst)) (mvT hZ (hw _ hc)) hy hB (g := mkF m pc ls st) rfl (by rw [hml]; exact hsz) (Steps.refl _) (a := a) (argsL := argsL) (rest := rest) (lenOf hpd hlen) hstk (by show 2 * 0 + _ ≤ _; simpa using hW) (hb hby d) hpre
  exact ⟨v, vm₁, B, X', hS2, hgr, hpost, fun t ht => stp.trans ht⟩
theorem Go.callV {y : MethodName} {C : String} {ybytes : ByteArray} {ymaxL : Nat} {yret : Option FieldType} {rm : Room} {Qc : Option Value → Heap → List Addr → Prop} {sfc : List Addr} {rest : List Value} (W : Nat) {idx : Nat} {a : Addr} (argsL : List Value) {ps : List FieldType} {rt : Option FieldType} (H : Ok Z K own bytes maxL ret nm) (d : decode bytes pc = .ok (.invokevirtual idx, 3)) (hp : pc + 3 = pc') (E : Exa Z h a C)
    (hl : Jvm.Cond.methodLink own idx y ∈ tables_1) (hde : Jvm.Cond.declares y ∈ tables_1) (hse : Jvm.Cond.selects C y y ∈ tables_1) (hst : Jvm.Cond.instanceMethod y ∈ tables_1) (hi : Jvm.Cond.initialized y.cls ∈ tables_1) (hc : Jvm.Cond.code y ybytes ymaxL yret ∈ tables_1) (hpd : parseMethodDescriptor y.desc = some ⟨ps, rt⟩)
    (ct : Ctr l Z n0 y ybytes ymaxL yret rm (.ref a :: argsL).toArray h sfc Qc) (hsf : ∀ x ∈ sfc, x ∈ sf) (hlen : argsL.length = ps.length) (hsz : ls.size = maxL) (hstk : st = argsL.reverse ++ .ref a :: rest) (hW : (rest.map fun v => v.category).sum ≤ W)
    (hfr : rm.frames + 1 ≤ R.frames) (hlo : W + (ymaxL + 11) + rm.locals ≤ R.locals) (hce : k + rm.cells ≤ R.cells) (hsl : j + rm.slots ≤ R.slots) (hy : y.cls ≠ "java/lang/invoke/MethodHandle" ∧ y.cls ≠ "java/lang/invoke/VarHandle")
    (r : ∀ (v : Option Value) (h' : Heap) (sn : List Addr), Qc v h' sn → Go l Z n0 R K Q h' (sn ++ sf) (k + rm.cells) (j + rm.slots) pc' ls (v.toList ++ rest)) : Go l Z n0 R K Q h sf k j pc ls st := by
  subst hp
  refine Go.ofCall (W := W) (rest := rest) H ct hsf hc hi hfr hlo hce hsl ?_ r
  intro p e s m args below meth c T locs a0 hw X hx hby hml hZ hown eT Pre Post hB hpre
  obtain ⟨cq, kq, qa, qb, qc⟩ := isOf hZ eT E
  obtain ⟨v, vm₁, B, -, X', hS2, hgr, hpost, stp⟩ := X.virtualBackS hx (y := y) (z := y) hown (mvT hZ (hw _ hl)) (mvT hZ (hw _ hde)) (notFace_of_selects (args := #[]) (mvT hZ (hw _ hse))) (mvT hZ (hw _ hse)) (mvT hZ (hw _ hst)) hy hB qa qc (g := mkF m pc ls st) rfl (by rw [hml]; exact hsz) (Steps.refl _) (argsL := argsL) (rest := rest) (lenOf hpd hlen) hstk (by show 2 * 0 + _ ≤ _; simpa using hW) (hb hby d) hpre
  exact ⟨v, vm₁, B, X', hS2, hgr, hpost, fun t ht => stp.trans ht⟩
theorem Go.ret0 {sn : List Addr} {v : Option Value} (H : Ok Z K own bytes maxL ret nm) (hv : ret = none → v = none) (hq : Q v h sn) (hs : ∀ x ∈ sn, x ∈ sf) (hk : k ≤ R.cells) (hj : j ≤ R.slots)
    (step : ∀ (p : Program) (e : Env) (s : State) (m : MethodId) (args : Array Value) (below : List Frame) (meth : Method) (c : Code) (T : State) (locs : List Loc) (fs : List Frame), Stand p l e R s m args below meth c T locs k j → p.tables.exec = Jvm.exec → c.code = bytes → meth.sig.returnType = ret →
      (∀ (f : JFrame) (acts : List Action), f.method = m → f.locked = none → f.entered = [] → (doReturn e (T.setTop f) acts v).1 = T.setFrames fs) → Steps p.tables e below (T.setTop (mkF m pc ls st)) (T.setFrames fs)) : Go l Z n0 R K Q h sf k j pc ls st := by
  obtain ⟨p, e, s, m, args, below, meth, c⟩ := K
  intro vm0 k0 T locs X eT hS hk0 hC hSf hF hO
  obtain ⟨H1, H2, H3, H4, H5, H6, H7, H8, a0, hw, hEL, hat⟩ := H
  have hZ0 : Z.Warmed39 vm0 := State.Warmed39.trans H6 hS.1
  obtain ⟨fs, hr, hrun, hended, g1, g2, g3, g4⟩ := X.leaveW hS (by rw [eT]; exact hk0) (v := v) (fun q => hv (H4.symm.trans q)) H8
  have q := CHv.at X hZ0 hEL hC.1
  have hCe : CHr Z consts_1 s.vm s.heap T.vm T.heap := by rw [eT]; exact hC.trans q
  refine ⟨_, _, step p e (s.setVm vm0) m args below meth c T locs fs X H1 H2 H4 hr, hrun, hended, v, locs, rfl, ⟨⟨sn, ?_, ?_⟩, hF, ?_⟩, hCe, ⟨g1, g2, g3, g4.mono hk hj⟩⟩
  · show Q v T.heap sn
    rw [eT]; exact hq
  · show Sfs Z T.vm T.heap sn
    rw [eT]; exact Sfs.chr q (fun x hx => hSf x (hs x hx))
  · show Old Z n0 T.heap
    rw [eT]; exact hO
end Kit
section Steps1
variable {l : Launch} {Z : State} {n0 : Nat} {R : Room} {K : Cx} {Q : Option Value → Heap → List Addr → Prop} {h : Heap} {sf : List Addr} {k j pc pc' : Nat} {ls ls' : Array Slot} {st : List Value} {own : String} {bytes : ByteArray} {maxL : Nat} {ret : Option FieldType} {nm : String}
theorem Go.aload {i : Nat} {v : Value} (H : Ok Z K own bytes maxL ret nm) (d : decode bytes pc = .ok (.aload i, 2)) (hp : pc + 2 = pc') (hl : ls[i]? = some (.val v)) (hv : v.isRef = true) (r : Go l Z n0 R K Q h sf k j pc' ls (v :: st)) : Go l Z n0 R K Q h sf k j pc ls st := by
  subst hp
  exact Go.of H (fun p e below T t m c hA hx hby hr => XS.aload hA hx rfl (hb hby d) hl hv hr) r
theorem Go.aloadN {i : Fin 4} {v : Value} (H : Ok Z K own bytes maxL ret nm) (d : decode bytes pc = .ok (.aload_n i, 1)) (hp : pc + 1 = pc') (hl : ls[i.val]? = some (.val v)) (hv : v.isRef = true) (r : Go l Z n0 R K Q h sf k j pc' ls (v :: st)) : Go l Z n0 R K Q h sf k j pc ls st := by
  subst hp
  exact Go.of H (fun p e below T t m c hA hx hby hr => XS.aloadN hA hx rfl (hb hby d) hl hv hr) r
theorem Go.iload {i : Nat} {v : Int32} (H : Ok Z K own bytes maxL ret nm) (d : decode bytes pc = .ok (.iload i, 2)) (hp : pc + 2 = pc') (hl : ls[i]? = some (.val (.int v))) (r : Go l Z n0 R K Q h sf k j pc' ls (.int v :: st)) : Go l Z n0 R K Q h sf k j pc ls st := by
  subst hp
  exact Go.of H (fun p e below T t m c hA hx hby hr => XS.iload hA hx rfl (hb hby d) hl hr) r
theorem Go.iloadN {i : Fin 4} {v : Int32} (H : Ok Z K own bytes maxL ret nm) (d : decode bytes pc = .ok (.iload_n i, 1)) (hp : pc + 1 = pc') (hl : ls[i.val]? = some (.val (.int v))) (r : Go l Z n0 R K Q h sf k j pc' ls (.int v :: st)) : Go l Z n0 R K Q h sf k j pc ls st := by
  subst hp
  exact Go.of H (fun p e below T t m c hA hx hby hr => XS.iloadN hA hx rfl (hb hby d) hl hr) r
theorem Go.lload {i : Nat} {v : Int64} (H : Ok Z K own bytes maxL ret nm) (d : decode bytes pc = .ok (.lload i, 2)) (hp : pc + 2 = pc') (hl : ls[i]? = some (.val (.long v))) (r : Go l Z n0 R K Q h sf k j pc' ls (.long v :: st)) : Go l Z n0 R K Q h sf k j pc ls st := by
  subst hp
  exact Go.of H (fun p e below T t m c hA hx hby hr => XS.lload hA hx rfl (hb hby d) hl hr) r
theorem Go.lloadN {i : Fin 4} {v : Int64} (H : Ok Z K own bytes maxL ret nm) (d : decode bytes pc = .ok (.lload_n i, 1)) (hp : pc + 1 = pc') (hl : ls[i.val]? = some (.val (.long v))) (r : Go l Z n0 R K Q h sf k j pc' ls (.long v :: st)) : Go l Z n0 R K Q h sf k j pc ls st := by
  subst hp
  exact Go.of H (fun p e below T t m c hA hx hby hr => XS.lloadN hA hx rfl (hb hby d) hl hr) r
theorem Go.istore {i : Nat} {x : Int32} (H : Ok Z K own bytes maxL ret nm) (d : decode bytes pc = .ok (.istore i, 2)) (hp : pc + 2 = pc') (hl : storeLocals ls i (.int x) = some ls') (r : Go l Z n0 R K Q h sf k j pc' ls' st) : Go l Z n0 R K Q h sf k j pc ls (.int x :: st) := by
  subst hp
  exact Go.of H (fun p e below T t m c hA hx hby hr => XS.istore hA hx rfl (hb hby d) rfl hl hr) r
theorem Go.istoreN {i : Fin 4} {x : Int32} (H : Ok Z K own bytes maxL ret nm) (d : decode bytes pc = .ok (.istore_n i, 1)) (hp : pc + 1 = pc') (hl : storeLocals ls i.val (.int x) = some ls') (r : Go l Z n0 R K Q h sf k j pc' ls' st) : Go l Z n0 R K Q h sf k j pc ls (.int x :: st) := by
  subst hp
  exact Go.of H (fun p e below T t m c hA hx hby hr => XS.istoreN hA hx rfl (hb hby d) rfl hl hr) r
theorem Go.lstore {i : Nat} {x : Int64} (H : Ok Z K own bytes maxL ret nm) (d : decode bytes pc = .ok (.lstore i, 2)) (hp : pc + 2 = pc') (hl : storeLocals ls i (.long x) = some ls') (r : Go l Z n0 R K Q h sf k j pc' ls' st) : Go l Z n0 R K Q h sf k j pc ls (.long x :: st) := by
  subst hp
  exact Go.of H (fun p e below T t m c hA hx hby hr => XS.lstore hA hx rfl (hb hby d) rfl hl hr) r
theorem Go.lstoreN {i : Fin 4} {x : Int64} (H : Ok Z K own bytes maxL ret nm) (d : decode bytes pc = .ok (.lstore_n i, 1)) (hp : pc + 1 = pc') (hl : storeLocals ls i.val (.long x) = some ls') (r : Go l Z n0 R K Q h sf k j pc' ls' st) : Go l Z n0 R K Q h sf k j pc ls (.long x :: st) := by
  subst hp
  exact Go.of H (fun p e below T t m c hA hx hby hr => XS.lstoreN hA hx rfl (hb hby d) rfl hl hr) r
theorem Go.astore {i : Nat} {x : Value} (H : Ok Z K own bytes maxL ret nm) (d : decode bytes pc = .ok (.astore i, 2)) (hp : pc + 2 = pc') (hv : x.isRef = true) (hl : storeLocals ls i x = some ls') (r : Go l Z n0 R K Q h sf k j pc' ls' st) : Go l Z n0 R K Q h sf k j pc ls (x :: st) := by
  subst hp
  exact Go.of H (fun p e below T t m c hA hx hby hr => XS.astore hA hx rfl (hb hby d) rfl hv hl hr) r
theorem Go.astoreN {i : Fin 4} {x : Value} (H : Ok Z K own bytes maxL ret nm) (d : decode bytes pc = .ok (.astore_n i, 1)) (hp : pc + 1 = pc') (hv : x.isRef = true) (hl : storeLocals ls i.val x = some ls') (r : Go l Z n0 R K Q h sf k j pc' ls' st) : Go l Z n0 R K Q h sf k j pc ls (x :: st) := by
  subst hp
  exact Go.of H (fun p e below T t m c hA hx hby hr => XS.astoreN hA hx rfl (hb hby d) rfl hv hl hr) r
theorem Go.iconst {i : Int} (v : Int32) (H : Ok Z K own bytes maxL ret nm) (d : decode bytes pc = .ok (.iconst i, 1)) (hp : pc + 1 = pc') (hv : Int32.ofInt i = v) (r : Go l Z n0 R K Q h sf k j pc' ls (.int v :: st)) : Go l Z n0 R K Q h sf k j pc ls st := by
  subst hp
  exact Go.of H (fun p e below T t m c hA hx hby hr => XS.iconst hA hx rfl (hb hby d) (hv ▸ hr)) r
theorem Go.bipush {i : Int} (v : Int32) (H : Ok Z K own bytes maxL ret nm) (d : decode bytes pc = .ok (.bipush i, 2)) (hp : pc + 2 = pc') (hv : (Int8.ofInt i).toInt32 = v) (r : Go l Z n0 R K Q h sf k j pc' ls (.int v :: st)) : Go l Z n0 R K Q h sf k j pc ls st := by
  subst hp
  exact Go.of H (fun p e below T t m c hA hx hby hr => XS.bipush hA hx rfl (hb hby d) (hv ▸ hr)) r
theorem Go.sipush {i : Int} (v : Int32) (H : Ok Z K own bytes maxL ret nm) (d : decode bytes pc = .ok (.sipush i, 3)) (hp : pc + 3 = pc') (hv : (Int16.ofInt i).toInt32 = v) (r : Go l Z n0 R K Q h sf k j pc' ls (.int v :: st)) : Go l Z n0 R K Q h sf k j pc ls st := by
  subst hp
  exact Go.of H (fun p e below T t m c hA hx hby hr => XS.sipush hA hx rfl (hb hby d) (hv ▸ hr)) r
theorem Go.lconst {i : Fin 2} (v : Int64) (H : Ok Z K own bytes maxL ret nm) (d : decode bytes pc = .ok (.lconst i, 1)) (hp : pc + 1 = pc') (hv : Int64.ofNat i.val = v) (r : Go l Z n0 R K Q h sf k j pc' ls (.long v :: st)) : Go l Z n0 R K Q h sf k j pc ls st := by
  subst hp
  exact Go.of H (fun p e below T t m c hA hx hby hr => XS.lconst hA hx rfl (hb hby d) (hv ▸ hr)) r
theorem Go.aconstNull  (H : Ok Z K own bytes maxL ret nm) (d : decode bytes pc = .ok (.aconst_null, 1)) (hp : pc + 1 = pc')  (r : Go l Z n0 R K Q h sf k j pc' ls (.null :: st)) : Go l Z n0 R K Q h sf k j pc ls st := by
  subst hp
  exact Go.of H (fun p e below T t m c hA hx hby hr => XS.aconstNull hA hx rfl (hb hby d) hr) r
theorem Go.iadd {x y : Int32} (H : Ok Z K own bytes maxL ret nm) (d : decode bytes pc = .ok (.iadd, 1)) (hp : pc + 1 = pc')  (r : Go l Z n0 R K Q h sf k j pc' ls (.int (x + y) :: st)) : Go l Z n0 R K Q h sf k j pc ls (.int y :: .int x :: st) := by
  subst hp
  exact Go.of H (fun p e below T t m c hA hx hby hr => XS.iadd hA hx rfl (hb hby d) rfl hr) r
theorem Go.isub {x y : Int32} (H : Ok Z K own bytes maxL ret nm) (d : decode bytes pc = .ok (.isub, 1)) (hp : pc + 1 = pc')  (r : Go l Z n0 R K Q h sf k j pc' ls (.int (x - y) :: st)) : Go l Z n0 R K Q h sf k j pc ls (.int y :: .int x :: st) := by
  subst hp
  exact Go.of H (fun p e below T t m c hA hx hby hr => XS.isub hA hx rfl (hb hby d) rfl hr) r
theorem Go.imul {x y : Int32} (H : Ok Z K own bytes maxL ret nm) (d : decode bytes pc = .ok (.imul, 1)) (hp : pc + 1 = pc')  (r : Go l Z n0 R K Q h sf k j pc' ls (.int (x * y) :: st)) : Go l Z n0 R K Q h sf k j pc ls (.int y :: .int x :: st) := by
  subst hp
  exact Go.of H (fun p e below T t m c hA hx hby hr => XS.imul hA hx rfl (hb hby d) rfl hr) r
theorem Go.iand {x y : Int32} (H : Ok Z K own bytes maxL ret nm) (d : decode bytes pc = .ok (.iand, 1)) (hp : pc + 1 = pc')  (r : Go l Z n0 R K Q h sf k j pc' ls (.int (x &&& y) :: st)) : Go l Z n0 R K Q h sf k j pc ls (.int y :: .int x :: st) := by
  subst hp
  exact Go.of H (fun p e below T t m c hA hx hby hr => XS.iand hA hx rfl (hb hby d) rfl hr) r
theorem Go.ior {x y : Int32} (H : Ok Z K own bytes maxL ret nm) (d : decode bytes pc = .ok (.ior, 1)) (hp : pc + 1 = pc')  (r : Go l Z n0 R K Q h sf k j pc' ls (.int (x ||| y) :: st)) : Go l Z n0 R K Q h sf k j pc ls (.int y :: .int x :: st) := by
  subst hp
  exact Go.of H (fun p e below T t m c hA hx hby hr => XS.ior hA hx rfl (hb hby d) rfl hr) r
theorem Go.ixor {x y : Int32} (H : Ok Z K own bytes maxL ret nm) (d : decode bytes pc = .ok (.ixor, 1)) (hp : pc + 1 = pc')  (r : Go l Z n0 R K Q h sf k j pc' ls (.int (x ^^^ y) :: st)) : Go l Z n0 R K Q h sf k j pc ls (.int y :: .int x :: st) := by
  subst hp
  exact Go.of H (fun p e below T t m c hA hx hby hr => XS.ixor hA hx rfl (hb hby d) rfl hr) r
theorem Go.ladd {x y : Int64} (H : Ok Z K own bytes maxL ret nm) (d : decode bytes pc = .ok (.ladd, 1)) (hp : pc + 1 = pc')  (r : Go l Z n0 R K Q h sf k j pc' ls (.long (x + y) :: st)) : Go l Z n0 R K Q h sf k j pc ls (.long y :: .long x :: st) := by
  subst hp
  exact Go.of H (fun p e below T t m c hA hx hby hr => XS.ladd hA hx rfl (hb hby d) rfl hr) r
theorem Go.lsub {x y : Int64} (H : Ok Z K own bytes maxL ret nm) (d : decode bytes pc = .ok (.lsub, 1)) (hp : pc + 1 = pc')  (r : Go l Z n0 R K Q h sf k j pc' ls (.long (x - y) :: st)) : Go l Z n0 R K Q h sf k j pc ls (.long y :: .long x :: st) := by
  subst hp
  exact Go.of H (fun p e below T t m c hA hx hby hr => XS.lsub hA hx rfl (hb hby d) rfl hr) r
theorem Go.lmul {x y : Int64} (H : Ok Z K own bytes maxL ret nm) (d : decode bytes pc = .ok (.lmul, 1)) (hp : pc + 1 = pc')  (r : Go l Z n0 R K Q h sf k j pc' ls (.long (x * y) :: st)) : Go l Z n0 R K Q h sf k j pc ls (.long y :: .long x :: st) := by
  subst hp
  exact Go.of H (fun p e below T t m c hA hx hby hr => XS.lmul hA hx rfl (hb hby d) rfl hr) r
theorem Go.land {x y : Int64} (H : Ok Z K own bytes maxL ret nm) (d : decode bytes pc = .ok (.land, 1)) (hp : pc + 1 = pc')  (r : Go l Z n0 R K Q h sf k j pc' ls (.long (x &&& y) :: st)) : Go l Z n0 R K Q h sf k j pc ls (.long y :: .long x :: st) := by
  subst hp
  exact Go.of H (fun p e below T t m c hA hx hby hr => XS.land hA hx rfl (hb hby d) rfl hr) r
theorem Go.lor {x y : Int64} (H : Ok Z K own bytes maxL ret nm) (d : decode bytes pc = .ok (.lor, 1)) (hp : pc + 1 = pc')  (r : Go l Z n0 R K Q h sf k j pc' ls (.long (x ||| y) :: st)) : Go l Z n0 R K Q h sf k j pc ls (.long y :: .long x :: st) := by
  subst hp
  exact Go.of H (fun p e below T t m c hA hx hby hr => XS.lor hA hx rfl (hb hby d) rfl hr) r
theorem Go.lxor {x y : Int64} (H : Ok Z K own bytes maxL ret nm) (d : decode bytes pc = .ok (.lxor, 1)) (hp : pc + 1 = pc')  (r : Go l Z n0 R K Q h sf k j pc' ls (.long (x ^^^ y) :: st)) : Go l Z n0 R K Q h sf k j pc ls (.long y :: .long x :: st) := by
  subst hp
  exact Go.of H (fun p e below T t m c hA hx hby hr => XS.lxor hA hx rfl (hb hby d) rfl hr) r
theorem Go.ishl {x y : Int32} (H : Ok Z K own bytes maxL ret nm) (d : decode bytes pc = .ok (.ishl, 1)) (hp : pc + 1 = pc')  (r : Go l Z n0 R K Q h sf k j pc' ls (.int (x <<< (y &&& 31)) :: st)) : Go l Z n0 R K Q h sf k j pc ls (.int y :: .int x :: st) := by
  subst hp
  exact Go.of H (fun p e below T t m c hA hx hby hr => XS.ishl hA hx rfl (hb hby d) rfl hr) r
theorem Go.ishr {x y : Int32} (H : Ok Z K own bytes maxL ret nm) (d : decode bytes pc = .ok (.ishr, 1)) (hp : pc + 1 = pc')  (r : Go l Z n0 R K Q h sf k j pc' ls (.int (x >>> (y &&& 31)) :: st)) : Go l Z n0 R K Q h sf k j pc ls (.int y :: .int x :: st) := by
  subst hp
  exact Go.of H (fun p e below T t m c hA hx hby hr => XS.ishr hA hx rfl (hb hby d) rfl hr) r
theorem Go.iushr {x y : Int32} (H : Ok Z K own bytes maxL ret nm) (d : decode bytes pc = .ok (.iushr, 1)) (hp : pc + 1 = pc')  (r : Go l Z n0 R K Q h sf k j pc' ls (.int ((x.toUInt32 >>> (y &&& 31).toUInt32).toInt32) :: st)) : Go l Z n0 R K Q h sf k j pc ls (.int y :: .int x :: st) := by
  subst hp
  exact Go.of H (fun p e below T t m c hA hx hby hr => XS.iushr hA hx rfl (hb hby d) rfl hr) r
theorem Go.lshl {x : Int64} {y : Int32} (H : Ok Z K own bytes maxL ret nm) (d : decode bytes pc = .ok (.lshl, 1)) (hp : pc + 1 = pc')  (r : Go l Z n0 R K Q h sf k j pc' ls (.long (x <<< (y &&& 0x3f).toInt64) :: st)) : Go l Z n0 R K Q h sf k j pc ls (.int y :: .long x :: st) := by
  subst hp
  exact Go.of H (fun p e below T t m c hA hx hby hr => XS.lshl hA hx rfl (hb hby d) rfl hr) r
theorem Go.lshr {x : Int64} {y : Int32} (H : Ok Z K own bytes maxL ret nm) (d : decode bytes pc = .ok (.lshr, 1)) (hp : pc + 1 = pc')  (r : Go l Z n0 R K Q h sf k j pc' ls (.long (x >>> (y &&& 0x3f).toInt64) :: st)) : Go l Z n0 R K Q h sf k j pc ls (.int y :: .long x :: st) := by
  subst hp
  exact Go.of H (fun p e below T t m c hA hx hby hr => XS.lshr hA hx rfl (hb hby d) rfl hr) r
theorem Go.lushr {x : Int64} {y : Int32} (H : Ok Z K own bytes maxL ret nm) (d : decode bytes pc = .ok (.lushr, 1)) (hp : pc + 1 = pc')  (r : Go l Z n0 R K Q h sf k j pc' ls (.long ((x.toUInt64 >>> (y &&& 0x3f).toInt64.toUInt64).toInt64) :: st)) : Go l Z n0 R K Q h sf k j pc ls (.int y :: .long x :: st) := by
  subst hp
  exact Go.of H (fun p e below T t m c hA hx hby hr => XS.lushr hA hx rfl (hb hby d) rfl hr) r
theorem Go.idiv {x y : Int32} (H : Ok Z K own bytes maxL ret nm) (d : decode bytes pc = .ok (.idiv, 1)) (hp : pc + 1 = pc') (hy : y ≠ 0) (r : Go l Z n0 R K Q h sf k j pc' ls (.int (x / y) :: st)) : Go l Z n0 R K Q h sf k j pc ls (.int y :: .int x :: st) := by
  subst hp
  exact Go.of H (fun p e below T t m c hA hx hby hr => XS.idiv hA hx rfl (hb hby d) rfl hy hr) r
theorem Go.irem {x y : Int32} (H : Ok Z K own bytes maxL ret nm) (d : decode bytes pc = .ok (.irem, 1)) (hp : pc + 1 = pc') (hy : y ≠ 0) (r : Go l Z n0 R K Q h sf k j pc' ls (.int (x % y) :: st)) : Go l Z n0 R K Q h sf k j pc ls (.int y :: .int x :: st) := by
  subst hp
  exact Go.of H (fun p e below T t m c hA hx hby hr => XS.irem hA hx rfl (hb hby d) rfl hy (by rw [irem_eq_mod x y]; exact hr)) r
theorem Go.ldiv {x y : Int64} (H : Ok Z K own bytes maxL ret nm) (d : decode bytes pc = .ok (.ldiv, 1)) (hp : pc + 1 = pc') (hy : y ≠ 0) (r : Go l Z n0 R K Q h sf k j pc' ls (.long (x / y) :: st)) : Go l Z n0 R K Q h sf k j pc ls (.long y :: .long x :: st) := by
  subst hp
  exact Go.of H (fun p e below T t m c hA hx hby hr => XS.ldiv hA hx rfl (hb hby d) rfl hy hr) r
theorem Go.lrem {x y : Int64} (H : Ok Z K own bytes maxL ret nm) (d : decode bytes pc = .ok (.lrem, 1)) (hp : pc + 1 = pc') (hy : y ≠ 0) (r : Go l Z n0 R K Q h sf k j pc' ls (.long (x % y) :: st)) : Go l Z n0 R K Q h sf k j pc ls (.long y :: .long x :: st) := by
  subst hp
  exact Go.of H (fun p e below T t m c hA hx hby hr => XS.lrem hA hx rfl (hb hby d) rfl hy (by rw [lrem_mod x y]; exact hr)) r
theorem Go.ineg {x : Int32} (H : Ok Z K own bytes maxL ret nm) (d : decode bytes pc = .ok (.ineg, 1)) (hp : pc + 1 = pc')  (r : Go l Z n0 R K Q h sf k j pc' ls (.int (-x) :: st)) : Go l Z n0 R K Q h sf k j pc ls (.int x :: st) := by
  subst hp
  exact Go.of H (fun p e below T t m c hA hx hby hr => XS.ineg hA hx rfl (hb hby d) rfl hr) r
theorem Go.lneg {x : Int64} (H : Ok Z K own bytes maxL ret nm) (d : decode bytes pc = .ok (.lneg, 1)) (hp : pc + 1 = pc')  (r : Go l Z n0 R K Q h sf k j pc' ls (.long (-x) :: st)) : Go l Z n0 R K Q h sf k j pc ls (.long x :: st) := by
  subst hp
  exact Go.of H (fun p e below T t m c hA hx hby hr => XS.lneg hA hx rfl (hb hby d) rfl hr) r
theorem Go.i2c {x : Int32} (H : Ok Z K own bytes maxL ret nm) (d : decode bytes pc = .ok (.i2c, 1)) (hp : pc + 1 = pc')  (r : Go l Z n0 R K Q h sf k j pc' ls (.int (nar .char x) :: st)) : Go l Z n0 R K Q h sf k j pc ls (.int x :: st) := by
  subst hp
  exact Go.of H (fun p e below T t m c hA hx hby hr => XS.i2c hA hx rfl (hb hby d) rfl hr) r
theorem Go.i2b {x : Int32} (H : Ok Z K own bytes maxL ret nm) (d : decode bytes pc = .ok (.i2b, 1)) (hp : pc + 1 = pc')  (r : Go l Z n0 R K Q h sf k j pc' ls (.int (nar .byte x) :: st)) : Go l Z n0 R K Q h sf k j pc ls (.int x :: st) := by
  subst hp
  exact Go.of H (fun p e below T t m c hA hx hby hr => XS.i2b hA hx rfl (hb hby d) rfl hr) r
theorem Go.i2s {x : Int32} (H : Ok Z K own bytes maxL ret nm) (d : decode bytes pc = .ok (.i2s, 1)) (hp : pc + 1 = pc')  (r : Go l Z n0 R K Q h sf k j pc' ls (.int (nar .short x) :: st)) : Go l Z n0 R K Q h sf k j pc ls (.int x :: st) := by
  subst hp
  exact Go.of H (fun p e below T t m c hA hx hby hr => XS.i2s hA hx rfl (hb hby d) rfl hr) r
theorem Go.i2l {x : Int32} (H : Ok Z K own bytes maxL ret nm) (d : decode bytes pc = .ok (.i2l, 1)) (hp : pc + 1 = pc')  (r : Go l Z n0 R K Q h sf k j pc' ls (.long x.toInt64 :: st)) : Go l Z n0 R K Q h sf k j pc ls (.int x :: st) := by
  subst hp
  exact Go.of H (fun p e below T t m c hA hx hby hr => XS.i2l hA hx rfl (hb hby d) rfl hr) r
theorem Go.l2i {x : Int64} (H : Ok Z K own bytes maxL ret nm) (d : decode bytes pc = .ok (.l2i, 1)) (hp : pc + 1 = pc')  (r : Go l Z n0 R K Q h sf k j pc' ls (.int x.toInt32 :: st)) : Go l Z n0 R K Q h sf k j pc ls (.long x :: st) := by
  subst hp
  exact Go.of H (fun p e below T t m c hA hx hby hr => XS.l2i hA hx rfl (hb hby d) rfl hr) r
theorem Go.lcmp {x y : Int64} (H : Ok Z K own bytes maxL ret nm) (d : decode bytes pc = .ok (.lcmp, 1)) (hp : pc + 1 = pc')  (r : Go l Z n0 R K Q h sf k j pc' ls (.int (lcmpW x y) :: st)) : Go l Z n0 R K Q h sf k j pc ls (.long y :: .long x :: st) := by
  subst hp
  exact Go.of H (fun p e below T t m c hA hx hby hr => XS.lcmp hA hx rfl (hb hby d) rfl hr) r
theorem Go.iinc {i : Nat} {cst : Int} {x : Int32} (v : Int32) (H : Ok Z K own bytes maxL ret nm) (d : decode bytes pc = .ok (.iinc i cst, 3)) (hp : pc + 3 = pc') (hl : ls[i]? = some (.val (.int x))) (hv : Int32.ofInt cst = v) (hl' : storeLocals ls i (.int (x + v)) = some ls') (r : Go l Z n0 R K Q h sf k j pc' ls' st) : Go l Z n0 R K Q h sf k j pc ls st := by
  subst hp
  exact Go.of H (fun p e below T t m c hA hx hby hr => XS.iinc hA hx rfl (hb hby d) hl (by rw [hv]; exact hl') hr) r
theorem Go.dup {x : Value} (H : Ok Z K own bytes maxL ret nm) (d : decode bytes pc = .ok (.dup, 1)) (hp : pc + 1 = pc') (hc : x.category = 1) (r : Go l Z n0 R K Q h sf k j pc' ls (x :: x :: st)) : Go l Z n0 R K Q h sf k j pc ls (x :: st) := by
  subst hp
  exact Go.of H (fun p e below T t m c hA hx hby hr => XS.dup hA hx rfl (hb hby d) rfl hc hr) r
theorem Go.pop {x : Value} (H : Ok Z K own bytes maxL ret nm) (d : decode bytes pc = .ok (.pop, 1)) (hp : pc + 1 = pc') (hc : x.category = 1) (r : Go l Z n0 R K Q h sf k j pc' ls st) : Go l Z n0 R K Q h sf k j pc ls (x :: st) := by
  subst hp
  exact Go.of H (fun p e below T t m c hA hx hby hr => XS.pop hA hx rfl (hb hby d) rfl hc hr) r
theorem Go.dupX1 {x y : Value} (H : Ok Z K own bytes maxL ret nm) (d : decode bytes pc = .ok (.dup_x1, 1)) (hp : pc + 1 = pc') (hc : x.category = 1) (hc' : y.category = 1) (r : Go l Z n0 R K Q h sf k j pc' ls (x :: y :: x :: st)) : Go l Z n0 R K Q h sf k j pc ls (x :: y :: st) := by
  subst hp
  exact Go.of H (fun p e below T t m c hA hx hby hr => XT.dupX1 hA hx rfl (hb hby d) rfl hc hc' hr) r
theorem Go.dup2 {x y : Value} (H : Ok Z K own bytes maxL ret nm) (d : decode bytes pc = .ok (.dup2, 1)) (hp : pc + 1 = pc') (hc : x.category = 1) (hc' : y.category = 1) (r : Go l Z n0 R K Q h sf k j pc' ls (x :: y :: x :: y :: st)) : Go l Z n0 R K Q h sf k j pc ls (x :: y :: st) := by
  subst hp
  exact Go.of H (fun p e below T t m c hA hx hby hr => XT.dup2 hA hx rfl (hb hby d) rfl hc hc' hr) r
theorem Go.goto {o : Int} (H : Ok Z K own bytes maxL ret nm) (d : decode bytes pc = .ok (.goto o, 3)) (ho : 0 ≤ (pc : Int) + o) (hp : ((pc : Int) + o).toNat = pc') (r : Go l Z n0 R K Q h sf k j pc' ls st) : Go l Z n0 R K Q h sf k j pc ls st := Go.of H (fun p e below T t m c hA hx hby hr => XS.goto hA hx rfl (pc0 := pc) (pc' := pc') rfl (hb hby d) ho hp hr) r
theorem Go.icmpY {cd : ClassFile.Cond} {x y : Int32} {o : Int} (H : Ok Z K own bytes maxL ret nm) (d : decode bytes pc = .ok (.if_icmp cd o, 3)) (hc : if_icmp.holds cd x y = true) (ho : 0 ≤ (pc : Int) + o) (hp : ((pc : Int) + o).toNat = pc') (r : Go l Z n0 R K Q h sf k j pc' ls st) : Go l Z n0 R K Q h sf k j pc ls (.int y :: .int x :: st) := Go.of H (fun p e below T t m c hA hx hby hr => XS.icmpYes hA hx rfl (pc0 := pc) (pc' := pc') rfl (hb hby d) rfl hc ho hp hr) r
theorem Go.icmpN {cd : ClassFile.Cond} {x y : Int32} {o : Int} (H : Ok Z K own bytes maxL ret nm) (d : decode bytes pc = .ok (.if_icmp cd o, 3)) (hc : if_icmp.holds cd x y = false) (hp : pc + 3 = pc') (r : Go l Z n0 R K Q h sf k j pc' ls st) : Go l Z n0 R K Q h sf k j pc ls (.int y :: .int x :: st) := by
  subst hp
  exact Go.of H (fun p e below T t m c hA hx hby hr => XS.icmpNo hA hx rfl (hb hby d) rfl hc hr) r
theorem Go.ifY {cd : ClassFile.Cond} {x : Int32} {o : Int} (H : Ok Z K own bytes maxL ret nm) (d : decode bytes pc = .ok (.ifCond cd o, 3)) (hc : if_icmp.holds cd x 0 = true) (ho : 0 ≤ (pc : Int) + o) (hp : ((pc : Int) + o).toNat = pc') (r : Go l Z n0 R K Q h sf k j pc' ls st) : Go l Z n0 R K Q h sf k j pc ls (.int x :: st) := Go.of H (fun p e below T t m c hA hx hby hr => XS.ifYes hA hx rfl (pc0 := pc) (pc' := pc') rfl (hb hby d) rfl ((if0 _ _).trans hc) ho hp hr) r
theorem Go.ifN {cd : ClassFile.Cond} {x : Int32} {o : Int} (H : Ok Z K own bytes maxL ret nm) (d : decode bytes pc = .ok (.ifCond cd o, 3)) (hc : if_icmp.holds cd x 0 = false) (hp : pc + 3 = pc') (r : Go l Z n0 R K Q h sf k j pc' ls st) : Go l Z n0 R K Q h sf k j pc ls (.int x :: st) := by
  subst hp
  exact Go.of H (fun p e below T t m c hA hx hby hr => XS.ifNo hA hx rfl (hb hby d) rfl ((if0 _ _).trans hc) hr) r
theorem Go.ifnullY {o : Int} (H : Ok Z K own bytes maxL ret nm) (d : decode bytes pc = .ok (.ifnull o, 3)) (ho : 0 ≤ (pc : Int) + o) (hp : ((pc : Int) + o).toNat = pc') (r : Go l Z n0 R K Q h sf k j pc' ls st) : Go l Z n0 R K Q h sf k j pc ls (.null :: st) := Go.of H (fun p e below T t m c hA hx hby hr => XS.ifnullYes hA hx rfl (pc0 := pc) (pc' := pc') rfl (hb hby d) rfl ho hp hr) r
theorem Go.ifnullN {b : Addr} {o : Int} (H : Ok Z K own bytes maxL ret nm) (d : decode bytes pc = .ok (.ifnull o, 3)) (hp : pc + 3 = pc') (r : Go l Z n0 R K Q h sf k j pc' ls st) : Go l Z n0 R K Q h sf k j pc ls (.ref b :: st) := by
  subst hp
  exact Go.of H (fun p e below T t m c hA hx hby hr => XS.ifnullNo hA hx rfl (hb hby d) rfl hr) r
theorem Go.ifnonnullY {b : Addr} {o : Int} (H : Ok Z K own bytes maxL ret nm) (d : decode bytes pc = .ok (.ifnonnull o, 3)) (ho : 0 ≤ (pc : Int) + o) (hp : ((pc : Int) + o).toNat = pc') (r : Go l Z n0 R K Q h sf k j pc' ls st) : Go l Z n0 R K Q h sf k j pc ls (.ref b :: st) := Go.of H (fun p e below T t m c hA hx hby hr => XS.ifnonnullYes hA hx rfl (pc0 := pc) (pc' := pc') rfl (hb hby d) rfl ho hp hr) r
theorem Go.ifnonnullN {o : Int} (H : Ok Z K own bytes maxL ret nm) (d : decode bytes pc = .ok (.ifnonnull o, 3)) (hp : pc + 3 = pc') (r : Go l Z n0 R K Q h sf k j pc' ls st) : Go l Z n0 R K Q h sf k j pc ls (.null :: st) := by
  subst hp
  exact Go.of H (fun p e below T t m c hA hx hby hr => XS.ifnonnullNo hA hx rfl (hb hby d) rfl hr) r
theorem Go.acmpY {cd : ClassFile.ACond} {x y : Value} {o : Int} (H : Ok Z K own bytes maxL ret nm) (d : decode bytes pc = .ok (.if_acmp cd o, 3)) (h1 : x.isRef = true) (h2 : y.isRef = true) (hc : XT.acmp cd x y = true) (ho : 0 ≤ (pc : Int) + o) (hp : ((pc : Int) + o).toNat = pc') (r : Go l Z n0 R K Q h sf k j pc' ls st) : Go l Z n0 R K Q h sf k j pc ls (y :: x :: st) := Go.of H (fun p e below T t m c hA hx hby hr => XT.acmpYes hA hx rfl (pc0 := pc) (pc' := pc') rfl (hb hby d) rfl h1 h2 hc ho hp hr) r
theorem Go.acmpN {cd : ClassFile.ACond} {x y : Value} {o : Int} (H : Ok Z K own bytes maxL ret nm) (d : decode bytes pc = .ok (.if_acmp cd o, 3)) (h1 : x.isRef = true) (h2 : y.isRef = true) (hc : XT.acmp cd x y = false) (hp : pc + 3 = pc') (r : Go l Z n0 R K Q h sf k j pc' ls st) : Go l Z n0 R K Q h sf k j pc ls (y :: x :: st) := by
  subst hp
  exact Go.of H (fun p e below T t m c hA hx hby hr => XT.acmpNo hA hx rfl (hb hby d) rfl h1 h2 hc hr) r
theorem Go.ldcInt {idx : Nat} {v : Int32} (H : Ok Z K own bytes maxL ret nm) (d : decode bytes pc = .ok (.ldc idx, 2)) (hp : pc + 2 = pc') (w : Jvm.Cond.constant own idx v ∈ tables_1) (r : Go l Z n0 R K Q h sf k j pc' ls (.int v :: st)) : Go l Z n0 R K Q h sf k j pc ls st := by
  subst hp
  refine Go.of2 H ?_ r
  intro p e s m args below meth c T locs a0 hw X hx hby hml hZ hown eT hO
  exact ⟨T, X, eT, fun t hr => X.ldcInt hx hown (mvT hZ (hw _ w)) (g := mkF m pc ls st) rfl (hb hby d) t hr⟩
theorem Go.ldcWInt {idx : Nat} {v : Int32} (H : Ok Z K own bytes maxL ret nm) (d : decode bytes pc = .ok (.ldc_w idx, 3)) (hp : pc + 3 = pc') (w : Jvm.Cond.constant own idx v ∈ tables_1) (r : Go l Z n0 R K Q h sf k j pc' ls (.int v :: st)) : Go l Z n0 R K Q h sf k j pc ls st := by
  subst hp
  refine Go.of2 H ?_ r
  intro p e s m args below meth c T locs a0 hw X hx hby hml hZ hown eT hO
  exact ⟨T, X, eT, fun t hr => X.ldcwInt hx hown (mvT hZ (hw _ w)) (g := mkF m pc ls st) rfl (hb hby d) t hr⟩
theorem Go.ldc2 {idx : Nat} {v : Int64} (H : Ok Z K own bytes maxL ret nm) (d : decode bytes pc = .ok (.ldc2_w idx, 3)) (hp : pc + 3 = pc') (w : Jvm.Cond.constantLong own idx v ∈ tables_1) (r : Go l Z n0 R K Q h sf k j pc' ls (.long v :: st)) : Go l Z n0 R K Q h sf k j pc ls st := by
  subst hp
  refine Go.of2 H ?_ r
  intro p e s m args below meth c T locs a0 hw X hx hby hml hZ hown eT hO
  exact ⟨T, X, eT, fun t hr => X.ldc2Long hx hown (mvT hZ (hw _ w)) (g := mkF m pc ls st) rfl (hb hby d) t hr⟩
theorem Go.getfield {idx : Nat} {O n d' : String} {a : Addr} {v : Value} (H : Ok Z K own bytes maxL ret nm) (d : decode bytes pc = .ok (.getfield idx, 3)) (hp : pc + 3 = pc') (w : Jvm.Cond.fieldLink own idx O n d' ∈ tables_1) (F : Fld Z h a O n d' v) (r : Go l Z n0 R K Q h sf k j pc' ls (v :: st)) : Go l Z n0 R K Q h sf k j pc ls (.ref a :: st) := by
  subst hp
  refine Go.of2 H ?_ r
  intro p e s m args below meth c T locs a0 hw X hx hby hml hZ hown eT hO
  exact getF X hx hZ hown (host := "") (Or.inl (hw _ w)) Via.refl eT F (g := mkF m pc ls (.ref a :: st)) rfl rfl (hb hby d)
theorem Go.getstatic {idx : Nat} {O n d' : String} {v : Value} (H : Ok Z K own bytes maxL ret nm) (d : decode bytes pc = .ok (.getstatic idx, 3)) (hp : pc + 3 = pc') (w : Jvm.Cond.fieldLink own idx O n d' ∈ tables_1) (F : Sta Z Z.heap O n d' v) (r : Go l Z n0 R K Q h sf k j pc' ls (v :: st)) : Go l Z n0 R K Q h sf k j pc ls st := by
  subst hp
  refine Go.of2 H ?_ r
  intro p e s m args below meth c T locs a0 hw X hx hby hml hZ hown eT hO
  exact getS (host := "") X hx hZ hown (hw _ w) Via.refl eT (F.ext hO.2) (g := mkF m pc ls st) rfl (hb hby d)
theorem Go.checkcast {idx : Nat} {C : String} {a : Addr} (H : Ok Z K own bytes maxL ret nm) (d : decode bytes pc = .ok (.checkcast idx, 3)) (hp : pc + 3 = pc') (w : Jvm.Cond.classLink own idx C ∈ tables_1) (F : Ins Z h a C true) (r : Go l Z n0 R K Q h sf k j pc' ls (.ref a :: st)) : Go l Z n0 R K Q h sf k j pc ls (.ref a :: st) := by
  subst hp
  refine Go.of2 H ?_ r
  intro p e s m args below meth c T locs a0 hw X hx hby hml hZ hown eT hO
  exact castY X hx hZ hown (hw _ w) eT F (g := mkF m pc ls (.ref a :: st)) rfl rfl (hb hby d)
theorem Go.instanceofY {idx : Nat} {C : String} {a : Addr} (H : Ok Z K own bytes maxL ret nm) (d : decode bytes pc = .ok (.instanceof idx, 3)) (hp : pc + 3 = pc') (w : Jvm.Cond.classLink own idx C ∈ tables_1) (F : Ins Z h a C true) (r : Go l Z n0 R K Q h sf k j pc' ls (.int 1 :: st)) : Go l Z n0 R K Q h sf k j pc ls (.ref a :: st) := by
  subst hp
  refine Go.of2 H ?_ r
  intro p e s m args below meth c T locs a0 hw X hx hby hml hZ hown eT hO
  exact instY X hx hZ hown (hw _ w) eT F (g := mkF m pc ls (.ref a :: st)) rfl rfl (hb hby d)
theorem Go.initObj {idx : Nat} {a : Addr} (H : Ok Z K own bytes maxL ret nm) (d : decode bytes pc = .ok (.invokespecial idx, 3)) (hp : pc + 3 = pc') (w1 : Jvm.Cond.methodLink own idx Lib.objectInit ∈ tables_1) (w2 : Jvm.Cond.instanceMethod Lib.objectInit ∈ tables_1) (w3 : Jvm.Cond.code Lib.objectInit ⟨#[0xb1]⟩ 1 none ∈ tables_1) (W : Nat) (hsz : ls.size = maxL) (hW : (st.map fun v => v.category).sum ≤ W) (hf : 1 ≤ R.frames) (hlo : W + 12 ≤ R.locals) (r : Go l Z n0 R K Q h sf k j pc' ls st) : Go l Z n0 R K Q h sf k j pc ls (.ref a :: st) := by
  subst hp
  refine Go.of2 H ?_ r
  intro p e s m args below meth c T locs a0 hw X hx hby hml hZ hown eT hO
  exact initO X hx hZ hown (hw _ w1) (hw _ w2) (hw _ w3) eT (g := mkF m pc ls (.ref a :: st)) rfl (by rw [hml]; exact hsz) rfl (hb hby d) hf (W := W) (by show 2 * 0 + _ ≤ _; simpa using hW) hlo
end Steps1
/-- an array whose components are just these ints -/
def Vec (Z : State) (h : Heap) (a : Addr) (ty : FieldType) (vs : List Int32) : Prop := ∃ c : Cell, Arr Z h a c ty ∧ c.slots.toList = vs.map Value.int ∧ ∀ v ∈ vs, fits ty (.int v) = true
section Vecs
variable {Z : State} {h h' : Heap} {a b : Addr} {ty : FieldType} {vs : List Int32} {ws : List Addr}
theorem Vec.lt (F : Vec Z h a ty vs) : a < h.size := by obtain ⟨c, A, -⟩ := F; exact A.lt
theorem Vec.ext (F : Vec Z h a ty vs) (E : Ext h h') : Vec Z h' a ty vs := by obtain ⟨c, A, q⟩ := F; exact ⟨c, A.ext E, q⟩
theorem Vec.keep (F : Vec Z h a ty vs) (K : Keep h h' ws) (q : a ∉ ws) : Vec Z h' a ty vs := by obtain ⟨c, A, r⟩ := F; exact ⟨c, ⟨K.2.1 a c A.1 q, A.2⟩, r⟩
theorem Vec.size {c : Cell} (q : c.slots.toList = vs.map Value.int) : c.slots.size = vs.length := by rw [← Array.length_toList, q, List.length_map]
theorem Vec.get {c : Cell} (q : c.slots.toList = vs.map Value.int) {i : Nat} {v : Int32} (hv : vs[i]? = some v) : c.slots[i]? = some (.int v) := by
  rw [← Array.getElem?_toList, q, List.getElem?_map, hv]; rfl
theorem Vec.set {i : Nat} {v : Int32} (F : Vec Z h a ty vs) (W : Wr h h' a i (.int v)) (hv : fits ty (.int v) = true) : Vec Z h' a ty (vs.set i v) := by
  obtain ⟨c, A, q, hf⟩ := F
  refine ⟨_, A.same W, ?_, fun u hu => (List.mem_or_eq_of_mem_set hu).elim (hf u) (fun e => e ▸ hv)⟩
  rw [List.map_set, ← q]
  show (c.slots.setIfInBounds i _).toList = _
  rw [Array.toList_setIfInBounds]
theorem Vec.ne {ty' : FieldType} {vs' : List Int32} (F : Vec Z h a ty vs) (G : Vec Z h b ty' vs') (hn : ty ≠ ty') : a ≠ b := fun e => by
  subst e
  obtain ⟨c, ⟨h1, ⟨-, k, g1, comp, g2⟩, -⟩, -, -⟩ := F
  obtain ⟨c', ⟨h1', ⟨-, k', g1', comp', g2'⟩, -⟩, -, -⟩ := G
  cases h1.symm.trans h1'
  cases g1.symm.trans g1'
  rw [g2] at g2'
  cases g2'
  exact hn rfl
theorem Vec.neExa {C : String} {x : Addr} {n : Nat} (F : Vec Z h a ty vs) (G : Exa Z h x C) (w : Wds Z) (hi : Jvm.Cond.instantiable C n ∈ tables_1) : a ≠ x := by
  obtain ⟨c, A, -⟩ := F
  obtain ⟨a0, hw⟩ := w.w
  exact (ne_arr G (hw _ hi) A).symm
end Vecs
section Steps2
variable {l : Launch} {Z : State} {n0 : Nat} {R : Room} {K : Cx} {Q : Option Value → Heap → List Addr → Prop} {h : Heap} {sf : List Addr} {k j pc pc' : Nat} {ls ls' : Array Slot} {st : List Value} {own : String} {bytes : ByteArray} {maxL : Nat} {ret : Option FieldType} {nm : String}
theorem Go.caload {a : Addr} {i : Int32} {v : Int32} {vs : List Int32} (H : Ok Z K own bytes maxL ret nm) (d : decode bytes pc = .ok (.caload, 1)) (hp : pc + 1 = pc') (F : Vec Z h a .char vs) (n : Nat) (hi : i.toNatClampNeg = n) (h0 : ¬ i < 0) (hv : vs[n]? = some v) (r : Go l Z n0 R K Q h sf k j pc' ls (.int v :: st)) : Go l Z n0 R K Q h sf k j pc ls (.int i :: .ref a :: st) := by
  subst hp
  refine Go.of2 H ?_ r
  intro p e s m args below meth c T locs a0 hw X hx hby hml hZ hown eT hO
  obtain ⟨c', A, q, -⟩ := F
  refine ⟨T, X, eT, fun t hr => X.caload hx (j := i) (v := .int v) (by rw [eT]; exact A.1) (State.isArrayOf_alike hZ.alike A.2.1) A.2.2 ?_ (by rw [hi]; exact Vec.get q hv) (g := mkF m pc ls (.int i :: .ref a :: st)) rfl rfl (hb hby d) t hr⟩
  rw [Vec.size q, hi]
  have := (List.getElem?_eq_some_iff.mp hv).1
  rintro (q | q)
  · exact h0 q
  · omega
theorem Go.baload {a : Addr} {i : Int32} {v : Int32} {vs : List Int32} (H : Ok Z K own bytes maxL ret nm) (d : decode bytes pc = .ok (.baload, 1)) (hp : pc + 1 = pc') (F : Vec Z h a .byte vs) (n : Nat) (hi : i.toNatClampNeg = n) (h0 : ¬ i < 0) (hv : vs[n]? = some v) (r : Go l Z n0 R K Q h sf k j pc' ls (.int v :: st)) : Go l Z n0 R K Q h sf k j pc ls (.int i :: .ref a :: st) := by
  subst hp
  refine Go.of2 H ?_ r
  intro p e s m args below meth c T locs a0 hw X hx hby hml hZ hown eT hO
  obtain ⟨c', A, q, -⟩ := F
  refine ⟨T, X, eT, fun t hr => X.baloadBytes hx (j := i) (v := .int v) (by rw [eT]; exact A.1) (State.isArrayOf_alike hZ.alike A.2.1) A.2.2 ?_ (by rw [hi]; exact Vec.get q hv) (g := mkF m pc ls (.int i :: .ref a :: st)) rfl rfl (hb hby d) t hr⟩
  rw [Vec.size q, hi]
  have := (List.getElem?_eq_some_iff.mp hv).1
  rintro (q | q)
  · exact h0 q
  · omega
theorem Go.iaload {a : Addr} {i : Int32} {v : Int32} {vs : List Int32} (H : Ok Z K own bytes maxL ret nm) (d : decode bytes pc = .ok (.iaload, 1)) (hp : pc + 1 = pc') (F : Vec Z h a .int vs) (n : Nat) (hi : i.toNatClampNeg = n) (h0 : ¬ i < 0) (hv : vs[n]? = some v) (r : Go l Z n0 R K Q h sf k j pc' ls (.int v :: st)) : Go l Z n0 R K Q h sf k j pc ls (.int i :: .ref a :: st) := by
  subst hp
  refine Go.of2 H ?_ r
  intro p e s m args below meth c T locs a0 hw X hx hby hml hZ hown eT hO
  obtain ⟨c', A, q, -⟩ := F
  refine ⟨T, X, eT, fun t hr => X.iaload hx (j := i) (v := .int v) (by rw [eT]; exact A.1) (State.isArrayOf_alike hZ.alike A.2.1) A.2.2 ?_ (by rw [hi]; exact Vec.get q hv) (g := mkF m pc ls (.int i :: .ref a :: st)) rfl rfl (hb hby d) t hr⟩
  rw [Vec.size q, hi]
  have := (List.getElem?_eq_some_iff.mp hv).1
  rintro (q | q)
  · exact h0 q
  · omega
theorem Go.arraylength {a : Addr} {ty : FieldType} {vs : List Int32} (v : Int32) (H : Ok Z K own bytes maxL ret nm) (d : decode bytes pc = .ok (.arraylength, 1)) (hp : pc + 1 = pc') (F : Vec Z h a ty vs) (hv : vs.length.toInt32 = v) (r : Go l Z n0 R K Q h sf k j pc' ls (.int v :: st)) : Go l Z n0 R K Q h sf k j pc ls (.ref a :: st) := by
  subst hp
  refine Go.of2 H ?_ r
  intro p e s m args below meth c T locs a0 hw X hx hby hml hZ hown eT hO
  obtain ⟨c', A, q, -⟩ := F
  refine ⟨T, X, eT, fun t hr => X.arraylength hx (by rw [eT]; exact A.1) (State.isArrayOf_alike hZ.alike A.2.1) (g := mkF m pc ls (.ref a :: st)) rfl rfl (hb hby d) t ?_⟩
  rw [Vec.size q, hv]; exact hr
theorem Go.castore {a : Addr} {i x : Int32} {vs : List Int32} (v : Int32) (H : Ok Z K own bytes maxL ret nm) (d : decode bytes pc = .ok (.castore, 1)) (hp : pc + 1 = pc') (F : Vec Z h a .char vs) (n : Nat) (hi : i.toNatClampNeg = n) (h0 : ¬ i < 0) (hn : n < vs.length) (hx : nar .char x = v) (ha : n0 ≤ a) (hs : a ∈ sf) (r : ∀ h', Keep h h' [a] → Vec Z h' a .char (vs.set n v) → Go l Z n0 R K Q h' sf k j pc' ls st) : Go l Z n0 R K Q h sf k j pc ls (.int x :: .int i :: .ref a :: st) := by
  subst hp hx
  refine Go.ofWr (a := a) (sl := i.toNatClampNeg) (v := .int (nar .char x)) H ha hs ?_ (fun h' W => r h' (Keep.of_wr W) (by rw [← hi]; exact F.set W (fits_nar_char _)))
  intro p e s m args below meth c T locs a0 hw X hx hby hZ hown hnm eT
  obtain ⟨c', A, q, -⟩ := F
  refine stC X hx hZ eT A (j := i) ?_ (g := mkF m pc ls (.int x :: .int i :: .ref a :: st)) rfl rfl (hb hby d)
  rw [Vec.size q, hi]
  rintro (q | q)
  · exact h0 q
  · omega
theorem Go.bastore {a : Addr} {i x : Int32} {vs : List Int32} (v : Int32) (H : Ok Z K own bytes maxL ret nm) (d : decode bytes pc = .ok (.bastore, 1)) (hp : pc + 1 = pc') (F : Vec Z h a .byte vs) (n : Nat) (hi : i.toNatClampNeg = n) (h0 : ¬ i < 0) (hn : n < vs.length) (hx : nar .byte x = v) (ha : n0 ≤ a) (hs : a ∈ sf) (r : ∀ h', Keep h h' [a] → Vec Z h' a .byte (vs.set n v) → Go l Z n0 R K Q h' sf k j pc' ls st) : Go l Z n0 R K Q h sf k j pc ls (.int x :: .int i :: .ref a :: st) := by
  subst hp hx
  refine Go.ofWr (a := a) (sl := i.toNatClampNeg) (v := .int (nar .byte x)) H ha hs ?_ (fun h' W => r h' (Keep.of_wr W) (by rw [← hi]; exact F.set W (fits_nar_byte _)))
  intro p e s m args below meth c T locs a0 hw X hx hby hZ hown hnm eT
  obtain ⟨c', A, q, -⟩ := F
  refine stB X hx hZ eT A (j := i) ?_ (g := mkF m pc ls (.int x :: .int i :: .ref a :: st)) rfl rfl (hb hby d)
  rw [Vec.size q, hi]
  rintro (q | q)
  · exact h0 q
  · omega
theorem Go.newarray {aty : ArrayType} {n : Int32} (N : Nat) (cap : Nat) (H : Ok Z K own bytes maxL ret nm) (d : decode bytes pc = .ok (.newarray aty, 2)) (hp : pc + 2 = pc') (w : Jvm.Cond.arrayClass (newarray.typeOf aty) ∈ tables_1) (hd : defaultValue (newarray.typeOf aty) = .int 0) (hft : fits (newarray.typeOf aty) (.int 0) = true) (hn : ¬ n < 0) (hN : n.toNatClampNeg = N) (hcap : N ≤ cap) (hb' : cap * 8 ≤ 536870912) (hce : k + 1 ≤ R.cells) (hsl : j + cap ≤ R.slots)
    (r : ∀ a h', a = h.size → n0 ≤ a → Ext h h' → Vec Z h' a (newarray.typeOf aty) (List.replicate N 0) → Go l Z n0 R K Q h' (a :: sf) (k + 1) (j + cap) pc' ls (.ref a :: st)) : Go l Z n0 R K Q h sf k j pc ls (.int n :: st) := by
  subst hp hN
  refine Go.ofNew (P := fun a h' => Vec Z h' a (newarray.typeOf aty) (List.replicate n.toNatClampNeg 0)) H ?_ (fun a h' F => F.lt) r
  intro p e s m args below meth c T locs a0 hw X hx hby hZ hown eT
  obtain ⟨T', h', cA, X', eT', E, A, stp⟩ := newP X hx hZ (hw _ w) eT (g := mkF m pc ls (.int n :: st)) rfl (hb hby d) rfl hn (cap := cap) hcap hb' hce hsl
  refine ⟨T', h', X', eT', E, ⟨_, A, ?_, fun v hv => by rw [List.eq_of_mem_replicate hv]; exact hft⟩, stp⟩
  simp [newA, hd]
theorem Go.new {C : String} {idx n : Nat} (H : Ok Z K own bytes maxL ret nm) (d : decode bytes pc = .ok (.new idx, 3)) (hp : pc + 3 = pc') (w : Jvm.Cond.classLink own idx C ∈ tables_1) (wi : Jvm.Cond.instantiable C n ∈ tables_1) (wz : Jvm.Cond.initialized C ∈ tables_1) (hce : k + 1 ≤ R.cells) (hsl : j + n ≤ R.slots)
    (r : ∀ a h', a = h.size → n0 ≤ a → Ext h h' → Exa Z h' a C → (∀ {O nm d : String} {ty : FieldType}, (Jvm.Cond.lays C O nm d ∈ tables_1 ∨ Jvm.Cond.laysFinal C O nm d ∈ tables_1) → parseFieldDescriptor d = some ty → Fld Z h' a O nm d (defaultValue ty)) → Go l Z n0 R K Q h' (a :: sf) (k + 1) (j + n) pc' ls (.ref a :: st)) : Go l Z n0 R K Q h sf k j pc ls st := by
  subst hp
  refine Go.ofNew (P := fun a h' => Exa Z h' a C ∧ (∀ {O nm d : String} {ty : FieldType}, (Jvm.Cond.lays C O nm d ∈ tables_1 ∨ Jvm.Cond.laysFinal C O nm d ∈ tables_1) → parseFieldDescriptor d = some ty → Fld Z h' a O nm d (defaultValue ty))) H ?_ (fun a h' F => F.1.lt) (fun a h' e1 e2 E hP => r a h' e1 e2 E hP.1 hP.2)
  intro p e s m args below meth c T locs a0 hw X hx hby hZ hown eT
  obtain ⟨T', h', X', eT', E, A, D, -, stp⟩ := newO X hx hZ hown (hw _ w) (hw _ wi) (hw _ wz) eT (g := mkF m pc ls st) rfl (hb hby d) hce hsl
  exact ⟨T', h', X', eT', E, ⟨A, fun L ht => D (L.imp (hw _) (hw _)) ht⟩, stp⟩
theorem Go.putfield {idx kk : Nat} {C O n d' : String} {ty : FieldType} {a : Addr} {x v old : Value} (H : Ok Z K own bytes maxL ret nm) (d : decode bytes pc = .ok (.putfield idx, 3)) (hp : pc + 3 = pc') (w : Jvm.Cond.fieldLink own idx O n d' ∈ tables_1) (F : Fld Z h a O n d' old) (E : Exa Z h a C) (L : Jvm.Cond.lays C O n d' ∈ tables_1 ∨ (Jvm.Cond.laysFinal C O n d' ∈ tables_1 ∧ own = O ∧ nm = "<init>")) (wi : Jvm.Cond.instantiable C kk ∈ tables_1) (hty : parseFieldDescriptor d' = some ty) (hn : narrow ty x = v) (hf : fits ty v = true) (ha : n0 ≤ a) (hs : a ∈ sf)
    (r : ∀ h', Wr h h' a (Jvm.RoadKit.slotOf Z O n d') v → Go l Z n0 R K Q h' sf k j pc' ls st) : Go l Z n0 R K Q h sf k j pc ls (x :: .ref a :: st) := by
  subst hp
  refine Go.ofWr (a := a) (sl := Jvm.RoadKit.slotOf Z O n d') (v := v) H ha hs ?_ r
  intro p e s m args below meth c T locs a0 hw X hx hby hZ hown hnm eT
  exact putFN X hx hZ hown (hw _ w) Via.refl eT F E (L.imp (hw _) (fun q => ⟨hw _ q.1, q.2.1, hnm.trans q.2.2⟩)) (hw _ wi) hty hn hf (g := mkF m pc ls (x :: .ref a :: st)) rfl rfl (hb hby d)
theorem Go.ireturn {x : Int32} {t : FieldType} (v : Int32) (sn : List Addr) (H : Ok Z K own bytes maxL (some t) nm) (d : decode bytes pc = .ok (.ireturn, 1)) (ht : t = .boolean ∨ t = .byte ∨ t = .char ∨ t = .short) (hv : nar t x = v) (hq : Q (some (.int v)) h sn) (hs : ∀ y ∈ sn, y ∈ sf) (hk : k ≤ R.cells) (hj : j ≤ R.slots) : Go l Z n0 R K Q h sf k j pc ls (.int x :: st) := by
  subst hv
  exact Go.ret0 H (v := some (.int (nar t x))) (fun q => nomatch q) hq hs hk hj (fun p e s m args below meth c T locs fs X hx hby hret hl => retN X hx hret ht (hb hby d) hl)
theorem Go.ireturnI {x : Int32} (sn : List Addr) (H : Ok Z K own bytes maxL (some .int) nm) (d : decode bytes pc = .ok (.ireturn, 1)) (hq : Q (some (.int x)) h sn) (hs : ∀ y ∈ sn, y ∈ sf) (hk : k ≤ R.cells) (hj : j ≤ R.slots) : Go l Z n0 R K Q h sf k j pc ls (.int x :: st) := by
  exact Go.ret0 H (v := some (.int x)) (fun q => nomatch q) hq hs hk hj (fun p e s m args below meth c T locs fs X hx hby hret hl => retOut X hx hret rfl (Or.inl ⟨rfl, Or.inl rfl, _, rfl⟩) (hb hby d) hl)
theorem Go.lreturn {x : Int64} (sn : List Addr) (H : Ok Z K own bytes maxL (some .long) nm) (d : decode bytes pc = .ok (.lreturn, 1)) (hq : Q (some (.long x)) h sn) (hs : ∀ y ∈ sn, y ∈ sf) (hk : k ≤ R.cells) (hj : j ≤ R.slots) : Go l Z n0 R K Q h sf k j pc ls (.long x :: st) := by
  exact Go.ret0 H (v := some (.long x)) (fun q => nomatch q) hq hs hk hj (fun p e s m args below meth c T locs fs X hx hby hret hl => retOut X hx hret rfl (Or.inr (Or.inl ⟨rfl, rfl, _, rfl⟩)) (hb hby d) hl)
theorem Go.areturn {x : Value} {t : FieldType} (sn : List Addr) (H : Ok Z K own bytes maxL (some t) nm) (d : decode bytes pc = .ok (.areturn, 1)) (ht : t.isReference = true) (hx : x.isRef = true) (hn : narrow t x = x) (hq : Q (some x) h sn) (hs : ∀ y ∈ sn, y ∈ sf) (hk : k ≤ R.cells) (hj : j ≤ R.slots) : Go l Z n0 R K Q h sf k j pc ls (x :: st) := by
  exact Go.ret0 H (v := some x) (fun q => nomatch q) hq hs hk hj (fun p e s m args below meth c T locs fs X hx' hby hret hl => retOut X hx' hret hn (Or.inr (Or.inr (Or.inr (Or.inr ⟨rfl, ht, hx⟩)))) (hb hby d) hl)
theorem Go.return_ (sn : List Addr) (H : Ok Z K own bytes maxL none nm) (d : decode bytes pc = .ok (.return_, 1)) (hq : Q none h sn) (hs : ∀ y ∈ sn, y ∈ sf) (hk : k ≤ R.cells) (hj : j ≤ R.slots) : Go l Z n0 R K Q h sf k j pc ls [] := by
  exact Go.ret0 H (v := none) (fun _ => rfl) hq hs hk hj (fun p e s m args below meth c T locs fs X hx hby hret hl => X.returnOut hx hret (hb hby d) hl)
theorem own_toarv {Z : State} {h : Heap} {a : Addr} {ty : FieldType} {vs : List Int32} (F : Vec Z h a ty vs) (hn : vs.length < 2 ^ 31) : ∃ kc, Arv Z h a kc ty vs.length.toInt32 (vs.map Value.int) (.int 0) := by
  obtain ⟨c, A, q, hf⟩ := F
  have hs := Vec.size q
  have e : vs.length.toInt32.toNatClampNeg = vs.length := by rw [Int32.toNatClampNeg, len_toInt hn]; simp
  have hg : ∀ i, i < vs.length → (vs.map Value.int).getD i (.int 0) = .int (vs.getD i 0) := fun i hi => by simp [List.getD, hi]
  refine ⟨c.cls, c, A, rfl, by rw [hs, e], by rw [Int32.lt_iff_toInt_lt, len_toInt hn]; simp, fun i hi => ?_, fun i hi => ?_⟩
  · rw [hg i (by omega)]
    exact Vec.get q (by simp [List.getD, show i < vs.length by omega])
  · rw [hg i (by omega)]
    exact hf _ (by have : i < vs.length := by omega
                   simp [List.getD, this])
theorem own_ofarv {Z : State} {h : Heap} {b : Addr} {k : ClassId} {ty : FieldType} {z : Int32} {bs : List Int32} (F : Arv Z h b k ty z (bs.map Value.int) (.int 0)) (hz : z.toNatClampNeg = bs.length) : Vec Z h b ty bs := by
  obtain ⟨c, A, -, S, -, H, G⟩ := F
  refine ⟨c, A, ?_, fun v hv => ?_⟩
  · apply List.ext_getElem?
    intro i
    rw [Array.getElem?_toList]
    by_cases hi : i < c.slots.size
    · have hb : i < bs.length := by omega
      rw [H i hi]; simp [List.getD, hb]
    · rw [Array.getElem?_eq_none (by omega), List.getElem?_eq_none (by simp; omega)]
  · obtain ⟨i, hi, rfl⟩ := List.mem_iff_getElem.mp hv
    have := G i (by omega)
    simpa [List.getD, hi] using this
/-- System.arraycopy between two arrays of one primitive kind; sp, dp, nn: the two places and how many -/
theorem Go.arraycopy {idx : Nat} {a b : Addr} {ty : FieldType} {us vs : List Int32} {sp dp nn : Int32} (S D N : Nat) (H : Ok Z K own bytes maxL ret nm) (d : decode bytes pc = .ok (.invokestatic idx, 3)) (hp : pc + 3 = pc') (w1 : Jvm.Cond.methodLink own idx Jvm.Stand.acN ∈ tables_1) (w2 : Jvm.Cond.native Jvm.Stand.acN ∈ tables_1) (w3 : Jvm.Cond.static Jvm.Stand.acN ∈ tables_1) (w4 : Jvm.Cond.initialized "java/lang/System" ∈ tables_1)
    (A : Vec Z h a ty us) (B : Vec Z h b ty vs) (hu : us.length < 2 ^ 31) (hv : vs.length < 2 ^ 31) (hty : refKind ty = false) (hS : sp.toNatClampNeg = S) (hD : dp.toNatClampNeg = D) (hN : nn.toNatClampNeg = N) (h1 : ¬ sp < 0) (h2 : ¬ dp < 0) (h3 : ¬ nn < 0) (h4 : S + N ≤ us.length) (h5 : D + N ≤ vs.length) (ha : n0 ≤ b) (hs : b ∈ sf) (W : Nat) (hsz : ls.size = maxL) (hW : (st.map fun v => v.category).sum ≤ W) (hf : 1 ≤ R.frames) (hlo : W + (nativeFrameWords "java/lang/System" "arraycopy" 5 + 11) ≤ R.locals)
    (r : ∀ h', Keep h h' [b] → Vec Z h' b ty (vs.take D ++ (us.drop S).take N ++ vs.drop (D + N)) → Go l Z n0 R K Q h' sf k j pc' ls st) : Go l Z n0 R K Q h sf k j pc ls (.int nn :: .int dp :: .ref b :: .int sp :: .ref a :: st) := by
  subst hp hS hD hN
  refine Go.ofKeep (b := b) (P := fun h' => Vec Z h' b ty (vs.take dp.toNatClampNeg ++ (us.drop sp.toNatClampNeg).take nn.toNatClampNeg ++ vs.drop (dp.toNatClampNeg + nn.toNatClampNeg))) H ha hs ?_ r
  intro p e s m args below meth c T locs a0 hw X hx hby hml hZ hown eT hF
  obtain ⟨ka, A'⟩ := own_toarv A hu
  obtain ⟨kb, B'⟩ := own_toarv B hv
  have eu : us.length.toInt32.toNatClampNeg = us.length := by rw [Int32.toNatClampNeg, len_toInt hu]; simp
  have ev : vs.length.toInt32.toNatClampNeg = vs.length := by rw [Int32.toNatClampNeg, len_toInt hv]; simp
  have hus : ((us.drop sp.toNatClampNeg).take nn.toNatClampNeg).map Value.int = (List.range nn.toNatClampNeg).map fun i => (us.map Value.int).getD (sp.toNatClampNeg + i) (.int 0) := by
    apply List.ext_getElem
    · simp; omega
    · intro i g1 g2
      simp only [List.length_map, List.length_take, List.length_drop] at g1
      have g3 : sp.toNatClampNeg + i < us.length := by omega
      simp [List.getD, g3]
  obtain ⟨T', h', L, X', eT', hL, hK, V, stp⟩ := cpA X hx hZ hown (hw _ w1) (hw _ w2) (hw _ w3) (hw _ w4) eT A' B' (Or.inl ⟨rfl, hty⟩) h1 h2 h3 (by rw [eu]; exact h4) (by rw [ev]; exact h5) hus (by simpa using h5) hF ha (g := mkF m pc ls (.int nn :: .int dp :: .ref b :: .int sp :: .ref a :: st)) rfl (by rw [hml]; exact hsz) rfl (hb hby d) hf (W := W) (by show 2 * 0 + _ ≤ _; simpa using hW) hlo
  refine ⟨T', h', L, X', eT', hL, hK, own_ofarv (by rw [List.map_append, List.map_append, List.map_take, List.map_drop]; exact V) ?_, stp⟩
  rw [ev]; simp; omega
end Steps2
/-! numbers and strings -/
theorem own_ins {Z : State} {h : Heap} {a : Addr} {C D : String} (W : Wds Z) (F : Exa Z h a C) (w : Jvm.Cond.castable C D ∈ tables_1) : Ins Z h a D true := by
  obtain ⟨a0, hw⟩ := W.w; exact Ins.of_exa F (hw _ w)
theorem own_sne {Z : State} {C O n d O' n' d' : String} {t t' : FieldType} (W : Wds Z) (L : Jvm.Cond.lays C O n d ∈ tables_1 ∨ Jvm.Cond.laysFinal C O n d ∈ tables_1) (L' : Jvm.Cond.lays C O' n' d' ∈ tables_1 ∨ Jvm.Cond.laysFinal C O' n' d' ∈ tables_1) (hn : n ≠ n') (ht : parseFieldDescriptor d = some t) (ht' : parseFieldDescriptor d' = some t') : Jvm.RoadKit.slotOf Z O n d ≠ Jvm.RoadKit.slotOf Z O' n' d' := by
  obtain ⟨a0, hw⟩ := W.w
  exact slot_ne (a0 := a0) (C := C) (L.imp (hw _) (hw _)) (L'.imp (hw _) (hw _)) hn ht ht'
theorem own_len {n : Nat} (h : n < 2 ^ 31) : n.toInt32.toInt = n := len_toInt h
theorem own_lt {i n : Nat} (hn : n < 2 ^ 31) (h : i < n) : i.toInt32 < n.toInt32 := by
  rw [Int32.lt_iff_toInt_lt, own_len hn, own_len (by omega)]; omega
theorem own_nlt {i n : Nat} (hi : i < 2 ^ 31) (h : n ≤ i) : ¬ i.toInt32 < n.toInt32 := by
  rw [Int32.lt_iff_toInt_lt, own_len hi, own_len (by omega)]; omega
theorem own_n0 {i : Nat} (h : i < 2 ^ 31) : ¬ i.toInt32 < 0 := by
  rw [Int32.lt_iff_toInt_lt, own_len h]; simp
theorem own_cl {i : Nat} (h : i < 2 ^ 31) : i.toInt32.toNatClampNeg = i := by
  rw [Int32.toNatClampNeg, own_len h]; simp
theorem own_s (i : Nat) : i.toInt32 + 1 = (i + 1).toInt32 := (Int32.ofNat_add i 1).symm
theorem own_ne0 {n : Nat} (hn : n < 2 ^ 31) (h : 0 < n) : ¬ n.toInt32 = 0 := fun e => by
  have := congrArg Int32.toInt e; rw [own_len hn] at this; simp at this; omega
def isL (c : Int32) : Prop := 0 ≤ c.toInt ∧ c.toInt ≤ 255
def isC (c : Int32) : Prop := 0 ≤ c.toInt ∧ c.toInt ≤ 65535
theorem isL.c {c : Int32} (h : isL c) : isC c := ⟨h.1, by have := h.2; omega⟩
theorem own_char {x : Int32} (h : isC x) : nar .char x = x := Int32.toInt_inj.mp (by have := c_i2c x; obtain ⟨h1, h2⟩ := h; simp only [nar]; omega)
theorem own_isC (x : Int32) : isC (nar .char x) := by have := c_i2c x; simp only [nar]; exact ⟨this.2.1, by omega⟩
theorem own_nn {x : Int32} : nar .char (nar .char x) = nar .char x := own_char (own_isC x)
theorem own_nb {x : Int32} : nar .byte (nar .byte x) = nar .byte x := by
  have h1 := c_i2b x
  have h2 := c_i2b (nar .byte x)
  simp only [nar] at *
  exact Int32.toInt_inj.mp (by omega)
theorem own_back {c : Int32} (h : isL c) : nar .char (nar .byte c &&& 255) = c := by
  have h1 := c_i2b c
  have h2 := c_mask (nar .byte c) 255 8 (by decide) (by decide)
  have h3 := c_i2c (nar .byte c &&& 255)
  obtain ⟨g1, g2⟩ := h
  simp only [nar] at *
  exact Int32.toInt_inj.mp (by omega)
theorem own_le255 {c : Int32} (h : isL c) : ¬ (255 : Int32) < c := by
  rw [Int32.lt_iff_toInt_lt]; have := h.2; simp only [Int32.reduceToInt]; omega
theorem own_cat {f : Value} (h : f.isRef = true) : f.category = 1 := by rcases ref_cases h with rfl | ⟨a, rfl⟩ <;> rfl
theorem own_ext {h h' : Heap} (K : Keep h h' []) : Ext h h' := ⟨K.1, fun a c q => K.2.1 a c q nin0⟩
theorem own_keep {h h' : Heap} {ws : List Addr} (E : Ext h h') : Keep h h' ws := (Keep.refl _ _).ext E
theorem Exa.ltb {Z : State} {h : Heap} {a : Addr} {C : String} (F : Exa Z h a C) : a < h.size := F.lt
/-- a Latin-1 String x whose bytes lie at b -/
def Str (Z : State) (h : Heap) (x b : Addr) (cs : List Int32) : Prop := Exa Z h x "java/lang/String" ∧ Fld Z h x "java/lang/String" "value" "[B" (.ref b) ∧ Fld Z h x "java/lang/String" "coder" "B" (.int 0) ∧ Vec Z h b .byte (cs.map (nar .byte)) ∧ (∀ c ∈ cs, isL c) ∧ cs.length < 2 ^ 31
section StrF
variable {Z : State} {h h' : Heap} {x b : Addr} {cs : List Int32} {ws : List Addr}
theorem Str.lt (F : Str Z h x b cs) : x < h.size := F.1.lt
theorem Str.ltb (F : Str Z h x b cs) : b < h.size := F.2.2.2.1.lt
theorem Str.ext (F : Str Z h x b cs) (E : Ext h h') : Str Z h' x b cs := ⟨F.1.ext E, F.2.1.ext E, F.2.2.1.ext E, F.2.2.2.1.ext E, F.2.2.2.2⟩
theorem Str.keep (F : Str Z h x b cs) (K : Keep h h' ws) (q : x ∉ ws) (q' : b ∉ ws) : Str Z h' x b cs := ⟨F.1.keep K, F.2.1.keep K q, F.2.2.1.keep K q, F.2.2.2.1.keep K q', F.2.2.2.2⟩
end StrF
theorem own_and255 (y : Int32) : isL (nar .char (y &&& 255)) := by
  have h1 := c_and y 255 (by decide)
  have h2 : (255 : Int32).toInt = 255 := by decide
  have h3 : nar .char (y &&& 255) = y &&& 255 := own_char ⟨h1.1, by omega⟩
  rw [h3]; exact ⟨h1.1, by omega⟩
theorem own_an {P : Int32 → Prop} : ∀ c ∈ ([] : List Int32), P c := fun _ q => nomatch q
theorem own_ac {P : Int32 → Prop} {a : Int32} {t : List Int32} (h : P a) (r : ∀ c ∈ t, P c) : ∀ c ∈ a :: t, P c := fun c q => by
  rcases List.mem_cons.mp q with rfl | q
  · exact h
  · exact r c q
theorem own_narR {t : FieldType} {v : Value} (h : v.isRef = true) : narrow t v = v := by rcases ref_cases h with rfl | ⟨a, rfl⟩ <;> cases t <;> rfl
theorem own_fitR {t : FieldType} {v : Value} (h : v.isRef = true) (ht : t.isReference = true) : fits t v = true := by rcases ref_cases h with rfl | ⟨a, rfl⟩ <;> cases t <;> first | rfl | (cases ht)
theorem Fld.det {Z : State} {h : Heap} {a : Addr} {C n d : String} {v w : Value} (F : Fld Z h a C n d v) (G : Fld Z h a C n d w) : v = w := Decidable.byContradiction fun q => (F.ne G q) rfl
theorem Vec.det {Z : State} {h : Heap} {a : Addr} {ty ty' : FieldType} {vs ws : List Int32} (F : Vec Z h a ty vs) (G : Vec Z h a ty' ws) : vs = ws := by
  obtain ⟨c, A, q, -⟩ := F
  obtain ⟨c', A', q', -⟩ := G
  cases A.1.symm.trans A'.1
  have e := q.symm.trans q'
  exact (List.map_inj_right (fun a b e => by cases e; rfl)).mp e
theorem own_inj {c d : Int32} (h : isL c) (g : isL d) (e : nar .byte c = nar .byte d) : c = d := by rw [← own_back h, ← own_back g, e]
theorem own_mapinj : ∀ {cs ds : List Int32}, (∀ c ∈ cs, isL c) → (∀ d ∈ ds, isL d) → cs.map (nar .byte) = ds.map (nar .byte) → cs = ds
  | [], [], _, _, _ => rfl
  | [], _ :: _, _, _, e => by cases e
  | _ :: _, [], _, _, e => by cases e
  | c :: cs, d :: ds, h, g, e => by
    simp only [List.map_cons, List.cons.injEq] at e
    rw [own_inj (h c (by simp)) (g d (by simp)) e.1, own_mapinj (fun c q => h c (by simp [q])) (fun c q => g c (by simp [q])) e.2]
theorem Str.det {Z : State} {h : Heap} {x b b' : Addr} {cs ds : List Int32} (F : Str Z h x b cs) (G : Str Z h x b' ds) : cs = ds := by
  have e := Fld.det F.2.1 G.2.1
  cases e
  exact own_mapinj F.2.2.2.2.1 G.2.2.2.2.1 (F.2.2.2.1.det G.2.2.2.1)
theorem own_ofinj {i n : Nat} (hi : i < 2 ^ 31) (hn : n < 2 ^ 31) (e : i.toInt32 = n.toInt32) : i = n := by
  have := congrArg Int32.toInt e; rw [own_len hi, own_len hn] at this; omega
theorem Go.ldcS {l : Launch} {Z : State} {n0 : Nat} {R : Room} {K : Cx} {Q : Option Value → Heap → List Addr → Prop} {h : Heap} {sf : List Addr} {k j pc pc' : Nat} {ls : Array Slot} {st : List Value} {own : String} {bytes : ByteArray} {maxL : Nat} {ret : Option FieldType} {nm : String} {idx : Nat} {text : String} (cs : List Int32) (zl : Int32) (n : Nat)
    (H : Ok Z K own bytes maxL ret nm) (d : decode bytes pc = .ok (.ldc idx, 2)) (hp : pc + 2 = pc') (w : Jvm.Cond.stringLink own idx text ∈ tables_1) (hm : (own, idx) ∈ consts_1) (ht : (∀ c ∈ text.toList, c.toNat < 256) ∧ text.toList.map (fun c => Value.int (Jvm.Lit.byteI c.toNat.toUInt16)) = (cs.map (nar .byte)).map Value.int) (hL : ∀ c ∈ cs, isL c) (hz : ¬ zl < 0) (hl : zl.toNatClampNeg = cs.length) (hn : 4 * text.toList.length ≤ n) (hbig : n ≤ 536870912) (hc : k + 2 ≤ R.cells) (hsl : j + (n + 4) ≤ R.slots)
    (r : ∀ a b h', Ext h h' → Str Z h' a b cs → (∀ x ∈ sf, x ≠ a ∧ x ≠ b) → Go l Z n0 R K Q h' sf (k + 2) (j + (n + 4)) pc' ls (.ref a :: st)) : Go l Z n0 R K Q h sf k j pc ls st := by
  subst hp
  obtain ⟨p, e, s, m, args, below, meth, c⟩ := K
  intro vm0 k0 T locs X eT hS hk hC hSf hF hO
  obtain ⟨H1, H2, H3, H4, H5, H6, H7, H8, a0, hw, hEL, hat⟩ := H
  have hZ0 : Z.Warmed39 vm0 := State.Warmed39.trans H6 hS.1
  have hown0 : vm0.findClass own = some m.cls := (hS.1.alike.findClass _ _).trans H5
  obtain ⟨a, T', h', k1, b, kc, X', eT', E, hS', hk', hZ', hown', A, Fc, Fv, V, la, lb, hC', -, hne, stp⟩ := ldcCH X H1 hZ0 hown0 (hw _ w) hat eT hS hk hEL hm hC.1 (vs := (cs.map (nar .byte)).map Value.int) (z := zl) ht hz (by simp [hl]) (g := mkF m pc ls st) rfl (hb H2 d) hn hbig hc hsl
  have hS2 := hSf.chr hC'
  have hlen := (back32 hz).2
  obtain ⟨s₂, o, h1, h2⟩ := r a b h' E ⟨A, Fv, Fc, own_ofarv V (by simp [hl]), hL, by omega⟩ (fun x hx => hne x (hS2 x hx).2) T'.vm k1 T' locs X' eT' hS' hk' (hC.trans hC') hS2 hF (hO.ext E)
  exact ⟨s₂, o, stp _ h1, h2⟩
section StepsY
variable {l : Launch} {Z : State} {n0 : Nat} {R : Room} {K : Cx} {Q : Option Value → Heap → List Addr → Prop} {h : Heap} {sf : List Addr} {k j pc pc' : Nat} {ls ls' : Array Slot} {st : List Value} {own : String} {bytes : ByteArray} {maxL : Nat} {ret : Option FieldType} {nm : String}
theorem own_nfs {s : State} {args : Array Value} {C : String} {y y' : MethodName} (hc : y'.cls = y.cls) (w : (Jvm.Cond.selects C y' y').before args s = true) (wi : (Jvm.Cond.instanceMethod y').before args s = true) : NotFace s y := fun r0 h0 => by
  obtain ⟨mk, methM, hnamed, -⟩ := Cond.instanceMethod_spec wi
  obtain ⟨kr, h1, h2⟩ := notFace_of_selects w mk hnamed
  have e1 := findClass_of_methodNamed hnamed
  have e2 := findClass_of_methodNamed h0
  rw [hc] at e1
  have e3 : mk.cls = r0.cls := Option.some.inj (e1.symm.trans e2)
  exact ⟨kr, e3 ▸ h1, h2⟩
theorem own_same {s : State} {args : Array Value} {C : String} {y y' : MethodName} (hc : y'.cls = y.cls) (w : (Jvm.Cond.selects C y' y').before args s = true) (wi : (Jvm.Cond.instanceMethod y').before args s = true) (wy : (Jvm.Cond.instanceMethod y).before args s = true) (hy : y.cls ≠ "java/lang/invoke/MethodHandle" ∧ y.cls ≠ "java/lang/invoke/VarHandle") : (Jvm.Cond.sameMethod y.cls y.cls y.name y.desc).before args s = true := by
  obtain ⟨mk, methM, hnamed, -⟩ := Cond.instanceMethod_spec wy
  have hfound := State.methodFound?_of_named hnamed hy
  have hcl := findClass_of_methodNamed hnamed
  obtain ⟨kr, h1, h2⟩ := own_nfs hc w wi mk hnamed
  have hn' : s.methodNamed? ⟨y.cls, y.name, y.desc⟩ = some mk := hnamed
  simp only [Cond.before, Cond.holds, Cond.value, hcl, hfound, hn', h1]
  simp [h2]
theorem Go.callU {y y' : MethodName} {C' : String} {C : String} {ybytes : ByteArray} {ymaxL : Nat} {yret : Option FieldType} {rm : Room} {Qc : Option Value → Heap → List Addr → Prop} {sfc : List Addr} {rest : List Value} (W : Nat) {idx : Nat} {a : Addr} (argsL : List Value) {ps : List FieldType} {rt : Option FieldType} (H : Ok Z K own bytes maxL ret nm) (d : decode bytes pc = .ok (.invokespecial idx, 3)) (hp : pc + 3 = pc') (E : Exa Z h a C) (hn : y.name ≠ "<init>")
    (hl : Jvm.Cond.methodLink own idx y ∈ tables_1) (hnf : y'.cls = y.cls ∧ Jvm.Cond.selects C' y' y' ∈ tables_1 ∧ Jvm.Cond.instanceMethod y' ∈ tables_1) (hsu : Jvm.Cond.superclass own y.cls ∈ tables_1) (hst : Jvm.Cond.instanceMethod y ∈ tables_1) (hi : Jvm.Cond.initialized y.cls ∈ tables_1) (hc : Jvm.Cond.code y ybytes ymaxL yret ∈ tables_1) (hpd : parseMethodDescriptor y.desc = some ⟨ps, rt⟩)
    (ct : Ctr l Z n0 y ybytes ymaxL yret rm (.ref a :: argsL).toArray h sfc Qc) (hsf : ∀ x ∈ sfc, x ∈ sf) (hlen : argsL.length = ps.length) (hsz : ls.size = maxL) (hstk : st = argsL.reverse ++ .ref a :: rest) (hW : (rest.map fun v => v.category).sum ≤ W)
    (hfr : rm.frames + 1 ≤ R.frames) (hlo : W + (ymaxL + 11) + rm.locals ≤ R.locals) (hce : k + rm.cells ≤ R.cells) (hsl : j + rm.slots ≤ R.slots) (hy : y.cls ≠ "java/lang/invoke/MethodHandle" ∧ y.cls ≠ "java/lang/invoke/VarHandle")
    (r : ∀ (v : Option Value) (h' : Heap) (sn : List Addr), Qc v h' sn → Go l Z n0 R K Q h' (sn ++ sf) (k + rm.cells) (j + rm.slots) pc' ls (v.toList ++ rest)) : Go l Z n0 R K Q h sf k j pc ls st := by
  subst hp
  refine Go.ofCall (W := W) (rest := rest) H ct hsf hc hi hfr hlo hce hsl ?_ r
  intro p e s m args below meth c T locs a0 hw X hx hby hml hZ hown eT Pre Post hB hpre
  obtain ⟨v, vm₁, B, -, X', hS2, hgr, hpost, stp⟩ := Jvm.RoadKit.superBackS X hx hZ (y := y) hown (hw _ hl) (own_same hnf.1 (hw _ hnf.2.1) (hw _ hnf.2.2) (hw _ hst) hy) (hw _ hst) (hw _ hsu) hn hB eT (Ins.self E) (g := mkF m pc ls st) rfl (by rw [hml]; exact hsz) (hw _ hc) (argsL := argsL) (rest := rest) (lenOf hpd hlen) hstk (by show 2 * 0 + _ ≤ _; simpa using hW) (hb hby d) hpre
  exact ⟨v, vm₁, B, X', hS2, hgr, hpost, fun t ht => stp.trans ht⟩
theorem Go.callV2 {y z y' : MethodName} {C C' : String} {ybytes : ByteArray} {ymaxL : Nat} {yret : Option FieldType} {rm : Room} {Qc : Option Value → Heap → List Addr → Prop} {sfc : List Addr} {rest : List Value} (W : Nat) {idx : Nat} {a : Addr} (argsL : List Value) {ps : List FieldType} {rt : Option FieldType} (H : Ok Z K own bytes maxL ret nm) (d : decode bytes pc = .ok (.invokevirtual idx, 3)) (hp : pc + 3 = pc') (E : Exa Z h a C)
    (hl : Jvm.Cond.methodLink own idx y ∈ tables_1) (hde : Jvm.Cond.declares y ∈ tables_1) (hnf : y'.cls = y.cls ∧ Jvm.Cond.selects C' y' y' ∈ tables_1 ∧ Jvm.Cond.instanceMethod y' ∈ tables_1) (hse : Jvm.Cond.selects C y z ∈ tables_1) (hst : Jvm.Cond.instanceMethod z ∈ tables_1) (hi : Jvm.Cond.initialized z.cls ∈ tables_1) (hc : Jvm.Cond.code z ybytes ymaxL yret ∈ tables_1) (hpd : parseMethodDescriptor y.desc = some ⟨ps, rt⟩)
    (ct : Ctr l Z n0 z ybytes ymaxL yret rm (.ref a :: argsL).toArray h sfc Qc) (hsf : ∀ x ∈ sfc, x ∈ sf) (hlen : argsL.length = ps.length) (hsz : ls.size = maxL) (hstk : st = argsL.reverse ++ .ref a :: rest) (hW : (rest.map fun v => v.category).sum ≤ W)
    (hfr : rm.frames + 1 ≤ R.frames) (hlo : W + (ymaxL + 11) + rm.locals ≤ R.locals) (hce : k + rm.cells ≤ R.cells) (hsl : j + rm.slots ≤ R.slots) (hy : y.cls ≠ "java/lang/invoke/MethodHandle" ∧ y.cls ≠ "java/lang/invoke/VarHandle")
    (r : ∀ (v : Option Value) (h' : Heap) (sn : List Addr), Qc v h' sn → Go l Z n0 R K Q h' (sn ++ sf) (k + rm.cells) (j + rm.slots) pc' ls (v.toList ++ rest)) : Go l Z n0 R K Q h sf k j pc ls st := by
  subst hp
  refine Go.ofCall (W := W) (rest := rest) H ct hsf hc hi hfr hlo hce hsl ?_ r
  intro p e s m args below meth c T locs a0 hw X hx hby hml hZ hown eT Pre Post hB hpre
  obtain ⟨cq, kq, qa, qb, qc⟩ := isOf hZ eT E
  obtain ⟨v, vm₁, B, -, X', hS2, hgr, hpost, stp⟩ := X.virtualBackS hx (y := y) (z := z) hown (mvT hZ (hw _ hl)) (mvT hZ (hw _ hde)) (own_nfs (args := #[]) hnf.1 (mvT hZ (hw _ hnf.2.1)) (mvT hZ (hw _ hnf.2.2))) (mvT hZ (hw _ hse)) (mvT hZ (hw _ hst)) hy hB qa qc (g := mkF m pc ls st) rfl (by rw [hml]; exact hsz) (Steps.refl _) (argsL := argsL) (rest := rest) (lenOf hpd hlen) hstk (by show 2 * 0 + _ ≤ _; simpa using hW) (hb hby d) hpre
  exact ⟨v, vm₁, B, X', hS2, hgr, hpost, fun t ht => stp.trans ht⟩
theorem Go.callP {y : MethodName} {C : String} {ybytes : ByteArray} {ymaxL : Nat} {yret : Option FieldType} {rm : Room} {Qc : Option Value → Heap → List Addr → Prop} {sfc : List Addr} {rest : List Value} (W : Nat) {idx : Nat} {a : Addr} (argsL : List Value) {ps : List FieldType} {rt : Option FieldType} (H : Ok Z K own bytes maxL ret nm) (d : decode bytes pc = .ok (.invokevirtual idx, 3)) (hp : pc + 3 = pc') (E : Exa Z h a C)
    (hl : Jvm.Cond.methodLink own idx y ∈ tables_1) (hpr : Jvm.Cond.privateMethod y ∈ tables_1) (hse : Jvm.Cond.selects C y y ∈ tables_1) (hst : Jvm.Cond.instanceMethod y ∈ tables_1) (hi : Jvm.Cond.initialized y.cls ∈ tables_1) (hc : Jvm.Cond.code y ybytes ymaxL yret ∈ tables_1) (hpd : parseMethodDescriptor y.desc = some ⟨ps, rt⟩)
    (ct : Ctr l Z n0 y ybytes ymaxL yret rm (.ref a :: argsL).toArray h sfc Qc) (hsf : ∀ x ∈ sfc, x ∈ sf) (hlen : argsL.length = ps.length) (hsz : ls.size = maxL) (hstk : st = argsL.reverse ++ .ref a :: rest) (hW : (rest.map fun v => v.category).sum ≤ W)
    (hfr : rm.frames + 1 ≤ R.frames) (hlo : W + (ymaxL + 11) + rm.locals ≤ R.locals) (hce : k + rm.cells ≤ R.cells) (hsl : j + rm.slots ≤ R.slots) (hy : y.cls ≠ "java/lang/invoke/MethodHandle" ∧ y.cls ≠ "java/lang/invoke/VarHandle")
    (r : ∀ (v : Option Value) (h' : Heap) (sn : List Addr), Qc v h' sn → Go l Z n0 R K Q h' (sn ++ sf) (k + rm.cells) (j + rm.slots) pc' ls (v.toList ++ rest)) : Go l Z n0 R K Q h sf k j pc ls st := by
  subst hp
  refine Go.ofCall (W := W) (rest := rest) H ct hsf hc hi hfr hlo hce hsl ?_ r
  intro p e s m args below meth c T locs a0 hw X hx hby hml hZ hown eT Pre Post hB hpre
  obtain ⟨cell, kq, q1, q2, q3, q4, -⟩ := E
  have hin : (Jvm.Cond.instanceMethod y).before args s = true := mvT hZ (hw _ hst)
  have hP : s.PrivateAt y := Cond.privateMethod_at (mvP (args := args) hZ (hw _ hpr))
  obtain ⟨mk, methM, hnamed, -⟩ := Cond.instanceMethod_spec hin
  obtain ⟨kr, n1, n2⟩ := notFace_of_selects (args := args) (mvT hZ (hw _ hse)) mk hnamed
  have hsel : (Jvm.Cond.selects y.cls y y).before args s = true := Jvm.Stand.selects_self_of_private (findClass_of_methodNamed hnamed) n1 n2 hP hin hy
  obtain ⟨v, vm₁, B, -, X', hS2, hgr, hpost, stp⟩ := X.privateBackS hx (y := y) hown (mvT hZ (hw _ hl)) hin hsel hP (mvT hZ (hw _ hc)) hy hB (g := mkF m pc ls st) rfl (by rw [hml]; exact hsz) (Steps.refl _) (a := a) (by rw [eT]; exact q1) (fun q e => by rw [e] at q4; cases q4) (argsL := argsL) (rest := rest) (lenOf hpd hlen) hstk (by show 2 * 0 + _ ≤ _; simpa using hW) (hb hby d) hpre
  exact ⟨v, vm₁, B, X', hS2, hgr, hpost, fun t ht => stp.trans ht⟩
end StepsY
def Sx0 (Z : State) (z : Int32) (f : Value) : Prop := Wds Z ∧ ¬ z = 0 ∧ Sta Z Z.heap "java/lang/String" "COMPACT_STRINGS" "Z" (.int z) ∧ f.isRef = true ∧ Sta Z Z.heap "jdk/internal/util/Preconditions" "SIOOBE_FORMATTER" "Ljava/util/function/BiFunction;" f
def Sx (Z : State) (z : Int32) (f : Value) : Prop := Sx0 Z z f ∧ Sta Z Z.heap "java/lang/StringUTF16" "$assertionsDisabled" "Z" (.int 1) ∧ Sta Z Z.heap "java/lang/StringUTF16" "HI_BYTE_SHIFT" "I" (.int 0) ∧ Sta Z Z.heap "java/lang/StringUTF16" "LO_BYTE_SHIFT" "I" (.int 8)
/-! UTF-16 strings -/
def enc16 : List Int32 → List Int32
  | [] => []
  | c :: t => nar .byte (c >>> ((0 : Int32) &&& 31)) :: nar .byte (c >>> ((8 : Int32) &&& 31)) :: enc16 t
theorem enc16_len : ∀ cs : List Int32, (enc16 cs).length = 2 * cs.length
  | [] => rfl
  | c :: t => by simp only [enc16, List.length_cons, enc16_len t]; omega
theorem enc16_app : ∀ a b : List Int32, enc16 (a ++ b) = enc16 a ++ enc16 b
  | [], b => rfl
  | c :: t, b => by simp only [enc16, List.cons_append, enc16_app t b]
theorem enc16_0 : ∀ {cs : List Int32} {i : Nat} {c : Int32}, cs[i]? = some c → (enc16 cs)[2 * i]? = some (nar .byte (c >>> ((0 : Int32) &&& 31)))
  | [], _, _, h => by simp at h
  | d :: t, 0, c, h => by cases h; rfl
  | d :: t, i + 1, c, h => by
    have q := enc16_0 (cs := t) (i := i) (c := c) (by simpa using h)
    rw [show 2 * (i + 1) = 2 * i + 1 + 1 from by omega]; simpa [enc16] using q
theorem enc16_1 : ∀ {cs : List Int32} {i : Nat} {c : Int32}, cs[i]? = some c → (enc16 cs)[2 * i + 1]? = some (nar .byte (c >>> ((8 : Int32) &&& 31)))
  | [], _, _, h => by simp at h
  | d :: t, 0, c, h => by cases h; rfl
  | d :: t, i + 1, c, h => by
    have q := enc16_1 (cs := t) (i := i) (c := c) (by simpa using h)
    rw [show 2 * (i + 1) + 1 = 2 * i + 1 + 1 + 1 from by omega]; simpa [enc16] using q
theorem own_fill16 {cs : List Int32} {i m : Nat} {c : Int32} (hc : cs[i]? = some c) : ((enc16 (cs.take i) ++ List.replicate (2 * (m + 1)) 0).set (2 * i) (nar .byte (c >>> ((0 : Int32) &&& 31)))).set (2 * i + 1) (nar .byte (c >>> ((8 : Int32) &&& 31))) = enc16 (cs.take (i + 1)) ++ List.replicate (2 * m) 0 := by
  have hl : i < cs.length := (List.getElem?_eq_some_iff.mp hc).1
  have h1 : (enc16 (cs.take i)).length = 2 * i := by rw [enc16_len, List.length_take]; omega
  rw [show 2 * (m + 1) = 2 * m + 1 + 1 from by omega, List.replicate_succ, List.replicate_succ, List.set_append_right _ _ (by omega), h1, Nat.sub_self, List.set_cons_zero, List.set_append_right _ _ (by omega), h1, show 2 * i + 1 - 2 * i = 1 from by omega, List.set_cons_succ, List.set_cons_zero, List.take_add_one, hc, enc16_app]
  simp [enc16]
theorem own_shl1 {n : Nat} (hn : n < 2 ^ 30) : n.toInt32 <<< ((1 : Int32) &&& 31) = (2 * n).toInt32 := by
  have h := c_ishl n.toInt32 1 1 (by decide)
  have h2 := rng32 (n.toInt32 <<< ((1 : Int32) &&& 31))
  apply Int32.toInt_inj.mp
  rw [own_len (by omega)]
  rw [own_len (by omega)] at h
  omega
theorem own_ul {n : Nat} (hn : n < 2 ^ 30) : (2 * n).toInt32 >>> ((1 : Int32) &&& 31) = n.toInt32 := by
  apply Int32.toInt_inj.mp
  rw [c_ishr (2 * n).toInt32 1 1 (by decide), own_len (by omega), own_len (by omega)]
  omega
theorem own_back16 {c : Int32} (h : isC c) : nar .char (((nar .byte (c >>> ((0 : Int32) &&& 31)) &&& (255 : Int32)) <<< ((0 : Int32) &&& 31)) ||| ((nar .byte (c >>> ((8 : Int32) &&& 31)) &&& (255 : Int32)) <<< ((8 : Int32) &&& 31))) = c := by
  have a1 := c_ishr c 0 0 (by decide)
  have a2 := c_ishr c 8 8 (by decide)
  have b1 := c_i2b (c >>> ((0 : Int32) &&& 31))
  have b2 := c_i2b (c >>> ((8 : Int32) &&& 31))
  simp only [nar]
  generalize (c >>> ((0 : Int32) &&& 31)).toInt8.toInt32 = p at *
  generalize (c >>> ((8 : Int32) &&& 31)).toInt8.toInt32 = q at *
  have m1 := c_mask p 255 8 (by decide) (by decide)
  have m2 := c_mask q 255 8 (by decide) (by decide)
  generalize p &&& (255 : Int32) = p' at *
  generalize q &&& (255 : Int32) = q' at *
  have s1 := c_ishl p' 0 0 (by decide)
  have s2 := c_ishl q' 8 8 (by decide)
  have r1 := rng32 (p' <<< ((0 : Int32) &&& 31))
  have r2 := rng32 (q' <<< ((8 : Int32) &&& 31))
  generalize p' <<< ((0 : Int32) &&& 31) = p2 at *
  generalize q' <<< ((8 : Int32) &&& 31) = q2 at *
  obtain ⟨h1, h2⟩ := h
  have o := c_or' p2 q2 8 (by decide) 256 (by decide) (by omega) (by omega) (by omega)
  have r3 := rng32 (p2 ||| q2)
  generalize p2 ||| q2 = w at *
  have f := c_i2c w
  exact Int32.toInt_inj.mp (by omega)
theorem own_ltk {n : Nat} (h : n < 1073741823) : n.toInt32 < (1073741823 : Int32) := by
  rw [Int32.lt_iff_toInt_lt, own_len (by omega)]; simp only [Int32.reduceToInt]; omega
theorem own_codU {n : Nat} (hp : 0 < n) (hn : n < 2 ^ 30) : nar .byte (((n.toInt32 - (2 * n).toInt32).toUInt32 >>> ((31 : Int32) &&& 31).toUInt32).toInt32) = 1 := by
  have h := c_iushr (n.toInt32 - (2 * n).toInt32) 31 31 (by decide) (by decide)
  rw [Int32.toInt_sub, own_len (by omega), own_len (by omega), Int.bmod_eq_of_le (by omega) (by omega)] at h
  have e : ((n.toInt32 - (2 * n).toInt32).toUInt32 >>> ((31 : Int32) &&& 31).toUInt32).toInt32 = 1 := Int32.toInt_inj.mp (by rw [h]; simp only [Int32.reduceToInt]; omega)
  rw [e]; decide
theorem own_gt255 {c : Int32} (h : (255 : Int32) < c) : ¬ isL c := fun q => by
  rw [Int32.lt_iff_toInt_lt] at h; have := q.2; simp only [Int32.reduceToInt] at h; omega
theorem own_isL {c : Int32} (hC : isC c) (h : ¬ (255 : Int32) < c) : isL c := by
  rw [Int32.lt_iff_toInt_lt] at h; simp only [Int32.reduceToInt] at h; exact ⟨hC.1, by omega⟩
theorem own_nL {c : Int32} (hC : isC c) (h : ¬ isL c) : (255 : Int32) < c := Decidable.byContradiction fun q => h (own_isL hC q)
theorem own_takeL {cs : List Int32} {i : Nat} {c : Int32} (hc : cs[i]? = some c) (h : ∀ c ∈ cs.take i, isL c) (g : isL c) : ∀ c ∈ cs.take (i + 1), isL c := by
  rw [List.take_add_one, hc]; intro d q; rcases List.mem_append.mp q with q | q
  · exact h d q
  · simp at q; exact q ▸ g
/-- a UTF-16 String x whose bytes lie at b -/
def StrU (Z : State) (h : Heap) (x b : Addr) (cs : List Int32) : Prop := Exa Z h x "java/lang/String" ∧ Fld Z h x "java/lang/String" "value" "[B" (.ref b) ∧ Fld Z h x "java/lang/String" "coder" "B" (.int 1) ∧ Vec Z h b .byte (enc16 cs) ∧ (∀ c ∈ cs, isC c) ∧ cs.length < 2 ^ 30 ∧ ∃ c ∈ cs, ¬ isL c
/-- a String x, by either coder -/
def Stg (Z : State) (h : Heap) (x b : Addr) (cs : List Int32) : Prop := Str Z h x b cs ∨ StrU Z h x b cs
section StrG
variable {Z : State} {h h' : Heap} {x b : Addr} {cs : List Int32} {ws : List Addr}
theorem StrU.lt (F : StrU Z h x b cs) : x < h.size := F.1.lt
theorem StrU.ltb (F : StrU Z h x b cs) : b < h.size := F.2.2.2.1.lt
theorem StrU.ext (F : StrU Z h x b cs) (E : Ext h h') : StrU Z h' x b cs := ⟨F.1.ext E, F.2.1.ext E, F.2.2.1.ext E, F.2.2.2.1.ext E, F.2.2.2.2⟩
theorem StrU.keep (F : StrU Z h x b cs) (K : Keep h h' ws) (q : x ∉ ws) (q' : b ∉ ws) : StrU Z h' x b cs := ⟨F.1.keep K, F.2.1.keep K q, F.2.2.1.keep K q, F.2.2.2.1.keep K q', F.2.2.2.2⟩
theorem Stg.exa (F : Stg Z h x b cs) : Exa Z h x "java/lang/String" := F.elim (fun q => q.1) (fun q => q.1)
theorem Stg.lt (F : Stg Z h x b cs) : x < h.size := F.exa.lt
theorem Stg.ltb (F : Stg Z h x b cs) : b < h.size := F.elim (fun q => q.ltb) (fun q => q.ltb)
theorem Stg.ext (F : Stg Z h x b cs) (E : Ext h h') : Stg Z h' x b cs := F.imp (fun q => q.ext E) (fun q => q.ext E)
theorem Stg.keep (F : Stg Z h x b cs) (K : Keep h h' ws) (q : x ∉ ws) (q' : b ∉ ws) : Stg Z h' x b cs := F.imp (fun w => w.keep K q q') (fun w => w.keep K q q')
theorem Stg.isC (F : Stg Z h x b cs) : ∀ c ∈ cs, isC c := F.elim (fun q c m => (q.2.2.2.2.1 c m).c) (fun q => q.2.2.2.2.1)
end StrG
def CmpQ (Z : State) (d : Addr) (cs : List Int32) (h : Heap) (v : Option Value) (h' : Heap) (sn : List Addr) : Prop := ∃ r : Int32, v = some (.int r) ∧ Keep h h' [d] ∧ ((r = cs.length.toInt32 ∧ (∀ c ∈ cs, isL c) ∧ Vec Z h' d .byte (cs.map (nar .byte))) ∨ ∃ (i : Nat) (c : Int32), r = i.toInt32 ∧ cs[i]? = some c ∧ ¬ isL c) ∧ sn = []
theorem own_full {Z : State} {h : Heap} {d : Addr} {cs : List Int32} {i : Nat} (e : i = cs.length) (F : Vec Z h d .byte ((cs.take i).map (nar .byte) ++ List.replicate 0 0)) : Vec Z h d .byte (cs.map (nar .byte)) := by
  subst e; simpa using F
theorem own_fill {cs : List Int32} {g : Int32 → Int32} {i m : Nat} {c : Int32} (hc : cs[i]? = some c) : ((cs.take i).map g ++ List.replicate (m + 1) 0).set i (g c) = (cs.take (i + 1)).map g ++ List.replicate m 0 := by
  have hl : i < cs.length := (List.getElem?_eq_some_iff.mp hc).1
  have h1 : ((cs.take i).map g).length = i := by simp; omega
  rw [List.set_append_right _ _ (by omega), h1, Nat.sub_self, List.replicate_succ, List.set_cons_zero, List.take_add_one, hc]; simp
theorem own_allT {cs : List Int32} {i : Nat} (e : i = cs.length) (h : ∀ c ∈ cs.take i, isL c) : ∀ c ∈ cs, isL c := by
  subst e; simpa using h
theorem own_full16 {Z : State} {h : Heap} {d : Addr} {cs : List Int32} {i : Nat} (e : i = cs.length) (F : Vec Z h d .byte (enc16 (cs.take i) ++ List.replicate (2 * 0) 0)) : Vec Z h d .byte (enc16 cs) := by
  subst e; simpa using F
theorem own_cod (x : Int32) : nar .byte (((x - x).toUInt32 >>> ((31 : Int32) &&& 31).toUInt32).toInt32) = 0 := by rw [Int32.sub_self]; decide
theorem own_shr0 (x : Int32) : x >>> ((0 : Int32) &&& 31) = x := Int32.toInt_inj.mp (by rw [c_ishr x 0 0 (by decide)]; simp)
theorem own_ltn {i : Int32} {n ni : Nat} (h0 : ¬ i < 0) (hi : i.toNatClampNeg = ni) (hn : n < 2 ^ 31) (h : ni < n) : i < n.toInt32 := by
  rw [Int32.lt_iff_toInt_lt] at h0 ⊢; rw [own_len hn]; simp only [Int32.toNatClampNeg] at hi; simp only [Int32.reduceToInt] at h0; omega
theorem own_oflt {i : Int32} {ni : Nat} (h0 : ¬ i < 0) (hi : i.toNatClampNeg = ni) : i = ni.toInt32 ∧ ni < 2 ^ 31 := by
  have r := rng32 i
  rw [Int32.lt_iff_toInt_lt] at h0; simp only [Int32.toNatClampNeg] at hi; simp only [Int32.reduceToInt] at h0
  have h2 : ni < 2 ^ 31 := by omega
  exact ⟨Int32.toInt_inj.mp (by rw [own_len h2]; omega), h2⟩
theorem own_getm {cs : List Int32} {ni : Nat} {c : Int32} (hc : cs[ni]? = some c) : (cs.map (nar .byte))[ni]? = some (nar .byte c) := by rw [List.getElem?_map, hc]; rfl
theorem own_lenlt {cs : List Int32} {i : Nat} {c : Int32} (hc : cs[i]? = some c) : i < cs.length := (List.getElem?_eq_some_iff.mp hc).1
theorem own_chpos {cs : List Int32} (h : ∃ c ∈ cs, ¬ isL c) : cs ≠ [] := fun e => by subst e; obtain ⟨c, q, -⟩ := h; cases q
theorem Stg.neO {Z : State} {h : Heap} {x b y : Addr} {kk : Nat} {cs : List Int32} {C : String} (S : Stg Z h x b cs) (A : Exa Z h y C) (W : Wds Z) (wi : Jvm.Cond.instantiable C kk ∈ tables_1) : b ≠ y := by
  rcases S with S | S <;> exact Vec.neExa S.2.2.2.1 A W wi

theorem w5 : Jvm.Cond.instantiable "java/lang/String" (4 : Nat) ∈ tables_1 := List.mem_of_getElem? (i := 5) rfl
theorem d7_3 : decode jdk_52_method_21_code 3 = .ok (.iload 5, 2) := by decide +kernel
theorem d7_5 : decode jdk_52_method_21_code 5 = .ok (.iload 4, 2) := by decide +kernel
theorem d7_7 : decode jdk_52_method_21_code 7 = .ok (.if_icmp .ge 37, 3) := by decide +kernel
theorem d7_44 : decode jdk_52_method_21_code 44 = .ok (.iload 4, 2) := by decide +kernel
theorem d7_46 : decode jdk_52_method_21_code 46 = .ok (.ireturn, 1) := by decide +kernel
theorem d7_10 : decode jdk_52_method_21_code 10 = .ok (.aload_n 0, 1) := by decide +kernel
theorem d7_11 : decode jdk_52_method_21_code 11 = .ok (.iload_n 1, 1) := by decide +kernel
theorem d7_12 : decode jdk_52_method_21_code 12 = .ok (.caload, 1) := by decide +kernel
theorem d7_13 : decode jdk_52_method_21_code 13 = .ok (.istore 6, 2) := by decide +kernel
theorem d7_15 : decode jdk_52_method_21_code 15 = .ok (.iload 6, 2) := by decide +kernel
theorem d7_17 : decode jdk_52_method_21_code 17 = .ok (.sipush 255, 3) := by decide +kernel
theorem d7_20 : decode jdk_52_method_21_code 20 = .ok (.if_icmp .le 6, 3) := by decide +kernel
theorem d7_23 : decode jdk_52_method_21_code 23 = .ok (.iload 5, 2) := by decide +kernel
theorem d7_25 : decode jdk_52_method_21_code 25 = .ok (.ireturn, 1) := by decide +kernel
theorem d7_26 : decode jdk_52_method_21_code 26 = .ok (.aload_n 2, 1) := by decide +kernel
theorem d7_27 : decode jdk_52_method_21_code 27 = .ok (.iload_n 3, 1) := by decide +kernel
theorem d7_28 : decode jdk_52_method_21_code 28 = .ok (.iload 6, 2) := by decide +kernel
theorem d7_30 : decode jdk_52_method_21_code 30 = .ok (.i2b, 1) := by decide +kernel
theorem d7_31 : decode jdk_52_method_21_code 31 = .ok (.bastore, 1) := by decide +kernel
theorem d7_32 : decode jdk_52_method_21_code 32 = .ok (.iinc 1 1, 3) := by decide +kernel
theorem d7_35 : decode jdk_52_method_21_code 35 = .ok (.iinc 3 1, 3) := by decide +kernel
theorem d7_38 : decode jdk_52_method_21_code 38 = .ok (.iinc 5 1, 3) := by decide +kernel
theorem d7_41 : decode jdk_52_method_21_code 41 = .ok (.goto (-38), 3) := by decide +kernel

set_option maxRecDepth 65536 in
theorem lp_cmp5 (l : Launch) {Z : State} {n0 : Nat} (a d : Addr) (cs : List Int32) (h0 : Heap) (hC : ∀ c ∈ cs, isC c) (hn : cs.length < 2 ^ 31) (zd : n0 ≤ d) (hne : a ≠ d) {R : Room} {K : Cx} (H : Ok Z K "java/lang/StringUTF16" jdk_52_method_21_code 7 (some .int) "compress") :
    ∀ (m i : Nat), i + m = cs.length → ∀ (h : Heap) (s6 : Slot), One s6 → Vec Z h a .char cs → Vec Z h d .byte ((cs.take i).map (nar .byte) ++ List.replicate m 0) → Keep h0 h [d] → (∀ c ∈ cs.take i, isL c) →
      Go l Z n0 R K (CmpQ Z d cs h0) h [d] 0 0 3 #[.val (.ref a), .val (.int i.toInt32), .val (.ref d), .val (.int i.toInt32), .val (.int cs.length.toInt32), .val (.int i.toInt32), s6] [] := by
  intro m
  induction m with
  | zero =>
    intro i hi h s6 h6 Fa Fd KK hT
    refine Go.iload H d7_3 rfl rfl ?_
    refine Go.iload H d7_5 rfl rfl ?_
    refine Go.icmpY (pc' := 44) H d7_7 (flt (own_nlt (by omega) (by omega))).2.1 (by decide) (by decide) ?_
    refine Go.iload H d7_44 rfl rfl ?_
    exact Go.ireturnI [] H d7_46 ⟨_, rfl, KK, Or.inl ⟨rfl, own_allT (by omega) hT, own_full (by omega) Fd⟩, rfl⟩ all0 (Nat.zero_le _) (Nat.zero_le _)
  | succ m ih =>
    intro i hi h s6 h6 Fa Fd KK hT
    have hlt : i < cs.length := by omega
    obtain ⟨c, hc⟩ : ∃ c, cs[i]? = some c := ⟨_, List.getElem?_eq_getElem hlt⟩
    have hCc : isC c := hC c (List.mem_of_getElem? hc)
    refine Go.iload H d7_3 rfl rfl ?_
    refine Go.iload H d7_5 rfl rfl ?_
    refine Go.icmpN H d7_7 (tlt (own_lt hn hlt)).2.1 rfl ?_
    refine Go.aloadN H d7_10 rfl rfl rfl ?_
    refine Go.iloadN H d7_11 rfl rfl ?_
    refine Go.caload (v := c) H d7_12 rfl Fa i (own_cl (by omega)) (own_n0 (by omega)) hc ?_
    refine Go.istore (ls' := #[.val (.ref a), .val (.int i.toInt32), .val (.ref d), .val (.int i.toInt32), .val (.int cs.length.toInt32), .val (.int i.toInt32), .val (.int c)]) H d7_13 rfl (XS.store1 rfl h6 rfl) ?_
    refine Go.iload H d7_15 rfl rfl ?_
    refine Go.sipush (255 : Int32) H d7_17 rfl rfl ?_
    by_cases c1 : (255 : Int32) < c
    ·
      refine Go.icmpN H d7_20 (tlt c1).2.2.2 rfl ?_
      refine Go.iload H d7_23 rfl rfl ?_
      exact Go.ireturnI [] H d7_25 ⟨_, rfl, KK, Or.inr ⟨i, c, rfl, hc, own_gt255 c1⟩, rfl⟩ all0 (Nat.zero_le _) (Nat.zero_le _)
    ·
      refine Go.icmpY (pc' := 26) H d7_20 (flt c1).2.2.2 (by decide) (by decide) ?_
      refine Go.aloadN H d7_26 rfl rfl rfl ?_
      refine Go.iloadN H d7_27 rfl rfl ?_
      refine Go.iload H d7_28 rfl rfl ?_
      refine Go.i2b H d7_30 rfl ?_
      refine Go.bastore (nar .byte c) H d7_31 rfl Fd i (own_cl (by omega)) (own_n0 (by omega)) (by simp; omega) own_nb zd (by simp) ?_
      intro h2 K3 F4
      replace Fa := Fa.keep K3 (ninS hne nin0)
      replace KK := KK.trans K3 (allS (Or.inl (by simp)) all0)
      refine Go.iinc (ls' := #[.val (.ref a), .val (.int (i.toInt32 + (1 : Int32))), .val (.ref d), .val (.int i.toInt32), .val (.int cs.length.toInt32), .val (.int i.toInt32), .val (.int c)]) (1 : Int32) H d7_32 rfl rfl rfl rfl ?_
      refine Go.iinc (ls' := #[.val (.ref a), .val (.int (i.toInt32 + (1 : Int32))), .val (.ref d), .val (.int (i.toInt32 + (1 : Int32))), .val (.int cs.length.toInt32), .val (.int i.toInt32), .val (.int c)]) (1 : Int32) H d7_35 rfl rfl rfl rfl ?_
      refine Go.iinc (ls' := #[.val (.ref a), .val (.int (i.toInt32 + (1 : Int32))), .val (.ref d), .val (.int (i.toInt32 + (1 : Int32))), .val (.int cs.length.toInt32), .val (.int (i.toInt32 + (1 : Int32))), .val (.int c)]) (1 : Int32) H d7_38 rfl rfl rfl rfl ?_
      refine Go.goto (pc' := 3) H d7_41 (by decide) (by decide) ?_
      rw [own_fill hc] at F4
      rw [own_s i]
      exact ih (i + 1) (by omega) _ _ (One.val rfl) Fa F4 KK (own_takeL hc hT (own_isL hCc c1))
theorem d7_0 : decode jdk_52_method_21_code 0 = .ok (.iconst 0, 1) := by decide +kernel
theorem d7_1 : decode jdk_52_method_21_code 1 = .ok (.istore 5, 2) := by decide +kernel
abbrev N0 : MethodName := ⟨"java/lang/StringUTF16", "compress", "([CI[BII)I"⟩
theorem pn_N0 : plainName N0.cls = true := by first | (simp [plainName, overriddenIn]; done) | decide +kernel

abbrev rm_cmp5 : Room := { frames := 0, cells := 0, slots := 0, locals := 0 }
set_option maxRecDepth 65536 in
set_option maxHeartbeats 4000000 in
theorem ct_cmp5 (l : Launch) {Z : State} {n0 : Nat} {z : Int32} {f : Value} (W : Sx Z z f) (a d : Addr) (cs : List Int32) (h : Heap) (Fa : Vec Z h a .char cs) (Fd : Vec Z h d .byte (List.replicate cs.length 0)) (hC : ∀ c ∈ cs, isC c) (hn : cs.length < 2 ^ 31) (zd : n0 ≤ d) (hne : a ≠ d) :
    Ctr l Z n0 N0 jdk_52_method_21_code 7 (some .int) rm_cmp5 #[(.ref a), (.int (0 : Int32)), (.ref d), (.int (0 : Int32)), (.int cs.length.toInt32)] h [d] (fun v h' sn => CmpQ Z d cs h v h' sn) := by
  refine Ctr.of_go (ls := #[.val (.ref a), .val (.int (0 : Int32)), .val (.ref d), .val (.int (0 : Int32)), .val (.int cs.length.toInt32), .unset, .unset]) W.1.1 (plainFor_of_name pn_N0) (fun m => by first | (simp [entryFrame, mkF, argsToLocals, Value.category]; done) | rfl) (fun K H => ?_)
  refine Go.iconst (0 : Int32) H d7_0 rfl rfl ?_
  refine Go.istore (ls' := #[.val (.ref a), .val (.int (0 : Int32)), .val (.ref d), .val (.int (0 : Int32)), .val (.int cs.length.toInt32), .val (.int (0 : Int32)), .unset]) H d7_1 rfl rfl ?_
  exact lp_cmp5 l a d cs h hC hn zd hne H cs.length 0 (by omega) h _ One.u Fa (by simpa using Fd) (Keep.refl _ _) (by simp)
theorem d40_0 : decode jdk_52_method_3_code 0 = .ok (.iload_n 0, 1) := by decide +kernel
theorem d40_1 : decode jdk_52_method_3_code 1 = .ok (.ifCond .ge 11, 3) := by decide +kernel
theorem d40_12 : decode jdk_52_method_3_code 12 = .ok (.iload_n 0, 1) := by decide +kernel
theorem d40_13 : decode jdk_52_method_3_code 13 = .ok (.ldc 20, 2) := by decide +kernel
theorem w204 : Jvm.Cond.constant "java/lang/StringUTF16" (20 : Nat) (1073741823 : Int32) ∈ tables_1 := List.mem_of_getElem? (i := 204) rfl
theorem d40_15 : decode jdk_52_method_3_code 15 = .ok (.if_icmp .lt 40, 3) := by decide +kernel
theorem d40_55 : decode jdk_52_method_3_code 55 = .ok (.iload_n 0, 1) := by decide +kernel
theorem d40_56 : decode jdk_52_method_3_code 56 = .ok (.iconst 1, 1) := by decide +kernel
theorem d40_57 : decode jdk_52_method_3_code 57 = .ok (.ishl, 1) := by decide +kernel
theorem d40_58 : decode jdk_52_method_3_code 58 = .ok (.ireturn, 1) := by decide +kernel
abbrev N1 : MethodName := ⟨"java/lang/StringUTF16", "newBytesLength", "(I)I"⟩

abbrev rm_nbl : Room := { frames := 0, cells := 0, slots := 0, locals := 0 }
set_option maxRecDepth 65536 in
set_option maxHeartbeats 4000000 in
theorem ct_nbl (l : Launch) {Z : State} {n0 : Nat} {z : Int32} {f : Value} (W : Sx Z z f) (n : Nat) (h : Heap) (hn : n < 1073741823) :
    Ctr l Z n0 N1 jdk_52_method_3_code 1 (some .int) rm_nbl #[(.int n.toInt32)] h [] (fun v h' sn => v = some (.int (2 * n).toInt32) ∧ h = h' ∧ sn = []) := by
  refine Ctr.of_go (ls := #[.val (.int n.toInt32)]) W.1.1 (plainFor_of_name pn_N0) (fun m => by first | (simp [entryFrame, mkF, argsToLocals, Value.category]; done) | rfl) (fun K H => ?_)
  refine Go.iloadN H d40_0 rfl rfl ?_
  refine Go.ifY (pc' := 12) H d40_1 (flt (own_n0 (by omega))).2.1 (by decide) (by decide) ?_
  refine Go.iloadN H d40_12 rfl rfl ?_
  refine Go.ldcInt H d40_13 rfl w204 ?_
  refine Go.icmpY (pc' := 55) H d40_15 (tlt (own_ltk hn)).1 (by decide) (by decide) ?_
  refine Go.iloadN H d40_55 rfl rfl ?_
  refine Go.iconst (1 : Int32) H d40_56 rfl rfl ?_
  refine Go.ishl H d40_57 rfl ?_
  exact Go.ireturnI [] H d40_58 ⟨by rw [own_shl1 (by omega)], rfl, rfl⟩ all0 (by decide) (by decide)
theorem d39_0 : decode jdk_52_method_2_code 0 = .ok (.iload_n 0, 1) := by decide +kernel
theorem d39_1 : decode jdk_52_method_2_code 1 = .ok (.invokestatic 11, 3) := by decide +kernel
theorem w203 : Jvm.Cond.code N1 jdk_52_method_3_code (1 : Nat) (Option.some Jvm.ClassFile.FieldType.int) ∈ tables_1 := List.mem_of_getElem? (i := 203) rfl
theorem w32 : Jvm.Cond.initialized "java/lang/StringUTF16" ∈ tables_1 := List.mem_of_getElem? (i := 32) rfl
theorem pd_N1 : parseMethodDescriptor N1.desc = some ⟨[.int], (some .int)⟩ := by decide +kernel
theorem nh_N1 : N1.cls ≠ "java/lang/invoke/MethodHandle" ∧ N1.cls ≠ "java/lang/invoke/VarHandle" := by decide
theorem w201 : Jvm.Cond.methodLink "java/lang/StringUTF16" (11 : Nat) N1 ∈ tables_1 := List.mem_of_getElem? (i := 201) rfl
theorem w202 : Jvm.Cond.static N1 ∈ tables_1 := List.mem_of_getElem? (i := 202) rfl
theorem d39_4 : decode jdk_52_method_2_code 4 = .ok (.newarray .byte, 2) := by decide +kernel
theorem w19 : Jvm.Cond.arrayClass Jvm.ClassFile.FieldType.byte ∈ tables_1 := List.mem_of_getElem? (i := 19) rfl
theorem d39_6 : decode jdk_52_method_2_code 6 = .ok (.areturn, 1) := by decide +kernel
abbrev N2 : MethodName := ⟨"java/lang/StringUTF16", "newBytesFor", "(I)[B"⟩

abbrev rm_nbf : Room := { frames := 1, cells := 1, slots := 68, locals := 12 }
set_option maxRecDepth 65536 in
set_option maxHeartbeats 4000000 in
theorem ct_nbf (l : Launch) {Z : State} {n0 : Nat} {z : Int32} {f : Value} (W : Sx Z z f) (n : Nat) (h : Heap) (hn : n ≤ 34) :
    Ctr l Z n0 N2 jdk_52_method_2_code 1 (some (.array .byte)) rm_nbf #[(.int n.toInt32)] h [] (fun v h' sn => ∃ b, v = some (.ref b) ∧ Ext h h' ∧ h.size ≤ b ∧ n0 ≤ b ∧ Vec Z h' b .byte (List.replicate (2 * n) 0) ∧ sn = [b]) := by
  refine Ctr.of_go (ls := #[.val (.int n.toInt32)]) W.1.1 (plainFor_of_name pn_N0) (fun m => by first | (simp [entryFrame, mkF, argsToLocals, Value.category]; done) | rfl) (fun K H => ?_)
  have KK : Keep h h [] := Keep.refl _ _
  refine Go.iloadN H d39_0 rfl rfl ?_
  refine Go.callS (rest := []) 0 [(.int n.toInt32)] H d39_1 rfl w201 w202 w32 w203 pd_N1 (ct_nbl l W n h (by omega)) all0 rfl rfl rfl (Nat.le_of_eq rfl) (by decide) (by decide) (by decide) (by decide) nh_N1 ?_
  rintro _ _ _ ⟨rfl, rfl, rfl⟩
  show Go _ _ _ _ _ _ h [] 0 0 4 #[.val (.int n.toInt32)] [(.int (2 * n).toInt32)]
  refine Go.newarray (2 * n) 68 H d39_4 rfl w19 rfl (by decide) (own_n0 (by omega)) (own_cl (by omega)) (by omega) (by decide) (by decide) (by decide) ?_
  intro a1 h2 g3 z4 E5 F6
  have sz7 := Nat.le_trans KK.1 (Nat.le_of_eq g3.symm)
  replace KK := KK.ext E5
  show Go _ _ _ _ _ _ h2 [a1] 1 68 6 #[.val (.int n.toInt32)] [(.ref a1)]
  exact Go.areturn [a1] H d39_6 rfl rfl (own_narR rfl) ⟨_, rfl, own_ext KK, Nat.le_of_eq g3.symm, z4, F6, rfl⟩ (by simp) (by decide) (by decide)
theorem d41_0 : decode jdk_52_method_4_code 0 = .ok (.getstatic 44, 3) := by decide +kernel
theorem w208 : Jvm.Cond.fieldLink "java/lang/StringUTF16" (44 : Nat) "java/lang/StringUTF16" "$assertionsDisabled" "Z" ∈ tables_1 := List.mem_of_getElem? (i := 208) rfl
theorem d41_3 : decode jdk_52_method_4_code 3 = .ok (.ifCond .ne 25, 3) := by decide +kernel
theorem d41_28 : decode jdk_52_method_4_code 28 = .ok (.iload_n 1, 1) := by decide +kernel
theorem d41_29 : decode jdk_52_method_4_code 29 = .ok (.iconst 1, 1) := by decide +kernel
theorem d41_30 : decode jdk_52_method_4_code 30 = .ok (.ishl, 1) := by decide +kernel
theorem d41_31 : decode jdk_52_method_4_code 31 = .ok (.istore_n 1, 1) := by decide +kernel
theorem d41_32 : decode jdk_52_method_4_code 32 = .ok (.aload_n 0, 1) := by decide +kernel
theorem d41_33 : decode jdk_52_method_4_code 33 = .ok (.iload_n 1, 1) := by decide +kernel
theorem d41_34 : decode jdk_52_method_4_code 34 = .ok (.iinc 1 1, 3) := by decide +kernel
theorem d41_37 : decode jdk_52_method_4_code 37 = .ok (.iload_n 2, 1) := by decide +kernel
theorem d41_38 : decode jdk_52_method_4_code 38 = .ok (.getstatic 59, 3) := by decide +kernel
theorem w209 : Jvm.Cond.fieldLink "java/lang/StringUTF16" (59 : Nat) "java/lang/StringUTF16" "HI_BYTE_SHIFT" "I" ∈ tables_1 := List.mem_of_getElem? (i := 209) rfl
theorem d41_41 : decode jdk_52_method_4_code 41 = .ok (.ishr, 1) := by decide +kernel
theorem d41_42 : decode jdk_52_method_4_code 42 = .ok (.i2b, 1) := by decide +kernel
theorem d41_43 : decode jdk_52_method_4_code 43 = .ok (.bastore, 1) := by decide +kernel
theorem d41_44 : decode jdk_52_method_4_code 44 = .ok (.aload_n 0, 1) := by decide +kernel
theorem d41_45 : decode jdk_52_method_4_code 45 = .ok (.iload_n 1, 1) := by decide +kernel
theorem d41_46 : decode jdk_52_method_4_code 46 = .ok (.iload_n 2, 1) := by decide +kernel
theorem d41_47 : decode jdk_52_method_4_code 47 = .ok (.getstatic 63, 3) := by decide +kernel
theorem w210 : Jvm.Cond.fieldLink "java/lang/StringUTF16" (63 : Nat) "java/lang/StringUTF16" "LO_BYTE_SHIFT" "I" ∈ tables_1 := List.mem_of_getElem? (i := 210) rfl
theorem d41_50 : decode jdk_52_method_4_code 50 = .ok (.ishr, 1) := by decide +kernel
theorem d41_51 : decode jdk_52_method_4_code 51 = .ok (.i2b, 1) := by decide +kernel
theorem d41_52 : decode jdk_52_method_4_code 52 = .ok (.bastore, 1) := by decide +kernel
theorem d41_53 : decode jdk_52_method_4_code 53 = .ok (.return_, 1) := by decide +kernel
abbrev N3 : MethodName := ⟨"java/lang/StringUTF16", "putChar", "([BII)V"⟩

abbrev rm_putc : Room := { frames := 0, cells := 0, slots := 0, locals := 0 }
set_option maxRecDepth 65536 in
set_option maxHeartbeats 4000000 in
theorem ct_putc (l : Launch) {Z : State} {n0 : Nat} {z : Int32} {f : Value} (W : Sx Z z f) (b : Addr) (bs : List Int32) (n : Nat) (c : Int32) (h : Heap) (Fb : Vec Z h b .byte bs) (hl : 2 * n + 1 < bs.length) (hn : n < 2 ^ 30) (zb : n0 ≤ b) :
    Ctr l Z n0 N3 jdk_52_method_4_code 3 none rm_putc #[(.ref b), (.int n.toInt32), (.int c)] h [b] (fun v h' sn => v = none ∧ Keep h h' [b] ∧ Vec Z h' b .byte ((bs.set (2 * n) (nar .byte (c >>> ((0 : Int32) &&& 31)))).set (2 * n + 1) (nar .byte (c >>> ((8 : Int32) &&& 31)))) ∧ sn = []) := by
  refine Ctr.of_go (ls := #[.val (.ref b), .val (.int n.toInt32), .val (.int c)]) W.1.1 (plainFor_of_name pn_N0) (fun m => by first | (simp [entryFrame, mkF, argsToLocals, Value.category]; done) | rfl) (fun K H => ?_)
  have KK : Keep h h [b] := Keep.refl _ _
  refine Go.getstatic H d41_0 rfl w208 W.2.1 ?_
  refine Go.ifY (pc' := 28) H d41_3 (by decide) (by decide) (by decide) ?_
  refine Go.iloadN H d41_28 rfl rfl ?_
  refine Go.iconst (1 : Int32) H d41_29 rfl rfl ?_
  refine Go.ishl H d41_30 rfl ?_
  rw [own_shl1 hn]
  refine Go.istoreN (ls' := #[.val (.ref b), .val (.int (2 * n).toInt32), .val (.int c)]) H d41_31 rfl rfl ?_
  refine Go.aloadN H d41_32 rfl rfl rfl ?_
  refine Go.iloadN H d41_33 rfl rfl ?_
  refine Go.iinc (ls' := #[.val (.ref b), .val (.int ((2 * n).toInt32 + (1 : Int32))), .val (.int c)]) (1 : Int32) H d41_34 rfl rfl rfl rfl ?_
  refine Go.iloadN H d41_37 rfl rfl ?_
  refine Go.getstatic H d41_38 rfl w209 W.2.2.1 ?_
  refine Go.ishr H d41_41 rfl ?_
  refine Go.i2b H d41_42 rfl ?_
  refine Go.bastore (nar .byte (c >>> ((0 : Int32) &&& 31))) H d41_43 rfl Fb (2 * n) (own_cl (by omega)) (own_n0 (by omega)) (by omega) own_nb zb (by simp) ?_
  intro h1 K2 F3
  replace KK := KK.trans K2 (allS (Or.inl (by simp)) all0)
  refine Go.aloadN H d41_44 rfl rfl rfl ?_
  refine Go.iloadN H d41_45 rfl rfl ?_
  refine Go.iloadN H d41_46 rfl rfl ?_
  refine Go.getstatic H d41_47 rfl w210 W.2.2.2 ?_
  refine Go.ishr H d41_50 rfl ?_
  refine Go.i2b H d41_51 rfl ?_
  refine Go.bastore (nar .byte (c >>> ((8 : Int32) &&& 31))) H d41_52 rfl F3 (2 * n + 1) (by rw [own_s]; exact own_cl (by omega)) (by rw [own_s]; exact own_n0 (by omega)) (by rw [List.length_set]; omega) own_nb zb (by simp) ?_
  intro h4 K5 F6
  replace KK := KK.trans K5 (allS (Or.inl (by simp)) all0)
  exact Go.return_ [] H d41_53 ⟨rfl, KK, F6, rfl⟩ all0 (by decide) (by decide)
theorem d42_0 : decode jdk_52_method_5_code 0 = .ok (.getstatic 44, 3) := by decide +kernel
theorem d42_3 : decode jdk_52_method_5_code 3 = .ok (.ifCond .ne 25, 3) := by decide +kernel
theorem d42_28 : decode jdk_52_method_5_code 28 = .ok (.iload_n 1, 1) := by decide +kernel
theorem d42_29 : decode jdk_52_method_5_code 29 = .ok (.iconst 1, 1) := by decide +kernel
theorem d42_30 : decode jdk_52_method_5_code 30 = .ok (.ishl, 1) := by decide +kernel
theorem d42_31 : decode jdk_52_method_5_code 31 = .ok (.istore_n 1, 1) := by decide +kernel
theorem d42_32 : decode jdk_52_method_5_code 32 = .ok (.aload_n 0, 1) := by decide +kernel
theorem d42_33 : decode jdk_52_method_5_code 33 = .ok (.iload_n 1, 1) := by decide +kernel
theorem d42_34 : decode jdk_52_method_5_code 34 = .ok (.iinc 1 1, 3) := by decide +kernel
theorem d42_37 : decode jdk_52_method_5_code 37 = .ok (.baload, 1) := by decide +kernel
theorem d42_38 : decode jdk_52_method_5_code 38 = .ok (.sipush 255, 3) := by decide +kernel
theorem d42_41 : decode jdk_52_method_5_code 41 = .ok (.iand, 1) := by decide +kernel
theorem d42_42 : decode jdk_52_method_5_code 42 = .ok (.getstatic 59, 3) := by decide +kernel
theorem d42_45 : decode jdk_52_method_5_code 45 = .ok (.ishl, 1) := by decide +kernel
theorem d42_46 : decode jdk_52_method_5_code 46 = .ok (.aload_n 0, 1) := by decide +kernel
theorem d42_47 : decode jdk_52_method_5_code 47 = .ok (.iload_n 1, 1) := by decide +kernel
theorem d42_48 : decode jdk_52_method_5_code 48 = .ok (.baload, 1) := by decide +kernel
theorem d42_49 : decode jdk_52_method_5_code 49 = .ok (.sipush 255, 3) := by decide +kernel
theorem d42_52 : decode jdk_52_method_5_code 52 = .ok (.iand, 1) := by decide +kernel
theorem d42_53 : decode jdk_52_method_5_code 53 = .ok (.getstatic 63, 3) := by decide +kernel
theorem d42_56 : decode jdk_52_method_5_code 56 = .ok (.ishl, 1) := by decide +kernel
theorem d42_57 : decode jdk_52_method_5_code 57 = .ok (.ior, 1) := by decide +kernel
theorem d42_58 : decode jdk_52_method_5_code 58 = .ok (.i2c, 1) := by decide +kernel
theorem d42_59 : decode jdk_52_method_5_code 59 = .ok (.ireturn, 1) := by decide +kernel
abbrev N4 : MethodName := ⟨"java/lang/StringUTF16", "getChar", "([BI)C"⟩

abbrev rm_getc : Room := { frames := 0, cells := 0, slots := 0, locals := 0 }
set_option maxRecDepth 65536 in
set_option maxHeartbeats 4000000 in
theorem ct_getc (l : Launch) {Z : State} {n0 : Nat} {z : Int32} {f : Value} (W : Sx Z z f) (b : Addr) (cs : List Int32) (n : Nat) (c : Int32) (h : Heap) (Fb : Vec Z h b .byte (enc16 cs)) (hc : cs[n]? = some c) (hC : isC c) (hn : n < 2 ^ 30) :
    Ctr l Z n0 N4 jdk_52_method_5_code 2 (some .char) rm_getc #[(.ref b), (.int n.toInt32)] h [] (fun v h' sn => v = some (.int c) ∧ h = h' ∧ sn = []) := by
  refine Ctr.of_go (ls := #[.val (.ref b), .val (.int n.toInt32)]) W.1.1 (plainFor_of_name pn_N0) (fun m => by first | (simp [entryFrame, mkF, argsToLocals, Value.category]; done) | rfl) (fun K H => ?_)
  refine Go.getstatic H d42_0 rfl w208 W.2.1 ?_
  refine Go.ifY (pc' := 28) H d42_3 (by decide) (by decide) (by decide) ?_
  refine Go.iloadN H d42_28 rfl rfl ?_
  refine Go.iconst (1 : Int32) H d42_29 rfl rfl ?_
  refine Go.ishl H d42_30 rfl ?_
  rw [own_shl1 hn]
  refine Go.istoreN (ls' := #[.val (.ref b), .val (.int (2 * n).toInt32)]) H d42_31 rfl rfl ?_
  refine Go.aloadN H d42_32 rfl rfl rfl ?_
  refine Go.iloadN H d42_33 rfl rfl ?_
  refine Go.iinc (ls' := #[.val (.ref b), .val (.int ((2 * n).toInt32 + (1 : Int32)))]) (1 : Int32) H d42_34 rfl rfl rfl rfl ?_
  refine Go.baload (v := (nar .byte (c >>> ((0 : Int32) &&& 31)))) H d42_37 rfl Fb (2 * n) (own_cl (by omega)) (own_n0 (by omega)) (enc16_0 hc) ?_
  refine Go.sipush (255 : Int32) H d42_38 rfl rfl ?_
  refine Go.iand H d42_41 rfl ?_
  refine Go.getstatic H d42_42 rfl w209 W.2.2.1 ?_
  refine Go.ishl H d42_45 rfl ?_
  refine Go.aloadN H d42_46 rfl rfl rfl ?_
  refine Go.iloadN H d42_47 rfl rfl ?_
  refine Go.baload (v := (nar .byte (c >>> ((8 : Int32) &&& 31)))) H d42_48 rfl Fb (2 * n + 1) (by rw [own_s]; exact own_cl (by omega)) (by rw [own_s]; exact own_n0 (by omega)) (enc16_1 hc) ?_
  refine Go.sipush (255 : Int32) H d42_49 rfl rfl ?_
  refine Go.iand H d42_52 rfl ?_
  refine Go.getstatic H d42_53 rfl w210 W.2.2.2 ?_
  refine Go.ishl H d42_56 rfl ?_
  refine Go.ior H d42_57 rfl ?_
  refine Go.i2c H d42_58 rfl ?_
  exact Go.ireturn c [] H d42_59 (by simp) (own_nn.trans (own_back16 hC)) ⟨rfl, rfl, rfl⟩ all0 (by decide) (by decide)
theorem d38_8 : decode jdk_52_method_14_code 8 = .ok (.iload 4, 2) := by decide +kernel
theorem d38_10 : decode jdk_52_method_14_code 10 = .ok (.iload_n 2, 1) := by decide +kernel
theorem d38_11 : decode jdk_52_method_14_code 11 = .ok (.if_icmp .ge 21, 3) := by decide +kernel
theorem d38_32 : decode jdk_52_method_14_code 32 = .ok (.aload_n 3, 1) := by decide +kernel
theorem d38_33 : decode jdk_52_method_14_code 33 = .ok (.areturn, 1) := by decide +kernel
theorem d38_14 : decode jdk_52_method_14_code 14 = .ok (.aload_n 3, 1) := by decide +kernel
theorem d38_15 : decode jdk_52_method_14_code 15 = .ok (.iload 4, 2) := by decide +kernel
theorem d38_17 : decode jdk_52_method_14_code 17 = .ok (.aload_n 0, 1) := by decide +kernel
theorem d38_18 : decode jdk_52_method_14_code 18 = .ok (.iload_n 1, 1) := by decide +kernel
theorem d38_19 : decode jdk_52_method_14_code 19 = .ok (.caload, 1) := by decide +kernel
theorem d38_20 : decode jdk_52_method_14_code 20 = .ok (.invokestatic 111, 3) := by decide +kernel
theorem w207 : Jvm.Cond.code N3 jdk_52_method_4_code (3 : Nat) (Option.none : Option Jvm.ClassFile.FieldType) ∈ tables_1 := List.mem_of_getElem? (i := 207) rfl
theorem pd_N3 : parseMethodDescriptor N3.desc = some ⟨[(.array .byte), .int, .int], none⟩ := by decide +kernel
theorem w205 : Jvm.Cond.methodLink "java/lang/StringUTF16" (111 : Nat) N3 ∈ tables_1 := List.mem_of_getElem? (i := 205) rfl
theorem w206 : Jvm.Cond.static N3 ∈ tables_1 := List.mem_of_getElem? (i := 206) rfl
theorem d38_23 : decode jdk_52_method_14_code 23 = .ok (.iinc 1 1, 3) := by decide +kernel
theorem d38_26 : decode jdk_52_method_14_code 26 = .ok (.iinc 4 1, 3) := by decide +kernel
theorem d38_29 : decode jdk_52_method_14_code 29 = .ok (.goto (-21), 3) := by decide +kernel
theorem d38_0 : decode jdk_52_method_14_code 0 = .ok (.iload_n 2, 1) := by decide +kernel
theorem d38_1 : decode jdk_52_method_14_code 1 = .ok (.invokestatic 107, 3) := by decide +kernel
theorem w200 : Jvm.Cond.code N2 jdk_52_method_2_code (1 : Nat) (Option.some (Jvm.ClassFile.FieldType.array Jvm.ClassFile.FieldType.byte)) ∈ tables_1 := List.mem_of_getElem? (i := 200) rfl
theorem pd_N2 : parseMethodDescriptor N2.desc = some ⟨[.int], (some (.array .byte))⟩ := by decide +kernel
theorem w198 : Jvm.Cond.methodLink "java/lang/StringUTF16" (107 : Nat) N2 ∈ tables_1 := List.mem_of_getElem? (i := 198) rfl
theorem w199 : Jvm.Cond.static N2 ∈ tables_1 := List.mem_of_getElem? (i := 199) rfl
theorem d38_4 : decode jdk_52_method_14_code 4 = .ok (.astore_n 3, 1) := by decide +kernel
theorem d38_5 : decode jdk_52_method_14_code 5 = .ok (.iconst 0, 1) := by decide +kernel
theorem d38_6 : decode jdk_52_method_14_code 6 = .ok (.istore 4, 2) := by decide +kernel

set_option maxRecDepth 65536 in
set_option maxHeartbeats 4000000 in
theorem lp_tob (l : Launch) {Z : State} {n0 : Nat} {z : Int32} {f : Value} (a d : Addr) (cs : List Int32) (hh : Heap) (hn : cs.length ≤ 34) (zd : n0 ≤ d) (hne : a ≠ d) (hsz : hh.size ≤ d) (W : Sx Z z f) {K : Cx} (H : Ok Z K "java/lang/StringUTF16" jdk_52_method_14_code 5 (some (.array .byte)) "toBytes") :
    ∀ (m i : Nat), i + m = cs.length → ∀ (h : Heap), Vec Z h a .char cs → Vec Z h d .byte (enc16 (cs.take i) ++ List.replicate (2 * m) 0) → Keep hh h [] →
      Go l Z n0 ({ frames := 2, cells := 1, slots := 68, locals := 24 } : Room) K (fun v h' sn => ∃ b, v = some (.ref b) ∧ Ext hh h' ∧ hh.size ≤ b ∧ Vec Z h' b .byte (enc16 cs) ∧ sn = []) h [d] 1 68 8 #[.val (.ref a), .val (.int i.toInt32), .val (.int cs.length.toInt32), .val (.ref d), .val (.int i.toInt32)] [] := by
  intro m
  induction m with
  | zero =>
    intro i hi h Fa Fd KK
    refine Go.iload H d38_8 rfl rfl ?_
    refine Go.iloadN H d38_10 rfl rfl ?_
    refine Go.icmpY (pc' := 32) H d38_11 (flt (own_nlt (by omega) (by omega))).2.1 (by decide) (by decide) ?_
    refine Go.aloadN H d38_32 rfl rfl rfl ?_
    exact Go.areturn [] H d38_33 rfl rfl (own_narR rfl) ⟨_, rfl, own_ext KK, hsz, own_full16 (by omega) Fd, rfl⟩ all0 (by decide) (by decide)
  | succ m ih =>
    intro i hi h Fa Fd KK
    have hlt : i < cs.length := by omega
    obtain ⟨c, hc⟩ : ∃ c, cs[i]? = some c := ⟨_, List.getElem?_eq_getElem hlt⟩
    refine Go.iload H d38_8 rfl rfl ?_
    refine Go.iloadN H d38_10 rfl rfl ?_
    refine Go.icmpN H d38_11 (tlt (own_lt (by omega) hlt)).2.1 rfl ?_
    refine Go.aloadN H d38_14 rfl rfl rfl ?_
    refine Go.iload H d38_15 rfl rfl ?_
    refine Go.aloadN H d38_17 rfl rfl rfl ?_
    refine Go.iloadN H d38_18 rfl rfl ?_
    refine Go.caload (v := c) H d38_19 rfl Fa i (own_cl (by omega)) (own_n0 (by omega)) hc ?_
    refine Go.callS (rest := []) 0 [(.ref d), (.int i.toInt32), (.int c)] H d38_20 rfl w205 w206 w32 w207 pd_N3 (ct_putc l W d _ i c h Fd (by rw [List.length_append, enc16_len, List.length_take, List.length_replicate]; omega) (by omega) zd) (by simp) rfl rfl rfl (Nat.le_of_eq rfl) (by decide) (by decide) (by decide) (by decide) nh_N1 ?_
    rintro _ h1 _ ⟨rfl, K2, F3, rfl⟩
    replace Fa := Fa.keep K2 (ninS hne nin0)
    replace KK := KK.trans K2 (allS (Or.inr hsz) all0)
    show Go _ _ _ _ _ _ h1 [d] 1 68 23 #[.val (.ref a), .val (.int i.toInt32), .val (.int cs.length.toInt32), .val (.ref d), .val (.int i.toInt32)] []
    refine Go.iinc (ls' := #[.val (.ref a), .val (.int (i.toInt32 + (1 : Int32))), .val (.int cs.length.toInt32), .val (.ref d), .val (.int i.toInt32)]) (1 : Int32) H d38_23 rfl rfl rfl rfl ?_
    refine Go.iinc (ls' := #[.val (.ref a), .val (.int (i.toInt32 + (1 : Int32))), .val (.int cs.length.toInt32), .val (.ref d), .val (.int (i.toInt32 + (1 : Int32)))]) (1 : Int32) H d38_26 rfl rfl rfl rfl ?_
    refine Go.goto (pc' := 8) H d38_29 (by decide) (by decide) ?_
    rw [own_fill16 hc] at F3
    rw [own_s i]
    exact ih (i + 1) (by omega) _ Fa F3 KK
abbrev N5 : MethodName := ⟨"java/lang/StringUTF16", "toBytes", "([CII)[B"⟩

abbrev rm_tob : Room := { frames := 2, cells := 1, slots := 68, locals := 24 }
set_option maxRecDepth 65536 in
set_option maxHeartbeats 4000000 in
theorem ct_tob (l : Launch) {Z : State} {n0 : Nat} {z : Int32} {f : Value} (W : Sx Z z f) (a : Addr) (cs : List Int32) (h : Heap) (Fa : Vec Z h a .char cs) (hn : cs.length ≤ 34) :
    Ctr l Z n0 N5 jdk_52_method_14_code 5 (some (.array .byte)) rm_tob #[(.ref a), (.int (0 : Int32)), (.int cs.length.toInt32)] h [] (fun v h' sn => ∃ b, v = some (.ref b) ∧ Ext h h' ∧ h.size ≤ b ∧ Vec Z h' b .byte (enc16 cs) ∧ sn = []) := by
  refine Ctr.of_go (ls := #[.val (.ref a), .val (.int (0 : Int32)), .val (.int cs.length.toInt32), .unset, .unset]) W.1.1 (plainFor_of_name pn_N0) (fun m => by first | (simp [entryFrame, mkF, argsToLocals, Value.category]; done) | rfl) (fun K H => ?_)
  refine Go.iloadN H d38_0 rfl rfl ?_
  refine Go.callS (rest := []) 0 [(.int cs.length.toInt32)] H d38_1 rfl w198 w199 w32 w200 pd_N2 (ct_nbf l W cs.length h hn) all0 rfl rfl rfl (Nat.le_of_eq rfl) (by decide) (by decide) (by decide) (by decide) nh_N1 ?_
  rintro _ h2 _ ⟨b1, rfl, E3, g4, z5, F6, rfl⟩
  have ne7 : a ≠ b1 := Nat.ne_of_lt (Nat.lt_of_lt_of_le Fa.lt g4)
  replace Fa := Fa.ext E3
  show Go _ _ _ _ _ _ h2 [b1] 1 68 4 #[.val (.ref a), .val (.int (0 : Int32)), .val (.int cs.length.toInt32), .unset, .unset] [(.ref b1)]
  refine Go.astoreN (ls' := #[.val (.ref a), .val (.int (0 : Int32)), .val (.int cs.length.toInt32), .val (.ref b1), .unset]) H d38_4 rfl rfl rfl ?_
  refine Go.iconst (0 : Int32) H d38_5 rfl rfl ?_
  refine Go.istore (ls' := #[.val (.ref a), .val (.int (0 : Int32)), .val (.int cs.length.toInt32), .val (.ref b1), .val (.int (0 : Int32))]) H d38_6 rfl rfl ?_
  exact lp_tob l a b1 cs h hn z5 ne7 g4 W H cs.length 0 (by omega) _ Fa (by simpa [enc16] using F6) (own_keep E3)
theorem d6_0 : decode jdk_52_method_16_code 0 = .ok (.iload_n 2, 1) := by decide +kernel
theorem d6_1 : decode jdk_52_method_16_code 1 = .ok (.newarray .byte, 2) := by decide +kernel
theorem d6_3 : decode jdk_52_method_16_code 3 = .ok (.astore_n 3, 1) := by decide +kernel
theorem d6_4 : decode jdk_52_method_16_code 4 = .ok (.aload_n 0, 1) := by decide +kernel
theorem d6_5 : decode jdk_52_method_16_code 5 = .ok (.iload_n 1, 1) := by decide +kernel
theorem d6_6 : decode jdk_52_method_16_code 6 = .ok (.aload_n 3, 1) := by decide +kernel
theorem d6_7 : decode jdk_52_method_16_code 7 = .ok (.iconst 0, 1) := by decide +kernel
theorem d6_8 : decode jdk_52_method_16_code 8 = .ok (.iload_n 2, 1) := by decide +kernel
theorem d6_9 : decode jdk_52_method_16_code 9 = .ok (.invokestatic 115, 3) := by decide +kernel
theorem w36 : Jvm.Cond.code N0 jdk_52_method_21_code (7 : Nat) (Option.some Jvm.ClassFile.FieldType.int) ∈ tables_1 := List.mem_of_getElem? (i := 36) rfl
theorem pd_N0 : parseMethodDescriptor N0.desc = some ⟨[(.array .char), .int, (.array .byte), .int, .int], (some .int)⟩ := by decide +kernel
theorem w34 : Jvm.Cond.methodLink "java/lang/StringUTF16" (115 : Nat) N0 ∈ tables_1 := List.mem_of_getElem? (i := 34) rfl
theorem w35 : Jvm.Cond.static N0 ∈ tables_1 := List.mem_of_getElem? (i := 35) rfl
theorem d6_12 : decode jdk_52_method_16_code 12 = .ok (.istore 4, 2) := by decide +kernel
theorem d6_14 : decode jdk_52_method_16_code 14 = .ok (.iload 4, 2) := by decide +kernel
theorem d6_16 : decode jdk_52_method_16_code 16 = .ok (.iload_n 2, 1) := by decide +kernel
theorem d6_17 : decode jdk_52_method_16_code 17 = .ok (.if_icmp .eq 40, 3) := by decide +kernel
theorem d6_57 : decode jdk_52_method_16_code 57 = .ok (.aload_n 3, 1) := by decide +kernel
theorem d6_58 : decode jdk_52_method_16_code 58 = .ok (.areturn, 1) := by decide +kernel
theorem d6_20 : decode jdk_52_method_16_code 20 = .ok (.aload_n 0, 1) := by decide +kernel
theorem d6_21 : decode jdk_52_method_16_code 21 = .ok (.iload_n 1, 1) := by decide +kernel
theorem d6_22 : decode jdk_52_method_16_code 22 = .ok (.iload_n 2, 1) := by decide +kernel
theorem d6_23 : decode jdk_52_method_16_code 23 = .ok (.invokestatic 119, 3) := by decide +kernel
theorem w197 : Jvm.Cond.code N5 jdk_52_method_14_code (5 : Nat) (Option.some (Jvm.ClassFile.FieldType.array Jvm.ClassFile.FieldType.byte)) ∈ tables_1 := List.mem_of_getElem? (i := 197) rfl
theorem pd_N5 : parseMethodDescriptor N5.desc = some ⟨[(.array .char), .int, .int], (some (.array .byte))⟩ := by decide +kernel
theorem w195 : Jvm.Cond.methodLink "java/lang/StringUTF16" (119 : Nat) N5 ∈ tables_1 := List.mem_of_getElem? (i := 195) rfl
theorem w196 : Jvm.Cond.static N5 ∈ tables_1 := List.mem_of_getElem? (i := 196) rfl
theorem d6_26 : decode jdk_52_method_16_code 26 = .ok (.astore 5, 2) := by decide +kernel
theorem d6_28 : decode jdk_52_method_16_code 28 = .ok (.aload 5, 2) := by decide +kernel
theorem d6_30 : decode jdk_52_method_16_code 30 = .ok (.iload 4, 2) := by decide +kernel
theorem d6_32 : decode jdk_52_method_16_code 32 = .ok (.invokestatic 71, 3) := by decide +kernel
theorem w213 : Jvm.Cond.code N4 jdk_52_method_5_code (2 : Nat) (Option.some Jvm.ClassFile.FieldType.char) ∈ tables_1 := List.mem_of_getElem? (i := 213) rfl
theorem pd_N4 : parseMethodDescriptor N4.desc = some ⟨[(.array .byte), .int], (some .char)⟩ := by decide +kernel
theorem w211 : Jvm.Cond.methodLink "java/lang/StringUTF16" (71 : Nat) N4 ∈ tables_1 := List.mem_of_getElem? (i := 211) rfl
theorem w212 : Jvm.Cond.static N4 ∈ tables_1 := List.mem_of_getElem? (i := 212) rfl
theorem d6_35 : decode jdk_52_method_16_code 35 = .ok (.sipush 255, 3) := by decide +kernel
theorem d6_38 : decode jdk_52_method_16_code 38 = .ok (.if_icmp .gt 16, 3) := by decide +kernel
theorem d6_54 : decode jdk_52_method_16_code 54 = .ok (.aload 5, 2) := by decide +kernel
theorem d6_56 : decode jdk_52_method_16_code 56 = .ok (.areturn, 1) := by decide +kernel
abbrev N6 : MethodName := ⟨"java/lang/StringUTF16", "compress", "([CII)[B"⟩

abbrev rm_cmp3 : Room := { frames := 3, cells := 2, slots := 102, locals := 40 }
set_option maxRecDepth 65536 in
set_option maxHeartbeats 4000000 in
theorem ct_cmp3 (l : Launch) {Z : State} {n0 : Nat} {z : Int32} {f : Value} (W : Sx Z z f) (a : Addr) (cs : List Int32) (h : Heap) (Fa : Vec Z h a .char cs) (hC : ∀ c ∈ cs, isC c) (hn : cs.length ≤ 34) :
    Ctr l Z n0 N6 jdk_52_method_16_code 6 (some (.array .byte)) rm_cmp3 #[(.ref a), (.int (0 : Int32)), (.int cs.length.toInt32)] h [] (fun v h' sn => ∃ b, v = some (.ref b) ∧ Ext h h' ∧ h.size ≤ b ∧ ((∀ c ∈ cs, isL c) ∧ Vec Z h' b .byte (cs.map (nar .byte)) ∨ (∃ c ∈ cs, ¬ isL c) ∧ Vec Z h' b .byte (enc16 cs)) ∧ sn = []) := by
  refine Ctr.of_go (ls := #[.val (.ref a), .val (.int (0 : Int32)), .val (.int cs.length.toInt32), .unset, .unset, .unset]) W.1.1 (plainFor_of_name pn_N0) (fun m => by first | (simp [entryFrame, mkF, argsToLocals, Value.category]; done) | rfl) (fun K H => ?_)
  have KK : Keep h h [] := Keep.refl _ _
  have hn1 : cs.length < 2 ^ 31 := by omega
  refine Go.iloadN H d6_0 rfl rfl ?_
  refine Go.newarray cs.length 34 H d6_1 rfl w19 rfl (by decide) (own_n0 (by omega)) (own_cl (by omega)) hn (by decide) (by decide) (by decide) ?_
  intro a1 h2 g3 z4 E5 F6
  have ne7 : a ≠ a1 := Nat.ne_of_lt (Nat.lt_of_lt_of_le Fa.lt (Nat.le_of_eq g3.symm))
  have sz8 := Nat.le_trans KK.1 (Nat.le_of_eq g3.symm)
  replace Fa := Fa.ext E5
  replace KK := KK.ext E5
  show Go _ _ _ _ _ _ h2 [a1] 1 34 3 #[.val (.ref a), .val (.int (0 : Int32)), .val (.int cs.length.toInt32), .unset, .unset, .unset] [(.ref a1)]
  refine Go.astoreN (ls' := #[.val (.ref a), .val (.int (0 : Int32)), .val (.int cs.length.toInt32), .val (.ref a1), .unset, .unset]) H d6_3 rfl rfl rfl ?_
  refine Go.aloadN H d6_4 rfl rfl rfl ?_
  refine Go.iloadN H d6_5 rfl rfl ?_
  refine Go.aloadN H d6_6 rfl rfl rfl ?_
  refine Go.iconst (0 : Int32) H d6_7 rfl rfl ?_
  refine Go.iloadN H d6_8 rfl rfl ?_
  refine Go.callS (rest := []) 0 [(.ref a), (.int (0 : Int32)), (.ref a1), (.int (0 : Int32)), (.int cs.length.toInt32)] H d6_9 rfl w34 w35 w32 w36 pd_N0 (ct_cmp5 l W a a1 cs h2 Fa F6 hC hn1 z4 ne7) (by simp) rfl rfl rfl (Nat.le_of_eq rfl) (by decide) (by decide) (by decide) (by decide) nh_N1 ?_
  rintro _ h9 _ ⟨r12, rfl, K10, q13, rfl⟩
  replace Fa := Fa.keep K10 (ninS ne7 nin0)
  replace KK := KK.trans K10 (allS (Or.inr sz8) all0)
  rcases q13 with ⟨rfl, hL14, F11⟩ | ⟨i, c, rfl, hc, hN⟩
  ·
    show Go _ _ _ _ _ _ h9 [a1] 1 34 12 #[.val (.ref a), .val (.int (0 : Int32)), .val (.int cs.length.toInt32), .val (.ref a1), .unset, .unset] [(.int cs.length.toInt32)]
    refine Go.istore (ls' := #[.val (.ref a), .val (.int (0 : Int32)), .val (.int cs.length.toInt32), .val (.ref a1), .val (.int cs.length.toInt32), .unset]) H d6_12 rfl rfl ?_
    refine Go.iload H d6_14 rfl rfl ?_
    refine Go.iloadN H d6_16 rfl rfl ?_
    refine Go.icmpY (pc' := 57) H d6_17 (teq rfl).1 (by decide) (by decide) ?_
    refine Go.aloadN H d6_57 rfl rfl rfl ?_
    exact Go.areturn [] H d6_58 rfl rfl (own_narR rfl) ⟨_, rfl, own_ext KK, Nat.le_of_eq g3.symm, Or.inl ⟨hL14, F11⟩, rfl⟩ all0 (by decide) (by decide)
  ·
    show Go _ _ _ _ _ _ h9 [a1] 1 34 12 #[.val (.ref a), .val (.int (0 : Int32)), .val (.int cs.length.toInt32), .val (.ref a1), .unset, .unset] [(.int i.toInt32)]
    refine Go.istore (ls' := #[.val (.ref a), .val (.int (0 : Int32)), .val (.int cs.length.toInt32), .val (.ref a1), .val (.int i.toInt32), .unset]) H d6_12 rfl rfl ?_
    refine Go.iload H d6_14 rfl rfl ?_
    refine Go.iloadN H d6_16 rfl rfl ?_
    refine Go.icmpN H d6_17 (feq (fun e => absurd (own_ofinj (by have := own_lenlt hc; omega) (by omega) e) (by have := own_lenlt hc; omega))).1 rfl ?_
    refine Go.aloadN H d6_20 rfl rfl rfl ?_
    refine Go.iloadN H d6_21 rfl rfl ?_
    refine Go.iloadN H d6_22 rfl rfl ?_
    refine Go.callS (rest := []) 0 [(.ref a), (.int (0 : Int32)), (.int cs.length.toInt32)] H d6_23 rfl w195 w196 w32 w197 pd_N5 (ct_tob l W a cs h9 Fa hn) all0 rfl rfl rfl (Nat.le_of_eq rfl) (by decide) (by decide) (by decide) (by decide) nh_N1 ?_
    rintro _ h16 _ ⟨b15, rfl, E17, g18, F19, rfl⟩
    have ne20 : a ≠ b15 := Nat.ne_of_lt (Nat.lt_of_lt_of_le Fa.lt g18)
    have sz21 := Nat.le_trans KK.1 g18
    replace Fa := Fa.ext E17
    replace KK := KK.ext E17
    show Go _ _ _ _ _ _ h16 [a1] 2 102 26 #[.val (.ref a), .val (.int (0 : Int32)), .val (.int cs.length.toInt32), .val (.ref a1), .val (.int i.toInt32), .unset] [(.ref b15)]
    refine Go.astore (ls' := #[.val (.ref a), .val (.int (0 : Int32)), .val (.int cs.length.toInt32), .val (.ref a1), .val (.int i.toInt32), .val (.ref b15)]) H d6_26 rfl rfl rfl ?_
    refine Go.aload H d6_28 rfl rfl rfl ?_
    refine Go.iload H d6_30 rfl rfl ?_
    refine Go.callS (rest := []) 0 [(.ref b15), (.int i.toInt32)] H d6_32 rfl w211 w212 w32 w213 pd_N4 (ct_getc l W b15 cs i c h16 F19 hc (hC c (List.mem_of_getElem? hc)) (by have := own_lenlt hc; omega)) all0 rfl rfl rfl (Nat.le_of_eq rfl) (by decide) (by decide) (by decide) (by decide) nh_N1 ?_
    rintro _ _ _ ⟨rfl, rfl, rfl⟩
    show Go _ _ _ _ _ _ h16 [a1] 2 102 35 #[.val (.ref a), .val (.int (0 : Int32)), .val (.int cs.length.toInt32), .val (.ref a1), .val (.int i.toInt32), .val (.ref b15)] [(.int c)]
    refine Go.sipush (255 : Int32) H d6_35 rfl rfl ?_
    refine Go.icmpY (pc' := 54) H d6_38 (tlt (own_nL (hC c (List.mem_of_getElem? hc)) hN)).2.2.1 (by decide) (by decide) ?_
    refine Go.aload H d6_54 rfl rfl rfl ?_
    exact Go.areturn [] H d6_56 rfl rfl (own_narR rfl) ⟨_, rfl, own_ext KK, sz21, Or.inr ⟨⟨c, List.mem_of_getElem? hc, hN⟩, F19⟩, rfl⟩ all0 (by decide) (by decide)
theorem d8_0 : decode jdk_52_method_15_code 0 = .ok (.iload_n 1, 1) := by decide +kernel
theorem d8_1 : decode jdk_52_method_15_code 1 = .ok (.aload_n 0, 1) := by decide +kernel
theorem d8_2 : decode jdk_52_method_15_code 2 = .ok (.arraylength, 1) := by decide +kernel
theorem d8_3 : decode jdk_52_method_15_code 3 = .ok (.isub, 1) := by decide +kernel
theorem d8_4 : decode jdk_52_method_15_code 4 = .ok (.bipush 31, 2) := by decide +kernel
theorem d8_6 : decode jdk_52_method_15_code 6 = .ok (.iushr, 1) := by decide +kernel
theorem d8_7 : decode jdk_52_method_15_code 7 = .ok (.i2b, 1) := by decide +kernel
theorem d8_8 : decode jdk_52_method_15_code 8 = .ok (.ireturn, 1) := by decide +kernel
abbrev N7 : MethodName := ⟨"java/lang/StringUTF16", "coderFromArrayLen", "([BI)B"⟩

abbrev rm_codl : Room := { frames := 0, cells := 0, slots := 0, locals := 0 }
set_option maxRecDepth 65536 in
set_option maxHeartbeats 4000000 in
theorem ct_codl (l : Launch) {Z : State} {n0 : Nat} {z : Int32} {f : Value} (W : Sx Z z f) (b : Addr) (bs : List Int32) (n : Int32) (h : Heap) (Fb : Vec Z h b .byte bs) (hb : bs.length.toInt32 = n) :
    Ctr l Z n0 N7 jdk_52_method_15_code 2 (some .byte) rm_codl #[(.ref b), (.int n)] h [] (fun v h' sn => v = some (.int 0) ∧ h = h' ∧ sn = []) := by
  refine Ctr.of_go (ls := #[.val (.ref b), .val (.int n)]) W.1.1 (plainFor_of_name pn_N0) (fun m => by first | (simp [entryFrame, mkF, argsToLocals, Value.category]; done) | rfl) (fun K H => ?_)
  refine Go.iloadN H d8_0 rfl rfl ?_
  refine Go.aloadN H d8_1 rfl rfl rfl ?_
  refine Go.arraylength n H d8_2 rfl Fb hb ?_
  refine Go.isub H d8_3 rfl ?_
  refine Go.bipush (31 : Int32) H d8_4 rfl rfl ?_
  refine Go.iushr H d8_6 rfl ?_
  refine Go.i2b H d8_7 rfl ?_
  exact Go.ireturn (0 : Int32) [] H d8_8 (by simp) (own_nb.trans (own_cod _)) ⟨rfl, rfl, rfl⟩ all0 (by decide) (by decide)

abbrev rm_codlU : Room := { frames := 0, cells := 0, slots := 0, locals := 0 }
set_option maxRecDepth 65536 in
set_option maxHeartbeats 4000000 in
theorem ct_codlU (l : Launch) {Z : State} {n0 : Nat} {z : Int32} {f : Value} (W : Sx Z z f) (b : Addr) (bs : List Int32) (n : Nat) (h : Heap) (Fb : Vec Z h b .byte bs) (hb : bs.length = 2 * n) (hp : 0 < n) (hn : n < 2 ^ 30) :
    Ctr l Z n0 N7 jdk_52_method_15_code 2 (some .byte) rm_codlU #[(.ref b), (.int n.toInt32)] h [] (fun v h' sn => v = some (.int 1) ∧ h = h' ∧ sn = []) := by
  refine Ctr.of_go (ls := #[.val (.ref b), .val (.int n.toInt32)]) W.1.1 (plainFor_of_name pn_N0) (fun m => by first | (simp [entryFrame, mkF, argsToLocals, Value.category]; done) | rfl) (fun K H => ?_)
  refine Go.iloadN H d8_0 rfl rfl ?_
  refine Go.aloadN H d8_1 rfl rfl rfl ?_
  refine Go.arraylength (2 * n).toInt32 H d8_2 rfl Fb (by rw [hb]) ?_
  refine Go.isub H d8_3 rfl ?_
  refine Go.bipush (31 : Int32) H d8_4 rfl rfl ?_
  refine Go.iushr H d8_6 rfl ?_
  refine Go.i2b H d8_7 rfl ?_
  exact Go.ireturn (1 : Int32) [] H d8_8 (by simp) (own_nb.trans (own_codU hp hn)) ⟨rfl, rfl, rfl⟩ all0 (by decide) (by decide)
theorem d3_0 : decode jdk_42_method_149_code 0 = .ok (.aload_n 0, 1) := by decide +kernel
theorem d3_1 : decode jdk_42_method_149_code 1 = .ok (.invokespecial 1, 3) := by decide +kernel
abbrev N8 : MethodName := ⟨"java/lang/Object", "<init>", "()V"⟩
theorem w15 : Jvm.Cond.methodLink "java/lang/String" (1 : Nat) N8 ∈ tables_1 := List.mem_of_getElem? (i := 15) rfl
theorem w16 : Jvm.Cond.instanceMethod N8 ∈ tables_1 := List.mem_of_getElem? (i := 16) rfl
theorem w17 : Jvm.Cond.code N8 object_method_1_code (1 : Nat) (Option.none : Option Jvm.ClassFile.FieldType) ∈ tables_1 := List.mem_of_getElem? (i := 17) rfl
theorem d3_4 : decode jdk_42_method_149_code 4 = .ok (.iload_n 3, 1) := by decide +kernel
theorem d3_5 : decode jdk_42_method_149_code 5 = .ok (.ifCond .ne 22, 3) := by decide +kernel
theorem d3_8 : decode jdk_42_method_149_code 8 = .ok (.aload_n 0, 1) := by decide +kernel
theorem d3_9 : decode jdk_42_method_149_code 9 = .ok (.ldc 7, 2) := by decide +kernel
theorem lt_0 : (∀ c ∈ ("" : String).toList, c.toNat < 256) ∧ ("" : String).toList.map (fun c => Value.int (Jvm.Lit.byteI c.toNat.toUInt16)) = ((([] : List Int32)).map (nar .byte)).map Value.int := by decide +kernel
theorem lt_0_l : ∀ c ∈ ([] : List Int32), isL c := own_an
theorem cm_0 : ("java/lang/String", 7) ∈ consts_1 := by decide
theorem w18 : Jvm.Cond.stringLink "java/lang/String" (7 : Nat) "" ∈ tables_1 := List.mem_of_getElem? (i := 18) rfl
theorem d3_11 : decode jdk_42_method_149_code 11 = .ok (.getfield 9, 3) := by decide +kernel
theorem w24 : Jvm.Cond.fieldLink "java/lang/String" (9 : Nat) "java/lang/String" "value" "[B" ∈ tables_1 := List.mem_of_getElem? (i := 24) rfl
theorem d3_14 : decode jdk_42_method_149_code 14 = .ok (.putfield 9, 3) := by decide +kernel
theorem w20 : Jvm.Cond.laysFinal "java/lang/String" "java/lang/String" "value" "[B" ∈ tables_1 := List.mem_of_getElem? (i := 20) rfl
theorem w21 : Jvm.Cond.laysFinal "java/lang/String" "java/lang/String" "coder" "B" ∈ tables_1 := List.mem_of_getElem? (i := 21) rfl
theorem d3_17 : decode jdk_42_method_149_code 17 = .ok (.aload_n 0, 1) := by decide +kernel
theorem d3_18 : decode jdk_42_method_149_code 18 = .ok (.ldc 7, 2) := by decide +kernel
theorem d3_20 : decode jdk_42_method_149_code 20 = .ok (.getfield 15, 3) := by decide +kernel
theorem w25 : Jvm.Cond.fieldLink "java/lang/String" (15 : Nat) "java/lang/String" "coder" "B" ∈ tables_1 := List.mem_of_getElem? (i := 25) rfl
theorem d3_23 : decode jdk_42_method_149_code 23 = .ok (.putfield 15, 3) := by decide +kernel
theorem d3_26 : decode jdk_42_method_149_code 26 = .ok (.return_, 1) := by decide +kernel
theorem d3_27 : decode jdk_42_method_149_code 27 = .ok (.getstatic 38, 3) := by decide +kernel
theorem w29 : Jvm.Cond.fieldLink "java/lang/String" (38 : Nat) "java/lang/String" "COMPACT_STRINGS" "Z" ∈ tables_1 := List.mem_of_getElem? (i := 29) rfl
theorem d3_30 : decode jdk_42_method_149_code 30 = .ok (.ifCond .eq 28, 3) := by decide +kernel
theorem d3_33 : decode jdk_42_method_149_code 33 = .ok (.aload_n 1, 1) := by decide +kernel
theorem d3_34 : decode jdk_42_method_149_code 34 = .ok (.iload_n 2, 1) := by decide +kernel
theorem d3_35 : decode jdk_42_method_149_code 35 = .ok (.iload_n 3, 1) := by decide +kernel
theorem d3_36 : decode jdk_42_method_149_code 36 = .ok (.invokestatic 177, 3) := by decide +kernel
theorem w33 : Jvm.Cond.code N6 jdk_52_method_16_code (6 : Nat) (Option.some (Jvm.ClassFile.FieldType.array Jvm.ClassFile.FieldType.byte)) ∈ tables_1 := List.mem_of_getElem? (i := 33) rfl
theorem pd_N6 : parseMethodDescriptor N6.desc = some ⟨[(.array .char), .int, .int], (some (.array .byte))⟩ := by decide +kernel
theorem w30 : Jvm.Cond.methodLink "java/lang/String" (177 : Nat) N6 ∈ tables_1 := List.mem_of_getElem? (i := 30) rfl
theorem w31 : Jvm.Cond.static N6 ∈ tables_1 := List.mem_of_getElem? (i := 31) rfl
theorem d3_39 : decode jdk_42_method_149_code 39 = .ok (.astore 5, 2) := by decide +kernel
theorem d3_41 : decode jdk_42_method_149_code 41 = .ok (.aload_n 0, 1) := by decide +kernel
theorem d3_42 : decode jdk_42_method_149_code 42 = .ok (.aload 5, 2) := by decide +kernel
theorem d3_44 : decode jdk_42_method_149_code 44 = .ok (.iload_n 3, 1) := by decide +kernel
theorem d3_45 : decode jdk_42_method_149_code 45 = .ok (.invokestatic 47, 3) := by decide +kernel
theorem w39 : Jvm.Cond.code N7 jdk_52_method_15_code (2 : Nat) (Option.some Jvm.ClassFile.FieldType.byte) ∈ tables_1 := List.mem_of_getElem? (i := 39) rfl
theorem pd_N7 : parseMethodDescriptor N7.desc = some ⟨[(.array .byte), .int], (some .byte)⟩ := by decide +kernel
theorem w37 : Jvm.Cond.methodLink "java/lang/String" (47 : Nat) N7 ∈ tables_1 := List.mem_of_getElem? (i := 37) rfl
theorem w38 : Jvm.Cond.static N7 ∈ tables_1 := List.mem_of_getElem? (i := 38) rfl
theorem d3_48 : decode jdk_42_method_149_code 48 = .ok (.putfield 15, 3) := by decide +kernel
theorem d3_51 : decode jdk_42_method_149_code 51 = .ok (.aload_n 0, 1) := by decide +kernel
theorem d3_52 : decode jdk_42_method_149_code 52 = .ok (.aload 5, 2) := by decide +kernel
theorem d3_54 : decode jdk_42_method_149_code 54 = .ok (.putfield 9, 3) := by decide +kernel
theorem d3_57 : decode jdk_42_method_149_code 57 = .ok (.return_, 1) := by decide +kernel
abbrev N9 : MethodName := ⟨"java/lang/String", "<init>", "([CIILjava/lang/Void;)V"⟩
theorem pn_N9 : plainName N9.cls = true := by first | (simp [plainName, overriddenIn]; done) | decide +kernel

abbrev rm_new4 : Room := { frames := 4, cells := 4, slots := 102, locals := 57 }
set_option maxRecDepth 65536 in
set_option maxHeartbeats 4000000 in
theorem ct_new4 (l : Launch) {Z : State} {n0 : Nat} {z : Int32} {f : Value} (W : Sx Z z f) (x a : Addr) (cs : List Int32) (h : Heap) (A : Exa Z h x "java/lang/String") (Fv : Fld Z h x "java/lang/String" "value" "[B" .null) (Fc : Fld Z h x "java/lang/String" "coder" "B" (.int 0)) (Fa : Vec Z h a .char cs) (hC : ∀ c ∈ cs, isC c) (hn : cs.length ≤ 34) (zx : n0 ≤ x) :
    Ctr l Z n0 N9 jdk_42_method_149_code 6 none rm_new4 #[(.ref x), (.ref a), (.int (0 : Int32)), (.int cs.length.toInt32), .null] h [x] (fun v h' sn => v = none ∧ Keep h h' [x] ∧ (∃ b, Stg Z h' x b cs) ∧ sn = []) := by
  refine Ctr.of_go (ls := #[.val (.ref x), .val (.ref a), .val (.int (0 : Int32)), .val (.int cs.length.toInt32), .val .null, .unset]) W.1.1 (plainFor_of_name pn_N9) (fun m => by first | (simp [entryFrame, mkF, argsToLocals, Value.category]; done) | rfl) (fun K H => ?_)
  have KK : Keep h h [x] := Keep.refl _ _
  have hax : a ≠ x := Vec.neExa Fa A W.1.1 w5
  refine Go.aloadN H d3_0 rfl rfl rfl ?_
  refine Go.initObj H d3_1 rfl w15 w16 w17 0 rfl (Nat.le_of_eq rfl) (by decide) (by decide) ?_
  refine Go.iloadN H d3_4 rfl rfl ?_
  by_cases c1 : cs = []
  ·
    refine Go.ifN H d3_5 (teq (by rw [c1]; rfl)).2 rfl ?_
    refine Go.aloadN H d3_8 rfl rfl rfl ?_
    refine Go.ldcS ([] : List Int32) (0 : Int32) 0 H d3_9 rfl w18 cm_0 lt_0 lt_0_l (by decide) (by decide) (by decide) (by decide) (by decide) (by decide) ?_
    intro a2 b3 h4 E5 S6 q7
    replace A := A.ext E5
    replace Fv := Fv.ext E5
    replace Fc := Fc.ext E5
    replace Fa := Fa.ext E5
    replace KK := KK.ext E5
    have ne8 : x ≠ a2 := (q7 x (by simp)).1
    have ne9 : x ≠ b3 := (q7 x (by simp)).2
    show Go _ _ _ _ _ _ h4 [x] 2 4 11 #[.val (.ref x), .val (.ref a), .val (.int (0 : Int32)), .val (.int cs.length.toInt32), .val .null, .unset] [(.ref a2), (.ref x)]
    refine Go.getfield H d3_11 rfl w24 S6.2.1 ?_
    refine Go.putfield (v := (.ref b3)) H d3_14 rfl w24 Fv A (Or.inr ⟨w20, rfl, rfl⟩) w5 (ty := (.array .byte)) (by decide) rfl rfl zx (by simp) ?_
    intro h10 Wr11
    have F12 := Fv.same Wr11
    have K13 := Keep.of_wr Wr11
    replace A := A.wr Wr11
    replace Fc := Fc.other Wr11 (Or.inr (own_sne W.1.1 (Or.inr w21) (Or.inr w20) (by decide) (t := .byte) (t' := (.array .byte)) (by decide) (by decide)))
    replace Fa := Fa.keep K13 (ninS hax nin0)
    replace S6 := S6.keep K13 (ninS (Ne.symm ne8) nin0) (ninS (Ne.symm ne9) nin0)
    replace KK := KK.wr Wr11 (Or.inl (by simp))
    refine Go.aloadN H d3_17 rfl rfl rfl ?_
    refine Go.ldcS ([] : List Int32) (0 : Int32) 0 H d3_18 rfl w18 cm_0 lt_0 lt_0_l (by decide) (by decide) (by decide) (by decide) (by decide) (by decide) ?_
    intro a14 b15 h16 E17 S18 q19
    replace A := A.ext E17
    replace Fc := Fc.ext E17
    replace Fa := Fa.ext E17
    replace S6 := S6.ext E17
    replace F12 := F12.ext E17
    replace KK := KK.ext E17
    have ne20 : x ≠ a14 := (q19 x (by simp)).1
    have ne21 : x ≠ b15 := (q19 x (by simp)).2
    show Go _ _ _ _ _ _ h16 [x] 4 8 20 #[.val (.ref x), .val (.ref a), .val (.int (0 : Int32)), .val (.int cs.length.toInt32), .val .null, .unset] [(.ref a14), (.ref x)]
    refine Go.getfield H d3_20 rfl w25 S18.2.2.1 ?_
    refine Go.putfield (v := (.int (0 : Int32))) H d3_23 rfl w25 Fc A (Or.inr ⟨w21, rfl, rfl⟩) w5 (ty := .byte) (by decide) (by decide) (by decide) zx (by simp) ?_
    intro h22 Wr23
    have F24 := Fc.same Wr23
    have K25 := Keep.of_wr Wr23
    replace A := A.wr Wr23
    replace Fa := Fa.keep K25 (ninS hax nin0)
    replace S6 := S6.keep K25 (ninS (Ne.symm ne8) nin0) (ninS (Ne.symm ne9) nin0)
    replace F12 := F12.other Wr23 (Or.inr (own_sne W.1.1 (Or.inr w20) (Or.inr w21) (by decide) (t := (.array .byte)) (t' := .byte) (by decide) (by decide)))
    replace S18 := S18.keep K25 (ninS (Ne.symm ne20) nin0) (ninS (Ne.symm ne21) nin0)
    replace KK := KK.wr Wr23 (Or.inl (by simp))
    exact Go.return_ [] H d3_26 ⟨rfl, KK, ⟨_, Or.inl ⟨A, F12, F24, (by rw [c1]; exact S6.2.2.2.1), (by rw [c1]; exact own_an), by omega⟩⟩, rfl⟩ all0 (by decide) (by decide)
  ·
    refine Go.ifY (pc' := 27) H d3_5 (feq (own_ne0 (by omega) (List.length_pos_iff.mpr c1))).2 (by decide) (by decide) ?_
    refine Go.getstatic H d3_27 rfl w29 W.1.2.2.1 ?_
    refine Go.ifN H d3_30 (feq W.1.2.1).1 rfl ?_
    refine Go.aloadN H d3_33 rfl rfl rfl ?_
    refine Go.iloadN H d3_34 rfl rfl ?_
    refine Go.iloadN H d3_35 rfl rfl ?_
    refine Go.callS (rest := []) 0 [(.ref a), (.int (0 : Int32)), (.int cs.length.toInt32)] H d3_36 rfl w30 w31 w32 w33 pd_N6 (ct_cmp3 l W a cs h Fa hC hn) all0 rfl rfl rfl (Nat.le_of_eq rfl) (by decide) (by decide) (by decide) (by decide) nh_N1 ?_
    rintro _ h27 _ ⟨b26, rfl, E28, g29, q31, rfl⟩
    have ne32 : x ≠ b26 := Nat.ne_of_lt (Nat.lt_of_lt_of_le A.lt g29)
    have ne33 : a ≠ b26 := Nat.ne_of_lt (Nat.lt_of_lt_of_le Fa.lt g29)
    replace A := A.ext E28
    replace Fv := Fv.ext E28
    replace Fc := Fc.ext E28
    replace Fa := Fa.ext E28
    replace KK := KK.ext E28
    rcases q31 with ⟨hL, F30⟩ | ⟨hX, F30⟩
    ·
      show Go _ _ _ _ _ _ h27 [x] 2 102 39 #[.val (.ref x), .val (.ref a), .val (.int (0 : Int32)), .val (.int cs.length.toInt32), .val .null, .unset] [(.ref b26)]
      refine Go.astore (ls' := #[.val (.ref x), .val (.ref a), .val (.int (0 : Int32)), .val (.int cs.length.toInt32), .val .null, .val (.ref b26)]) H d3_39 rfl rfl rfl ?_
      refine Go.aloadN H d3_41 rfl rfl rfl ?_
      refine Go.aload H d3_42 rfl rfl rfl ?_
      refine Go.iloadN H d3_44 rfl rfl ?_
      refine Go.callS (rest := [(.ref x)]) 1 [(.ref b26), (.int cs.length.toInt32)] H d3_45 rfl w37 w38 w32 w39 pd_N7 (ct_codl l W b26 _ cs.length.toInt32 h27 F30 (by rw [List.length_map])) all0 rfl rfl rfl (Nat.le_of_eq rfl) (by decide) (by decide) (by decide) (by decide) nh_N1 ?_
      rintro _ _ _ ⟨rfl, rfl, rfl⟩
      show Go _ _ _ _ _ _ h27 [x] 2 102 48 #[.val (.ref x), .val (.ref a), .val (.int (0 : Int32)), .val (.int cs.length.toInt32), .val .null, .val (.ref b26)] [(.int (0 : Int32)), (.ref x)]
      refine Go.putfield (v := (.int (0 : Int32))) H d3_48 rfl w25 Fc A (Or.inr ⟨w21, rfl, rfl⟩) w5 (ty := .byte) (by decide) (by decide) (by decide) zx (by simp) ?_
      intro h34 Wr35
      have F36 := Fc.same Wr35
      have K37 := Keep.of_wr Wr35
      replace A := A.wr Wr35
      replace Fv := Fv.other Wr35 (Or.inr (own_sne W.1.1 (Or.inr w20) (Or.inr w21) (by decide) (t := (.array .byte)) (t' := .byte) (by decide) (by decide)))
      replace Fa := Fa.keep K37 (ninS hax nin0)
      replace F30 := F30.keep K37 (ninS (Ne.symm ne32) nin0)
      replace KK := KK.wr Wr35 (Or.inl (by simp))
      refine Go.aloadN H d3_51 rfl rfl rfl ?_
      refine Go.aload H d3_52 rfl rfl rfl ?_
      refine Go.putfield (v := (.ref b26)) H d3_54 rfl w24 Fv A (Or.inr ⟨w20, rfl, rfl⟩) w5 (ty := (.array .byte)) (by decide) rfl rfl zx (by simp) ?_
      intro h38 Wr39
      have F40 := Fv.same Wr39
      have K41 := Keep.of_wr Wr39
      replace A := A.wr Wr39
      replace Fa := Fa.keep K41 (ninS hax nin0)
      replace F30 := F30.keep K41 (ninS (Ne.symm ne32) nin0)
      replace F36 := F36.other Wr39 (Or.inr (own_sne W.1.1 (Or.inr w21) (Or.inr w20) (by decide) (t := .byte) (t' := (.array .byte)) (by decide) (by decide)))
      replace KK := KK.wr Wr39 (Or.inl (by simp))
      exact Go.return_ [] H d3_57 ⟨rfl, KK, ⟨_, Or.inl ⟨A, F40, F36, F30, hL, by omega⟩⟩, rfl⟩ all0 (by decide) (by decide)
    ·
      show Go _ _ _ _ _ _ h27 [x] 2 102 39 #[.val (.ref x), .val (.ref a), .val (.int (0 : Int32)), .val (.int cs.length.toInt32), .val .null, .unset] [(.ref b26)]
      refine Go.astore (ls' := #[.val (.ref x), .val (.ref a), .val (.int (0 : Int32)), .val (.int cs.length.toInt32), .val .null, .val (.ref b26)]) H d3_39 rfl rfl rfl ?_
      refine Go.aloadN H d3_41 rfl rfl rfl ?_
      refine Go.aload H d3_42 rfl rfl rfl ?_
      refine Go.iloadN H d3_44 rfl rfl ?_
      refine Go.callS (rest := [(.ref x)]) 1 [(.ref b26), (.int cs.length.toInt32)] H d3_45 rfl w37 w38 w32 w39 pd_N7 (ct_codlU l W b26 _ cs.length h27 F30 (enc16_len _) (List.length_pos_iff.mpr (own_chpos hX)) (by omega)) all0 rfl rfl rfl (Nat.le_of_eq rfl) (by decide) (by decide) (by decide) (by decide) nh_N1 ?_
      rintro _ _ _ ⟨rfl, rfl, rfl⟩
      show Go _ _ _ _ _ _ h27 [x] 2 102 48 #[.val (.ref x), .val (.ref a), .val (.int (0 : Int32)), .val (.int cs.length.toInt32), .val .null, .val (.ref b26)] [(.int (1 : Int32)), (.ref x)]
      refine Go.putfield (v := (.int (1 : Int32))) H d3_48 rfl w25 Fc A (Or.inr ⟨w21, rfl, rfl⟩) w5 (ty := .byte) (by decide) (by decide) (by decide) zx (by simp) ?_
      intro h42 Wr43
      have F44 := Fc.same Wr43
      have K45 := Keep.of_wr Wr43
      replace A := A.wr Wr43
      replace Fv := Fv.other Wr43 (Or.inr (own_sne W.1.1 (Or.inr w20) (Or.inr w21) (by decide) (t := (.array .byte)) (t' := .byte) (by decide) (by decide)))
      replace Fa := Fa.keep K45 (ninS hax nin0)
      replace F30 := F30.keep K45 (ninS (Ne.symm ne32) nin0)
      replace KK := KK.wr Wr43 (Or.inl (by simp))
      refine Go.aloadN H d3_51 rfl rfl rfl ?_
      refine Go.aload H d3_52 rfl rfl rfl ?_
      refine Go.putfield (v := (.ref b26)) H d3_54 rfl w24 Fv A (Or.inr ⟨w20, rfl, rfl⟩) w5 (ty := (.array .byte)) (by decide) rfl rfl zx (by simp) ?_
      intro h46 Wr47
      have F48 := Fv.same Wr47
      have K49 := Keep.of_wr Wr47
      replace A := A.wr Wr47
      replace Fa := Fa.keep K49 (ninS hax nin0)
      replace F30 := F30.keep K49 (ninS (Ne.symm ne32) nin0)
      replace F44 := F44.other Wr47 (Or.inr (own_sne W.1.1 (Or.inr w21) (Or.inr w20) (by decide) (t := .byte) (t' := (.array .byte)) (by decide) (by decide)))
      replace KK := KK.wr Wr47 (Or.inl (by simp))
      exact Go.return_ [] H d3_57 ⟨rfl, KK, ⟨_, Or.inr ⟨A, F48, F44, F30, hC, by omega, hX⟩⟩, rfl⟩ all0 (by decide) (by decide)
theorem d2_0 : decode jdk_42_method_3_code 0 = .ok (.aload_n 0, 1) := by decide +kernel
theorem d2_1 : decode jdk_42_method_3_code 1 = .ok (.aload_n 1, 1) := by decide +kernel
theorem d2_2 : decode jdk_42_method_3_code 2 = .ok (.iconst 0, 1) := by decide +kernel
theorem d2_3 : decode jdk_42_method_3_code 3 = .ok (.aload_n 1, 1) := by decide +kernel
theorem d2_4 : decode jdk_42_method_3_code 4 = .ok (.arraylength, 1) := by decide +kernel
theorem d2_5 : decode jdk_42_method_3_code 5 = .ok (.aconst_null, 1) := by decide +kernel
theorem d2_6 : decode jdk_42_method_3_code 6 = .ok (.invokespecial 27, 3) := by decide +kernel
theorem w14 : Jvm.Cond.code N9 jdk_42_method_149_code (6 : Nat) (Option.none : Option Jvm.ClassFile.FieldType) ∈ tables_1 := List.mem_of_getElem? (i := 14) rfl
theorem w6 : Jvm.Cond.initialized "java/lang/String" ∈ tables_1 := List.mem_of_getElem? (i := 6) rfl
theorem pd_N9 : parseMethodDescriptor N9.desc = some ⟨[(.array .char), .int, .int, (.object "java/lang/Void")], none⟩ := by decide +kernel
theorem nh_N9 : N9.cls ≠ "java/lang/invoke/MethodHandle" ∧ N9.cls ≠ "java/lang/invoke/VarHandle" := by decide
theorem w11 : Jvm.Cond.methodLink "java/lang/String" (27 : Nat) N9 ∈ tables_1 := List.mem_of_getElem? (i := 11) rfl
theorem w12 : Jvm.Cond.instanceMethod N9 ∈ tables_1 := List.mem_of_getElem? (i := 12) rfl
theorem d2_9 : decode jdk_42_method_3_code 9 = .ok (.return_, 1) := by decide +kernel
abbrev N10 : MethodName := ⟨"java/lang/String", "<init>", "([C)V"⟩

abbrev rm_new1 : Room := { frames := 5, cells := 4, slots := 102, locals := 74 }
set_option maxRecDepth 65536 in
set_option maxHeartbeats 4000000 in
theorem ct_new1 (l : Launch) {Z : State} {n0 : Nat} {z : Int32} {f : Value} (W : Sx Z z f) (x a : Addr) (cs : List Int32) (h : Heap) (A : Exa Z h x "java/lang/String") (Fv : Fld Z h x "java/lang/String" "value" "[B" .null) (Fc : Fld Z h x "java/lang/String" "coder" "B" (.int 0)) (Fa : Vec Z h a .char cs) (hC : ∀ c ∈ cs, isC c) (hn : cs.length ≤ 34) (zx : n0 ≤ x) :
    Ctr l Z n0 N10 jdk_42_method_3_code 2 none rm_new1 #[(.ref x), (.ref a)] h [x] (fun v h' sn => v = none ∧ Keep h h' [x] ∧ (∃ b, Stg Z h' x b cs) ∧ sn = []) := by
  refine Ctr.of_go (ls := #[.val (.ref x), .val (.ref a)]) W.1.1 (plainFor_of_name pn_N9) (fun m => by first | (simp [entryFrame, mkF, argsToLocals, Value.category]; done) | rfl) (fun K H => ?_)
  have hax : a ≠ x := Vec.neExa Fa A W.1.1 w5
  refine Go.aloadN H d2_0 rfl rfl rfl ?_
  refine Go.aloadN H d2_1 rfl rfl rfl ?_
  refine Go.iconst (0 : Int32) H d2_2 rfl rfl ?_
  refine Go.aloadN H d2_3 rfl rfl rfl ?_
  refine Go.arraylength cs.length.toInt32 H d2_4 rfl Fa rfl ?_
  refine Go.aconstNull H d2_5 rfl ?_
  refine Go.callI (rest := []) 0 [(.ref a), (.int (0 : Int32)), (.int cs.length.toInt32), .null] H d2_6 rfl rfl w11 w12 w6 w14 pd_N9 (ct_new4 l W x a cs h A Fv Fc Fa hC hn zx) (by simp) rfl rfl rfl (Nat.le_of_eq rfl) (by decide) (by decide) (by decide) (by decide) nh_N9 ?_
  rintro _ h1 _ ⟨rfl, K2, ⟨b3, S4⟩, rfl⟩
  replace Fa := Fa.keep K2 (ninS hax nin0)
  show Go _ _ _ _ _ _ h1 [x] 4 102 9 #[.val (.ref x), .val (.ref a)] []
  exact Go.return_ [] H d2_9 ⟨rfl, K2, ⟨_, S4⟩, rfl⟩ all0 (by decide) (by decide)
theorem d15_0 : decode jdk_42_method_152_code 0 = .ok (.getstatic 38, 3) := by decide +kernel
theorem d15_3 : decode jdk_42_method_152_code 3 = .ok (.ifCond .eq 10, 3) := by decide +kernel
theorem d15_6 : decode jdk_42_method_152_code 6 = .ok (.aload_n 0, 1) := by decide +kernel
theorem d15_7 : decode jdk_42_method_152_code 7 = .ok (.getfield 15, 3) := by decide +kernel
theorem d15_10 : decode jdk_42_method_152_code 10 = .ok (.goto 4, 3) := by decide +kernel
theorem d15_14 : decode jdk_42_method_152_code 14 = .ok (.ireturn, 1) := by decide +kernel
abbrev N11 : MethodName := ⟨"java/lang/String", "coder", "()B"⟩

abbrev rm_cod0 : Room := { frames := 0, cells := 0, slots := 0, locals := 0 }
set_option maxRecDepth 65536 in
set_option maxHeartbeats 4000000 in
theorem ct_cod0 (l : Launch) {Z : State} {n0 : Nat} {z : Int32} {f : Value} (W : Sx Z z f) (x : Addr) (h : Heap) (A : Exa Z h x "java/lang/String") (Fc : Fld Z h x "java/lang/String" "coder" "B" (.int 0)) :
    Ctr l Z n0 N11 jdk_42_method_152_code 1 (some .byte) rm_cod0 #[(.ref x)] h [] (fun v h' sn => v = some (.int 0) ∧ h = h' ∧ sn = []) := by
  refine Ctr.of_go (ls := #[.val (.ref x)]) W.1.1 (plainFor_of_name pn_N9) (fun m => by first | (simp [entryFrame, mkF, argsToLocals, Value.category]; done) | rfl) (fun K H => ?_)
  refine Go.getstatic H d15_0 rfl w29 W.1.2.2.1 ?_
  refine Go.ifN H d15_3 (feq W.1.2.1).1 rfl ?_
  refine Go.aloadN H d15_6 rfl rfl rfl ?_
  refine Go.getfield H d15_7 rfl w25 Fc ?_
  refine Go.goto (pc' := 14) H d15_10 (by decide) (by decide) ?_
  exact Go.ireturn (0 : Int32) [] H d15_14 (by simp) (by decide) ⟨rfl, rfl, rfl⟩ all0 (by decide) (by decide)

abbrev rm_cod1 : Room := { frames := 0, cells := 0, slots := 0, locals := 0 }
set_option maxRecDepth 65536 in
set_option maxHeartbeats 4000000 in
theorem ct_cod1 (l : Launch) {Z : State} {n0 : Nat} {z : Int32} {f : Value} (W : Sx Z z f) (x : Addr) (h : Heap) (A : Exa Z h x "java/lang/String") (Fc : Fld Z h x "java/lang/String" "coder" "B" (.int 1)) :
    Ctr l Z n0 N11 jdk_42_method_152_code 1 (some .byte) rm_cod1 #[(.ref x)] h [] (fun v h' sn => v = some (.int 1) ∧ h = h' ∧ sn = []) := by
  refine Ctr.of_go (ls := #[.val (.ref x)]) W.1.1 (plainFor_of_name pn_N9) (fun m => by first | (simp [entryFrame, mkF, argsToLocals, Value.category]; done) | rfl) (fun K H => ?_)
  refine Go.getstatic H d15_0 rfl w29 W.1.2.2.1 ?_
  refine Go.ifN H d15_3 (feq W.1.2.1).1 rfl ?_
  refine Go.aloadN H d15_6 rfl rfl rfl ?_
  refine Go.getfield H d15_7 rfl w25 Fc ?_
  refine Go.goto (pc' := 14) H d15_10 (by decide) (by decide) ?_
  exact Go.ireturn (1 : Int32) [] H d15_14 (by simp) (by decide) ⟨rfl, rfl, rfl⟩ all0 (by decide) (by decide)
theorem d14_0 : decode jdk_42_method_54_code 0 = .ok (.aload_n 0, 1) := by decide +kernel
theorem d14_1 : decode jdk_42_method_54_code 1 = .ok (.getfield 9, 3) := by decide +kernel
theorem d14_4 : decode jdk_42_method_54_code 4 = .ok (.arraylength, 1) := by decide +kernel
theorem d14_5 : decode jdk_42_method_54_code 5 = .ok (.aload_n 0, 1) := by decide +kernel
theorem d14_6 : decode jdk_42_method_54_code 6 = .ok (.invokevirtual 335, 3) := by decide +kernel
theorem w84 : Jvm.Cond.code N11 jdk_42_method_152_code (1 : Nat) (Option.some Jvm.ClassFile.FieldType.byte) ∈ tables_1 := List.mem_of_getElem? (i := 84) rfl
theorem pd_N11 : parseMethodDescriptor N11.desc = some ⟨[], (some .byte)⟩ := by decide +kernel
theorem w80 : Jvm.Cond.methodLink "java/lang/String" (335 : Nat) N11 ∈ tables_1 := List.mem_of_getElem? (i := 80) rfl
theorem w81 : Jvm.Cond.declares N11 ∈ tables_1 := List.mem_of_getElem? (i := 81) rfl
theorem w83 : Jvm.Cond.selects "java/lang/String" N11 N11 ∈ tables_1 := List.mem_of_getElem? (i := 83) rfl
theorem w82 : Jvm.Cond.instanceMethod N11 ∈ tables_1 := List.mem_of_getElem? (i := 82) rfl
theorem d14_9 : decode jdk_42_method_54_code 9 = .ok (.ishr, 1) := by decide +kernel
theorem d14_10 : decode jdk_42_method_54_code 10 = .ok (.ireturn, 1) := by decide +kernel
abbrev N12 : MethodName := ⟨"java/lang/String", "length", "()I"⟩

abbrev rm_len : Room := { frames := 1, cells := 0, slots := 0, locals := 13 }
set_option maxRecDepth 65536 in
set_option maxHeartbeats 4000000 in
theorem ct_len (l : Launch) {Z : State} {n0 : Nat} {z : Int32} {f : Value} (W : Sx Z z f) (x b : Addr) (cs : List Int32) (h : Heap) (S : Stg Z h x b cs) :
    Ctr l Z n0 N12 jdk_42_method_54_code 1 (some .int) rm_len #[(.ref x)] h [] (fun v h' sn => v = some (.int cs.length.toInt32) ∧ h = h' ∧ sn = []) := by
  refine Ctr.of_go (ls := #[.val (.ref x)]) W.1.1 (plainFor_of_name pn_N9) (fun m => by first | (simp [entryFrame, mkF, argsToLocals, Value.category]; done) | rfl) (fun K H => ?_)
  rcases S with ⟨A, Fv, Fc, Fb, hL, hn⟩ | ⟨A, Fv, Fc, Fb, hC, hn, hX⟩
  ·
    refine Go.aloadN H d14_0 rfl rfl rfl ?_
    refine Go.getfield H d14_1 rfl w24 Fv ?_
    refine Go.arraylength cs.length.toInt32 H d14_4 rfl Fb (by rw [List.length_map]) ?_
    refine Go.aloadN H d14_5 rfl rfl rfl ?_
    refine Go.callV (rest := [(.int cs.length.toInt32)]) 1 [] H d14_6 rfl A w80 w81 w83 w82 w6 w84 pd_N11 (ct_cod0 l W x h A Fc) all0 rfl rfl rfl (Nat.le_of_eq rfl) (by decide) (by decide) (by decide) (by decide) nh_N9 ?_
    rintro _ _ _ ⟨rfl, rfl, rfl⟩
    show Go _ _ _ _ _ _ h [] 0 0 9 #[.val (.ref x)] [(.int (0 : Int32)), (.int cs.length.toInt32)]
    refine Go.ishr H d14_9 rfl ?_
    exact Go.ireturnI [] H d14_10 ⟨by rw [own_shr0], rfl, rfl⟩ all0 (by decide) (by decide)
  ·
    refine Go.aloadN H d14_0 rfl rfl rfl ?_
    refine Go.getfield H d14_1 rfl w24 Fv ?_
    refine Go.arraylength (2 * cs.length).toInt32 H d14_4 rfl Fb (by rw [enc16_len]) ?_
    refine Go.aloadN H d14_5 rfl rfl rfl ?_
    refine Go.callV (rest := [(.int (2 * cs.length).toInt32)]) 1 [] H d14_6 rfl A w80 w81 w83 w82 w6 w84 pd_N11 (ct_cod1 l W x h A Fc) all0 rfl rfl rfl (Nat.le_of_eq rfl) (by decide) (by decide) (by decide) (by decide) nh_N9 ?_
    rintro _ _ _ ⟨rfl, rfl, rfl⟩
    show Go _ _ _ _ _ _ h [] 0 0 9 #[.val (.ref x)] [(.int (1 : Int32)), (.int (2 * cs.length).toInt32)]
    refine Go.ishr H d14_9 rfl ?_
    exact Go.ireturnI [] H d14_10 ⟨by rw [own_ul hn], rfl, rfl⟩ all0 (by decide) (by decide)
/-! StringBuilder -/
theorem own_shl0 (x : Int32) : x <<< ((0 : Int32) &&& 31) = x := by
  have h := c_ishl x 0 0 (by decide)
  have h1 := rng32 x
  have h2 := rng32 (x <<< ((0 : Int32) &&& 31))
  exact Int32.toInt_inj.mp (by omega)
theorem own_b255 {c : Int32} (h : isL c) : (nar .byte c &&& (255 : Int32)) = c := by
  have h1 := c_i2b c
  have h2 := c_mask (nar .byte c) 255 8 (by decide) (by decide)
  obtain ⟨g1, g2⟩ := h
  simp only [nar] at *
  exact Int32.toInt_inj.mp (by omega)
theorem own_subn {m n : Nat} (hm : m < 2 ^ 31) (hn : n < 2 ^ 31) : (m.toInt32 - n.toInt32).toInt = (m : Int) - n := by
  rw [Int32.toInt_sub, own_len hm, own_len hn, Int.bmod_eq_of_le (by omega) (by omega)]
theorem own_subnp {m n : Nat} (hn : n < 2 ^ 31) (h : m ≤ n) : ¬ (0 : Int32) < m.toInt32 - n.toInt32 := by
  rw [Int32.lt_iff_toInt_lt, own_subn (by omega) hn]; simp only [Int32.reduceToInt]; omega
theorem own_add (a b : Nat) : a.toInt32 + b.toInt32 = (a + b).toInt32 := (Int32.ofNat_add a b).symm
theorem own_s16 {m : Nat} (h1 : 16 < m) (h2 : m ≤ 33) : (m.toInt32 - (16 : Int32)).toInt = (m : Int) - 16 := own_subn (n := 16) (by omega) (by decide)
theorem own_s32 {m : Nat} (h1 : 16 < m) (h2 : m ≤ 33) : ((2 * m).toInt32 - (32 : Int32)).toInt = ((2 * m : Nat) : Int) - 32 := own_subn (n := 32) (by omega) (by decide)
theorem own_g0 {m : Nat} (h1 : 16 < m) (h2 : m ≤ 33) : m.toInt32 - (16 : Int32) < (18 : Int32) := by
  rw [Int32.lt_iff_toInt_lt, own_s16 h1 h2]; simp only [Int32.reduceToInt]; omega
theorem own_g1 {m : Nat} (h1 : 16 < m) (h2 : m ≤ 33) : (2 * m).toInt32 - (32 : Int32) < (36 : Int32) := by
  rw [Int32.lt_iff_toInt_lt, own_s32 h1 h2]; simp only [Int32.reduceToInt]; omega
theorem own_g2 {m : Nat} (h1 : 16 < m) (h2 : m ≤ 33) : (0 : Int32) < m.toInt32 - (16 : Int32) := by
  rw [Int32.lt_iff_toInt_lt, own_s16 h1 h2]; simp only [Int32.reduceToInt]; omega
theorem own_drA (A pad : List Int32) (k : Nat) : (A ++ pad).drop (A.length + k) = pad.drop k := by
  rw [List.drop_append, List.drop_eq_nil_of_le (by omega), Nat.add_sub_cancel_left, List.nil_append]
theorem own_cpl {A B pad : List Int32} {D N : Nat} (hD : A.length = D) (hN : B.length = N) : ((A ++ pad).take D ++ (B.drop 0).take N ++ (A ++ pad).drop (D + N)) = A ++ B ++ pad.drop N := by
  subst hD hN
  rw [own_drA, List.drop_zero, List.take_length]; simp
theorem own_cof {bs : List Int32} {N L : Nat} (hb : bs.length = L) : ((List.replicate N (0 : Int32)).take 0 ++ (bs.drop 0).take L ++ (List.replicate N 0).drop (0 + L)) = bs ++ List.replicate (N - L) 0 := by
  subst hb; simp
theorem own_set2 {A R : List Int32} {n : Nat} (hA : A.length = n) (hR : 2 ≤ R.length) (u v : Int32) : ((A ++ R).set n u).set (n + 1) v = A ++ u :: v :: R.drop 2 := by
  match R, hR with
  | r0 :: r1 :: R', _ =>
    subst hA
    rw [List.set_append_right _ _ (Nat.le_refl _), Nat.sub_self, List.set_cons_zero, List.set_append_right _ _ (by omega), show A.length + 1 - A.length = 1 from by omega, List.set_cons_succ, List.set_cons_zero]; rfl
theorem own_enc1 {cs : List Int32} {i : Nat} {c : Int32} (hc : cs[i]? = some c) : enc16 (cs.take (i + 1)) = enc16 (cs.take i) ++ [nar .byte (c >>> ((0 : Int32) &&& 31)), nar .byte (c >>> ((8 : Int32) &&& 31))] := by
  rw [List.take_add_one, hc, enc16_app]; rfl
theorem own_inf {P cs R : List Int32} {k i : Nat} {c : Int32} (hP : P.length = 2 * k) (hc : cs[i]? = some c) (hR : 2 * cs.length ≤ R.length) : ((P ++ enc16 (cs.take i) ++ R.drop (2 * i)).set (2 * (k + i)) (nar .byte (c >>> ((0 : Int32) &&& 31)))).set (2 * (k + i) + 1) (nar .byte (c >>> ((8 : Int32) &&& 31))) = P ++ enc16 (cs.take (i + 1)) ++ R.drop (2 * (i + 1)) := by
  have hl : i < cs.length := own_lenlt hc
  rw [own_set2 (by rw [List.length_append, hP, enc16_len, List.length_take]; omega) (by rw [List.length_drop]; omega), own_enc1 hc, List.drop_drop, show 2 * i + 2 = 2 * (i + 1) from by omega]
  simp
theorem own_inf0 {P cs R : List Int32} {i : Nat} (e : i = cs.length) : P ++ enc16 (cs.take i) ++ R.drop (2 * i) = P ++ enc16 cs ++ R.drop (2 * cs.length) := by
  subst e; rw [List.take_length]
theorem own_or0 {a b : Int32} (ha : ¬ a < 0) (hb : ¬ b < 0) : ¬ (a ||| b) < 0 := by
  rw [Int32.lt_iff_toInt_lt] at *; simp only [Int32.reduceToInt] at *; have := (c_orS a b).1 (by omega) (by omega); omega
theorem own_sle {m k n : Nat} (hm : m < 2 ^ 31) (h : k + n ≤ m) : ¬ m.toInt32 - k.toInt32 < n.toInt32 := by
  rw [Int32.lt_iff_toInt_lt, own_subn hm (by omega), own_len (by omega)]; omega
theorem enc16_inj : ∀ {cs ds : List Int32}, (∀ c ∈ cs, isC c) → (∀ d ∈ ds, isC d) → enc16 cs = enc16 ds → cs = ds
  | [], [], _, _, _ => rfl
  | [], _ :: _, _, _, e => by cases e
  | _ :: _, [], _, _, e => by cases e
  | c :: cs, d :: ds, h, g, e => by
    simp only [enc16, List.cons.injEq] at e
    have q : c = d := by rw [← own_back16 (h c (by simp)), ← own_back16 (g d (by simp)), e.1, e.2.1]
    rw [q, enc16_inj (fun c q => h c (by simp [q])) (fun c q => g c (by simp [q])) e.2.2]

def SbF (Z : State) (h : Heap) (x b : Addr) (t n : Int32) : Prop := Exa Z h x "java/lang/StringBuilder" ∧ Fld Z h x "java/lang/AbstractStringBuilder" "value" "[B" (.ref b) ∧ Fld Z h x "java/lang/AbstractStringBuilder" "coder" "B" (.int t) ∧ Fld Z h x "java/lang/AbstractStringBuilder" "count" "I" (.int n) ∧ Fld Z h x "java/lang/AbstractStringBuilder" "maybeLatin1" "Z" (.int 0)
def SbL (Z : State) (h : Heap) (x b : Addr) (cap : Nat) (cs : List Int32) : Prop := SbF Z h x b 0 cs.length.toInt32 ∧ (∃ pad, Vec Z h b .byte (cs.map (nar .byte) ++ pad) ∧ cs.length + pad.length = cap) ∧ ∀ c ∈ cs, isL c
def SbU (Z : State) (h : Heap) (x b : Addr) (cap : Nat) (cs : List Int32) : Prop := SbF Z h x b 1 cs.length.toInt32 ∧ (∃ pad, Vec Z h b .byte (enc16 cs ++ pad) ∧ 2 * cs.length + pad.length = 2 * cap) ∧ (∀ c ∈ cs, isC c) ∧ ∃ c ∈ cs, ¬ isL c
def Sbg (Z : State) (h : Heap) (x b : Addr) (cap : Nat) (cs : List Int32) : Prop := SbL Z h x b cap cs ∨ SbU Z h x b cap cs
section SbS
variable {Z : State} {h h' : Heap} {x b : Addr} {t n : Int32} {cap : Nat} {cs : List Int32} {ws : List Addr}
theorem SbF.ext (F : SbF Z h x b t n) (E : Ext h h') : SbF Z h' x b t n := ⟨F.1.ext E, F.2.1.ext E, F.2.2.1.ext E, F.2.2.2.1.ext E, F.2.2.2.2.ext E⟩
theorem SbF.keep (F : SbF Z h x b t n) (K : Keep h h' ws) (q : x ∉ ws) : SbF Z h' x b t n := ⟨F.1.keep K, F.2.1.keep K q, F.2.2.1.keep K q, F.2.2.2.1.keep K q, F.2.2.2.2.keep K q⟩
theorem Sbg.exa (F : Sbg Z h x b cap cs) : Exa Z h x "java/lang/StringBuilder" := F.elim (fun q => q.1.1) (fun q => q.1.1)
theorem Sbg.lt (F : Sbg Z h x b cap cs) : x < h.size := F.exa.lt
theorem Sbg.ltb (F : Sbg Z h x b cap cs) : b < h.size := by
  rcases F with ⟨-, ⟨p, V, -⟩, -⟩ | ⟨-, ⟨p, V, -⟩, -⟩ <;> exact V.lt
theorem Sbg.ext (F : Sbg Z h x b cap cs) (E : Ext h h') : Sbg Z h' x b cap cs := by
  rcases F with ⟨f, ⟨p, V, q⟩, r⟩ | ⟨f, ⟨p, V, q⟩, r⟩
  · exact Or.inl ⟨f.ext E, ⟨p, V.ext E, q⟩, r⟩
  · exact Or.inr ⟨f.ext E, ⟨p, V.ext E, q⟩, r⟩
theorem Sbg.keep (F : Sbg Z h x b cap cs) (K : Keep h h' ws) (q1 : x ∉ ws) (q2 : b ∉ ws) : Sbg Z h' x b cap cs := by
  rcases F with ⟨f, ⟨p, V, q⟩, r⟩ | ⟨f, ⟨p, V, q⟩, r⟩
  · exact Or.inl ⟨f.keep K q1, ⟨p, V.keep K q2, q⟩, r⟩
  · exact Or.inr ⟨f.keep K q1, ⟨p, V.keep K q2, q⟩, r⟩
end SbS
def minF (a : Int32) (b : Int32) : Int32 := if b < a then b else a
theorem w48 : Jvm.Cond.instantiable "java/lang/StringBuilder" (4 : Nat) ∈ tables_1 := List.mem_of_getElem? (i := 48) rfl
theorem d30_0 : decode jdk_29_method_69_code 0 = .ok (.iload_n 0, 1) := by decide +kernel
theorem d30_1 : decode jdk_29_method_69_code 1 = .ok (.iload_n 1, 1) := by decide +kernel
theorem d30_2 : decode jdk_29_method_69_code 2 = .ok (.if_icmp .gt 7, 3) := by decide +kernel
theorem d30_9 : decode jdk_29_method_69_code 9 = .ok (.iload_n 1, 1) := by decide +kernel
theorem d30_10 : decode jdk_29_method_69_code 10 = .ok (.ireturn, 1) := by decide +kernel
theorem d30_5 : decode jdk_29_method_69_code 5 = .ok (.iload_n 0, 1) := by decide +kernel
theorem d30_6 : decode jdk_29_method_69_code 6 = .ok (.goto 4, 3) := by decide +kernel
abbrev N13 : MethodName := ⟨"java/lang/Math", "min", "(II)I"⟩
theorem pf_N13 : plainFor N13 = true := by decide +kernel

abbrev rm_min : Room := { frames := 0, cells := 0, slots := 0, locals := 0 }
set_option maxRecDepth 65536 in
set_option maxHeartbeats 4000000 in
theorem ct_min (l : Launch) {Z : State} {n0 : Nat} {z : Int32} {f : Value} (W : Sx Z z f) (a : Int32) (b : Int32) (h : Heap) :
    Ctr l Z n0 N13 jdk_29_method_69_code 2 (some .int) rm_min #[(.int a), (.int b)] h [] (fun v h' sn => v = some (.int (minF a b)) ∧ h = h' ∧ sn = []) := by
  refine Ctr.of_go (ls := #[.val (.int a), .val (.int b)]) W.1.1 pf_N13 (fun m => by first | (simp [entryFrame, mkF, argsToLocals, Value.category]; done) | rfl) (fun K H => ?_)
  refine Go.iloadN H d30_0 rfl rfl ?_
  refine Go.iloadN H d30_1 rfl rfl ?_
  by_cases c1 : b < a
  ·
    refine Go.icmpY (pc' := 9) H d30_2 (tlt c1).2.2.1 (by decide) (by decide) ?_
    refine Go.iloadN H d30_9 rfl rfl ?_
    exact Go.ireturnI [] H d30_10 ⟨congrArg (fun q => some (Value.int q)) (show b = minF a b from Eq.symm (by rw [minF, if_pos c1])), rfl, rfl⟩ all0 (by decide) (by decide)
  ·
    refine Go.icmpN H d30_2 (flt c1).2.2.1 rfl ?_
    refine Go.iloadN H d30_5 rfl rfl ?_
    refine Go.goto (pc' := 10) H d30_6 (by decide) (by decide) ?_
    exact Go.ireturnI [] H d30_10 ⟨congrArg (fun q => some (Value.int q)) (show a = minF a b from Eq.symm (by rw [minF, if_neg c1])), rfl, rfl⟩ all0 (by decide) (by decide)
def maxF (a : Int32) (b : Int32) : Int32 := if a < b then b else a
theorem d34_0 : decode jdk_29_method_65_code 0 = .ok (.iload_n 0, 1) := by decide +kernel
theorem d34_1 : decode jdk_29_method_65_code 1 = .ok (.iload_n 1, 1) := by decide +kernel
theorem d34_2 : decode jdk_29_method_65_code 2 = .ok (.if_icmp .lt 7, 3) := by decide +kernel
theorem d34_9 : decode jdk_29_method_65_code 9 = .ok (.iload_n 1, 1) := by decide +kernel
theorem d34_10 : decode jdk_29_method_65_code 10 = .ok (.ireturn, 1) := by decide +kernel
theorem d34_5 : decode jdk_29_method_65_code 5 = .ok (.iload_n 0, 1) := by decide +kernel
theorem d34_6 : decode jdk_29_method_65_code 6 = .ok (.goto 4, 3) := by decide +kernel
abbrev N14 : MethodName := ⟨"java/lang/Math", "max", "(II)I"⟩
theorem pf_N14 : plainFor N14 = true := by decide +kernel

abbrev rm_max : Room := { frames := 0, cells := 0, slots := 0, locals := 0 }
set_option maxRecDepth 65536 in
set_option maxHeartbeats 4000000 in
theorem ct_max (l : Launch) {Z : State} {n0 : Nat} {z : Int32} {f : Value} (W : Sx Z z f) (a : Int32) (b : Int32) (h : Heap) :
    Ctr l Z n0 N14 jdk_29_method_65_code 2 (some .int) rm_max #[(.int a), (.int b)] h [] (fun v h' sn => v = some (.int (maxF a b)) ∧ h = h' ∧ sn = []) := by
  refine Ctr.of_go (ls := #[.val (.int a), .val (.int b)]) W.1.1 pf_N14 (fun m => by first | (simp [entryFrame, mkF, argsToLocals, Value.category]; done) | rfl) (fun K H => ?_)
  refine Go.iloadN H d34_0 rfl rfl ?_
  refine Go.iloadN H d34_1 rfl rfl ?_
  by_cases c1 : a < b
  ·
    refine Go.icmpY (pc' := 9) H d34_2 (tlt c1).1 (by decide) (by decide) ?_
    refine Go.iloadN H d34_9 rfl rfl ?_
    exact Go.ireturnI [] H d34_10 ⟨congrArg (fun q => some (Value.int q)) (show b = maxF a b from Eq.symm (by rw [maxF, if_pos c1])), rfl, rfl⟩ all0 (by decide) (by decide)
  ·
    refine Go.icmpN H d34_2 (flt c1).1 rfl ?_
    refine Go.iloadN H d34_5 rfl rfl ?_
    refine Go.goto (pc' := 10) H d34_6 (by decide) (by decide) ?_
    exact Go.ireturnI [] H d34_10 ⟨congrArg (fun q => some (Value.int q)) (show a = maxF a b from Eq.symm (by rw [maxF, if_neg c1])), rfl, rfl⟩ all0 (by decide) (by decide)
theorem maxF_r {a b : Int32} (h : a < b) : maxF a b = b := by unfold maxF; rw [if_pos h]
theorem minF_0 : minF 16 34 = 16 := by decide
theorem minF_1 : minF 32 68 = 32 := by decide
theorem own_min {n k : Nat} (hn : n < 2 ^ 31) (hk : k < n) : minF n.toInt32 k.toInt32 = k.toInt32 := by
  unfold minF; rw [if_pos (own_lt hn hk)]
theorem lt_a : (2 : Int32) <<< ((0 : Int32) &&& 31) = 2 := by decide
theorem lt_b : (2 : Int32) <<< ((1 : Int32) &&& 31) = 4 := by decide
theorem lt_c : (34 : Int32) >>> ((0 : Int32) &&& 31) = 34 := by decide
theorem lt_d : (68 : Int32) >>> ((1 : Int32) &&& 31) = 34 := by decide
theorem lt_e : (16 : Int32) >>> ((0 : Int32) &&& 31) = 16 := by decide
theorem lt_f : (32 : Int32) >>> ((1 : Int32) &&& 31) = 16 := by decide
theorem lt_g : (34 : Int32) <<< ((0 : Int32) &&& 31) = 34 := by decide
theorem lt_h : (34 : Int32) <<< ((1 : Int32) &&& 31) = 68 := by decide
theorem d11_0 : decode jdk_68_method_2_code 0 = .ok (.aload_n 0, 1) := by decide +kernel
theorem d11_1 : decode jdk_68_method_2_code 1 = .ok (.invokespecial 3, 3) := by decide +kernel
theorem w59 : Jvm.Cond.methodLink "java/lang/AbstractStringBuilder" (3 : Nat) N8 ∈ tables_1 := List.mem_of_getElem? (i := 59) rfl
theorem d11_4 : decode jdk_68_method_2_code 4 = .ok (.getstatic 18, 3) := by decide +kernel
theorem w60 : Jvm.Cond.fieldLink "java/lang/AbstractStringBuilder" (18 : Nat) "java/lang/String" "COMPACT_STRINGS" "Z" ∈ tables_1 := List.mem_of_getElem? (i := 60) rfl
theorem d11_7 : decode jdk_68_method_2_code 7 = .ok (.ifCond .eq 18, 3) := by decide +kernel
theorem d11_10 : decode jdk_68_method_2_code 10 = .ok (.aload_n 0, 1) := by decide +kernel
theorem d11_11 : decode jdk_68_method_2_code 11 = .ok (.iload_n 1, 1) := by decide +kernel
theorem d11_12 : decode jdk_68_method_2_code 12 = .ok (.newarray .byte, 2) := by decide +kernel
theorem d11_14 : decode jdk_68_method_2_code 14 = .ok (.putfield 15, 3) := by decide +kernel
theorem w61 : Jvm.Cond.fieldLink "java/lang/AbstractStringBuilder" (15 : Nat) "java/lang/AbstractStringBuilder" "value" "[B" ∈ tables_1 := List.mem_of_getElem? (i := 61) rfl
theorem w62 : Jvm.Cond.lays "java/lang/StringBuilder" "java/lang/AbstractStringBuilder" "value" "[B" ∈ tables_1 := List.mem_of_getElem? (i := 62) rfl
theorem w64 : Jvm.Cond.lays "java/lang/StringBuilder" "java/lang/AbstractStringBuilder" "coder" "B" ∈ tables_1 := List.mem_of_getElem? (i := 64) rfl
theorem w86 : Jvm.Cond.lays "java/lang/StringBuilder" "java/lang/AbstractStringBuilder" "count" "I" ∈ tables_1 := List.mem_of_getElem? (i := 86) rfl
theorem w243 : Jvm.Cond.lays "java/lang/StringBuilder" "java/lang/AbstractStringBuilder" "maybeLatin1" "Z" ∈ tables_1 := List.mem_of_getElem? (i := 243) rfl
theorem d11_17 : decode jdk_68_method_2_code 17 = .ok (.aload_n 0, 1) := by decide +kernel
theorem d11_18 : decode jdk_68_method_2_code 18 = .ok (.iconst 0, 1) := by decide +kernel
theorem d11_19 : decode jdk_68_method_2_code 19 = .ok (.putfield 22, 3) := by decide +kernel
theorem w63 : Jvm.Cond.fieldLink "java/lang/AbstractStringBuilder" (22 : Nat) "java/lang/AbstractStringBuilder" "coder" "B" ∈ tables_1 := List.mem_of_getElem? (i := 63) rfl
theorem d11_22 : decode jdk_68_method_2_code 22 = .ok (.goto 16, 3) := by decide +kernel
theorem d11_38 : decode jdk_68_method_2_code 38 = .ok (.return_, 1) := by decide +kernel
abbrev N15 : MethodName := ⟨"java/lang/AbstractStringBuilder", "<init>", "(I)V"⟩
theorem pn_N15 : plainName N15.cls = true := by first | (simp [plainName, overriddenIn]; done) | decide +kernel

abbrev rm_asbi : Room := { frames := 1, cells := 1, slots := 16, locals := 12 }
set_option maxRecDepth 65536 in
set_option maxHeartbeats 4000000 in
theorem ct_asbi (l : Launch) {Z : State} {n0 : Nat} {z : Int32} {f : Value} (W : Sx Z z f) (x : Addr) (h : Heap) (A : Exa Z h x "java/lang/StringBuilder") (Fv : Fld Z h x "java/lang/AbstractStringBuilder" "value" "[B" .null) (Fc : Fld Z h x "java/lang/AbstractStringBuilder" "coder" "B" (.int 0)) (Fn : Fld Z h x "java/lang/AbstractStringBuilder" "count" "I" (.int 0)) (Fm : Fld Z h x "java/lang/AbstractStringBuilder" "maybeLatin1" "Z" (.int 0)) (zx : n0 ≤ x) :
    Ctr l Z n0 N15 jdk_68_method_2_code 2 none rm_asbi #[(.ref x), (.int (16 : Int32))] h [x] (fun v h' sn => v = none ∧ Keep h h' [x] ∧ ∃ b, h.size ≤ b ∧ n0 ≤ b ∧ Sbg Z h' x b 16 [] ∧ sn = [b]) := by
  refine Ctr.of_go (ls := #[.val (.ref x), .val (.int (16 : Int32))]) W.1.1 (plainFor_of_name pn_N15) (fun m => by first | (simp [entryFrame, mkF, argsToLocals, Value.category]; done) | rfl) (fun K H => ?_)
  have KK : Keep h h [x] := Keep.refl _ _
  refine Go.aloadN H d11_0 rfl rfl rfl ?_
  refine Go.initObj H d11_1 rfl w59 w16 w17 0 rfl (Nat.le_of_eq rfl) (by decide) (by decide) ?_
  refine Go.getstatic H d11_4 rfl w60 W.1.2.2.1 ?_
  refine Go.ifN H d11_7 (feq W.1.2.1).1 rfl ?_
  refine Go.aloadN H d11_10 rfl rfl rfl ?_
  refine Go.iloadN H d11_11 rfl rfl ?_
  refine Go.newarray 16 16 H d11_12 rfl w19 rfl (by decide) (by decide) (by decide) (by decide) (by decide) (by decide) (by decide) ?_
  intro a1 h2 g3 z4 E5 F6
  have ne7 : x ≠ a1 := Nat.ne_of_lt (Nat.lt_of_lt_of_le A.lt (Nat.le_of_eq g3.symm))
  have sz8 := Nat.le_trans KK.1 (Nat.le_of_eq g3.symm)
  replace A := A.ext E5
  replace Fv := Fv.ext E5
  replace Fc := Fc.ext E5
  replace Fn := Fn.ext E5
  replace Fm := Fm.ext E5
  replace KK := KK.ext E5
  show Go _ _ _ _ _ _ h2 [a1, x] 1 16 14 #[.val (.ref x), .val (.int (16 : Int32))] [(.ref a1), (.ref x)]
  refine Go.putfield (v := (.ref a1)) H d11_14 rfl w61 Fv A (Or.inl w62) w48 (ty := (.array .byte)) (by decide) rfl rfl zx (by simp) ?_
  intro h9 Wr10
  have F11 := Fv.same Wr10
  have K12 := Keep.of_wr Wr10
  replace A := A.wr Wr10
  replace Fc := Fc.other Wr10 (Or.inr (own_sne W.1.1 (Or.inl w64) (Or.inl w62) (by decide) (t := .byte) (t' := (.array .byte)) (by decide) (by decide)))
  replace Fn := Fn.other Wr10 (Or.inr (own_sne W.1.1 (Or.inl w86) (Or.inl w62) (by decide) (t := .int) (t' := (.array .byte)) (by decide) (by decide)))
  replace Fm := Fm.other Wr10 (Or.inr (own_sne W.1.1 (Or.inl w243) (Or.inl w62) (by decide) (t := .boolean) (t' := (.array .byte)) (by decide) (by decide)))
  replace F6 := F6.keep K12 (ninS (Ne.symm ne7) nin0)
  replace KK := KK.wr Wr10 (Or.inl (by simp))
  refine Go.aloadN H d11_17 rfl rfl rfl ?_
  refine Go.iconst (0 : Int32) H d11_18 rfl rfl ?_
  refine Go.putfield (v := (.int (0 : Int32))) H d11_19 rfl w63 Fc A (Or.inl w64) w48 (ty := .byte) (by decide) (by decide) (by decide) zx (by simp) ?_
  intro h13 Wr14
  have F15 := Fc.same Wr14
  have K16 := Keep.of_wr Wr14
  replace A := A.wr Wr14
  replace Fn := Fn.other Wr14 (Or.inr (own_sne W.1.1 (Or.inl w86) (Or.inl w64) (by decide) (t := .int) (t' := .byte) (by decide) (by decide)))
  replace Fm := Fm.other Wr14 (Or.inr (own_sne W.1.1 (Or.inl w243) (Or.inl w64) (by decide) (t := .boolean) (t' := .byte) (by decide) (by decide)))
  replace F6 := F6.keep K16 (ninS (Ne.symm ne7) nin0)
  replace F11 := F11.other Wr14 (Or.inr (own_sne W.1.1 (Or.inl w62) (Or.inl w64) (by decide) (t := (.array .byte)) (t' := .byte) (by decide) (by decide)))
  replace KK := KK.wr Wr14 (Or.inl (by simp))
  refine Go.goto (pc' := 38) H d11_22 (by decide) (by decide) ?_
  exact Go.return_ [a1] H d11_38 ⟨rfl, KK, a1, sz8, z4, Or.inl ⟨⟨A, F11, F15, Fn, Fm⟩, ⟨_, F6, rfl⟩, own_an⟩, rfl⟩ (by simp) (by decide) (by decide)
theorem d10_0 : decode jdk_67_method_1_code 0 = .ok (.aload_n 0, 1) := by decide +kernel
theorem d10_1 : decode jdk_67_method_1_code 1 = .ok (.bipush 16, 2) := by decide +kernel
theorem d10_3 : decode jdk_67_method_1_code 3 = .ok (.invokespecial 1, 3) := by decide +kernel
theorem w58 : Jvm.Cond.code N15 jdk_68_method_2_code (2 : Nat) (Option.none : Option Jvm.ClassFile.FieldType) ∈ tables_1 := List.mem_of_getElem? (i := 58) rfl
theorem w57 : Jvm.Cond.initialized "java/lang/AbstractStringBuilder" ∈ tables_1 := List.mem_of_getElem? (i := 57) rfl
theorem pd_N15 : parseMethodDescriptor N15.desc = some ⟨[.int], none⟩ := by decide +kernel
theorem nh_N15 : N15.cls ≠ "java/lang/invoke/MethodHandle" ∧ N15.cls ≠ "java/lang/invoke/VarHandle" := by decide
theorem w53 : Jvm.Cond.methodLink "java/lang/StringBuilder" (1 : Nat) N15 ∈ tables_1 := List.mem_of_getElem? (i := 53) rfl
theorem w54 : Jvm.Cond.instanceMethod N15 ∈ tables_1 := List.mem_of_getElem? (i := 54) rfl
theorem d10_6 : decode jdk_67_method_1_code 6 = .ok (.return_, 1) := by decide +kernel
abbrev N16 : MethodName := ⟨"java/lang/StringBuilder", "<init>", "()V"⟩
theorem pn_N16 : plainName N16.cls = true := by first | (simp [plainName, overriddenIn]; done) | decide +kernel

abbrev rm_sbi : Room := { frames := 2, cells := 1, slots := 16, locals := 25 }
set_option maxRecDepth 65536 in
set_option maxHeartbeats 4000000 in
theorem ct_sbi (l : Launch) {Z : State} {n0 : Nat} {z : Int32} {f : Value} (W : Sx Z z f) (x : Addr) (h : Heap) (A : Exa Z h x "java/lang/StringBuilder") (Fv : Fld Z h x "java/lang/AbstractStringBuilder" "value" "[B" .null) (Fc : Fld Z h x "java/lang/AbstractStringBuilder" "coder" "B" (.int 0)) (Fn : Fld Z h x "java/lang/AbstractStringBuilder" "count" "I" (.int 0)) (Fm : Fld Z h x "java/lang/AbstractStringBuilder" "maybeLatin1" "Z" (.int 0)) (zx : n0 ≤ x) :
    Ctr l Z n0 N16 jdk_67_method_1_code 1 none rm_sbi #[(.ref x)] h [x] (fun v h' sn => v = none ∧ Keep h h' [x] ∧ ∃ b, h.size ≤ b ∧ n0 ≤ b ∧ Sbg Z h' x b 16 [] ∧ sn = [b]) := by
  refine Ctr.of_go (ls := #[.val (.ref x)]) W.1.1 (plainFor_of_name pn_N16) (fun m => by first | (simp [entryFrame, mkF, argsToLocals, Value.category]; done) | rfl) (fun K H => ?_)
  refine Go.aloadN H d10_0 rfl rfl rfl ?_
  refine Go.bipush (16 : Int32) H d10_1 rfl rfl ?_
  refine Go.callI (rest := []) 0 [(.int (16 : Int32))] H d10_3 rfl rfl w53 w54 w57 w58 pd_N15 (ct_asbi l W x h A Fv Fc Fn Fm zx) (by simp) rfl rfl rfl (Nat.le_of_eq rfl) (by decide) (by decide) (by decide) (by decide) nh_N15 ?_
  rintro _ h1 _ ⟨rfl, K2, b3, g4, z5, S6, rfl⟩
  have ne7 : x ≠ b3 := Nat.ne_of_lt (Nat.lt_of_lt_of_le A.lt g4)
  show Go _ _ _ _ _ _ h1 [b3, x] 1 16 6 #[.val (.ref x)] []
  exact Go.return_ [b3] H d10_6 ⟨rfl, K2, b3, g4, z5, S6, rfl⟩ (by simp) (by decide) (by decide)
theorem d33_0 : decode jdk_48_method_27_code 0 = .ok (.iload_n 0, 1) := by decide +kernel
theorem d33_1 : decode jdk_48_method_27_code 1 = .ok (.iload_n 1, 1) := by decide +kernel
theorem d33_2 : decode jdk_48_method_27_code 2 = .ok (.iload_n 2, 1) := by decide +kernel
theorem d33_3 : decode jdk_48_method_27_code 3 = .ok (.invokestatic 194, 3) := by decide +kernel
theorem w179 : Jvm.Cond.code N14 jdk_29_method_65_code (2 : Nat) (Option.some Jvm.ClassFile.FieldType.int) ∈ tables_1 := List.mem_of_getElem? (i := 179) rfl
theorem w155 : Jvm.Cond.initialized "java/lang/Math" ∈ tables_1 := List.mem_of_getElem? (i := 155) rfl
theorem pd_N14 : parseMethodDescriptor N14.desc = some ⟨[.int, .int], (some .int)⟩ := by decide +kernel
theorem nh_N14 : N14.cls ≠ "java/lang/invoke/MethodHandle" ∧ N14.cls ≠ "java/lang/invoke/VarHandle" := by decide
theorem w177 : Jvm.Cond.methodLink "jdk/internal/util/ArraysSupport" (194 : Nat) N14 ∈ tables_1 := List.mem_of_getElem? (i := 177) rfl
theorem w178 : Jvm.Cond.static N14 ∈ tables_1 := List.mem_of_getElem? (i := 178) rfl
theorem d33_6 : decode jdk_48_method_27_code 6 = .ok (.iadd, 1) := by decide +kernel
theorem d33_7 : decode jdk_48_method_27_code 7 = .ok (.istore_n 3, 1) := by decide +kernel
theorem d33_8 : decode jdk_48_method_27_code 8 = .ok (.iconst 0, 1) := by decide +kernel
theorem d33_9 : decode jdk_48_method_27_code 9 = .ok (.iload_n 3, 1) := by decide +kernel
theorem d33_10 : decode jdk_48_method_27_code 10 = .ok (.if_icmp .ge 11, 3) := by decide +kernel
theorem d33_13 : decode jdk_48_method_27_code 13 = .ok (.iload_n 3, 1) := by decide +kernel
theorem d33_14 : decode jdk_48_method_27_code 14 = .ok (.ldc 200, 2) := by decide +kernel
theorem w180 : Jvm.Cond.constant "jdk/internal/util/ArraysSupport" (200 : Nat) (2147483639 : Int32) ∈ tables_1 := List.mem_of_getElem? (i := 180) rfl
theorem d33_16 : decode jdk_48_method_27_code 16 = .ok (.if_icmp .gt 5, 3) := by decide +kernel
theorem d33_19 : decode jdk_48_method_27_code 19 = .ok (.iload_n 3, 1) := by decide +kernel
theorem d33_20 : decode jdk_48_method_27_code 20 = .ok (.ireturn, 1) := by decide +kernel
abbrev N17 : MethodName := ⟨"jdk/internal/util/ArraysSupport", "newLength", "(III)I"⟩
theorem pn_N17 : plainName N17.cls = true := by first | (simp [plainName, overriddenIn]; done) | decide +kernel

abbrev rm_nl0 : Room := { frames := 1, cells := 0, slots := 0, locals := 14 }
set_option maxRecDepth 65536 in
set_option maxHeartbeats 4000000 in
theorem ct_nl0 (l : Launch) {Z : State} {n0 : Nat} {z : Int32} {f : Value} (W : Sx Z z f) (g : Int32) (h : Heap) (hg : g < (18 : Int32)) :
    Ctr l Z n0 N17 jdk_48_method_27_code 4 (some .int) rm_nl0 #[(.int (16 : Int32)), (.int g), (.int (18 : Int32))] h [] (fun v h' sn => v = some (.int (34 : Int32)) ∧ h = h' ∧ sn = []) := by
  refine Ctr.of_go (ls := #[.val (.int (16 : Int32)), .val (.int g), .val (.int (18 : Int32)), .unset]) W.1.1 (plainFor_of_name pn_N17) (fun m => by first | (simp [entryFrame, mkF, argsToLocals, Value.category]; done) | rfl) (fun K H => ?_)
  refine Go.iloadN H d33_0 rfl rfl ?_
  refine Go.iloadN H d33_1 rfl rfl ?_
  refine Go.iloadN H d33_2 rfl rfl ?_
  refine Go.callS (rest := [(.int (16 : Int32))]) 1 [(.int g), (.int (18 : Int32))] H d33_3 rfl w177 w178 w155 w179 pd_N14 (ct_max l W g (18 : Int32) h) all0 rfl rfl rfl (Nat.le_of_eq rfl) (by decide) (by decide) (by decide) (by decide) nh_N14 ?_
  rintro _ _ _ ⟨rfl, rfl, rfl⟩
  show Go _ _ _ _ _ _ h [] 0 0 6 #[.val (.int (16 : Int32)), .val (.int g), .val (.int (18 : Int32)), .unset] [(.int (maxF g (18 : Int32))), (.int (16 : Int32))]
  rw [maxF_r hg]
  refine Go.iadd H d33_6 rfl ?_
  show Go _ _ _ _ _ _ h [] 0 0 7 #[.val (.int (16 : Int32)), .val (.int g), .val (.int (18 : Int32)), .unset] [(.int (34 : Int32))]
  refine Go.istoreN (ls' := #[.val (.int (16 : Int32)), .val (.int g), .val (.int (18 : Int32)), .val (.int (34 : Int32))]) H d33_7 rfl rfl ?_
  refine Go.iconst (0 : Int32) H d33_8 rfl rfl ?_
  refine Go.iloadN H d33_9 rfl rfl ?_
  refine Go.icmpN H d33_10 (by decide) rfl ?_
  refine Go.iloadN H d33_13 rfl rfl ?_
  refine Go.ldcInt H d33_14 rfl w180 ?_
  refine Go.icmpN H d33_16 (by decide) rfl ?_
  refine Go.iloadN H d33_19 rfl rfl ?_
  exact Go.ireturnI [] H d33_20 ⟨rfl, rfl, rfl⟩ all0 (by decide) (by decide)
theorem d35_0 : decode jdk_65_method_121_code 0 = .ok (.iload_n 1, 1) := by decide +kernel
theorem d35_1 : decode jdk_65_method_121_code 1 = .ok (.aload_n 0, 1) := by decide +kernel
theorem d35_2 : decode jdk_65_method_121_code 2 = .ok (.arraylength, 1) := by decide +kernel
theorem d35_3 : decode jdk_65_method_121_code 3 = .ok (.if_icmp .ne 11, 3) := by decide +kernel
theorem d35_14 : decode jdk_65_method_121_code 14 = .ok (.iload_n 1, 1) := by decide +kernel
theorem d35_15 : decode jdk_65_method_121_code 15 = .ok (.newarray .byte, 2) := by decide +kernel
theorem d35_17 : decode jdk_65_method_121_code 17 = .ok (.astore_n 2, 1) := by decide +kernel
theorem d35_18 : decode jdk_65_method_121_code 18 = .ok (.aload_n 0, 1) := by decide +kernel
theorem d35_19 : decode jdk_65_method_121_code 19 = .ok (.iconst 0, 1) := by decide +kernel
theorem d35_20 : decode jdk_65_method_121_code 20 = .ok (.aload_n 2, 1) := by decide +kernel
theorem d35_21 : decode jdk_65_method_121_code 21 = .ok (.iconst 0, 1) := by decide +kernel
theorem d35_22 : decode jdk_65_method_121_code 22 = .ok (.aload_n 0, 1) := by decide +kernel
theorem d35_23 : decode jdk_65_method_121_code 23 = .ok (.arraylength, 1) := by decide +kernel
theorem d35_24 : decode jdk_65_method_121_code 24 = .ok (.iload_n 1, 1) := by decide +kernel
theorem d35_25 : decode jdk_65_method_121_code 25 = .ok (.invokestatic 304, 3) := by decide +kernel
theorem w156 : Jvm.Cond.code N13 jdk_29_method_69_code (2 : Nat) (Option.some Jvm.ClassFile.FieldType.int) ∈ tables_1 := List.mem_of_getElem? (i := 156) rfl
theorem pd_N13 : parseMethodDescriptor N13.desc = some ⟨[.int, .int], (some .int)⟩ := by decide +kernel
theorem w153 : Jvm.Cond.methodLink "java/util/Arrays" (304 : Nat) N13 ∈ tables_1 := List.mem_of_getElem? (i := 153) rfl
theorem w154 : Jvm.Cond.static N13 ∈ tables_1 := List.mem_of_getElem? (i := 154) rfl
theorem d35_28 : decode jdk_65_method_121_code 28 = .ok (.invokestatic 150, 3) := by decide +kernel
abbrev N18 : MethodName := ⟨"java/lang/System", "arraycopy", "(Ljava/lang/Object;ILjava/lang/Object;II)V"⟩
theorem w157 : Jvm.Cond.methodLink "java/util/Arrays" (150 : Nat) N18 ∈ tables_1 := List.mem_of_getElem? (i := 157) rfl
theorem w111 : Jvm.Cond.native N18 ∈ tables_1 := List.mem_of_getElem? (i := 111) rfl
theorem w109 : Jvm.Cond.static N18 ∈ tables_1 := List.mem_of_getElem? (i := 109) rfl
theorem w110 : Jvm.Cond.initialized "java/lang/System" ∈ tables_1 := List.mem_of_getElem? (i := 110) rfl
theorem d35_31 : decode jdk_65_method_121_code 31 = .ok (.aload_n 2, 1) := by decide +kernel
theorem d35_32 : decode jdk_65_method_121_code 32 = .ok (.areturn, 1) := by decide +kernel
abbrev N19 : MethodName := ⟨"java/util/Arrays", "copyOf", "([BI)[B"⟩
theorem pn_N19 : plainName N19.cls = true := by first | (simp [plainName, overriddenIn]; done) | decide +kernel

abbrev rm_cof0 : Room := { frames := 1, cells := 1, slots := 34, locals := 27 }
set_option maxRecDepth 65536 in
set_option maxHeartbeats 4000000 in
theorem ct_cof0 (l : Launch) {Z : State} {n0 : Nat} {z : Int32} {f : Value} (W : Sx Z z f) (b : Addr) (bs : List Int32) (h : Heap) (Fb : Vec Z h b .byte bs) (hb : bs.length = 16) :
    Ctr l Z n0 N19 jdk_65_method_121_code 3 (some (.array .byte)) rm_cof0 #[(.ref b), (.int (34 : Int32))] h [] (fun v h' sn => ∃ d, v = some (.ref d) ∧ Ext h h' ∧ h.size ≤ d ∧ n0 ≤ d ∧ Vec Z h' d .byte (bs ++ List.replicate 18 0) ∧ sn = [d]) := by
  refine Ctr.of_go (ls := #[.val (.ref b), .val (.int (34 : Int32)), .unset]) W.1.1 (plainFor_of_name pn_N19) (fun m => by first | (simp [entryFrame, mkF, argsToLocals, Value.category]; done) | rfl) (fun K H => ?_)
  have KK : Keep h h [] := Keep.refl _ _
  refine Go.iloadN H d35_0 rfl rfl ?_
  refine Go.aloadN H d35_1 rfl rfl rfl ?_
  refine Go.arraylength (16 : Int32) H d35_2 rfl Fb (by rw [hb]; rfl) ?_
  refine Go.icmpY (pc' := 14) H d35_3 (by decide) (by decide) (by decide) ?_
  refine Go.iloadN H d35_14 rfl rfl ?_
  refine Go.newarray 34 34 H d35_15 rfl w19 rfl (by decide) (by decide) (by decide) (by decide) (by decide) (by decide) (by decide) ?_
  intro a1 h2 g3 z4 E5 F6
  have ne7 : b ≠ a1 := Nat.ne_of_lt (Nat.lt_of_lt_of_le Fb.lt (Nat.le_of_eq g3.symm))
  have sz8 := Nat.le_trans KK.1 (Nat.le_of_eq g3.symm)
  replace Fb := Fb.ext E5
  replace KK := KK.ext E5
  show Go _ _ _ _ _ _ h2 [a1] 1 34 17 #[.val (.ref b), .val (.int (34 : Int32)), .unset] [(.ref a1)]
  refine Go.astoreN (ls' := #[.val (.ref b), .val (.int (34 : Int32)), .val (.ref a1)]) H d35_17 rfl rfl rfl ?_
  refine Go.aloadN H d35_18 rfl rfl rfl ?_
  refine Go.iconst (0 : Int32) H d35_19 rfl rfl ?_
  refine Go.aloadN H d35_20 rfl rfl rfl ?_
  refine Go.iconst (0 : Int32) H d35_21 rfl rfl ?_
  refine Go.aloadN H d35_22 rfl rfl rfl ?_
  refine Go.arraylength (16 : Int32) H d35_23 rfl Fb (by rw [hb]; rfl) ?_
  refine Go.iloadN H d35_24 rfl rfl ?_
  refine Go.callS (rest := [(.int (0 : Int32)), (.ref a1), (.int (0 : Int32)), (.ref b)]) 4 [(.int (16 : Int32)), (.int (34 : Int32))] H d35_25 rfl w153 w154 w155 w156 pd_N13 (ct_min l W (16 : Int32) (34 : Int32) h2) all0 rfl rfl rfl (Nat.le_of_eq rfl) (by decide) (by decide) (by decide) (by decide) nh_N14 ?_
  rintro _ _ _ ⟨rfl, rfl, rfl⟩
  show Go _ _ _ _ _ _ h2 [a1] 1 34 28 #[.val (.ref b), .val (.int (34 : Int32)), .val (.ref a1)] [(.int (minF (16 : Int32) (34 : Int32))), (.int (0 : Int32)), (.ref a1), (.int (0 : Int32)), (.ref b)]
  rw [minF_0]
  refine Go.arraycopy 0 0 16 H d35_28 rfl w157 w111 w109 w110 Fb F6 (by omega) (by simp) rfl (by decide) (by decide) (by decide) (by decide) (by decide) (by decide) (by omega) (by simp) z4 (by simp) 0 rfl (Nat.le_of_eq rfl) (by decide) (by decide) ?_
  intro h9 K10 F11
  replace Fb := Fb.keep K10 (ninS ne7 nin0)
  replace KK := KK.trans K10 (allS (Or.inr sz8) all0)
  refine Go.aloadN H d35_31 rfl rfl rfl ?_
  rw [own_cof hb] at F11
  exact Go.areturn [a1] H d35_32 rfl rfl (own_narR rfl) ⟨_, rfl, own_ext KK, Nat.le_of_eq g3.symm, z4, F11, rfl⟩ (by simp) (by decide) (by decide)

abbrev rm_nl1 : Room := { frames := 1, cells := 0, slots := 0, locals := 14 }
set_option maxRecDepth 65536 in
set_option maxHeartbeats 4000000 in
theorem ct_nl1 (l : Launch) {Z : State} {n0 : Nat} {z : Int32} {f : Value} (W : Sx Z z f) (g : Int32) (h : Heap) (hg : g < (36 : Int32)) :
    Ctr l Z n0 N17 jdk_48_method_27_code 4 (some .int) rm_nl1 #[(.int (32 : Int32)), (.int g), (.int (36 : Int32))] h [] (fun v h' sn => v = some (.int (68 : Int32)) ∧ h = h' ∧ sn = []) := by
  refine Ctr.of_go (ls := #[.val (.int (32 : Int32)), .val (.int g), .val (.int (36 : Int32)), .unset]) W.1.1 (plainFor_of_name pn_N17) (fun m => by first | (simp [entryFrame, mkF, argsToLocals, Value.category]; done) | rfl) (fun K H => ?_)
  refine Go.iloadN H d33_0 rfl rfl ?_
  refine Go.iloadN H d33_1 rfl rfl ?_
  refine Go.iloadN H d33_2 rfl rfl ?_
  refine Go.callS (rest := [(.int (32 : Int32))]) 1 [(.int g), (.int (36 : Int32))] H d33_3 rfl w177 w178 w155 w179 pd_N14 (ct_max l W g (36 : Int32) h) all0 rfl rfl rfl (Nat.le_of_eq rfl) (by decide) (by decide) (by decide) (by decide) nh_N14 ?_
  rintro _ _ _ ⟨rfl, rfl, rfl⟩
  show Go _ _ _ _ _ _ h [] 0 0 6 #[.val (.int (32 : Int32)), .val (.int g), .val (.int (36 : Int32)), .unset] [(.int (maxF g (36 : Int32))), (.int (32 : Int32))]
  rw [maxF_r hg]
  refine Go.iadd H d33_6 rfl ?_
  show Go _ _ _ _ _ _ h [] 0 0 7 #[.val (.int (32 : Int32)), .val (.int g), .val (.int (36 : Int32)), .unset] [(.int (68 : Int32))]
  refine Go.istoreN (ls' := #[.val (.int (32 : Int32)), .val (.int g), .val (.int (36 : Int32)), .val (.int (68 : Int32))]) H d33_7 rfl rfl ?_
  refine Go.iconst (0 : Int32) H d33_8 rfl rfl ?_
  refine Go.iloadN H d33_9 rfl rfl ?_
  refine Go.icmpN H d33_10 (by decide) rfl ?_
  refine Go.iloadN H d33_13 rfl rfl ?_
  refine Go.ldcInt H d33_14 rfl w180 ?_
  refine Go.icmpN H d33_16 (by decide) rfl ?_
  refine Go.iloadN H d33_19 rfl rfl ?_
  exact Go.ireturnI [] H d33_20 ⟨rfl, rfl, rfl⟩ all0 (by decide) (by decide)

abbrev rm_cof1 : Room := { frames := 1, cells := 1, slots := 68, locals := 27 }
set_option maxRecDepth 65536 in
set_option maxHeartbeats 4000000 in
theorem ct_cof1 (l : Launch) {Z : State} {n0 : Nat} {z : Int32} {f : Value} (W : Sx Z z f) (b : Addr) (bs : List Int32) (h : Heap) (Fb : Vec Z h b .byte bs) (hb : bs.length = 32) :
    Ctr l Z n0 N19 jdk_65_method_121_code 3 (some (.array .byte)) rm_cof1 #[(.ref b), (.int (68 : Int32))] h [] (fun v h' sn => ∃ d, v = some (.ref d) ∧ Ext h h' ∧ h.size ≤ d ∧ n0 ≤ d ∧ Vec Z h' d .byte (bs ++ List.replicate 36 0) ∧ sn = [d]) := by
  refine Ctr.of_go (ls := #[.val (.ref b), .val (.int (68 : Int32)), .unset]) W.1.1 (plainFor_of_name pn_N19) (fun m => by first | (simp [entryFrame, mkF, argsToLocals, Value.category]; done) | rfl) (fun K H => ?_)
  have KK : Keep h h [] := Keep.refl _ _
  refine Go.iloadN H d35_0 rfl rfl ?_
  refine Go.aloadN H d35_1 rfl rfl rfl ?_
  refine Go.arraylength (32 : Int32) H d35_2 rfl Fb (by rw [hb]; rfl) ?_
  refine Go.icmpY (pc' := 14) H d35_3 (by decide) (by decide) (by decide) ?_
  refine Go.iloadN H d35_14 rfl rfl ?_
  refine Go.newarray 68 68 H d35_15 rfl w19 rfl (by decide) (by decide) (by decide) (by decide) (by decide) (by decide) (by decide) ?_
  intro a1 h2 g3 z4 E5 F6
  have ne7 : b ≠ a1 := Nat.ne_of_lt (Nat.lt_of_lt_of_le Fb.lt (Nat.le_of_eq g3.symm))
  have sz8 := Nat.le_trans KK.1 (Nat.le_of_eq g3.symm)
  replace Fb := Fb.ext E5
  replace KK := KK.ext E5
  show Go _ _ _ _ _ _ h2 [a1] 1 68 17 #[.val (.ref b), .val (.int (68 : Int32)), .unset] [(.ref a1)]
  refine Go.astoreN (ls' := #[.val (.ref b), .val (.int (68 : Int32)), .val (.ref a1)]) H d35_17 rfl rfl rfl ?_
  refine Go.aloadN H d35_18 rfl rfl rfl ?_
  refine Go.iconst (0 : Int32) H d35_19 rfl rfl ?_
  refine Go.aloadN H d35_20 rfl rfl rfl ?_
  refine Go.iconst (0 : Int32) H d35_21 rfl rfl ?_
  refine Go.aloadN H d35_22 rfl rfl rfl ?_
  refine Go.arraylength (32 : Int32) H d35_23 rfl Fb (by rw [hb]; rfl) ?_
  refine Go.iloadN H d35_24 rfl rfl ?_
  refine Go.callS (rest := [(.int (0 : Int32)), (.ref a1), (.int (0 : Int32)), (.ref b)]) 4 [(.int (32 : Int32)), (.int (68 : Int32))] H d35_25 rfl w153 w154 w155 w156 pd_N13 (ct_min l W (32 : Int32) (68 : Int32) h2) all0 rfl rfl rfl (Nat.le_of_eq rfl) (by decide) (by decide) (by decide) (by decide) nh_N14 ?_
  rintro _ _ _ ⟨rfl, rfl, rfl⟩
  show Go _ _ _ _ _ _ h2 [a1] 1 68 28 #[.val (.ref b), .val (.int (68 : Int32)), .val (.ref a1)] [(.int (minF (32 : Int32) (68 : Int32))), (.int (0 : Int32)), (.ref a1), (.int (0 : Int32)), (.ref b)]
  rw [minF_1]
  refine Go.arraycopy 0 0 32 H d35_28 rfl w157 w111 w109 w110 Fb F6 (by omega) (by simp) rfl (by decide) (by decide) (by decide) (by decide) (by decide) (by decide) (by omega) (by simp) z4 (by simp) 0 rfl (Nat.le_of_eq rfl) (by decide) (by decide) ?_
  intro h9 K10 F11
  replace Fb := Fb.keep K10 (ninS ne7 nin0)
  replace KK := KK.trans K10 (allS (Or.inr sz8) all0)
  refine Go.aloadN H d35_31 rfl rfl rfl ?_
  rw [own_cof hb] at F11
  exact Go.areturn [a1] H d35_32 rfl rfl (own_narR rfl) ⟨_, rfl, own_ext KK, Nat.le_of_eq g3.symm, z4, F11, rfl⟩ (by simp) (by decide) (by decide)
theorem d32_0 : decode jdk_68_method_10_code 0 = .ok (.aload_n 0, 1) := by decide +kernel
theorem d32_1 : decode jdk_68_method_10_code 1 = .ok (.getfield 15, 3) := by decide +kernel
theorem d32_4 : decode jdk_68_method_10_code 4 = .ok (.arraylength, 1) := by decide +kernel
theorem d32_5 : decode jdk_68_method_10_code 5 = .ok (.istore_n 2, 1) := by decide +kernel
theorem d32_6 : decode jdk_68_method_10_code 6 = .ok (.iload_n 1, 1) := by decide +kernel
theorem d32_7 : decode jdk_68_method_10_code 7 = .ok (.aload_n 0, 1) := by decide +kernel
theorem d32_8 : decode jdk_68_method_10_code 8 = .ok (.getfield 22, 3) := by decide +kernel
theorem d32_11 : decode jdk_68_method_10_code 11 = .ok (.ishl, 1) := by decide +kernel
theorem d32_12 : decode jdk_68_method_10_code 12 = .ok (.istore_n 3, 1) := by decide +kernel
theorem d32_13 : decode jdk_68_method_10_code 13 = .ok (.iload_n 3, 1) := by decide +kernel
theorem d32_14 : decode jdk_68_method_10_code 14 = .ok (.iload_n 2, 1) := by decide +kernel
theorem d32_15 : decode jdk_68_method_10_code 15 = .ok (.isub, 1) := by decide +kernel
theorem d32_16 : decode jdk_68_method_10_code 16 = .ok (.istore 4, 2) := by decide +kernel
theorem d32_18 : decode jdk_68_method_10_code 18 = .ok (.iload_n 2, 1) := by decide +kernel
theorem d32_19 : decode jdk_68_method_10_code 19 = .ok (.iload 4, 2) := by decide +kernel
theorem d32_21 : decode jdk_68_method_10_code 21 = .ok (.iload_n 2, 1) := by decide +kernel
theorem d32_22 : decode jdk_68_method_10_code 22 = .ok (.iconst 2, 1) := by decide +kernel
theorem d32_23 : decode jdk_68_method_10_code 23 = .ok (.aload_n 0, 1) := by decide +kernel
theorem d32_24 : decode jdk_68_method_10_code 24 = .ok (.getfield 22, 3) := by decide +kernel
theorem d32_27 : decode jdk_68_method_10_code 27 = .ok (.ishl, 1) := by decide +kernel
theorem d32_28 : decode jdk_68_method_10_code 28 = .ok (.iadd, 1) := by decide +kernel
theorem d32_29 : decode jdk_68_method_10_code 29 = .ok (.invokestatic 114, 3) := by decide +kernel
theorem w176 : Jvm.Cond.code N17 jdk_48_method_27_code (4 : Nat) (Option.some Jvm.ClassFile.FieldType.int) ∈ tables_1 := List.mem_of_getElem? (i := 176) rfl
theorem w175 : Jvm.Cond.initialized "jdk/internal/util/ArraysSupport" ∈ tables_1 := List.mem_of_getElem? (i := 175) rfl
theorem pd_N17 : parseMethodDescriptor N17.desc = some ⟨[.int, .int, .int], (some .int)⟩ := by decide +kernel
theorem nh_N17 : N17.cls ≠ "java/lang/invoke/MethodHandle" ∧ N17.cls ≠ "java/lang/invoke/VarHandle" := by decide
theorem w173 : Jvm.Cond.methodLink "java/lang/AbstractStringBuilder" (114 : Nat) N17 ∈ tables_1 := List.mem_of_getElem? (i := 173) rfl
theorem w174 : Jvm.Cond.static N17 ∈ tables_1 := List.mem_of_getElem? (i := 174) rfl
theorem d32_32 : decode jdk_68_method_10_code 32 = .ok (.istore 5, 2) := by decide +kernel
theorem d32_34 : decode jdk_68_method_10_code 34 = .ok (.iload 5, 2) := by decide +kernel
theorem d32_36 : decode jdk_68_method_10_code 36 = .ok (.ldc 39, 2) := by decide +kernel
theorem w181 : Jvm.Cond.constant "java/lang/AbstractStringBuilder" (39 : Nat) (2147483647 : Int32) ∈ tables_1 := List.mem_of_getElem? (i := 181) rfl
theorem d32_38 : decode jdk_68_method_10_code 38 = .ok (.if_icmp .ne 13, 3) := by decide +kernel
theorem d32_51 : decode jdk_68_method_10_code 51 = .ok (.iload 5, 2) := by decide +kernel
theorem d32_53 : decode jdk_68_method_10_code 53 = .ok (.aload_n 0, 1) := by decide +kernel
theorem d32_54 : decode jdk_68_method_10_code 54 = .ok (.getfield 22, 3) := by decide +kernel
theorem d32_57 : decode jdk_68_method_10_code 57 = .ok (.ishr, 1) := by decide +kernel
theorem d32_58 : decode jdk_68_method_10_code 58 = .ok (.ireturn, 1) := by decide +kernel
abbrev N20 : MethodName := ⟨"java/lang/AbstractStringBuilder", "newCapacity", "(I)I"⟩

abbrev rm_ncp0 : Room := { frames := 2, cells := 0, slots := 0, locals := 29 }
set_option maxRecDepth 65536 in
set_option maxHeartbeats 4000000 in
theorem ct_ncp0 (l : Launch) {Z : State} {n0 : Nat} {z : Int32} {f : Value} (W : Sx Z z f) (x b : Addr) (bs : List Int32) (n : Int32) (m : Nat) (h : Heap) (F : SbF Z h x b 0 n) (Fb : Vec Z h b .byte bs) (hb : bs.length = 16) (h1 : 16 < m) (h2 : m ≤ 33) :
    Ctr l Z n0 N20 jdk_68_method_10_code 6 (some .int) rm_ncp0 #[(.ref x), (.int m.toInt32)] h [] (fun v h' sn => v = some (.int (34 : Int32)) ∧ h = h' ∧ sn = []) := by
  refine Ctr.of_go (ls := #[.val (.ref x), .val (.int m.toInt32), .unset, .unset, .unset, .unset]) W.1.1 (plainFor_of_name pn_N15) (fun m => by first | (simp [entryFrame, mkF, argsToLocals, Value.category]; done) | rfl) (fun K H => ?_)
  obtain ⟨A, Fv, Fc, Fn, Fm⟩ := F
  refine Go.aloadN H d32_0 rfl rfl rfl ?_
  refine Go.getfield H d32_1 rfl w61 Fv ?_
  refine Go.arraylength (16 : Int32) H d32_4 rfl Fb (by rw [hb]; rfl) ?_
  refine Go.istoreN (ls' := #[.val (.ref x), .val (.int m.toInt32), .val (.int (16 : Int32)), .unset, .unset, .unset]) H d32_5 rfl rfl ?_
  refine Go.iloadN H d32_6 rfl rfl ?_
  refine Go.aloadN H d32_7 rfl rfl rfl ?_
  refine Go.getfield H d32_8 rfl w63 Fc ?_
  refine Go.ishl H d32_11 rfl ?_
  rw [own_shl0]
  refine Go.istoreN (ls' := #[.val (.ref x), .val (.int m.toInt32), .val (.int (16 : Int32)), .val (.int m.toInt32), .unset, .unset]) H d32_12 rfl rfl ?_
  refine Go.iloadN H d32_13 rfl rfl ?_
  refine Go.iloadN H d32_14 rfl rfl ?_
  refine Go.isub H d32_15 rfl ?_
  refine Go.istore (ls' := #[.val (.ref x), .val (.int m.toInt32), .val (.int (16 : Int32)), .val (.int m.toInt32), .val (.int (m.toInt32 - (16 : Int32))), .unset]) H d32_16 rfl rfl ?_
  refine Go.iloadN H d32_18 rfl rfl ?_
  refine Go.iload H d32_19 rfl rfl ?_
  refine Go.iloadN H d32_21 rfl rfl ?_
  refine Go.iconst (2 : Int32) H d32_22 rfl rfl ?_
  refine Go.aloadN H d32_23 rfl rfl rfl ?_
  refine Go.getfield H d32_24 rfl w63 Fc ?_
  refine Go.ishl H d32_27 rfl ?_
  rw [lt_a]
  refine Go.iadd H d32_28 rfl ?_
  show Go _ _ _ _ _ _ h [] 0 0 29 #[.val (.ref x), .val (.int m.toInt32), .val (.int (16 : Int32)), .val (.int m.toInt32), .val (.int (m.toInt32 - (16 : Int32))), .unset] [(.int (18 : Int32)), (.int (m.toInt32 - (16 : Int32))), (.int (16 : Int32))]
  refine Go.callS (rest := []) 0 [(.int (16 : Int32)), (.int (m.toInt32 - (16 : Int32))), (.int (18 : Int32))] H d32_29 rfl w173 w174 w175 w176 pd_N17 (ct_nl0 l W (m.toInt32 - (16 : Int32)) h (own_g0 h1 h2)) all0 rfl rfl rfl (Nat.le_of_eq rfl) (by decide) (by decide) (by decide) (by decide) nh_N17 ?_
  rintro _ _ _ ⟨rfl, rfl, rfl⟩
  show Go _ _ _ _ _ _ h [] 0 0 32 #[.val (.ref x), .val (.int m.toInt32), .val (.int (16 : Int32)), .val (.int m.toInt32), .val (.int (m.toInt32 - (16 : Int32))), .unset] [(.int (34 : Int32))]
  refine Go.istore (ls' := #[.val (.ref x), .val (.int m.toInt32), .val (.int (16 : Int32)), .val (.int m.toInt32), .val (.int (m.toInt32 - (16 : Int32))), .val (.int (34 : Int32))]) H d32_32 rfl rfl ?_
  refine Go.iload H d32_34 rfl rfl ?_
  refine Go.ldcInt H d32_36 rfl w181 ?_
  refine Go.icmpY (pc' := 51) H d32_38 (by decide) (by decide) (by decide) ?_
  refine Go.iload H d32_51 rfl rfl ?_
  refine Go.aloadN H d32_53 rfl rfl rfl ?_
  refine Go.getfield H d32_54 rfl w63 Fc ?_
  refine Go.ishr H d32_57 rfl ?_
  exact Go.ireturnI [] H d32_58 ⟨by rw [lt_c], rfl, rfl⟩ all0 (by decide) (by decide)
theorem d16_0 : decode jdk_68_method_9_code 0 = .ok (.aload_n 0, 1) := by decide +kernel
theorem d16_1 : decode jdk_68_method_9_code 1 = .ok (.getfield 15, 3) := by decide +kernel
theorem d16_4 : decode jdk_68_method_9_code 4 = .ok (.arraylength, 1) := by decide +kernel
theorem d16_5 : decode jdk_68_method_9_code 5 = .ok (.aload_n 0, 1) := by decide +kernel
theorem d16_6 : decode jdk_68_method_9_code 6 = .ok (.getfield 22, 3) := by decide +kernel
theorem d16_9 : decode jdk_68_method_9_code 9 = .ok (.ishr, 1) := by decide +kernel
theorem d16_10 : decode jdk_68_method_9_code 10 = .ok (.istore_n 2, 1) := by decide +kernel
theorem d16_11 : decode jdk_68_method_9_code 11 = .ok (.iload_n 1, 1) := by decide +kernel
theorem d16_12 : decode jdk_68_method_9_code 12 = .ok (.iload_n 2, 1) := by decide +kernel
theorem d16_13 : decode jdk_68_method_9_code 13 = .ok (.isub, 1) := by decide +kernel
theorem d16_14 : decode jdk_68_method_9_code 14 = .ok (.ifCond .le 24, 3) := by decide +kernel
theorem d16_17 : decode jdk_68_method_9_code 17 = .ok (.aload_n 0, 1) := by decide +kernel
theorem d16_18 : decode jdk_68_method_9_code 18 = .ok (.aload_n 0, 1) := by decide +kernel
theorem d16_19 : decode jdk_68_method_9_code 19 = .ok (.getfield 15, 3) := by decide +kernel
theorem d16_22 : decode jdk_68_method_9_code 22 = .ok (.aload_n 0, 1) := by decide +kernel
theorem d16_23 : decode jdk_68_method_9_code 23 = .ok (.iload_n 1, 1) := by decide +kernel
theorem d16_24 : decode jdk_68_method_9_code 24 = .ok (.invokevirtual 104, 3) := by decide +kernel
theorem w172 : Jvm.Cond.code N20 jdk_68_method_10_code (6 : Nat) (Option.some Jvm.ClassFile.FieldType.int) ∈ tables_1 := List.mem_of_getElem? (i := 172) rfl
theorem pd_N20 : parseMethodDescriptor N20.desc = some ⟨[.int], (some .int)⟩ := by decide +kernel
theorem w170 : Jvm.Cond.privateMethod N20 ∈ tables_1 := List.mem_of_getElem? (i := 170) rfl
theorem w168 : Jvm.Cond.methodLink "java/lang/AbstractStringBuilder" (104 : Nat) N20 ∈ tables_1 := List.mem_of_getElem? (i := 168) rfl
theorem w171 : Jvm.Cond.selects "java/lang/StringBuilder" N20 N20 ∈ tables_1 := List.mem_of_getElem? (i := 171) rfl
theorem w169 : Jvm.Cond.instanceMethod N20 ∈ tables_1 := List.mem_of_getElem? (i := 169) rfl
theorem d16_27 : decode jdk_68_method_9_code 27 = .ok (.aload_n 0, 1) := by decide +kernel
theorem d16_28 : decode jdk_68_method_9_code 28 = .ok (.getfield 22, 3) := by decide +kernel
theorem d16_31 : decode jdk_68_method_9_code 31 = .ok (.ishl, 1) := by decide +kernel
theorem d16_32 : decode jdk_68_method_9_code 32 = .ok (.invokestatic 108, 3) := by decide +kernel
theorem w184 : Jvm.Cond.code N19 jdk_65_method_121_code (3 : Nat) (Option.some (Jvm.ClassFile.FieldType.array Jvm.ClassFile.FieldType.byte)) ∈ tables_1 := List.mem_of_getElem? (i := 184) rfl
theorem w145 : Jvm.Cond.initialized "java/util/Arrays" ∈ tables_1 := List.mem_of_getElem? (i := 145) rfl
theorem pd_N19 : parseMethodDescriptor N19.desc = some ⟨[(.array .byte), .int], (some (.array .byte))⟩ := by decide +kernel
theorem nh_N19 : N19.cls ≠ "java/lang/invoke/MethodHandle" ∧ N19.cls ≠ "java/lang/invoke/VarHandle" := by decide
theorem w182 : Jvm.Cond.methodLink "java/lang/AbstractStringBuilder" (108 : Nat) N19 ∈ tables_1 := List.mem_of_getElem? (i := 182) rfl
theorem w183 : Jvm.Cond.static N19 ∈ tables_1 := List.mem_of_getElem? (i := 183) rfl
theorem d16_35 : decode jdk_68_method_9_code 35 = .ok (.putfield 15, 3) := by decide +kernel
theorem d16_38 : decode jdk_68_method_9_code 38 = .ok (.return_, 1) := by decide +kernel
abbrev N21 : MethodName := ⟨"java/lang/AbstractStringBuilder", "ensureCapacityInternal", "(I)V"⟩

abbrev rm_ecg0 : Room := { frames := 3, cells := 1, slots := 34, locals := 48 }
set_option maxRecDepth 65536 in
set_option maxHeartbeats 4000000 in
theorem ct_ecg0 (l : Launch) {Z : State} {n0 : Nat} {z : Int32} {f : Value} (W : Sx Z z f) (x b : Addr) (bs : List Int32) (n : Int32) (m : Nat) (h : Heap) (F : SbF Z h x b 0 n) (Fb : Vec Z h b .byte bs) (hb : bs.length = 16) (h1 : 16 < m) (h2 : m ≤ 33) (zx : n0 ≤ x) :
    Ctr l Z n0 N21 jdk_68_method_9_code 3 none rm_ecg0 #[(.ref x), (.int m.toInt32)] h [x] (fun v h' sn => v = none ∧ Keep h h' [x] ∧ ∃ d, h.size ≤ d ∧ n0 ≤ d ∧ SbF Z h' x d 0 n ∧ Vec Z h' d .byte (bs ++ List.replicate 18 0) ∧ sn = [d]) := by
  refine Ctr.of_go (ls := #[.val (.ref x), .val (.int m.toInt32), .unset]) W.1.1 (plainFor_of_name pn_N15) (fun m => by first | (simp [entryFrame, mkF, argsToLocals, Value.category]; done) | rfl) (fun K H => ?_)
  obtain ⟨A, Fv, Fc, Fn, Fm⟩ := F
  have KK : Keep h h [x] := Keep.refl _ _
  have hbx : b ≠ x := Vec.neExa Fb A W.1.1 w48
  refine Go.aloadN H d16_0 rfl rfl rfl ?_
  refine Go.getfield H d16_1 rfl w61 Fv ?_
  refine Go.arraylength (16 : Int32) H d16_4 rfl Fb (by rw [hb]; rfl) ?_
  refine Go.aloadN H d16_5 rfl rfl rfl ?_
  refine Go.getfield H d16_6 rfl w63 Fc ?_
  refine Go.ishr H d16_9 rfl ?_
  rw [lt_e]
  refine Go.istoreN (ls' := #[.val (.ref x), .val (.int m.toInt32), .val (.int (16 : Int32))]) H d16_10 rfl rfl ?_
  refine Go.iloadN H d16_11 rfl rfl ?_
  refine Go.iloadN H d16_12 rfl rfl ?_
  refine Go.isub H d16_13 rfl ?_
  refine Go.ifN H d16_14 (tlt (own_g2 h1 h2)).2.2.2 rfl ?_
  refine Go.aloadN H d16_17 rfl rfl rfl ?_
  refine Go.aloadN H d16_18 rfl rfl rfl ?_
  refine Go.getfield H d16_19 rfl w61 Fv ?_
  refine Go.aloadN H d16_22 rfl rfl rfl ?_
  refine Go.iloadN H d16_23 rfl rfl ?_
  refine Go.callP (rest := [(.ref b), (.ref x)]) 2 [(.int m.toInt32)] H d16_24 rfl A w168 w170 w171 w169 w57 w172 pd_N20 (ct_ncp0 l W x b _ n m h ⟨A, Fv, Fc, Fn, Fm⟩ Fb hb h1 h2) all0 rfl rfl rfl (Nat.le_of_eq rfl) (by decide) (by decide) (by decide) (by decide) nh_N15 ?_
  rintro _ _ _ ⟨rfl, rfl, rfl⟩
  show Go _ _ _ _ _ _ h [x] 0 0 27 #[.val (.ref x), .val (.int m.toInt32), .val (.int (16 : Int32))] [(.int (34 : Int32)), (.ref b), (.ref x)]
  refine Go.aloadN H d16_27 rfl rfl rfl ?_
  refine Go.getfield H d16_28 rfl w63 Fc ?_
  refine Go.ishl H d16_31 rfl ?_
  rw [lt_g]
  refine Go.callS (rest := [(.ref x)]) 1 [(.ref b), (.int (34 : Int32))] H d16_32 rfl w182 w183 w145 w184 pd_N19 (ct_cof0 l W b _ h Fb hb) all0 rfl rfl rfl (Nat.le_of_eq rfl) (by decide) (by decide) (by decide) (by decide) nh_N19 ?_
  rintro _ h2 _ ⟨d1, rfl, E3, g4, z5, F6, rfl⟩
  have ne7 : x ≠ d1 := Nat.ne_of_lt (Nat.lt_of_lt_of_le A.lt g4)
  have ne8 : b ≠ d1 := Nat.ne_of_lt (Nat.lt_of_lt_of_le Fb.lt g4)
  have sz9 := Nat.le_trans KK.1 g4
  replace A := A.ext E3
  replace Fv := Fv.ext E3
  replace Fc := Fc.ext E3
  replace Fn := Fn.ext E3
  replace Fm := Fm.ext E3
  replace Fb := Fb.ext E3
  replace KK := KK.ext E3
  show Go _ _ _ _ _ _ h2 [d1, x] 1 34 35 #[.val (.ref x), .val (.int m.toInt32), .val (.int (16 : Int32))] [(.ref d1), (.ref x)]
  refine Go.putfield (v := (.ref d1)) H d16_35 rfl w61 Fv A (Or.inl w62) w48 (ty := (.array .byte)) (by decide) rfl rfl zx (by simp) ?_
  intro h10 Wr11
  have F12 := Fv.same Wr11
  have K13 := Keep.of_wr Wr11
  replace A := A.wr Wr11
  replace Fc := Fc.other Wr11 (Or.inr (own_sne W.1.1 (Or.inl w64) (Or.inl w62) (by decide) (t := .byte) (t' := (.array .byte)) (by decide) (by decide)))
  replace Fn := Fn.other Wr11 (Or.inr (own_sne W.1.1 (Or.inl w86) (Or.inl w62) (by decide) (t := .int) (t' := (.array .byte)) (by decide) (by decide)))
  replace Fm := Fm.other Wr11 (Or.inr (own_sne W.1.1 (Or.inl w243) (Or.inl w62) (by decide) (t := .boolean) (t' := (.array .byte)) (by decide) (by decide)))
  replace Fb := Fb.keep K13 (ninS hbx nin0)
  replace F6 := F6.keep K13 (ninS (Ne.symm ne7) nin0)
  replace KK := KK.wr Wr11 (Or.inl (by simp))
  exact Go.return_ [d1] H d16_38 ⟨rfl, KK, d1, sz9, z5, ⟨A, F12, Fc, Fn, Fm⟩, F6, rfl⟩ (by simp) (by decide) (by decide)

abbrev rm_ecf0 : Room := { frames := 0, cells := 0, slots := 0, locals := 0 }
set_option maxRecDepth 65536 in
set_option maxHeartbeats 4000000 in
theorem ct_ecf0 (l : Launch) {Z : State} {n0 : Nat} {z : Int32} {f : Value} (W : Sx Z z f) (x b : Addr) (bs : List Int32) (n : Int32) (m cap : Nat) (h : Heap) (F : SbF Z h x b 0 n) (Fb : Vec Z h b .byte bs) (hb : bs.length = cap) (h1 : m ≤ cap) (h2 : cap < 2 ^ 20) :
    Ctr l Z n0 N21 jdk_68_method_9_code 3 none rm_ecf0 #[(.ref x), (.int m.toInt32)] h [] (fun v h' sn => v = none ∧ h = h' ∧ sn = []) := by
  refine Ctr.of_go (ls := #[.val (.ref x), .val (.int m.toInt32), .unset]) W.1.1 (plainFor_of_name pn_N15) (fun m => by first | (simp [entryFrame, mkF, argsToLocals, Value.category]; done) | rfl) (fun K H => ?_)
  obtain ⟨A, Fv, Fc, Fn, Fm⟩ := F
  refine Go.aloadN H d16_0 rfl rfl rfl ?_
  refine Go.getfield H d16_1 rfl w61 Fv ?_
  refine Go.arraylength cap.toInt32 H d16_4 rfl Fb (by rw [hb]) ?_
  refine Go.aloadN H d16_5 rfl rfl rfl ?_
  refine Go.getfield H d16_6 rfl w63 Fc ?_
  refine Go.ishr H d16_9 rfl ?_
  rw [own_shr0]
  refine Go.istoreN (ls' := #[.val (.ref x), .val (.int m.toInt32), .val (.int cap.toInt32)]) H d16_10 rfl rfl ?_
  refine Go.iloadN H d16_11 rfl rfl ?_
  refine Go.iloadN H d16_12 rfl rfl ?_
  refine Go.isub H d16_13 rfl ?_
  refine Go.ifY (pc' := 38) H d16_14 (flt (own_subnp (by omega) h1)).2.2.2 (by decide) (by decide) ?_
  exact Go.return_ [] H d16_38 ⟨rfl, rfl, rfl⟩ all0 (by decide) (by decide)

abbrev rm_ncp1 : Room := { frames := 2, cells := 0, slots := 0, locals := 29 }
set_option maxRecDepth 65536 in
set_option maxHeartbeats 4000000 in
theorem ct_ncp1 (l : Launch) {Z : State} {n0 : Nat} {z : Int32} {f : Value} (W : Sx Z z f) (x b : Addr) (bs : List Int32) (n : Int32) (m : Nat) (h : Heap) (F : SbF Z h x b 1 n) (Fb : Vec Z h b .byte bs) (hb : bs.length = 32) (h1 : 16 < m) (h2 : m ≤ 33) :
    Ctr l Z n0 N20 jdk_68_method_10_code 6 (some .int) rm_ncp1 #[(.ref x), (.int m.toInt32)] h [] (fun v h' sn => v = some (.int (34 : Int32)) ∧ h = h' ∧ sn = []) := by
  refine Ctr.of_go (ls := #[.val (.ref x), .val (.int m.toInt32), .unset, .unset, .unset, .unset]) W.1.1 (plainFor_of_name pn_N15) (fun m => by first | (simp [entryFrame, mkF, argsToLocals, Value.category]; done) | rfl) (fun K H => ?_)
  obtain ⟨A, Fv, Fc, Fn, Fm⟩ := F
  refine Go.aloadN H d32_0 rfl rfl rfl ?_
  refine Go.getfield H d32_1 rfl w61 Fv ?_
  refine Go.arraylength (32 : Int32) H d32_4 rfl Fb (by rw [hb]; rfl) ?_
  refine Go.istoreN (ls' := #[.val (.ref x), .val (.int m.toInt32), .val (.int (32 : Int32)), .unset, .unset, .unset]) H d32_5 rfl rfl ?_
  refine Go.iloadN H d32_6 rfl rfl ?_
  refine Go.aloadN H d32_7 rfl rfl rfl ?_
  refine Go.getfield H d32_8 rfl w63 Fc ?_
  refine Go.ishl H d32_11 rfl ?_
  rw [own_shl1 (by omega)]
  refine Go.istoreN (ls' := #[.val (.ref x), .val (.int m.toInt32), .val (.int (32 : Int32)), .val (.int (2 * m).toInt32), .unset, .unset]) H d32_12 rfl rfl ?_
  refine Go.iloadN H d32_13 rfl rfl ?_
  refine Go.iloadN H d32_14 rfl rfl ?_
  refine Go.isub H d32_15 rfl ?_
  refine Go.istore (ls' := #[.val (.ref x), .val (.int m.toInt32), .val (.int (32 : Int32)), .val (.int (2 * m).toInt32), .val (.int ((2 * m).toInt32 - (32 : Int32))), .unset]) H d32_16 rfl rfl ?_
  refine Go.iloadN H d32_18 rfl rfl ?_
  refine Go.iload H d32_19 rfl rfl ?_
  refine Go.iloadN H d32_21 rfl rfl ?_
  refine Go.iconst (2 : Int32) H d32_22 rfl rfl ?_
  refine Go.aloadN H d32_23 rfl rfl rfl ?_
  refine Go.getfield H d32_24 rfl w63 Fc ?_
  refine Go.ishl H d32_27 rfl ?_
  rw [lt_b]
  refine Go.iadd H d32_28 rfl ?_
  show Go _ _ _ _ _ _ h [] 0 0 29 #[.val (.ref x), .val (.int m.toInt32), .val (.int (32 : Int32)), .val (.int (2 * m).toInt32), .val (.int ((2 * m).toInt32 - (32 : Int32))), .unset] [(.int (36 : Int32)), (.int ((2 * m).toInt32 - (32 : Int32))), (.int (32 : Int32))]
  refine Go.callS (rest := []) 0 [(.int (32 : Int32)), (.int ((2 * m).toInt32 - (32 : Int32))), (.int (36 : Int32))] H d32_29 rfl w173 w174 w175 w176 pd_N17 (ct_nl1 l W ((2 * m).toInt32 - (32 : Int32)) h (own_g1 h1 h2)) all0 rfl rfl rfl (Nat.le_of_eq rfl) (by decide) (by decide) (by decide) (by decide) nh_N17 ?_
  rintro _ _ _ ⟨rfl, rfl, rfl⟩
  show Go _ _ _ _ _ _ h [] 0 0 32 #[.val (.ref x), .val (.int m.toInt32), .val (.int (32 : Int32)), .val (.int (2 * m).toInt32), .val (.int ((2 * m).toInt32 - (32 : Int32))), .unset] [(.int (68 : Int32))]
  refine Go.istore (ls' := #[.val (.ref x), .val (.int m.toInt32), .val (.int (32 : Int32)), .val (.int (2 * m).toInt32), .val (.int ((2 * m).toInt32 - (32 : Int32))), .val (.int (68 : Int32))]) H d32_32 rfl rfl ?_
  refine Go.iload H d32_34 rfl rfl ?_
  refine Go.ldcInt H d32_36 rfl w181 ?_
  refine Go.icmpY (pc' := 51) H d32_38 (by decide) (by decide) (by decide) ?_
  refine Go.iload H d32_51 rfl rfl ?_
  refine Go.aloadN H d32_53 rfl rfl rfl ?_
  refine Go.getfield H d32_54 rfl w63 Fc ?_
  refine Go.ishr H d32_57 rfl ?_
  exact Go.ireturnI [] H d32_58 ⟨by rw [lt_d], rfl, rfl⟩ all0 (by decide) (by decide)

abbrev rm_ecg1 : Room := { frames := 3, cells := 1, slots := 68, locals := 48 }
set_option maxRecDepth 65536 in
set_option maxHeartbeats 4000000 in
theorem ct_ecg1 (l : Launch) {Z : State} {n0 : Nat} {z : Int32} {f : Value} (W : Sx Z z f) (x b : Addr) (bs : List Int32) (n : Int32) (m : Nat) (h : Heap) (F : SbF Z h x b 1 n) (Fb : Vec Z h b .byte bs) (hb : bs.length = 32) (h1 : 16 < m) (h2 : m ≤ 33) (zx : n0 ≤ x) :
    Ctr l Z n0 N21 jdk_68_method_9_code 3 none rm_ecg1 #[(.ref x), (.int m.toInt32)] h [x] (fun v h' sn => v = none ∧ Keep h h' [x] ∧ ∃ d, h.size ≤ d ∧ n0 ≤ d ∧ SbF Z h' x d 1 n ∧ Vec Z h' d .byte (bs ++ List.replicate 36 0) ∧ sn = [d]) := by
  refine Ctr.of_go (ls := #[.val (.ref x), .val (.int m.toInt32), .unset]) W.1.1 (plainFor_of_name pn_N15) (fun m => by first | (simp [entryFrame, mkF, argsToLocals, Value.category]; done) | rfl) (fun K H => ?_)
  obtain ⟨A, Fv, Fc, Fn, Fm⟩ := F
  have KK : Keep h h [x] := Keep.refl _ _
  have hbx : b ≠ x := Vec.neExa Fb A W.1.1 w48
  refine Go.aloadN H d16_0 rfl rfl rfl ?_
  refine Go.getfield H d16_1 rfl w61 Fv ?_
  refine Go.arraylength (32 : Int32) H d16_4 rfl Fb (by rw [hb]; rfl) ?_
  refine Go.aloadN H d16_5 rfl rfl rfl ?_
  refine Go.getfield H d16_6 rfl w63 Fc ?_
  refine Go.ishr H d16_9 rfl ?_
  rw [lt_f]
  refine Go.istoreN (ls' := #[.val (.ref x), .val (.int m.toInt32), .val (.int (16 : Int32))]) H d16_10 rfl rfl ?_
  refine Go.iloadN H d16_11 rfl rfl ?_
  refine Go.iloadN H d16_12 rfl rfl ?_
  refine Go.isub H d16_13 rfl ?_
  refine Go.ifN H d16_14 (tlt (own_g2 h1 h2)).2.2.2 rfl ?_
  refine Go.aloadN H d16_17 rfl rfl rfl ?_
  refine Go.aloadN H d16_18 rfl rfl rfl ?_
  refine Go.getfield H d16_19 rfl w61 Fv ?_
  refine Go.aloadN H d16_22 rfl rfl rfl ?_
  refine Go.iloadN H d16_23 rfl rfl ?_
  refine Go.callP (rest := [(.ref b), (.ref x)]) 2 [(.int m.toInt32)] H d16_24 rfl A w168 w170 w171 w169 w57 w172 pd_N20 (ct_ncp1 l W x b _ n m h ⟨A, Fv, Fc, Fn, Fm⟩ Fb hb h1 h2) all0 rfl rfl rfl (Nat.le_of_eq rfl) (by decide) (by decide) (by decide) (by decide) nh_N15 ?_
  rintro _ _ _ ⟨rfl, rfl, rfl⟩
  show Go _ _ _ _ _ _ h [x] 0 0 27 #[.val (.ref x), .val (.int m.toInt32), .val (.int (16 : Int32))] [(.int (34 : Int32)), (.ref b), (.ref x)]
  refine Go.aloadN H d16_27 rfl rfl rfl ?_
  refine Go.getfield H d16_28 rfl w63 Fc ?_
  refine Go.ishl H d16_31 rfl ?_
  rw [lt_h]
  refine Go.callS (rest := [(.ref x)]) 1 [(.ref b), (.int (68 : Int32))] H d16_32 rfl w182 w183 w145 w184 pd_N19 (ct_cof1 l W b _ h Fb hb) all0 rfl rfl rfl (Nat.le_of_eq rfl) (by decide) (by decide) (by decide) (by decide) nh_N19 ?_
  rintro _ h2 _ ⟨d1, rfl, E3, g4, z5, F6, rfl⟩
  have ne7 : x ≠ d1 := Nat.ne_of_lt (Nat.lt_of_lt_of_le A.lt g4)
  have ne8 : b ≠ d1 := Nat.ne_of_lt (Nat.lt_of_lt_of_le Fb.lt g4)
  have sz9 := Nat.le_trans KK.1 g4
  replace A := A.ext E3
  replace Fv := Fv.ext E3
  replace Fc := Fc.ext E3
  replace Fn := Fn.ext E3
  replace Fm := Fm.ext E3
  replace Fb := Fb.ext E3
  replace KK := KK.ext E3
  show Go _ _ _ _ _ _ h2 [d1, x] 1 68 35 #[.val (.ref x), .val (.int m.toInt32), .val (.int (16 : Int32))] [(.ref d1), (.ref x)]
  refine Go.putfield (v := (.ref d1)) H d16_35 rfl w61 Fv A (Or.inl w62) w48 (ty := (.array .byte)) (by decide) rfl rfl zx (by simp) ?_
  intro h10 Wr11
  have F12 := Fv.same Wr11
  have K13 := Keep.of_wr Wr11
  replace A := A.wr Wr11
  replace Fc := Fc.other Wr11 (Or.inr (own_sne W.1.1 (Or.inl w64) (Or.inl w62) (by decide) (t := .byte) (t' := (.array .byte)) (by decide) (by decide)))
  replace Fn := Fn.other Wr11 (Or.inr (own_sne W.1.1 (Or.inl w86) (Or.inl w62) (by decide) (t := .int) (t' := (.array .byte)) (by decide) (by decide)))
  replace Fm := Fm.other Wr11 (Or.inr (own_sne W.1.1 (Or.inl w243) (Or.inl w62) (by decide) (t := .boolean) (t' := (.array .byte)) (by decide) (by decide)))
  replace Fb := Fb.keep K13 (ninS hbx nin0)
  replace F6 := F6.keep K13 (ninS (Ne.symm ne7) nin0)
  replace KK := KK.wr Wr11 (Or.inl (by simp))
  exact Go.return_ [d1] H d16_38 ⟨rfl, KK, d1, sz9, z5, ⟨A, F12, Fc, Fn, Fm⟩, F6, rfl⟩ (by simp) (by decide) (by decide)

abbrev rm_ecf1 : Room := { frames := 0, cells := 0, slots := 0, locals := 0 }
set_option maxRecDepth 65536 in
set_option maxHeartbeats 4000000 in
theorem ct_ecf1 (l : Launch) {Z : State} {n0 : Nat} {z : Int32} {f : Value} (W : Sx Z z f) (x b : Addr) (bs : List Int32) (n : Int32) (m cap : Nat) (h : Heap) (F : SbF Z h x b 1 n) (Fb : Vec Z h b .byte bs) (hb : bs.length = 2 * cap) (h1 : m ≤ cap) (h2 : cap < 2 ^ 20) :
    Ctr l Z n0 N21 jdk_68_method_9_code 3 none rm_ecf1 #[(.ref x), (.int m.toInt32)] h [] (fun v h' sn => v = none ∧ h = h' ∧ sn = []) := by
  refine Ctr.of_go (ls := #[.val (.ref x), .val (.int m.toInt32), .unset]) W.1.1 (plainFor_of_name pn_N15) (fun m => by first | (simp [entryFrame, mkF, argsToLocals, Value.category]; done) | rfl) (fun K H => ?_)
  obtain ⟨A, Fv, Fc, Fn, Fm⟩ := F
  refine Go.aloadN H d16_0 rfl rfl rfl ?_
  refine Go.getfield H d16_1 rfl w61 Fv ?_
  refine Go.arraylength (2 * cap).toInt32 H d16_4 rfl Fb (by rw [hb]) ?_
  refine Go.aloadN H d16_5 rfl rfl rfl ?_
  refine Go.getfield H d16_6 rfl w63 Fc ?_
  refine Go.ishr H d16_9 rfl ?_
  rw [own_ul (by omega)]
  refine Go.istoreN (ls' := #[.val (.ref x), .val (.int m.toInt32), .val (.int cap.toInt32)]) H d16_10 rfl rfl ?_
  refine Go.iloadN H d16_11 rfl rfl ?_
  refine Go.iloadN H d16_12 rfl rfl ?_
  refine Go.isub H d16_13 rfl ?_
  refine Go.ifY (pc' := 38) H d16_14 (flt (own_subnp (by omega) h1)).2.2.2 (by decide) (by decide) ?_
  exact Go.return_ [] H d16_38 ⟨rfl, rfl, rfl⟩ all0 (by decide) (by decide)
theorem d26_0 : decode jdk_68_method_68_code 0 = .ok (.getstatic 18, 3) := by decide +kernel
theorem d26_3 : decode jdk_68_method_68_code 3 = .ok (.ifCond .eq 14, 3) := by decide +kernel
theorem d26_6 : decode jdk_68_method_68_code 6 = .ok (.aload_n 0, 1) := by decide +kernel
theorem d26_7 : decode jdk_68_method_68_code 7 = .ok (.getfield 22, 3) := by decide +kernel
theorem d26_10 : decode jdk_68_method_68_code 10 = .ok (.ifCond .ne 7, 3) := by decide +kernel
theorem d26_13 : decode jdk_68_method_68_code 13 = .ok (.iconst 1, 1) := by decide +kernel
theorem d26_14 : decode jdk_68_method_68_code 14 = .ok (.goto 4, 3) := by decide +kernel
theorem d26_18 : decode jdk_68_method_68_code 18 = .ok (.ireturn, 1) := by decide +kernel
abbrev N22 : MethodName := ⟨"java/lang/AbstractStringBuilder", "isLatin1", "()Z"⟩

abbrev rm_asl0 : Room := { frames := 0, cells := 0, slots := 0, locals := 0 }
set_option maxRecDepth 65536 in
set_option maxHeartbeats 4000000 in
theorem ct_asl0 (l : Launch) {Z : State} {n0 : Nat} {z : Int32} {f : Value} (W : Sx Z z f) (x b : Addr) (n : Int32) (h : Heap) (F : SbF Z h x b 0 n) :
    Ctr l Z n0 N22 jdk_68_method_68_code 1 (some .boolean) rm_asl0 #[(.ref x)] h [] (fun v h' sn => v = some (.int 1) ∧ h = h' ∧ sn = []) := by
  refine Ctr.of_go (ls := #[.val (.ref x)]) W.1.1 (plainFor_of_name pn_N15) (fun m => by first | (simp [entryFrame, mkF, argsToLocals, Value.category]; done) | rfl) (fun K H => ?_)
  obtain ⟨A, Fv, Fc, Fn, Fm⟩ := F
  refine Go.getstatic H d26_0 rfl w60 W.1.2.2.1 ?_
  refine Go.ifN H d26_3 (feq W.1.2.1).1 rfl ?_
  refine Go.aloadN H d26_6 rfl rfl rfl ?_
  refine Go.getfield H d26_7 rfl w63 Fc ?_
  refine Go.ifN H d26_10 (by decide) rfl ?_
  refine Go.iconst (1 : Int32) H d26_13 rfl rfl ?_
  refine Go.goto (pc' := 18) H d26_14 (by decide) (by decide) ?_
  exact Go.ireturn (1 : Int32) [] H d26_18 (by simp) (by decide) ⟨rfl, rfl, rfl⟩ all0 (by decide) (by decide)
theorem d26_17 : decode jdk_68_method_68_code 17 = .ok (.iconst 0, 1) := by decide +kernel

abbrev rm_asl1 : Room := { frames := 0, cells := 0, slots := 0, locals := 0 }
set_option maxRecDepth 65536 in
set_option maxHeartbeats 4000000 in
theorem ct_asl1 (l : Launch) {Z : State} {n0 : Nat} {z : Int32} {f : Value} (W : Sx Z z f) (x b : Addr) (n : Int32) (h : Heap) (F : SbF Z h x b 1 n) :
    Ctr l Z n0 N22 jdk_68_method_68_code 1 (some .boolean) rm_asl1 #[(.ref x)] h [] (fun v h' sn => v = some (.int 0) ∧ h = h' ∧ sn = []) := by
  refine Ctr.of_go (ls := #[.val (.ref x)]) W.1.1 (plainFor_of_name pn_N15) (fun m => by first | (simp [entryFrame, mkF, argsToLocals, Value.category]; done) | rfl) (fun K H => ?_)
  obtain ⟨A, Fv, Fc, Fn, Fm⟩ := F
  refine Go.getstatic H d26_0 rfl w60 W.1.2.2.1 ?_
  refine Go.ifN H d26_3 (feq W.1.2.1).1 rfl ?_
  refine Go.aloadN H d26_6 rfl rfl rfl ?_
  refine Go.getfield H d26_7 rfl w63 Fc ?_
  refine Go.ifY (pc' := 17) H d26_10 (by decide) (by decide) (by decide) ?_
  refine Go.iconst (0 : Int32) H d26_17 rfl rfl ?_
  exact Go.ireturn (0 : Int32) [] H d26_18 (by simp) (by decide) ⟨rfl, rfl, rfl⟩ all0 (by decide) (by decide)
theorem d49_0 : decode jdk_41_method_13_code 0 = .ok (.iload_n 2, 1) := by decide +kernel
theorem d49_1 : decode jdk_41_method_13_code 1 = .ok (.iload_n 0, 1) := by decide +kernel
theorem d49_2 : decode jdk_41_method_13_code 2 = .ok (.ior, 1) := by decide +kernel
theorem d49_3 : decode jdk_41_method_13_code 3 = .ok (.iload_n 1, 1) := by decide +kernel
theorem d49_4 : decode jdk_41_method_13_code 4 = .ok (.ior, 1) := by decide +kernel
theorem d49_5 : decode jdk_41_method_13_code 5 = .ok (.ifCond .lt 10, 3) := by decide +kernel
theorem d49_8 : decode jdk_41_method_13_code 8 = .ok (.iload_n 1, 1) := by decide +kernel
theorem d49_9 : decode jdk_41_method_13_code 9 = .ok (.iload_n 2, 1) := by decide +kernel
theorem d49_10 : decode jdk_41_method_13_code 10 = .ok (.iload_n 0, 1) := by decide +kernel
theorem d49_11 : decode jdk_41_method_13_code 11 = .ok (.isub, 1) := by decide +kernel
theorem d49_12 : decode jdk_41_method_13_code 12 = .ok (.if_icmp .le 11, 3) := by decide +kernel
theorem d49_23 : decode jdk_41_method_13_code 23 = .ok (.iload_n 0, 1) := by decide +kernel
theorem d49_24 : decode jdk_41_method_13_code 24 = .ok (.ireturn, 1) := by decide +kernel
abbrev N23 : MethodName := ⟨"jdk/internal/util/Preconditions", "checkFromIndexSize", "(IIILjava/util/function/BiFunction;)I"⟩
theorem pn_N23 : plainName N23.cls = true := by first | (simp [plainName, overriddenIn]; done) | decide +kernel

abbrev rm_cfis : Room := { frames := 0, cells := 0, slots := 0, locals := 0 }
set_option maxRecDepth 65536 in
set_option maxHeartbeats 4000000 in
theorem ct_cfis (l : Launch) {Z : State} {n0 : Nat} {z : Int32} {f : Value} (W : Sx Z z f) (k n m : Nat) (h : Heap) (hm : m < 2 ^ 31) (hk : k + n ≤ m) :
    Ctr l Z n0 N23 jdk_41_method_13_code 4 (some .int) rm_cfis #[(.int k.toInt32), (.int n.toInt32), (.int m.toInt32), f] h [] (fun v h' sn => v = some (.int k.toInt32) ∧ h = h' ∧ sn = []) := by
  refine Ctr.of_go (ls := #[.val (.int k.toInt32), .val (.int n.toInt32), .val (.int m.toInt32), .val f]) W.1.1 (plainFor_of_name pn_N23) (fun m => (by rcases ref_cases W.1.2.2.2.1 with q | ⟨fa, q⟩ <;> rw [q] <;> rfl)) (fun K H => ?_)
  refine Go.iloadN H d49_0 rfl rfl ?_
  refine Go.iloadN H d49_1 rfl rfl ?_
  refine Go.ior H d49_2 rfl ?_
  refine Go.iloadN H d49_3 rfl rfl ?_
  refine Go.ior H d49_4 rfl ?_
  refine Go.ifN H d49_5 (flt (own_or0 (own_or0 (own_n0 (by omega)) (own_n0 (by omega))) (own_n0 (by omega)))).1 rfl ?_
  refine Go.iloadN H d49_8 rfl rfl ?_
  refine Go.iloadN H d49_9 rfl rfl ?_
  refine Go.iloadN H d49_10 rfl rfl ?_
  refine Go.isub H d49_11 rfl ?_
  refine Go.icmpY (pc' := 23) H d49_12 (flt (own_sle hm hk)).2.2.2 (by decide) (by decide) ?_
  refine Go.iloadN H d49_23 rfl rfl ?_
  exact Go.ireturnI [] H d49_24 ⟨rfl, rfl, rfl⟩ all0 (by decide) (by decide)
theorem d48_0 : decode jdk_42_method_157_code 0 = .ok (.iload_n 0, 1) := by decide +kernel
theorem d48_1 : decode jdk_42_method_157_code 1 = .ok (.iload_n 1, 1) := by decide +kernel
theorem d48_2 : decode jdk_42_method_157_code 2 = .ok (.iload_n 2, 1) := by decide +kernel
theorem d48_3 : decode jdk_42_method_157_code 3 = .ok (.getstatic 1053, 3) := by decide +kernel
theorem w236 : Jvm.Cond.fieldLink "java/lang/String" (1053 : Nat) "jdk/internal/util/Preconditions" "SIOOBE_FORMATTER" "Ljava/util/function/BiFunction;" ∈ tables_1 := List.mem_of_getElem? (i := 236) rfl
theorem d48_6 : decode jdk_42_method_157_code 6 = .ok (.invokestatic 1065, 3) := by decide +kernel
theorem w240 : Jvm.Cond.code N23 jdk_41_method_13_code (4 : Nat) (Option.some Jvm.ClassFile.FieldType.int) ∈ tables_1 := List.mem_of_getElem? (i := 240) rfl
theorem w237 : Jvm.Cond.initialized "jdk/internal/util/Preconditions" ∈ tables_1 := List.mem_of_getElem? (i := 237) rfl
theorem pd_N23 : parseMethodDescriptor N23.desc = some ⟨[.int, .int, .int, (.object "java/util/function/BiFunction")], (some .int)⟩ := by decide +kernel
theorem nh_N23 : N23.cls ≠ "java/lang/invoke/MethodHandle" ∧ N23.cls ≠ "java/lang/invoke/VarHandle" := by decide
theorem w238 : Jvm.Cond.methodLink "java/lang/String" (1065 : Nat) N23 ∈ tables_1 := List.mem_of_getElem? (i := 238) rfl
theorem w239 : Jvm.Cond.static N23 ∈ tables_1 := List.mem_of_getElem? (i := 239) rfl
theorem d48_9 : decode jdk_42_method_157_code 9 = .ok (.ireturn, 1) := by decide +kernel
abbrev N24 : MethodName := ⟨"java/lang/String", "checkBoundsOffCount", "(III)I"⟩

abbrev rm_cboc : Room := { frames := 1, cells := 0, slots := 0, locals := 15 }
set_option maxRecDepth 65536 in
set_option maxHeartbeats 4000000 in
theorem ct_cboc (l : Launch) {Z : State} {n0 : Nat} {z : Int32} {f : Value} (W : Sx Z z f) (k n m : Nat) (h : Heap) (hm : m < 2 ^ 31) (hk : k + n ≤ m) :
    Ctr l Z n0 N24 jdk_42_method_157_code 3 (some .int) rm_cboc #[(.int k.toInt32), (.int n.toInt32), (.int m.toInt32)] h [] (fun v h' sn => v = some (.int k.toInt32) ∧ h = h' ∧ sn = []) := by
  refine Ctr.of_go (ls := #[.val (.int k.toInt32), .val (.int n.toInt32), .val (.int m.toInt32)]) W.1.1 (plainFor_of_name pn_N9) (fun m => by first | (simp [entryFrame, mkF, argsToLocals, Value.category]; done) | rfl) (fun K H => ?_)
  refine Go.iloadN H d48_0 rfl rfl ?_
  refine Go.iloadN H d48_1 rfl rfl ?_
  refine Go.iloadN H d48_2 rfl rfl ?_
  refine Go.getstatic H d48_3 rfl w236 W.1.2.2.2.2 ?_
  refine Go.callS (rest := []) 0 [(.int k.toInt32), (.int n.toInt32), (.int m.toInt32), f] H d48_6 rfl w238 w239 w237 w240 pd_N23 (ct_cfis l W k n m h hm hk) all0 rfl rfl rfl (Nat.le_of_eq rfl) (by decide) (by decide) (by decide) (by decide) nh_N23 ?_
  rintro _ _ _ ⟨rfl, rfl, rfl⟩
  show Go _ _ _ _ _ _ h [] 0 0 9 #[.val (.int k.toInt32), .val (.int n.toInt32), .val (.int m.toInt32)] [(.int k.toInt32)]
  exact Go.ireturnI [] H d48_9 ⟨rfl, rfl, rfl⟩ all0 (by decide) (by decide)
theorem d47_0 : decode jdk_52_method_6_code 0 = .ok (.aload_n 0, 1) := by decide +kernel
theorem d47_1 : decode jdk_52_method_6_code 1 = .ok (.arraylength, 1) := by decide +kernel
theorem d47_2 : decode jdk_52_method_6_code 2 = .ok (.iconst 1, 1) := by decide +kernel
theorem d47_3 : decode jdk_52_method_6_code 3 = .ok (.ishr, 1) := by decide +kernel
theorem d47_4 : decode jdk_52_method_6_code 4 = .ok (.ireturn, 1) := by decide +kernel
abbrev N25 : MethodName := ⟨"java/lang/StringUTF16", "length", "([B)I"⟩

abbrev rm_ulenm : Room := { frames := 0, cells := 0, slots := 0, locals := 0 }
set_option maxRecDepth 65536 in
set_option maxHeartbeats 4000000 in
theorem ct_ulenm (l : Launch) {Z : State} {n0 : Nat} {z : Int32} {f : Value} (W : Sx Z z f) (b : Addr) (bs : List Int32) (m : Nat) (h : Heap) (Fb : Vec Z h b .byte bs) (hb : bs.length = 2 * m) (hm : m < 2 ^ 30) :
    Ctr l Z n0 N25 jdk_52_method_6_code 1 (some .int) rm_ulenm #[(.ref b)] h [] (fun v h' sn => v = some (.int m.toInt32) ∧ h = h' ∧ sn = []) := by
  refine Ctr.of_go (ls := #[.val (.ref b)]) W.1.1 (plainFor_of_name pn_N0) (fun m => by first | (simp [entryFrame, mkF, argsToLocals, Value.category]; done) | rfl) (fun K H => ?_)
  refine Go.aloadN H d47_0 rfl rfl rfl ?_
  refine Go.arraylength (2 * m).toInt32 H d47_1 rfl Fb (by rw [hb]) ?_
  refine Go.iconst (1 : Int32) H d47_2 rfl rfl ?_
  refine Go.ishr H d47_3 rfl ?_
  exact Go.ireturnI [] H d47_4 ⟨by rw [own_ul hm], rfl, rfl⟩ all0 (by decide) (by decide)
theorem d46_0 : decode jdk_52_method_94_code 0 = .ok (.iload_n 0, 1) := by decide +kernel
theorem d46_1 : decode jdk_52_method_94_code 1 = .ok (.iload_n 1, 1) := by decide +kernel
theorem d46_2 : decode jdk_52_method_94_code 2 = .ok (.aload_n 2, 1) := by decide +kernel
theorem d46_3 : decode jdk_52_method_94_code 3 = .ok (.invokestatic 48, 3) := by decide +kernel
theorem w232 : Jvm.Cond.code N25 jdk_52_method_6_code (1 : Nat) (Option.some Jvm.ClassFile.FieldType.int) ∈ tables_1 := List.mem_of_getElem? (i := 232) rfl
theorem pd_N25 : parseMethodDescriptor N25.desc = some ⟨[(.array .byte)], (some .int)⟩ := by decide +kernel
theorem w230 : Jvm.Cond.methodLink "java/lang/StringUTF16" (48 : Nat) N25 ∈ tables_1 := List.mem_of_getElem? (i := 230) rfl
theorem w231 : Jvm.Cond.static N25 ∈ tables_1 := List.mem_of_getElem? (i := 231) rfl
theorem d46_6 : decode jdk_52_method_94_code 6 = .ok (.invokestatic 419, 3) := by decide +kernel
theorem w235 : Jvm.Cond.code N24 jdk_42_method_157_code (3 : Nat) (Option.some Jvm.ClassFile.FieldType.int) ∈ tables_1 := List.mem_of_getElem? (i := 235) rfl
theorem pd_N24 : parseMethodDescriptor N24.desc = some ⟨[.int, .int, .int], (some .int)⟩ := by decide +kernel
theorem w233 : Jvm.Cond.methodLink "java/lang/StringUTF16" (419 : Nat) N24 ∈ tables_1 := List.mem_of_getElem? (i := 233) rfl
theorem w234 : Jvm.Cond.static N24 ∈ tables_1 := List.mem_of_getElem? (i := 234) rfl
theorem d46_9 : decode jdk_52_method_94_code 9 = .ok (.pop, 1) := by decide +kernel
theorem d46_10 : decode jdk_52_method_94_code 10 = .ok (.return_, 1) := by decide +kernel
abbrev N26 : MethodName := ⟨"java/lang/StringUTF16", "checkBoundsOffCount", "(II[B)V"⟩

abbrev rm_uboc : Room := { frames := 2, cells := 0, slots := 0, locals := 29 }
set_option maxRecDepth 65536 in
set_option maxHeartbeats 4000000 in
theorem ct_uboc (l : Launch) {Z : State} {n0 : Nat} {z : Int32} {f : Value} (W : Sx Z z f) (d : Addr) (bs : List Int32) (k n m : Nat) (h : Heap) (Fd : Vec Z h d .byte bs) (hb : bs.length = 2 * m) (hm : m < 2 ^ 30) (hk : k + n ≤ m) :
    Ctr l Z n0 N26 jdk_52_method_94_code 3 none rm_uboc #[(.int k.toInt32), (.int n.toInt32), (.ref d)] h [] (fun v h' sn => v = none ∧ h = h' ∧ sn = []) := by
  refine Ctr.of_go (ls := #[.val (.int k.toInt32), .val (.int n.toInt32), .val (.ref d)]) W.1.1 (plainFor_of_name pn_N0) (fun m => by first | (simp [entryFrame, mkF, argsToLocals, Value.category]; done) | rfl) (fun K H => ?_)
  refine Go.iloadN H d46_0 rfl rfl ?_
  refine Go.iloadN H d46_1 rfl rfl ?_
  refine Go.aloadN H d46_2 rfl rfl rfl ?_
  refine Go.callS (rest := [(.int n.toInt32), (.int k.toInt32)]) 2 [(.ref d)] H d46_3 rfl w230 w231 w32 w232 pd_N25 (ct_ulenm l W d _ m h Fd hb (by omega)) all0 rfl rfl rfl (Nat.le_of_eq rfl) (by decide) (by decide) (by decide) (by decide) nh_N1 ?_
  rintro _ _ _ ⟨rfl, rfl, rfl⟩
  show Go _ _ _ _ _ _ h [] 0 0 6 #[.val (.int k.toInt32), .val (.int n.toInt32), .val (.ref d)] [(.int m.toInt32), (.int n.toInt32), (.int k.toInt32)]
  refine Go.callS (rest := []) 0 [(.int k.toInt32), (.int n.toInt32), (.int m.toInt32)] H d46_6 rfl w233 w234 w6 w235 pd_N24 (ct_cboc l W k n m h (by omega) hk) all0 rfl rfl rfl (Nat.le_of_eq rfl) (by decide) (by decide) (by decide) (by decide) nh_N9 ?_
  rintro _ _ _ ⟨rfl, rfl, rfl⟩
  show Go _ _ _ _ _ _ h [] 0 0 9 #[.val (.int k.toInt32), .val (.int n.toInt32), .val (.ref d)] [(.int k.toInt32)]
  refine Go.pop H d46_9 rfl rfl ?_
  exact Go.return_ [] H d46_10 ⟨rfl, rfl, rfl⟩ all0 (by decide) (by decide)
theorem d45_10 : decode jdk_52_method_86_code 10 = .ok (.iload 5, 2) := by decide +kernel
theorem d45_12 : decode jdk_52_method_86_code 12 = .ok (.iload 4, 2) := by decide +kernel
theorem d45_14 : decode jdk_52_method_86_code 14 = .ok (.if_icmp .ge 27, 3) := by decide +kernel
theorem d45_41 : decode jdk_52_method_86_code 41 = .ok (.return_, 1) := by decide +kernel
theorem d45_17 : decode jdk_52_method_86_code 17 = .ok (.aload_n 2, 1) := by decide +kernel
theorem d45_18 : decode jdk_52_method_86_code 18 = .ok (.iload_n 3, 1) := by decide +kernel
theorem d45_19 : decode jdk_52_method_86_code 19 = .ok (.iinc 3 1, 3) := by decide +kernel
theorem d45_22 : decode jdk_52_method_86_code 22 = .ok (.aload_n 0, 1) := by decide +kernel
theorem d45_23 : decode jdk_52_method_86_code 23 = .ok (.iload_n 1, 1) := by decide +kernel
theorem d45_24 : decode jdk_52_method_86_code 24 = .ok (.iinc 1 1, 3) := by decide +kernel
theorem d45_27 : decode jdk_52_method_86_code 27 = .ok (.baload, 1) := by decide +kernel
theorem d45_28 : decode jdk_52_method_86_code 28 = .ok (.sipush 255, 3) := by decide +kernel
theorem d45_31 : decode jdk_52_method_86_code 31 = .ok (.iand, 1) := by decide +kernel
theorem d45_32 : decode jdk_52_method_86_code 32 = .ok (.invokestatic 111, 3) := by decide +kernel
theorem d45_35 : decode jdk_52_method_86_code 35 = .ok (.iinc 5 1, 3) := by decide +kernel
theorem d45_38 : decode jdk_52_method_86_code 38 = .ok (.goto (-28), 3) := by decide +kernel
theorem d45_0 : decode jdk_52_method_86_code 0 = .ok (.iload_n 3, 1) := by decide +kernel
theorem d45_1 : decode jdk_52_method_86_code 1 = .ok (.iload 4, 2) := by decide +kernel
theorem d45_3 : decode jdk_52_method_86_code 3 = .ok (.aload_n 2, 1) := by decide +kernel
theorem d45_4 : decode jdk_52_method_86_code 4 = .ok (.invokestatic 173, 3) := by decide +kernel
theorem w229 : Jvm.Cond.code N26 jdk_52_method_94_code (3 : Nat) (Option.none : Option Jvm.ClassFile.FieldType) ∈ tables_1 := List.mem_of_getElem? (i := 229) rfl
theorem pd_N26 : parseMethodDescriptor N26.desc = some ⟨[.int, .int, (.array .byte)], none⟩ := by decide +kernel
theorem w227 : Jvm.Cond.methodLink "java/lang/StringUTF16" (173 : Nat) N26 ∈ tables_1 := List.mem_of_getElem? (i := 227) rfl
theorem w228 : Jvm.Cond.static N26 ∈ tables_1 := List.mem_of_getElem? (i := 228) rfl
theorem d45_7 : decode jdk_52_method_86_code 7 = .ok (.iconst 0, 1) := by decide +kernel
theorem d45_8 : decode jdk_52_method_86_code 8 = .ok (.istore 5, 2) := by decide +kernel

set_option maxRecDepth 65536 in
set_option maxHeartbeats 4000000 in
theorem lp_uinf (l : Launch) {Z : State} {n0 : Nat} {z : Int32} {f : Value} (W : Sx Z z f) (b d : Addr) (cs pd P R1 : List Int32) (k m : Nat) (hh : Heap) (hL : ∀ c ∈ cs, isL c) (hP : P.length = 2 * k) (hb : (P ++ R1).length = 2 * m) (hk : k + cs.length ≤ m) (hm : m < 2 ^ 20) (zd : n0 ≤ d) (hne : b ≠ d) {K : Cx} (H : Ok Z K "java/lang/StringUTF16" jdk_52_method_86_code 6 none "inflate") :
    ∀ (q i : Nat), i + q = cs.length → ∀ h : Heap, Vec Z h b .byte (cs.map (nar .byte) ++ pd) → Vec Z h d .byte (P ++ enc16 (cs.take i) ++ R1.drop (2 * i)) → Keep hh h [d] →
      Go l Z n0 ({ frames := 3, cells := 0, slots := 0, locals := 43 } : Room) K (fun v h' sn => v = none ∧ Keep hh h' [d] ∧ Vec Z h' d .byte (P ++ enc16 cs ++ R1.drop (2 * cs.length)) ∧ sn = []) h [d] 0 0 10 #[.val (.ref b), .val (.int i.toInt32), .val (.ref d), .val (.int (k + i).toInt32), .val (.int cs.length.toInt32), .val (.int i.toInt32)] [] := by
  intro q
  induction q with
  | zero =>
    intro i hi h Fb Fd KK
    refine Go.iload H d45_10 rfl rfl ?_
    refine Go.iload H d45_12 rfl rfl ?_
    refine Go.icmpY (pc' := 41) H d45_14 (flt (own_nlt (by omega) (by omega))).2.1 (by decide) (by decide) ?_
    rw [own_inf0 (by omega)] at Fd
    exact Go.return_ [] H d45_41 ⟨rfl, KK, Fd, rfl⟩ all0 (by decide) (by decide)
  | succ q ih =>
    intro i hi h Fb Fd KK
    have hlt : i < cs.length := by omega
    obtain ⟨c, hc⟩ : ∃ c, cs[i]? = some c := ⟨_, List.getElem?_eq_getElem hlt⟩
    have hLc : isL c := hL c (List.mem_of_getElem? hc)
    have hcb : (cs.map (nar .byte) ++ pd)[i]? = some (nar .byte c) := by rw [List.getElem?_append_left (by rw [List.length_map]; omega)]; exact own_getm hc
    refine Go.iload H d45_10 rfl rfl ?_
    refine Go.iload H d45_12 rfl rfl ?_
    refine Go.icmpN H d45_14 (tlt (own_lt (by omega) hlt)).2.1 rfl ?_
    refine Go.aloadN H d45_17 rfl rfl rfl ?_
    refine Go.iloadN H d45_18 rfl rfl ?_
    refine Go.iinc (ls' := #[.val (.ref b), .val (.int i.toInt32), .val (.ref d), .val (.int ((k + i).toInt32 + (1 : Int32))), .val (.int cs.length.toInt32), .val (.int i.toInt32)]) (1 : Int32) H d45_19 rfl rfl rfl rfl ?_
    refine Go.aloadN H d45_22 rfl rfl rfl ?_
    refine Go.iloadN H d45_23 rfl rfl ?_
    refine Go.iinc (ls' := #[.val (.ref b), .val (.int (i.toInt32 + (1 : Int32))), .val (.ref d), .val (.int ((k + i).toInt32 + (1 : Int32))), .val (.int cs.length.toInt32), .val (.int i.toInt32)]) (1 : Int32) H d45_24 rfl rfl rfl rfl ?_
    refine Go.baload (v := (nar .byte c)) H d45_27 rfl Fb i (own_cl (by omega)) (own_n0 (by omega)) hcb ?_
    refine Go.sipush (255 : Int32) H d45_28 rfl rfl ?_
    refine Go.iand H d45_31 rfl ?_
    rw [own_b255 hLc]
    refine Go.callS (rest := []) 0 [(.ref d), (.int (k + i).toInt32), (.int c)] H d45_32 rfl w205 w206 w32 w207 pd_N3 (ct_putc l W d _ (k + i) c h Fd (by rw [List.length_append, List.length_append, enc16_len, List.length_take, List.length_drop, hP]; rw [List.length_append, hP] at hb; omega) (by omega) zd) (by simp) rfl rfl rfl (Nat.le_of_eq rfl) (by decide) (by decide) (by decide) (by decide) nh_N1 ?_
    rintro _ h1 _ ⟨rfl, K2, F3, rfl⟩
    replace Fb := Fb.keep K2 (ninS hne nin0)
    replace KK := KK.trans K2 (allS (Or.inl (by simp)) all0)
    show Go _ _ _ _ _ _ h1 [d] 0 0 35 #[.val (.ref b), .val (.int (i.toInt32 + (1 : Int32))), .val (.ref d), .val (.int ((k + i).toInt32 + (1 : Int32))), .val (.int cs.length.toInt32), .val (.int i.toInt32)] []
    refine Go.iinc (ls' := #[.val (.ref b), .val (.int (i.toInt32 + (1 : Int32))), .val (.ref d), .val (.int ((k + i).toInt32 + (1 : Int32))), .val (.int cs.length.toInt32), .val (.int (i.toInt32 + (1 : Int32)))]) (1 : Int32) H d45_35 rfl rfl rfl rfl ?_
    refine Go.goto (pc' := 10) H d45_38 (by decide) (by decide) ?_
    rw [own_inf hP hc (by rw [List.length_append, hP] at hb; omega)] at F3
    rw [own_s i, own_s (k + i)]
    exact ih (i + 1) (by omega) _ Fb F3 KK
abbrev N27 : MethodName := ⟨"java/lang/StringUTF16", "inflate", "([BI[BII)V"⟩

abbrev rm_uinf : Room := { frames := 3, cells := 0, slots := 0, locals := 43 }
set_option maxRecDepth 65536 in
set_option maxHeartbeats 4000000 in
theorem ct_uinf (l : Launch) {Z : State} {n0 : Nat} {z : Int32} {f : Value} (W : Sx Z z f) (b d : Addr) (cs pd P R1 : List Int32) (k m : Nat) (h : Heap) (Fb : Vec Z h b .byte (cs.map (nar .byte) ++ pd)) (Fd : Vec Z h d .byte (P ++ R1)) (hL : ∀ c ∈ cs, isL c) (hP : P.length = 2 * k) (hb : (P ++ R1).length = 2 * m) (hk : k + cs.length ≤ m) (hm : m < 2 ^ 20) (zd : n0 ≤ d) (hne : b ≠ d) :
    Ctr l Z n0 N27 jdk_52_method_86_code 6 none rm_uinf #[(.ref b), (.int (0 : Int32)), (.ref d), (.int k.toInt32), (.int cs.length.toInt32)] h [d] (fun v h' sn => v = none ∧ Keep h h' [d] ∧ Vec Z h' d .byte (P ++ enc16 cs ++ R1.drop (2 * cs.length)) ∧ sn = []) := by
  refine Ctr.of_go (ls := #[.val (.ref b), .val (.int (0 : Int32)), .val (.ref d), .val (.int k.toInt32), .val (.int cs.length.toInt32), .unset]) W.1.1 (plainFor_of_name pn_N0) (fun m => by first | (simp [entryFrame, mkF, argsToLocals, Value.category]; done) | rfl) (fun K H => ?_)
  refine Go.iloadN H d45_0 rfl rfl ?_
  refine Go.iload H d45_1 rfl rfl ?_
  refine Go.aloadN H d45_3 rfl rfl rfl ?_
  refine Go.callS (rest := []) 0 [(.int k.toInt32), (.int cs.length.toInt32), (.ref d)] H d45_4 rfl w227 w228 w32 w229 pd_N26 (ct_uboc l W d _ k cs.length m h Fd hb (by omega) hk) all0 rfl rfl rfl (Nat.le_of_eq rfl) (by decide) (by decide) (by decide) (by decide) nh_N1 ?_
  rintro _ _ _ ⟨rfl, rfl, rfl⟩
  show Go _ _ _ _ _ _ h [d] 0 0 7 #[.val (.ref b), .val (.int (0 : Int32)), .val (.ref d), .val (.int k.toInt32), .val (.int cs.length.toInt32), .unset] []
  refine Go.iconst (0 : Int32) H d45_7 rfl rfl ?_
  refine Go.istore (ls' := #[.val (.ref b), .val (.int (0 : Int32)), .val (.ref d), .val (.int k.toInt32), .val (.int cs.length.toInt32), .val (.int (0 : Int32))]) H d45_8 rfl rfl ?_
  exact lp_uinf l W b d cs pd P R1 k m h hL hP hb hk hm zd hne H cs.length 0 (by omega) h Fb (by simpa [enc16] using Fd) (Keep.refl _ _)
theorem d44_0 : decode jdk_43_method_50_code 0 = .ok (.aload_n 0, 1) := by decide +kernel
theorem d44_1 : decode jdk_43_method_50_code 1 = .ok (.iload_n 1, 1) := by decide +kernel
theorem d44_2 : decode jdk_43_method_50_code 2 = .ok (.aload_n 2, 1) := by decide +kernel
theorem d44_3 : decode jdk_43_method_50_code 3 = .ok (.iload_n 3, 1) := by decide +kernel
theorem d44_4 : decode jdk_43_method_50_code 4 = .ok (.iload 4, 2) := by decide +kernel
theorem d44_6 : decode jdk_43_method_50_code 6 = .ok (.invokestatic 240, 3) := by decide +kernel
theorem w226 : Jvm.Cond.code N27 jdk_52_method_86_code (6 : Nat) (Option.none : Option Jvm.ClassFile.FieldType) ∈ tables_1 := List.mem_of_getElem? (i := 226) rfl
theorem pd_N27 : parseMethodDescriptor N27.desc = some ⟨[(.array .byte), .int, (.array .byte), .int, .int], none⟩ := by decide +kernel
theorem w224 : Jvm.Cond.methodLink "java/lang/StringLatin1" (240 : Nat) N27 ∈ tables_1 := List.mem_of_getElem? (i := 224) rfl
theorem w225 : Jvm.Cond.static N27 ∈ tables_1 := List.mem_of_getElem? (i := 225) rfl
theorem d44_9 : decode jdk_43_method_50_code 9 = .ok (.return_, 1) := by decide +kernel
abbrev N28 : MethodName := ⟨"java/lang/StringLatin1", "inflate", "([BI[BII)V"⟩
theorem pn_N28 : plainName N28.cls = true := by first | (simp [plainName, overriddenIn]; done) | decide +kernel

abbrev rm_linf : Room := { frames := 4, cells := 0, slots := 0, locals := 60 }
set_option maxRecDepth 65536 in
set_option maxHeartbeats 4000000 in
theorem ct_linf (l : Launch) {Z : State} {n0 : Nat} {z : Int32} {f : Value} (W : Sx Z z f) (b d : Addr) (cs pd P R1 : List Int32) (k m : Nat) (h : Heap) (Fb : Vec Z h b .byte (cs.map (nar .byte) ++ pd)) (Fd : Vec Z h d .byte (P ++ R1)) (hL : ∀ c ∈ cs, isL c) (hP : P.length = 2 * k) (hb : (P ++ R1).length = 2 * m) (hk : k + cs.length ≤ m) (hm : m < 2 ^ 20) (zd : n0 ≤ d) (hne : b ≠ d) :
    Ctr l Z n0 N28 jdk_43_method_50_code 5 none rm_linf #[(.ref b), (.int (0 : Int32)), (.ref d), (.int k.toInt32), (.int cs.length.toInt32)] h [d] (fun v h' sn => v = none ∧ Keep h h' [d] ∧ Vec Z h' d .byte (P ++ enc16 cs ++ R1.drop (2 * cs.length)) ∧ sn = []) := by
  refine Ctr.of_go (ls := #[.val (.ref b), .val (.int (0 : Int32)), .val (.ref d), .val (.int k.toInt32), .val (.int cs.length.toInt32)]) W.1.1 (plainFor_of_name pn_N28) (fun m => by first | (simp [entryFrame, mkF, argsToLocals, Value.category]; done) | rfl) (fun K H => ?_)
  refine Go.aloadN H d44_0 rfl rfl rfl ?_
  refine Go.iloadN H d44_1 rfl rfl ?_
  refine Go.aloadN H d44_2 rfl rfl rfl ?_
  refine Go.iloadN H d44_3 rfl rfl ?_
  refine Go.iload H d44_4 rfl rfl ?_
  refine Go.callS (rest := []) 0 [(.ref b), (.int (0 : Int32)), (.ref d), (.int k.toInt32), (.int cs.length.toInt32)] H d44_6 rfl w224 w225 w32 w226 pd_N27 (ct_uinf l W b d cs pd P R1 k m h Fb Fd hL hP hb hk hm zd hne) (by simp) rfl rfl rfl (Nat.le_of_eq rfl) (by decide) (by decide) (by decide) (by decide) nh_N1 ?_
  rintro _ h1 _ ⟨rfl, K2, F3, rfl⟩
  replace Fb := Fb.keep K2 (ninS hne nin0)
  show Go _ _ _ _ _ _ h1 [d] 0 0 9 #[.val (.ref b), .val (.int (0 : Int32)), .val (.ref d), .val (.int k.toInt32), .val (.int cs.length.toInt32)] []
  exact Go.return_ [] H d44_9 ⟨rfl, K2, F3, rfl⟩ all0 (by decide) (by decide)
theorem d43_0 : decode jdk_68_method_11_code 0 = .ok (.aload_n 0, 1) := by decide +kernel
theorem d43_1 : decode jdk_68_method_11_code 1 = .ok (.invokevirtual 83, 3) := by decide +kernel
theorem w142 : Jvm.Cond.code N22 jdk_68_method_68_code (1 : Nat) (Option.some Jvm.ClassFile.FieldType.boolean) ∈ tables_1 := List.mem_of_getElem? (i := 142) rfl
theorem pd_N22 : parseMethodDescriptor N22.desc = some ⟨[], (some .boolean)⟩ := by decide +kernel
theorem w219 : Jvm.Cond.methodLink "java/lang/AbstractStringBuilder" (83 : Nat) N22 ∈ tables_1 := List.mem_of_getElem? (i := 219) rfl
theorem w139 : Jvm.Cond.declares N22 ∈ tables_1 := List.mem_of_getElem? (i := 139) rfl
theorem w141 : Jvm.Cond.selects "java/lang/StringBuilder" N22 N22 ∈ tables_1 := List.mem_of_getElem? (i := 141) rfl
theorem w140 : Jvm.Cond.instanceMethod N22 ∈ tables_1 := List.mem_of_getElem? (i := 140) rfl
theorem d43_4 : decode jdk_68_method_11_code 4 = .ok (.ifCond .ne 4, 3) := by decide +kernel
theorem d43_8 : decode jdk_68_method_11_code 8 = .ok (.aload_n 0, 1) := by decide +kernel
theorem d43_9 : decode jdk_68_method_11_code 9 = .ok (.getfield 15, 3) := by decide +kernel
theorem d43_12 : decode jdk_68_method_11_code 12 = .ok (.arraylength, 1) := by decide +kernel
theorem d43_13 : decode jdk_68_method_11_code 13 = .ok (.invokestatic 26, 3) := by decide +kernel
theorem w220 : Jvm.Cond.methodLink "java/lang/AbstractStringBuilder" (26 : Nat) N2 ∈ tables_1 := List.mem_of_getElem? (i := 220) rfl
theorem d43_16 : decode jdk_68_method_11_code 16 = .ok (.astore_n 1, 1) := by decide +kernel
theorem d43_17 : decode jdk_68_method_11_code 17 = .ok (.aload_n 0, 1) := by decide +kernel
theorem d43_18 : decode jdk_68_method_11_code 18 = .ok (.getfield 15, 3) := by decide +kernel
theorem d43_21 : decode jdk_68_method_11_code 21 = .ok (.iconst 0, 1) := by decide +kernel
theorem d43_22 : decode jdk_68_method_11_code 22 = .ok (.aload_n 1, 1) := by decide +kernel
theorem d43_23 : decode jdk_68_method_11_code 23 = .ok (.iconst 0, 1) := by decide +kernel
theorem d43_24 : decode jdk_68_method_11_code 24 = .ok (.aload_n 0, 1) := by decide +kernel
theorem d43_25 : decode jdk_68_method_11_code 25 = .ok (.getfield 79, 3) := by decide +kernel
theorem w85 : Jvm.Cond.fieldLink "java/lang/AbstractStringBuilder" (79 : Nat) "java/lang/AbstractStringBuilder" "count" "I" ∈ tables_1 := List.mem_of_getElem? (i := 85) rfl
theorem d43_28 : decode jdk_68_method_11_code 28 = .ok (.invokestatic 125, 3) := by decide +kernel
theorem w223 : Jvm.Cond.code N28 jdk_43_method_50_code (5 : Nat) (Option.none : Option Jvm.ClassFile.FieldType) ∈ tables_1 := List.mem_of_getElem? (i := 223) rfl
theorem w193 : Jvm.Cond.initialized "java/lang/StringLatin1" ∈ tables_1 := List.mem_of_getElem? (i := 193) rfl
theorem pd_N28 : parseMethodDescriptor N28.desc = some ⟨[(.array .byte), .int, (.array .byte), .int, .int], none⟩ := by decide +kernel
theorem nh_N28 : N28.cls ≠ "java/lang/invoke/MethodHandle" ∧ N28.cls ≠ "java/lang/invoke/VarHandle" := by decide
theorem w221 : Jvm.Cond.methodLink "java/lang/AbstractStringBuilder" (125 : Nat) N28 ∈ tables_1 := List.mem_of_getElem? (i := 221) rfl
theorem w222 : Jvm.Cond.static N28 ∈ tables_1 := List.mem_of_getElem? (i := 222) rfl
theorem d43_31 : decode jdk_68_method_11_code 31 = .ok (.aload_n 0, 1) := by decide +kernel
theorem d43_32 : decode jdk_68_method_11_code 32 = .ok (.aload_n 1, 1) := by decide +kernel
theorem d43_33 : decode jdk_68_method_11_code 33 = .ok (.putfield 15, 3) := by decide +kernel
theorem d43_36 : decode jdk_68_method_11_code 36 = .ok (.aload_n 0, 1) := by decide +kernel
theorem d43_37 : decode jdk_68_method_11_code 37 = .ok (.iconst 1, 1) := by decide +kernel
theorem d43_38 : decode jdk_68_method_11_code 38 = .ok (.putfield 22, 3) := by decide +kernel
theorem d43_41 : decode jdk_68_method_11_code 41 = .ok (.return_, 1) := by decide +kernel
abbrev N29 : MethodName := ⟨"java/lang/AbstractStringBuilder", "inflate", "()V"⟩

abbrev rm_infl0 : Room := { frames := 5, cells := 1, slots := 68, locals := 76 }
set_option maxRecDepth 65536 in
set_option maxHeartbeats 4000000 in
theorem ct_infl0 (l : Launch) {Z : State} {n0 : Nat} {z : Int32} {f : Value} (W : Sx Z z f) (x b : Addr) (cs pad : List Int32) (cap : Nat) (h : Heap) (F : SbF Z h x b 0 cs.length.toInt32) (Fb : Vec Z h b .byte (cs.map (nar .byte) ++ pad)) (hL : ∀ c ∈ cs, isL c) (hcap : cs.length + pad.length = cap) (hc2 : cap ≤ 34) (zx : n0 ≤ x) :
    Ctr l Z n0 N29 jdk_68_method_11_code 2 none rm_infl0 #[(.ref x)] h [x] (fun v h' sn => v = none ∧ Keep h h' [x] ∧ ∃ d, h.size ≤ d ∧ n0 ≤ d ∧ SbF Z h' x d 1 cs.length.toInt32 ∧ Vec Z h' d .byte (enc16 cs ++ List.replicate (2 * pad.length) 0) ∧ sn = [d]) := by
  refine Ctr.of_go (ls := #[.val (.ref x), .unset]) W.1.1 (plainFor_of_name pn_N15) (fun m => by first | (simp [entryFrame, mkF, argsToLocals, Value.category]; done) | rfl) (fun K H => ?_)
  obtain ⟨A, Fv, Fc, Fn, Fm⟩ := F
  have KK : Keep h h [x] := Keep.refl _ _
  have hbx : b ≠ x := Vec.neExa Fb A W.1.1 w48
  refine Go.aloadN H d43_0 rfl rfl rfl ?_
  refine Go.callV (rest := []) 0 [] H d43_1 rfl A w219 w139 w141 w140 w57 w142 pd_N22 (ct_asl0 l W x b _ h ⟨A, Fv, Fc, Fn, Fm⟩) all0 rfl rfl rfl (Nat.le_of_eq rfl) (by decide) (by decide) (by decide) (by decide) nh_N15 ?_
  rintro _ _ _ ⟨rfl, rfl, rfl⟩
  show Go _ _ _ _ _ _ h [x] 0 0 4 #[.val (.ref x), .unset] [(.int (1 : Int32))]
  refine Go.ifY (pc' := 8) H d43_4 (by decide) (by decide) (by decide) ?_
  refine Go.aloadN H d43_8 rfl rfl rfl ?_
  refine Go.getfield H d43_9 rfl w61 Fv ?_
  refine Go.arraylength cap.toInt32 H d43_12 rfl Fb (by rw [List.length_append, List.length_map, hcap]) ?_
  refine Go.callS (rest := []) 0 [(.int cap.toInt32)] H d43_13 rfl w220 w199 w32 w200 pd_N2 (ct_nbf l W cap h (by omega)) all0 rfl rfl rfl (Nat.le_of_eq rfl) (by decide) (by decide) (by decide) (by decide) nh_N1 ?_
  rintro _ h2 _ ⟨b1, rfl, E3, g4, z5, F6, rfl⟩
  have ne7 : x ≠ b1 := Nat.ne_of_lt (Nat.lt_of_lt_of_le A.lt g4)
  have ne8 : b ≠ b1 := Nat.ne_of_lt (Nat.lt_of_lt_of_le Fb.lt g4)
  have sz9 := Nat.le_trans KK.1 g4
  replace A := A.ext E3
  replace Fv := Fv.ext E3
  replace Fc := Fc.ext E3
  replace Fn := Fn.ext E3
  replace Fm := Fm.ext E3
  replace Fb := Fb.ext E3
  replace KK := KK.ext E3
  show Go _ _ _ _ _ _ h2 [b1, x] 1 68 16 #[.val (.ref x), .unset] [(.ref b1)]
  refine Go.astoreN (ls' := #[.val (.ref x), .val (.ref b1)]) H d43_16 rfl rfl rfl ?_
  refine Go.aloadN H d43_17 rfl rfl rfl ?_
  refine Go.getfield H d43_18 rfl w61 Fv ?_
  refine Go.iconst (0 : Int32) H d43_21 rfl rfl ?_
  refine Go.aloadN H d43_22 rfl rfl rfl ?_
  refine Go.iconst (0 : Int32) H d43_23 rfl rfl ?_
  refine Go.aloadN H d43_24 rfl rfl rfl ?_
  refine Go.getfield H d43_25 rfl w85 Fn ?_
  refine Go.callS (rest := []) 0 [(.ref b), (.int (0 : Int32)), (.ref b1), (.int (0 : Int32)), (.int cs.length.toInt32)] H d43_28 rfl w221 w222 w193 w223 pd_N28 (ct_linf l W b b1 cs pad [] (List.replicate (2 * cap) 0) 0 cap h2 Fb F6 hL rfl (by simp) (by omega) (by omega) z5 ne8) (by simp) rfl rfl rfl (Nat.le_of_eq rfl) (by decide) (by decide) (by decide) (by decide) nh_N28 ?_
  rintro _ h10 _ ⟨rfl, K11, F12, rfl⟩
  replace A := A.keep K11
  replace Fv := Fv.keep K11 (ninS ne7 nin0)
  replace Fc := Fc.keep K11 (ninS ne7 nin0)
  replace Fn := Fn.keep K11 (ninS ne7 nin0)
  replace Fm := Fm.keep K11 (ninS ne7 nin0)
  replace Fb := Fb.keep K11 (ninS ne8 nin0)
  replace KK := KK.trans K11 (allS (Or.inr sz9) all0)
  show Go _ _ _ _ _ _ h10 [b1, x] 1 68 31 #[.val (.ref x), .val (.ref b1)] []
  refine Go.aloadN H d43_31 rfl rfl rfl ?_
  refine Go.aloadN H d43_32 rfl rfl rfl ?_
  refine Go.putfield (v := (.ref b1)) H d43_33 rfl w61 Fv A (Or.inl w62) w48 (ty := (.array .byte)) (by decide) rfl rfl zx (by simp) ?_
  intro h13 Wr14
  have F15 := Fv.same Wr14
  have K16 := Keep.of_wr Wr14
  replace A := A.wr Wr14
  replace Fc := Fc.other Wr14 (Or.inr (own_sne W.1.1 (Or.inl w64) (Or.inl w62) (by decide) (t := .byte) (t' := (.array .byte)) (by decide) (by decide)))
  replace Fn := Fn.other Wr14 (Or.inr (own_sne W.1.1 (Or.inl w86) (Or.inl w62) (by decide) (t := .int) (t' := (.array .byte)) (by decide) (by decide)))
  replace Fm := Fm.other Wr14 (Or.inr (own_sne W.1.1 (Or.inl w243) (Or.inl w62) (by decide) (t := .boolean) (t' := (.array .byte)) (by decide) (by decide)))
  replace Fb := Fb.keep K16 (ninS hbx nin0)
  replace F12 := F12.keep K16 (ninS (Ne.symm ne7) nin0)
  replace KK := KK.wr Wr14 (Or.inl (by simp))
  refine Go.aloadN H d43_36 rfl rfl rfl ?_
  refine Go.iconst (1 : Int32) H d43_37 rfl rfl ?_
  refine Go.putfield (v := (.int (1 : Int32))) H d43_38 rfl w63 Fc A (Or.inl w64) w48 (ty := .byte) (by decide) (by decide) (by decide) zx (by simp) ?_
  intro h17 Wr18
  have F19 := Fc.same Wr18
  have K20 := Keep.of_wr Wr18
  replace A := A.wr Wr18
  replace Fn := Fn.other Wr18 (Or.inr (own_sne W.1.1 (Or.inl w86) (Or.inl w64) (by decide) (t := .int) (t' := .byte) (by decide) (by decide)))
  replace Fm := Fm.other Wr18 (Or.inr (own_sne W.1.1 (Or.inl w243) (Or.inl w64) (by decide) (t := .boolean) (t' := .byte) (by decide) (by decide)))
  replace Fb := Fb.keep K20 (ninS hbx nin0)
  replace F12 := F12.keep K20 (ninS (Ne.symm ne7) nin0)
  replace F15 := F15.other Wr18 (Or.inr (own_sne W.1.1 (Or.inl w62) (Or.inl w64) (by decide) (t := (.array .byte)) (t' := .byte) (by decide) (by decide)))
  replace KK := KK.wr Wr18 (Or.inl (by simp))
  rw [List.nil_append, List.drop_replicate, show 2 * cap - 2 * cs.length = 2 * pad.length from by omega] at F12
  exact Go.return_ [b1] H d43_41 ⟨rfl, KK, b1, sz9, z5, ⟨A, F15, F19, Fn, Fm⟩, F12, rfl⟩ (by simp) (by decide) (by decide)
theorem d43_7 : decode jdk_68_method_11_code 7 = .ok (.return_, 1) := by decide +kernel

abbrev rm_infl1 : Room := { frames := 1, cells := 0, slots := 0, locals := 12 }
set_option maxRecDepth 65536 in
set_option maxHeartbeats 4000000 in
theorem ct_infl1 (l : Launch) {Z : State} {n0 : Nat} {z : Int32} {f : Value} (W : Sx Z z f) (x b : Addr) (n : Int32) (h : Heap) (F : SbF Z h x b 1 n) :
    Ctr l Z n0 N29 jdk_68_method_11_code 2 none rm_infl1 #[(.ref x)] h [] (fun v h' sn => v = none ∧ h = h' ∧ sn = []) := by
  refine Ctr.of_go (ls := #[.val (.ref x), .unset]) W.1.1 (plainFor_of_name pn_N15) (fun m => by first | (simp [entryFrame, mkF, argsToLocals, Value.category]; done) | rfl) (fun K H => ?_)
  obtain ⟨A, Fv, Fc, Fn, Fm⟩ := F
  refine Go.aloadN H d43_0 rfl rfl rfl ?_
  refine Go.callV (rest := []) 0 [] H d43_1 rfl A w219 w139 w141 w140 w57 w142 pd_N22 (ct_asl1 l W x b _ h ⟨A, Fv, Fc, Fn, Fm⟩) all0 rfl rfl rfl (Nat.le_of_eq rfl) (by decide) (by decide) (by decide) (by decide) nh_N15 ?_
  rintro _ _ _ ⟨rfl, rfl, rfl⟩
  show Go _ _ _ _ _ _ h [] 0 0 4 #[.val (.ref x), .unset] [(.int (0 : Int32))]
  refine Go.ifN H d43_4 (by decide) rfl ?_
  exact Go.return_ [] H d43_7 ⟨rfl, rfl, rfl⟩ all0 (by decide) (by decide)
theorem d18_0 : decode jdk_68_method_71_code 0 = .ok (.getstatic 18, 3) := by decide +kernel
theorem d18_3 : decode jdk_68_method_71_code 3 = .ok (.ifCond .eq 18, 3) := by decide +kernel
theorem d18_6 : decode jdk_68_method_71_code 6 = .ok (.aload_n 0, 1) := by decide +kernel
theorem d18_7 : decode jdk_68_method_71_code 7 = .ok (.getfield 22, 3) := by decide +kernel
theorem d18_10 : decode jdk_68_method_71_code 10 = .ok (.aload_n 1, 1) := by decide +kernel
theorem d18_11 : decode jdk_68_method_71_code 11 = .ok (.invokevirtual 40, 3) := by decide +kernel
theorem w102 : Jvm.Cond.methodLink "java/lang/AbstractStringBuilder" (40 : Nat) N11 ∈ tables_1 := List.mem_of_getElem? (i := 102) rfl
theorem d18_14 : decode jdk_68_method_71_code 14 = .ok (.if_icmp .eq 7, 3) := by decide +kernel
theorem d18_21 : decode jdk_68_method_71_code 21 = .ok (.return_, 1) := by decide +kernel
abbrev N30 : MethodName := ⟨"java/lang/AbstractStringBuilder", "inflateIfNeededFor", "(Ljava/lang/String;)V"⟩

abbrev rm_iin00 : Room := { frames := 1, cells := 0, slots := 0, locals := 13 }
set_option maxRecDepth 65536 in
set_option maxHeartbeats 4000000 in
theorem ct_iin00 (l : Launch) {Z : State} {n0 : Nat} {z : Int32} {f : Value} (W : Sx Z z f) (x b y sb : Addr) (n : Int32) (ds : List Int32) (h : Heap) (F : SbF Z h x b 0 n) (S : Str Z h y sb ds) :
    Ctr l Z n0 N30 jdk_68_method_71_code 2 none rm_iin00 #[(.ref x), (.ref y)] h [] (fun v h' sn => v = none ∧ h = h' ∧ sn = []) := by
  refine Ctr.of_go (ls := #[.val (.ref x), .val (.ref y)]) W.1.1 (plainFor_of_name pn_N15) (fun m => by first | (simp [entryFrame, mkF, argsToLocals, Value.category]; done) | rfl) (fun K H => ?_)
  obtain ⟨A, Fv, Fc, Fn, Fm⟩ := F
  refine Go.getstatic H d18_0 rfl w60 W.1.2.2.1 ?_
  refine Go.ifN H d18_3 (feq W.1.2.1).1 rfl ?_
  refine Go.aloadN H d18_6 rfl rfl rfl ?_
  refine Go.getfield H d18_7 rfl w63 Fc ?_
  refine Go.aloadN H d18_10 rfl rfl rfl ?_
  refine Go.callV (rest := [(.int (0 : Int32))]) 1 [] H d18_11 rfl S.1 w102 w81 w83 w82 w6 w84 pd_N11 (ct_cod0 l W y h S.1 S.2.2.1) all0 rfl rfl rfl (Nat.le_of_eq rfl) (by decide) (by decide) (by decide) (by decide) nh_N9 ?_
  rintro _ _ _ ⟨rfl, rfl, rfl⟩
  show Go _ _ _ _ _ _ h [] 0 0 14 #[.val (.ref x), .val (.ref y)] [(.int (0 : Int32)), (.int (0 : Int32))]
  refine Go.icmpY (pc' := 21) H d18_14 (by decide) (by decide) (by decide) ?_
  exact Go.return_ [] H d18_21 ⟨rfl, rfl, rfl⟩ all0 (by decide) (by decide)
theorem d18_17 : decode jdk_68_method_71_code 17 = .ok (.aload_n 0, 1) := by decide +kernel
theorem d18_18 : decode jdk_68_method_71_code 18 = .ok (.invokevirtual 195, 3) := by decide +kernel
theorem w218 : Jvm.Cond.code N29 jdk_68_method_11_code (2 : Nat) (Option.none : Option Jvm.ClassFile.FieldType) ∈ tables_1 := List.mem_of_getElem? (i := 218) rfl
theorem pd_N29 : parseMethodDescriptor N29.desc = some ⟨[], none⟩ := by decide +kernel
theorem w216 : Jvm.Cond.privateMethod N29 ∈ tables_1 := List.mem_of_getElem? (i := 216) rfl
theorem w214 : Jvm.Cond.methodLink "java/lang/AbstractStringBuilder" (195 : Nat) N29 ∈ tables_1 := List.mem_of_getElem? (i := 214) rfl
theorem w217 : Jvm.Cond.selects "java/lang/StringBuilder" N29 N29 ∈ tables_1 := List.mem_of_getElem? (i := 217) rfl
theorem w215 : Jvm.Cond.instanceMethod N29 ∈ tables_1 := List.mem_of_getElem? (i := 215) rfl

abbrev rm_iin01 : Room := { frames := 6, cells := 1, slots := 68, locals := 89 }
set_option maxRecDepth 65536 in
set_option maxHeartbeats 4000000 in
theorem ct_iin01 (l : Launch) {Z : State} {n0 : Nat} {z : Int32} {f : Value} (W : Sx Z z f) (x b y sb : Addr) (cs pad ds : List Int32) (cap : Nat) (h : Heap) (F : SbF Z h x b 0 cs.length.toInt32) (Fb : Vec Z h b .byte (cs.map (nar .byte) ++ pad)) (hL : ∀ c ∈ cs, isL c) (hcap : cs.length + pad.length = cap) (hc2 : cap ≤ 34) (zx : n0 ≤ x) (S : StrU Z h y sb ds) :
    Ctr l Z n0 N30 jdk_68_method_71_code 2 none rm_iin01 #[(.ref x), (.ref y)] h [x] (fun v h' sn => v = none ∧ Keep h h' [x] ∧ ∃ d, h.size ≤ d ∧ n0 ≤ d ∧ SbF Z h' x d 1 cs.length.toInt32 ∧ Vec Z h' d .byte (enc16 cs ++ List.replicate (2 * pad.length) 0) ∧ sn = [d]) := by
  refine Ctr.of_go (ls := #[.val (.ref x), .val (.ref y)]) W.1.1 (plainFor_of_name pn_N15) (fun m => by first | (simp [entryFrame, mkF, argsToLocals, Value.category]; done) | rfl) (fun K H => ?_)
  obtain ⟨A, Fv, Fc, Fn, Fm⟩ := F
  have hbx : b ≠ x := Vec.neExa Fb A W.1.1 w48
  refine Go.getstatic H d18_0 rfl w60 W.1.2.2.1 ?_
  refine Go.ifN H d18_3 (feq W.1.2.1).1 rfl ?_
  refine Go.aloadN H d18_6 rfl rfl rfl ?_
  refine Go.getfield H d18_7 rfl w63 Fc ?_
  refine Go.aloadN H d18_10 rfl rfl rfl ?_
  refine Go.callV (rest := [(.int (0 : Int32))]) 1 [] H d18_11 rfl S.1 w102 w81 w83 w82 w6 w84 pd_N11 (ct_cod1 l W y h S.1 S.2.2.1) all0 rfl rfl rfl (Nat.le_of_eq rfl) (by decide) (by decide) (by decide) (by decide) nh_N9 ?_
  rintro _ _ _ ⟨rfl, rfl, rfl⟩
  show Go _ _ _ _ _ _ h [x] 0 0 14 #[.val (.ref x), .val (.ref y)] [(.int (1 : Int32)), (.int (0 : Int32))]
  refine Go.icmpN H d18_14 (by decide) rfl ?_
  refine Go.aloadN H d18_17 rfl rfl rfl ?_
  refine Go.callP (rest := []) 0 [] H d18_18 rfl A w214 w216 w217 w215 w57 w218 pd_N29 (ct_infl0 l W x b cs pad cap h ⟨A, Fv, Fc, Fn, Fm⟩ Fb hL hcap hc2 zx) (by simp) rfl rfl rfl (Nat.le_of_eq rfl) (by decide) (by decide) (by decide) (by decide) nh_N15 ?_
  rintro _ h1 _ ⟨rfl, K2, d3, g4, z5, F6, V7, rfl⟩
  have ne8 : x ≠ d3 := Nat.ne_of_lt (Nat.lt_of_lt_of_le A.lt g4)
  have ne9 : b ≠ d3 := Nat.ne_of_lt (Nat.lt_of_lt_of_le Fb.lt g4)
  replace Fb := Fb.keep K2 (ninS hbx nin0)
  obtain ⟨F10, F11, F12, F13, F14⟩ := F6
  show Go _ _ _ _ _ _ h1 [d3, x] 1 68 21 #[.val (.ref x), .val (.ref y)] []
  exact Go.return_ [d3] H d18_21 ⟨rfl, K2, d3, g4, z5, ⟨F10, F11, F12, F13, F14⟩, V7, rfl⟩ (by simp) (by decide) (by decide)

abbrev rm_iin10 : Room := { frames := 2, cells := 0, slots := 0, locals := 25 }
set_option maxRecDepth 65536 in
set_option maxHeartbeats 4000000 in
theorem ct_iin10 (l : Launch) {Z : State} {n0 : Nat} {z : Int32} {f : Value} (W : Sx Z z f) (x b y sb : Addr) (n : Int32) (ds : List Int32) (h : Heap) (F : SbF Z h x b 1 n) (S : Str Z h y sb ds) :
    Ctr l Z n0 N30 jdk_68_method_71_code 2 none rm_iin10 #[(.ref x), (.ref y)] h [] (fun v h' sn => v = none ∧ h = h' ∧ sn = []) := by
  refine Ctr.of_go (ls := #[.val (.ref x), .val (.ref y)]) W.1.1 (plainFor_of_name pn_N15) (fun m => by first | (simp [entryFrame, mkF, argsToLocals, Value.category]; done) | rfl) (fun K H => ?_)
  obtain ⟨A, Fv, Fc, Fn, Fm⟩ := F
  refine Go.getstatic H d18_0 rfl w60 W.1.2.2.1 ?_
  refine Go.ifN H d18_3 (feq W.1.2.1).1 rfl ?_
  refine Go.aloadN H d18_6 rfl rfl rfl ?_
  refine Go.getfield H d18_7 rfl w63 Fc ?_
  refine Go.aloadN H d18_10 rfl rfl rfl ?_
  refine Go.callV (rest := [(.int (1 : Int32))]) 1 [] H d18_11 rfl S.1 w102 w81 w83 w82 w6 w84 pd_N11 (ct_cod0 l W y h S.1 S.2.2.1) all0 rfl rfl rfl (Nat.le_of_eq rfl) (by decide) (by decide) (by decide) (by decide) nh_N9 ?_
  rintro _ _ _ ⟨rfl, rfl, rfl⟩
  show Go _ _ _ _ _ _ h [] 0 0 14 #[.val (.ref x), .val (.ref y)] [(.int (0 : Int32)), (.int (1 : Int32))]
  refine Go.icmpN H d18_14 (by decide) rfl ?_
  refine Go.aloadN H d18_17 rfl rfl rfl ?_
  refine Go.callP (rest := []) 0 [] H d18_18 rfl A w214 w216 w217 w215 w57 w218 pd_N29 (ct_infl1 l W x b _ h ⟨A, Fv, Fc, Fn, Fm⟩) all0 rfl rfl rfl (Nat.le_of_eq rfl) (by decide) (by decide) (by decide) (by decide) nh_N15 ?_
  rintro _ _ _ ⟨rfl, rfl, rfl⟩
  show Go _ _ _ _ _ _ h [] 0 0 21 #[.val (.ref x), .val (.ref y)] []
  exact Go.return_ [] H d18_21 ⟨rfl, rfl, rfl⟩ all0 (by decide) (by decide)

abbrev rm_iin11 : Room := { frames := 1, cells := 0, slots := 0, locals := 13 }
set_option maxRecDepth 65536 in
set_option maxHeartbeats 4000000 in
theorem ct_iin11 (l : Launch) {Z : State} {n0 : Nat} {z : Int32} {f : Value} (W : Sx Z z f) (x b y sb : Addr) (n : Int32) (ds : List Int32) (h : Heap) (F : SbF Z h x b 1 n) (S : StrU Z h y sb ds) :
    Ctr l Z n0 N30 jdk_68_method_71_code 2 none rm_iin11 #[(.ref x), (.ref y)] h [] (fun v h' sn => v = none ∧ h = h' ∧ sn = []) := by
  refine Ctr.of_go (ls := #[.val (.ref x), .val (.ref y)]) W.1.1 (plainFor_of_name pn_N15) (fun m => by first | (simp [entryFrame, mkF, argsToLocals, Value.category]; done) | rfl) (fun K H => ?_)
  obtain ⟨A, Fv, Fc, Fn, Fm⟩ := F
  refine Go.getstatic H d18_0 rfl w60 W.1.2.2.1 ?_
  refine Go.ifN H d18_3 (feq W.1.2.1).1 rfl ?_
  refine Go.aloadN H d18_6 rfl rfl rfl ?_
  refine Go.getfield H d18_7 rfl w63 Fc ?_
  refine Go.aloadN H d18_10 rfl rfl rfl ?_
  refine Go.callV (rest := [(.int (1 : Int32))]) 1 [] H d18_11 rfl S.1 w102 w81 w83 w82 w6 w84 pd_N11 (ct_cod1 l W y h S.1 S.2.2.1) all0 rfl rfl rfl (Nat.le_of_eq rfl) (by decide) (by decide) (by decide) (by decide) nh_N9 ?_
  rintro _ _ _ ⟨rfl, rfl, rfl⟩
  show Go _ _ _ _ _ _ h [] 0 0 14 #[.val (.ref x), .val (.ref y)] [(.int (1 : Int32)), (.int (1 : Int32))]
  refine Go.icmpY (pc' := 21) H d18_14 (by decide) (by decide) (by decide) ?_
  exact Go.return_ [] H d18_21 ⟨rfl, rfl, rfl⟩ all0 (by decide) (by decide)
theorem d19_0 : decode jdk_42_method_147_code 0 = .ok (.aload_n 0, 1) := by decide +kernel
theorem d19_1 : decode jdk_42_method_147_code 1 = .ok (.invokevirtual 335, 3) := by decide +kernel
theorem d19_4 : decode jdk_42_method_147_code 4 = .ok (.iload_n 3, 1) := by decide +kernel
theorem d19_5 : decode jdk_42_method_147_code 5 = .ok (.if_icmp .ne 23, 3) := by decide +kernel
theorem d19_8 : decode jdk_42_method_147_code 8 = .ok (.aload_n 0, 1) := by decide +kernel
theorem d19_9 : decode jdk_42_method_147_code 9 = .ok (.getfield 9, 3) := by decide +kernel
theorem d19_12 : decode jdk_42_method_147_code 12 = .ok (.iconst 0, 1) := by decide +kernel
theorem d19_13 : decode jdk_42_method_147_code 13 = .ok (.aload_n 1, 1) := by decide +kernel
theorem d19_14 : decode jdk_42_method_147_code 14 = .ok (.iload_n 2, 1) := by decide +kernel
theorem d19_15 : decode jdk_42_method_147_code 15 = .ok (.iload_n 3, 1) := by decide +kernel
theorem d19_16 : decode jdk_42_method_147_code 16 = .ok (.ishl, 1) := by decide +kernel
theorem d19_17 : decode jdk_42_method_147_code 17 = .ok (.aload_n 0, 1) := by decide +kernel
theorem d19_18 : decode jdk_42_method_147_code 18 = .ok (.getfield 9, 3) := by decide +kernel
theorem d19_21 : decode jdk_42_method_147_code 21 = .ok (.arraylength, 1) := by decide +kernel
theorem d19_22 : decode jdk_42_method_147_code 22 = .ok (.invokestatic 212, 3) := by decide +kernel
theorem w108 : Jvm.Cond.methodLink "java/lang/String" (212 : Nat) N18 ∈ tables_1 := List.mem_of_getElem? (i := 108) rfl
theorem d19_25 : decode jdk_42_method_147_code 25 = .ok (.goto 18, 3) := by decide +kernel
theorem d19_43 : decode jdk_42_method_147_code 43 = .ok (.return_, 1) := by decide +kernel
abbrev N31 : MethodName := ⟨"java/lang/String", "getBytes", "([BIB)V"⟩

abbrev rm_gb00 : Room := { frames := 1, cells := 0, slots := 0, locals := 27 }
set_option maxRecDepth 65536 in
set_option maxHeartbeats 4000000 in
theorem ct_gb00 (l : Launch) {Z : State} {n0 : Nat} {z : Int32} {f : Value} (W : Sx Z z f) (y sb d : Addr) (cs ds pad : List Int32) (h : Heap) (S : Str Z h y sb ds) (Fd : Vec Z h d .byte ((cs.map (nar .byte)) ++ pad)) (hp : ds.length ≤ pad.length) (hn : cs.length + ds.length < 2 ^ 20) (hq : pad.length < 2 ^ 20) (zd : n0 ≤ d) (hne : sb ≠ d) :
    Ctr l Z n0 N31 jdk_42_method_147_code 4 none rm_gb00 #[(.ref y), (.ref d), (.int cs.length.toInt32), (.int (0 : Int32))] h [d] (fun v h' sn => v = none ∧ Keep h h' [d] ∧ Vec Z h' d .byte (((cs ++ ds).map (nar .byte)) ++ pad.drop (ds.length)) ∧ sn = []) := by
  refine Ctr.of_go (ls := #[.val (.ref y), .val (.ref d), .val (.int cs.length.toInt32), .val (.int (0 : Int32))]) W.1.1 (plainFor_of_name pn_N9) (fun m => by first | (simp [entryFrame, mkF, argsToLocals, Value.category]; done) | rfl) (fun K H => ?_)
  have KK : Keep h h [d] := Keep.refl _ _
  have hyd : d ≠ y := Vec.neExa Fd S.1 W.1.1 w5
  refine Go.aloadN H d19_0 rfl rfl rfl ?_
  refine Go.callV (rest := []) 0 [] H d19_1 rfl S.1 w80 w81 w83 w82 w6 w84 pd_N11 (ct_cod0 l W y h S.1 S.2.2.1) all0 rfl rfl rfl (Nat.le_of_eq rfl) (by decide) (by decide) (by decide) (by decide) nh_N9 ?_
  rintro _ _ _ ⟨rfl, rfl, rfl⟩
  show Go _ _ _ _ _ _ h [d] 0 0 4 #[.val (.ref y), .val (.ref d), .val (.int cs.length.toInt32), .val (.int (0 : Int32))] [(.int (0 : Int32))]
  refine Go.iloadN H d19_4 rfl rfl ?_
  refine Go.icmpN H d19_5 (by decide) rfl ?_
  refine Go.aloadN H d19_8 rfl rfl rfl ?_
  refine Go.getfield H d19_9 rfl w24 S.2.1 ?_
  refine Go.iconst (0 : Int32) H d19_12 rfl rfl ?_
  refine Go.aloadN H d19_13 rfl rfl rfl ?_
  refine Go.iloadN H d19_14 rfl rfl ?_
  refine Go.iloadN H d19_15 rfl rfl ?_
  refine Go.ishl H d19_16 rfl ?_
  rw [own_shl0]
  refine Go.aloadN H d19_17 rfl rfl rfl ?_
  refine Go.getfield H d19_18 rfl w24 S.2.1 ?_
  refine Go.arraylength ds.length.toInt32 H d19_21 rfl S.2.2.2.1 (by rw [List.length_map]) ?_
  refine Go.arraycopy 0 cs.length ds.length H d19_22 rfl w108 w111 w109 w110 S.2.2.2.1 Fd (by rw [List.length_map]; omega) (by rw [List.length_append, List.length_map]; omega) rfl (by decide) (own_cl (by omega)) (own_cl (by omega)) (by decide) (own_n0 (by omega)) (own_n0 (by omega)) (by rw [List.length_map]; omega) (by rw [List.length_append, List.length_map]; omega) zd (by simp) 0 rfl (Nat.le_of_eq rfl) (by decide) (by decide) ?_
  intro h1 K2 F3
  replace S := S.keep K2 (ninS (Ne.symm hyd) nin0) (ninS hne nin0)
  replace KK := KK.trans K2 (allS (Or.inl (by simp)) all0)
  refine Go.goto (pc' := 43) H d19_25 (by decide) (by decide) ?_
  rw [own_cpl (by rw [List.length_map]) (by rw [List.length_map]), ← List.map_append] at F3
  exact Go.return_ [] H d19_43 ⟨rfl, KK, F3, rfl⟩ all0 (by decide) (by decide)

abbrev rm_gb11 : Room := { frames := 1, cells := 0, slots := 0, locals := 27 }
set_option maxRecDepth 65536 in
set_option maxHeartbeats 4000000 in
theorem ct_gb11 (l : Launch) {Z : State} {n0 : Nat} {z : Int32} {f : Value} (W : Sx Z z f) (y sb d : Addr) (cs ds pad : List Int32) (h : Heap) (S : StrU Z h y sb ds) (Fd : Vec Z h d .byte ((enc16 cs) ++ pad)) (hp : 2 * ds.length ≤ pad.length) (hn : cs.length + ds.length < 2 ^ 20) (hq : pad.length < 2 ^ 20) (zd : n0 ≤ d) (hne : sb ≠ d) :
    Ctr l Z n0 N31 jdk_42_method_147_code 4 none rm_gb11 #[(.ref y), (.ref d), (.int cs.length.toInt32), (.int (1 : Int32))] h [d] (fun v h' sn => v = none ∧ Keep h h' [d] ∧ Vec Z h' d .byte ((enc16 (cs ++ ds)) ++ pad.drop (2 * ds.length)) ∧ sn = []) := by
  refine Ctr.of_go (ls := #[.val (.ref y), .val (.ref d), .val (.int cs.length.toInt32), .val (.int (1 : Int32))]) W.1.1 (plainFor_of_name pn_N9) (fun m => by first | (simp [entryFrame, mkF, argsToLocals, Value.category]; done) | rfl) (fun K H => ?_)
  have KK : Keep h h [d] := Keep.refl _ _
  have hyd : d ≠ y := Vec.neExa Fd S.1 W.1.1 w5
  refine Go.aloadN H d19_0 rfl rfl rfl ?_
  refine Go.callV (rest := []) 0 [] H d19_1 rfl S.1 w80 w81 w83 w82 w6 w84 pd_N11 (ct_cod1 l W y h S.1 S.2.2.1) all0 rfl rfl rfl (Nat.le_of_eq rfl) (by decide) (by decide) (by decide) (by decide) nh_N9 ?_
  rintro _ _ _ ⟨rfl, rfl, rfl⟩
  show Go _ _ _ _ _ _ h [d] 0 0 4 #[.val (.ref y), .val (.ref d), .val (.int cs.length.toInt32), .val (.int (1 : Int32))] [(.int (1 : Int32))]
  refine Go.iloadN H d19_4 rfl rfl ?_
  refine Go.icmpN H d19_5 (by decide) rfl ?_
  refine Go.aloadN H d19_8 rfl rfl rfl ?_
  refine Go.getfield H d19_9 rfl w24 S.2.1 ?_
  refine Go.iconst (0 : Int32) H d19_12 rfl rfl ?_
  refine Go.aloadN H d19_13 rfl rfl rfl ?_
  refine Go.iloadN H d19_14 rfl rfl ?_
  refine Go.iloadN H d19_15 rfl rfl ?_
  refine Go.ishl H d19_16 rfl ?_
  rw [own_shl1 (by omega)]
  refine Go.aloadN H d19_17 rfl rfl rfl ?_
  refine Go.getfield H d19_18 rfl w24 S.2.1 ?_
  refine Go.arraylength (2 * ds.length).toInt32 H d19_21 rfl S.2.2.2.1 (by rw [enc16_len]) ?_
  refine Go.arraycopy 0 (2 * cs.length) (2 * ds.length) H d19_22 rfl w108 w111 w109 w110 S.2.2.2.1 Fd (by rw [enc16_len]; omega) (by rw [List.length_append, enc16_len]; omega) rfl (by decide) (own_cl (by omega)) (own_cl (by omega)) (by decide) (own_n0 (by omega)) (own_n0 (by omega)) (by rw [enc16_len]; omega) (by rw [List.length_append, enc16_len]; omega) zd (by simp) 0 rfl (Nat.le_of_eq rfl) (by decide) (by decide) ?_
  intro h1 K2 F3
  replace S := S.keep K2 (ninS (Ne.symm hyd) nin0) (ninS hne nin0)
  replace KK := KK.trans K2 (allS (Or.inl (by simp)) all0)
  refine Go.goto (pc' := 43) H d19_25 (by decide) (by decide) ?_
  rw [own_cpl (by rw [enc16_len]) (by rw [enc16_len]), ← enc16_app] at F3
  exact Go.return_ [] H d19_43 ⟨rfl, KK, F3, rfl⟩ all0 (by decide) (by decide)
theorem d19_28 : decode jdk_42_method_147_code 28 = .ok (.aload_n 0, 1) := by decide +kernel
theorem d19_29 : decode jdk_42_method_147_code 29 = .ok (.getfield 9, 3) := by decide +kernel
theorem d19_32 : decode jdk_42_method_147_code 32 = .ok (.iconst 0, 1) := by decide +kernel
theorem d19_33 : decode jdk_42_method_147_code 33 = .ok (.aload_n 1, 1) := by decide +kernel
theorem d19_34 : decode jdk_42_method_147_code 34 = .ok (.iload_n 2, 1) := by decide +kernel
theorem d19_35 : decode jdk_42_method_147_code 35 = .ok (.aload_n 0, 1) := by decide +kernel
theorem d19_36 : decode jdk_42_method_147_code 36 = .ok (.getfield 9, 3) := by decide +kernel
theorem d19_39 : decode jdk_42_method_147_code 39 = .ok (.arraylength, 1) := by decide +kernel
theorem d19_40 : decode jdk_42_method_147_code 40 = .ok (.invokestatic 106, 3) := by decide +kernel
theorem w241 : Jvm.Cond.methodLink "java/lang/String" (106 : Nat) N28 ∈ tables_1 := List.mem_of_getElem? (i := 241) rfl

abbrev rm_gb10 : Room := { frames := 5, cells := 0, slots := 0, locals := 76 }
set_option maxRecDepth 65536 in
set_option maxHeartbeats 4000000 in
theorem ct_gb10 (l : Launch) {Z : State} {n0 : Nat} {z : Int32} {f : Value} (W : Sx Z z f) (y sb d : Addr) (cs ds pad : List Int32) (m : Nat) (h : Heap) (S : Str Z h y sb ds) (Fd : Vec Z h d .byte ((enc16 cs) ++ pad)) (hp : 2 * ds.length ≤ pad.length) (hn : cs.length + ds.length < 2 ^ 20) (hq : pad.length < 2 ^ 20) (zd : n0 ≤ d) (hne : sb ≠ d) (hm : ((enc16 cs) ++ pad).length = 2 * m) (hm2 : m < 2 ^ 20) :
    Ctr l Z n0 N31 jdk_42_method_147_code 4 none rm_gb10 #[(.ref y), (.ref d), (.int cs.length.toInt32), (.int (1 : Int32))] h [d] (fun v h' sn => v = none ∧ Keep h h' [d] ∧ Vec Z h' d .byte ((enc16 (cs ++ ds)) ++ pad.drop (2 * ds.length)) ∧ sn = []) := by
  refine Ctr.of_go (ls := #[.val (.ref y), .val (.ref d), .val (.int cs.length.toInt32), .val (.int (1 : Int32))]) W.1.1 (plainFor_of_name pn_N9) (fun m => by first | (simp [entryFrame, mkF, argsToLocals, Value.category]; done) | rfl) (fun K H => ?_)
  have KK : Keep h h [d] := Keep.refl _ _
  have hyd : d ≠ y := Vec.neExa Fd S.1 W.1.1 w5
  refine Go.aloadN H d19_0 rfl rfl rfl ?_
  refine Go.callV (rest := []) 0 [] H d19_1 rfl S.1 w80 w81 w83 w82 w6 w84 pd_N11 (ct_cod0 l W y h S.1 S.2.2.1) all0 rfl rfl rfl (Nat.le_of_eq rfl) (by decide) (by decide) (by decide) (by decide) nh_N9 ?_
  rintro _ _ _ ⟨rfl, rfl, rfl⟩
  show Go _ _ _ _ _ _ h [d] 0 0 4 #[.val (.ref y), .val (.ref d), .val (.int cs.length.toInt32), .val (.int (1 : Int32))] [(.int (0 : Int32))]
  refine Go.iloadN H d19_4 rfl rfl ?_
  refine Go.icmpY (pc' := 28) H d19_5 (by decide) (by decide) (by decide) ?_
  refine Go.aloadN H d19_28 rfl rfl rfl ?_
  refine Go.getfield H d19_29 rfl w24 S.2.1 ?_
  refine Go.iconst (0 : Int32) H d19_32 rfl rfl ?_
  refine Go.aloadN H d19_33 rfl rfl rfl ?_
  refine Go.iloadN H d19_34 rfl rfl ?_
  refine Go.aloadN H d19_35 rfl rfl rfl ?_
  refine Go.getfield H d19_36 rfl w24 S.2.1 ?_
  refine Go.arraylength ds.length.toInt32 H d19_39 rfl S.2.2.2.1 (by rw [List.length_map]) ?_
  refine Go.callS (rest := []) 0 [(.ref sb), (.int (0 : Int32)), (.ref d), (.int cs.length.toInt32), (.int ds.length.toInt32)] H d19_40 rfl w241 w222 w193 w223 pd_N28 (ct_linf l W sb d ds [] (enc16 cs) pad cs.length m h (by rw [List.append_nil]; exact S.2.2.2.1) Fd S.2.2.2.2.1 (enc16_len _) hm (by rw [List.length_append, enc16_len] at hm; omega) hm2 zd hne) (by simp) rfl rfl rfl (Nat.le_of_eq rfl) (by decide) (by decide) (by decide) (by decide) nh_N28 ?_
  rintro _ h1 _ ⟨rfl, K2, F3, rfl⟩
  replace S := S.keep K2 (ninS (Ne.symm hyd) nin0) (ninS hne nin0)
  replace KK := KK.trans K2 (allS (Or.inl (by simp)) all0)
  show Go _ _ _ _ _ _ h1 [d] 0 0 43 #[.val (.ref y), .val (.ref d), .val (.int cs.length.toInt32), .val (.int (1 : Int32))] []
  rw [← enc16_app] at F3
  exact Go.return_ [] H d19_43 ⟨rfl, KK, F3, rfl⟩ all0 (by decide) (by decide)
theorem d17_0 : decode jdk_68_method_73_code 0 = .ok (.aload_n 0, 1) := by decide +kernel
theorem d17_1 : decode jdk_68_method_73_code 1 = .ok (.aload_n 2, 1) := by decide +kernel
theorem d17_2 : decode jdk_68_method_73_code 2 = .ok (.invokevirtual 397, 3) := by decide +kernel
theorem w101 : Jvm.Cond.code N30 jdk_68_method_71_code (2 : Nat) (Option.none : Option Jvm.ClassFile.FieldType) ∈ tables_1 := List.mem_of_getElem? (i := 101) rfl
theorem pd_N30 : parseMethodDescriptor N30.desc = some ⟨[(.object "java/lang/String")], none⟩ := by decide +kernel
theorem w99 : Jvm.Cond.privateMethod N30 ∈ tables_1 := List.mem_of_getElem? (i := 99) rfl
theorem w97 : Jvm.Cond.methodLink "java/lang/AbstractStringBuilder" (397 : Nat) N30 ∈ tables_1 := List.mem_of_getElem? (i := 97) rfl
theorem w100 : Jvm.Cond.selects "java/lang/StringBuilder" N30 N30 ∈ tables_1 := List.mem_of_getElem? (i := 100) rfl
theorem w98 : Jvm.Cond.instanceMethod N30 ∈ tables_1 := List.mem_of_getElem? (i := 98) rfl
theorem d17_5 : decode jdk_68_method_73_code 5 = .ok (.aload_n 2, 1) := by decide +kernel
theorem d17_6 : decode jdk_68_method_73_code 6 = .ok (.aload_n 0, 1) := by decide +kernel
theorem d17_7 : decode jdk_68_method_73_code 7 = .ok (.getfield 15, 3) := by decide +kernel
theorem d17_10 : decode jdk_68_method_73_code 10 = .ok (.iload_n 1, 1) := by decide +kernel
theorem d17_11 : decode jdk_68_method_73_code 11 = .ok (.aload_n 0, 1) := by decide +kernel
theorem d17_12 : decode jdk_68_method_73_code 12 = .ok (.getfield 22, 3) := by decide +kernel
theorem d17_15 : decode jdk_68_method_73_code 15 = .ok (.invokevirtual 399, 3) := by decide +kernel
theorem w107 : Jvm.Cond.code N31 jdk_42_method_147_code (4 : Nat) (Option.none : Option Jvm.ClassFile.FieldType) ∈ tables_1 := List.mem_of_getElem? (i := 107) rfl
theorem pd_N31 : parseMethodDescriptor N31.desc = some ⟨[(.array .byte), .int, .byte], none⟩ := by decide +kernel
theorem w103 : Jvm.Cond.methodLink "java/lang/AbstractStringBuilder" (399 : Nat) N31 ∈ tables_1 := List.mem_of_getElem? (i := 103) rfl
theorem w104 : Jvm.Cond.declares N31 ∈ tables_1 := List.mem_of_getElem? (i := 104) rfl
theorem w106 : Jvm.Cond.selects "java/lang/String" N31 N31 ∈ tables_1 := List.mem_of_getElem? (i := 106) rfl
theorem w105 : Jvm.Cond.instanceMethod N31 ∈ tables_1 := List.mem_of_getElem? (i := 105) rfl
theorem d17_18 : decode jdk_68_method_73_code 18 = .ok (.return_, 1) := by decide +kernel
abbrev N32 : MethodName := ⟨"java/lang/AbstractStringBuilder", "putStringAt", "(ILjava/lang/String;)V"⟩

abbrev rm_pst00 : Room := { frames := 2, cells := 0, slots := 0, locals := 42 }
set_option maxRecDepth 65536 in
set_option maxHeartbeats 4000000 in
theorem ct_pst00 (l : Launch) {Z : State} {n0 : Nat} {z : Int32} {f : Value} (W : Sx Z z f) (x b y sb : Addr) (cs ds pad : List Int32) (cap : Nat) (h : Heap) (F : SbF Z h x b 0 cs.length.toInt32) (Fb : Vec Z h b .byte ((cs.map (nar .byte)) ++ pad)) (hcap : cs.length + pad.length = cap) (hc2 : cap ≤ 34) (hfit : cs.length + ds.length ≤ cap) (S : Str Z h y sb ds) (zx : n0 ≤ x) (zb : n0 ≤ b) (hne : sb ≠ b) (hL : ∀ c ∈ cs, isL c) :
    Ctr l Z n0 N32 jdk_68_method_73_code 3 none rm_pst00 #[(.ref x), (.int cs.length.toInt32), (.ref y)] h [x, b] (fun v h' sn => v = none ∧ Keep h h' [x, b] ∧ ∃ d, (d = b ∨ h.size ≤ d) ∧ n0 ≤ d ∧ SbF Z h' x d 0 cs.length.toInt32 ∧ Vec Z h' d .byte (((cs ++ ds).map (nar .byte)) ++ pad.drop ds.length) ∧ sn = [d]) := by
  refine Ctr.of_go (ls := #[.val (.ref x), .val (.int cs.length.toInt32), .val (.ref y)]) W.1.1 (plainFor_of_name pn_N15) (fun m => by first | (simp [entryFrame, mkF, argsToLocals, Value.category]; done) | rfl) (fun K H => ?_)
  obtain ⟨A, Fv, Fc, Fn, Fm⟩ := F
  have KK : Keep h h [x, b] := Keep.refl _ _
  have hbx : b ≠ x := Vec.neExa Fb A W.1.1 w48
  have hxy : x ≠ y := Exa.ne A S.1 (by decide)
  have hby : b ≠ y := Vec.neExa Fb S.1 W.1.1 w5
  have hxs : sb ≠ x := Vec.neExa S.2.2.2.1 A W.1.1 w48
  refine Go.aloadN H d17_0 rfl rfl rfl ?_
  refine Go.aloadN H d17_1 rfl rfl rfl ?_
  refine Go.callP (rest := []) 0 [(.ref y)] H d17_2 rfl A w97 w99 w100 w98 w57 w101 pd_N30 (ct_iin00 l W x b y sb _ ds h ⟨A, Fv, Fc, Fn, Fm⟩ S) all0 rfl rfl rfl (Nat.le_of_eq rfl) (by decide) (by decide) (by decide) (by decide) nh_N15 ?_
  rintro _ _ _ ⟨rfl, rfl, rfl⟩
  show Go _ _ _ _ _ _ h [x, b] 0 0 5 #[.val (.ref x), .val (.int cs.length.toInt32), .val (.ref y)] []
  refine Go.aloadN H d17_5 rfl rfl rfl ?_
  refine Go.aloadN H d17_6 rfl rfl rfl ?_
  refine Go.getfield H d17_7 rfl w61 Fv ?_
  refine Go.iloadN H d17_10 rfl rfl ?_
  refine Go.aloadN H d17_11 rfl rfl rfl ?_
  refine Go.getfield H d17_12 rfl w63 Fc ?_
  refine Go.callV (rest := []) 0 [(.ref b), (.int cs.length.toInt32), (.int (0 : Int32))] H d17_15 rfl S.1 w103 w104 w106 w105 w6 w107 pd_N31 (ct_gb00 l W y sb b cs ds pad  h S Fb (by omega) (by omega) (by omega) zb hne ) (by simp) rfl rfl rfl (Nat.le_of_eq rfl) (by decide) (by decide) (by decide) (by decide) nh_N9 ?_
  rintro _ h1 _ ⟨rfl, K2, F3, rfl⟩
  replace A := A.keep K2
  replace Fv := Fv.keep K2 (ninS (Ne.symm hbx) nin0)
  replace Fc := Fc.keep K2 (ninS (Ne.symm hbx) nin0)
  replace Fn := Fn.keep K2 (ninS (Ne.symm hbx) nin0)
  replace Fm := Fm.keep K2 (ninS (Ne.symm hbx) nin0)
  replace S := S.keep K2 (ninS (Ne.symm hby) nin0) (ninS hne nin0)
  replace KK := KK.trans K2 (allS (Or.inl (by simp)) all0)
  show Go _ _ _ _ _ _ h1 [x, b] 0 0 18 #[.val (.ref x), .val (.int cs.length.toInt32), .val (.ref y)] []
  exact Go.return_ [b] H d17_18 ⟨rfl, KK, b, (Or.inl rfl), zb, ⟨A, Fv, Fc, Fn, Fm⟩, F3, rfl⟩ (by simp) (by decide) (by decide)

abbrev rm_pst01 : Room := { frames := 7, cells := 1, slots := 68, locals := 102 }
set_option maxRecDepth 65536 in
set_option maxHeartbeats 4000000 in
theorem ct_pst01 (l : Launch) {Z : State} {n0 : Nat} {z : Int32} {f : Value} (W : Sx Z z f) (x b y sb : Addr) (cs ds pad : List Int32) (cap : Nat) (h : Heap) (F : SbF Z h x b 0 cs.length.toInt32) (Fb : Vec Z h b .byte ((cs.map (nar .byte)) ++ pad)) (hcap : cs.length + pad.length = cap) (hc2 : cap ≤ 34) (hfit : cs.length + ds.length ≤ cap) (S : StrU Z h y sb ds) (zx : n0 ≤ x) (zb : n0 ≤ b) (hne : sb ≠ b) (hL : ∀ c ∈ cs, isL c) :
    Ctr l Z n0 N32 jdk_68_method_73_code 3 none rm_pst01 #[(.ref x), (.int cs.length.toInt32), (.ref y)] h [x, b] (fun v h' sn => v = none ∧ Keep h h' [x, b] ∧ ∃ d, (d = b ∨ h.size ≤ d) ∧ n0 ≤ d ∧ SbF Z h' x d 1 cs.length.toInt32 ∧ Vec Z h' d .byte ((enc16 (cs ++ ds)) ++ (List.replicate (2 * pad.length) 0).drop (2 * ds.length)) ∧ sn = [d]) := by
  refine Ctr.of_go (ls := #[.val (.ref x), .val (.int cs.length.toInt32), .val (.ref y)]) W.1.1 (plainFor_of_name pn_N15) (fun m => by first | (simp [entryFrame, mkF, argsToLocals, Value.category]; done) | rfl) (fun K H => ?_)
  obtain ⟨A, Fv, Fc, Fn, Fm⟩ := F
  have KK : Keep h h [x, b] := Keep.refl _ _
  have hbx : b ≠ x := Vec.neExa Fb A W.1.1 w48
  have hxy : x ≠ y := Exa.ne A S.1 (by decide)
  have hby : b ≠ y := Vec.neExa Fb S.1 W.1.1 w5
  have hxs : sb ≠ x := Vec.neExa S.2.2.2.1 A W.1.1 w48
  refine Go.aloadN H d17_0 rfl rfl rfl ?_
  refine Go.aloadN H d17_1 rfl rfl rfl ?_
  refine Go.callP (rest := []) 0 [(.ref y)] H d17_2 rfl A w97 w99 w100 w98 w57 w101 pd_N30 (ct_iin01 l W x b y sb cs pad ds cap h ⟨A, Fv, Fc, Fn, Fm⟩ Fb hL hcap hc2 zx S) (by simp) rfl rfl rfl (Nat.le_of_eq rfl) (by decide) (by decide) (by decide) (by decide) nh_N15 ?_
  rintro _ h1 _ ⟨rfl, K2, d3, g4, z5, F6, V7, rfl⟩
  have ne8 : x ≠ d3 := Nat.ne_of_lt (Nat.lt_of_lt_of_le A.lt g4)
  have ne9 : b ≠ d3 := Nat.ne_of_lt (Nat.lt_of_lt_of_le Fb.lt g4)
  have ne10 : y ≠ d3 := Nat.ne_of_lt (Nat.lt_of_lt_of_le S.lt g4)
  have ne11 : sb ≠ d3 := Nat.ne_of_lt (Nat.lt_of_lt_of_le S.ltb g4)
  have sz12 := Nat.le_trans KK.1 g4
  replace Fb := Fb.keep K2 (ninS hbx nin0)
  replace S := S.keep K2 (ninS (Ne.symm hxy) nin0) (ninS hxs nin0)
  replace KK := KK.trans K2 (allS (Or.inl (by simp)) all0)
  obtain ⟨F13, F14, F15, F16, F17⟩ := F6
  show Go _ _ _ _ _ _ h1 [d3, x, b] 1 68 5 #[.val (.ref x), .val (.int cs.length.toInt32), .val (.ref y)] []
  refine Go.aloadN H d17_5 rfl rfl rfl ?_
  refine Go.aloadN H d17_6 rfl rfl rfl ?_
  refine Go.getfield H d17_7 rfl w61 F14 ?_
  refine Go.iloadN H d17_10 rfl rfl ?_
  refine Go.aloadN H d17_11 rfl rfl rfl ?_
  refine Go.getfield H d17_12 rfl w63 F15 ?_
  refine Go.callV (rest := []) 0 [(.ref d3), (.int cs.length.toInt32), (.int (1 : Int32))] H d17_15 rfl S.1 w103 w104 w106 w105 w6 w107 pd_N31 (ct_gb11 l W y sb d3 cs ds (List.replicate (2 * pad.length) 0)  h1 S V7 (by rw [List.length_replicate]; omega) (by omega) (by rw [List.length_replicate]; omega) z5 ne11 ) (by simp) rfl rfl rfl (Nat.le_of_eq rfl) (by decide) (by decide) (by decide) (by decide) nh_N9 ?_
  rintro _ h18 _ ⟨rfl, K19, F20, rfl⟩
  replace Fb := Fb.keep K19 (ninS ne9 nin0)
  replace S := S.keep K19 (ninS ne10 nin0) (ninS ne11 nin0)
  replace F13 := F13.keep K19
  replace F14 := F14.keep K19 (ninS ne8 nin0)
  replace F15 := F15.keep K19 (ninS ne8 nin0)
  replace F16 := F16.keep K19 (ninS ne8 nin0)
  replace F17 := F17.keep K19 (ninS ne8 nin0)
  replace KK := KK.trans K19 (allS (Or.inr sz12) all0)
  show Go _ _ _ _ _ _ h18 [d3, x, b] 1 68 18 #[.val (.ref x), .val (.int cs.length.toInt32), .val (.ref y)] []
  exact Go.return_ [d3] H d17_18 ⟨rfl, KK, d3, (Or.inr sz12), z5, ⟨F13, F14, F15, F16, F17⟩, F20, rfl⟩ (by simp) (by decide) (by decide)

abbrev rm_pst10 : Room := { frames := 6, cells := 0, slots := 0, locals := 91 }
set_option maxRecDepth 65536 in
set_option maxHeartbeats 4000000 in
theorem ct_pst10 (l : Launch) {Z : State} {n0 : Nat} {z : Int32} {f : Value} (W : Sx Z z f) (x b y sb : Addr) (cs ds pad : List Int32) (cap : Nat) (h : Heap) (F : SbF Z h x b 1 cs.length.toInt32) (Fb : Vec Z h b .byte ((enc16 cs) ++ pad)) (hcap : 2 * cs.length + pad.length = 2 * cap) (hc2 : cap ≤ 34) (hfit : cs.length + ds.length ≤ cap) (S : Str Z h y sb ds) (zx : n0 ≤ x) (zb : n0 ≤ b) (hne : sb ≠ b) :
    Ctr l Z n0 N32 jdk_68_method_73_code 3 none rm_pst10 #[(.ref x), (.int cs.length.toInt32), (.ref y)] h [x, b] (fun v h' sn => v = none ∧ Keep h h' [x, b] ∧ ∃ d, (d = b ∨ h.size ≤ d) ∧ n0 ≤ d ∧ SbF Z h' x d 1 cs.length.toInt32 ∧ Vec Z h' d .byte ((enc16 (cs ++ ds)) ++ pad.drop (2 * ds.length)) ∧ sn = [d]) := by
  refine Ctr.of_go (ls := #[.val (.ref x), .val (.int cs.length.toInt32), .val (.ref y)]) W.1.1 (plainFor_of_name pn_N15) (fun m => by first | (simp [entryFrame, mkF, argsToLocals, Value.category]; done) | rfl) (fun K H => ?_)
  obtain ⟨A, Fv, Fc, Fn, Fm⟩ := F
  have KK : Keep h h [x, b] := Keep.refl _ _
  have hbx : b ≠ x := Vec.neExa Fb A W.1.1 w48
  have hxy : x ≠ y := Exa.ne A S.1 (by decide)
  have hby : b ≠ y := Vec.neExa Fb S.1 W.1.1 w5
  have hxs : sb ≠ x := Vec.neExa S.2.2.2.1 A W.1.1 w48
  refine Go.aloadN H d17_0 rfl rfl rfl ?_
  refine Go.aloadN H d17_1 rfl rfl rfl ?_
  refine Go.callP (rest := []) 0 [(.ref y)] H d17_2 rfl A w97 w99 w100 w98 w57 w101 pd_N30 (ct_iin10 l W x b y sb _ ds h ⟨A, Fv, Fc, Fn, Fm⟩ S) all0 rfl rfl rfl (Nat.le_of_eq rfl) (by decide) (by decide) (by decide) (by decide) nh_N15 ?_
  rintro _ _ _ ⟨rfl, rfl, rfl⟩
  show Go _ _ _ _ _ _ h [x, b] 0 0 5 #[.val (.ref x), .val (.int cs.length.toInt32), .val (.ref y)] []
  refine Go.aloadN H d17_5 rfl rfl rfl ?_
  refine Go.aloadN H d17_6 rfl rfl rfl ?_
  refine Go.getfield H d17_7 rfl w61 Fv ?_
  refine Go.iloadN H d17_10 rfl rfl ?_
  refine Go.aloadN H d17_11 rfl rfl rfl ?_
  refine Go.getfield H d17_12 rfl w63 Fc ?_
  refine Go.callV (rest := []) 0 [(.ref b), (.int cs.length.toInt32), (.int (1 : Int32))] H d17_15 rfl S.1 w103 w104 w106 w105 w6 w107 pd_N31 (ct_gb10 l W y sb b cs ds pad cap h S Fb (by omega) (by omega) (by omega) zb hne (by rw [List.length_append, enc16_len]; omega) (by omega)) (by simp) rfl rfl rfl (Nat.le_of_eq rfl) (by decide) (by decide) (by decide) (by decide) nh_N9 ?_
  rintro _ h1 _ ⟨rfl, K2, F3, rfl⟩
  replace A := A.keep K2
  replace Fv := Fv.keep K2 (ninS (Ne.symm hbx) nin0)
  replace Fc := Fc.keep K2 (ninS (Ne.symm hbx) nin0)
  replace Fn := Fn.keep K2 (ninS (Ne.symm hbx) nin0)
  replace Fm := Fm.keep K2 (ninS (Ne.symm hbx) nin0)
  replace S := S.keep K2 (ninS (Ne.symm hby) nin0) (ninS hne nin0)
  replace KK := KK.trans K2 (allS (Or.inl (by simp)) all0)
  show Go _ _ _ _ _ _ h1 [x, b] 0 0 18 #[.val (.ref x), .val (.int cs.length.toInt32), .val (.ref y)] []
  exact Go.return_ [b] H d17_18 ⟨rfl, KK, b, (Or.inl rfl), zb, ⟨A, Fv, Fc, Fn, Fm⟩, F3, rfl⟩ (by simp) (by decide) (by decide)

abbrev rm_pst11 : Room := { frames := 2, cells := 0, slots := 0, locals := 42 }
set_option maxRecDepth 65536 in
set_option maxHeartbeats 4000000 in
theorem ct_pst11 (l : Launch) {Z : State} {n0 : Nat} {z : Int32} {f : Value} (W : Sx Z z f) (x b y sb : Addr) (cs ds pad : List Int32) (cap : Nat) (h : Heap) (F : SbF Z h x b 1 cs.length.toInt32) (Fb : Vec Z h b .byte ((enc16 cs) ++ pad)) (hcap : 2 * cs.length + pad.length = 2 * cap) (hc2 : cap ≤ 34) (hfit : cs.length + ds.length ≤ cap) (S : StrU Z h y sb ds) (zx : n0 ≤ x) (zb : n0 ≤ b) (hne : sb ≠ b) :
    Ctr l Z n0 N32 jdk_68_method_73_code 3 none rm_pst11 #[(.ref x), (.int cs.length.toInt32), (.ref y)] h [x, b] (fun v h' sn => v = none ∧ Keep h h' [x, b] ∧ ∃ d, (d = b ∨ h.size ≤ d) ∧ n0 ≤ d ∧ SbF Z h' x d 1 cs.length.toInt32 ∧ Vec Z h' d .byte ((enc16 (cs ++ ds)) ++ pad.drop (2 * ds.length)) ∧ sn = [d]) := by
  refine Ctr.of_go (ls := #[.val (.ref x), .val (.int cs.length.toInt32), .val (.ref y)]) W.1.1 (plainFor_of_name pn_N15) (fun m => by first | (simp [entryFrame, mkF, argsToLocals, Value.category]; done) | rfl) (fun K H => ?_)
  obtain ⟨A, Fv, Fc, Fn, Fm⟩ := F
  have KK : Keep h h [x, b] := Keep.refl _ _
  have hbx : b ≠ x := Vec.neExa Fb A W.1.1 w48
  have hxy : x ≠ y := Exa.ne A S.1 (by decide)
  have hby : b ≠ y := Vec.neExa Fb S.1 W.1.1 w5
  have hxs : sb ≠ x := Vec.neExa S.2.2.2.1 A W.1.1 w48
  refine Go.aloadN H d17_0 rfl rfl rfl ?_
  refine Go.aloadN H d17_1 rfl rfl rfl ?_
  refine Go.callP (rest := []) 0 [(.ref y)] H d17_2 rfl A w97 w99 w100 w98 w57 w101 pd_N30 (ct_iin11 l W x b y sb _ ds h ⟨A, Fv, Fc, Fn, Fm⟩ S) all0 rfl rfl rfl (Nat.le_of_eq rfl) (by decide) (by decide) (by decide) (by decide) nh_N15 ?_
  rintro _ _ _ ⟨rfl, rfl, rfl⟩
  show Go _ _ _ _ _ _ h [x, b] 0 0 5 #[.val (.ref x), .val (.int cs.length.toInt32), .val (.ref y)] []
  refine Go.aloadN H d17_5 rfl rfl rfl ?_
  refine Go.aloadN H d17_6 rfl rfl rfl ?_
  refine Go.getfield H d17_7 rfl w61 Fv ?_
  refine Go.iloadN H d17_10 rfl rfl ?_
  refine Go.aloadN H d17_11 rfl rfl rfl ?_
  refine Go.getfield H d17_12 rfl w63 Fc ?_
  refine Go.callV (rest := []) 0 [(.ref b), (.int cs.length.toInt32), (.int (1 : Int32))] H d17_15 rfl S.1 w103 w104 w106 w105 w6 w107 pd_N31 (ct_gb11 l W y sb b cs ds pad  h S Fb (by omega) (by omega) (by omega) zb hne ) (by simp) rfl rfl rfl (Nat.le_of_eq rfl) (by decide) (by decide) (by decide) (by decide) nh_N9 ?_
  rintro _ h1 _ ⟨rfl, K2, F3, rfl⟩
  replace A := A.keep K2
  replace Fv := Fv.keep K2 (ninS (Ne.symm hbx) nin0)
  replace Fc := Fc.keep K2 (ninS (Ne.symm hbx) nin0)
  replace Fn := Fn.keep K2 (ninS (Ne.symm hbx) nin0)
  replace Fm := Fm.keep K2 (ninS (Ne.symm hbx) nin0)
  replace S := S.keep K2 (ninS (Ne.symm hby) nin0) (ninS hne nin0)
  replace KK := KK.trans K2 (allS (Or.inl (by simp)) all0)
  show Go _ _ _ _ _ _ h1 [x, b] 0 0 18 #[.val (.ref x), .val (.int cs.length.toInt32), .val (.ref y)] []
  exact Go.return_ [b] H d17_18 ⟨rfl, KK, b, (Or.inl rfl), zb, ⟨A, Fv, Fc, Fn, Fm⟩, F3, rfl⟩ (by simp) (by decide) (by decide)
theorem Stg.len {Z : State} {h : Heap} {x b : Addr} {cs : List Int32} (F : Stg Z h x b cs) : cs.length < 2 ^ 31 := F.elim (fun q => q.2.2.2.2.2) (fun q => by have := q.2.2.2.2.2.1; omega)
theorem d13_0 : decode jdk_68_method_22_code 0 = .ok (.aload_n 1, 1) := by decide +kernel
theorem d13_1 : decode jdk_68_method_22_code 1 = .ok (.ifnonnull 8, 3) := by decide +kernel
theorem d13_9 : decode jdk_68_method_22_code 9 = .ok (.aload_n 1, 1) := by decide +kernel
theorem d13_10 : decode jdk_68_method_22_code 10 = .ok (.invokevirtual 32, 3) := by decide +kernel
theorem w79 : Jvm.Cond.code N12 jdk_42_method_54_code (1 : Nat) (Option.some Jvm.ClassFile.FieldType.int) ∈ tables_1 := List.mem_of_getElem? (i := 79) rfl
theorem pd_N12 : parseMethodDescriptor N12.desc = some ⟨[], (some .int)⟩ := by decide +kernel
theorem w75 : Jvm.Cond.methodLink "java/lang/AbstractStringBuilder" (32 : Nat) N12 ∈ tables_1 := List.mem_of_getElem? (i := 75) rfl
theorem w76 : Jvm.Cond.declares N12 ∈ tables_1 := List.mem_of_getElem? (i := 76) rfl
theorem w78 : Jvm.Cond.selects "java/lang/String" N12 N12 ∈ tables_1 := List.mem_of_getElem? (i := 78) rfl
theorem w77 : Jvm.Cond.instanceMethod N12 ∈ tables_1 := List.mem_of_getElem? (i := 77) rfl
theorem d13_13 : decode jdk_68_method_22_code 13 = .ok (.istore_n 2, 1) := by decide +kernel
theorem d13_14 : decode jdk_68_method_22_code 14 = .ok (.aload_n 0, 1) := by decide +kernel
theorem d13_15 : decode jdk_68_method_22_code 15 = .ok (.aload_n 0, 1) := by decide +kernel
theorem d13_16 : decode jdk_68_method_22_code 16 = .ok (.getfield 79, 3) := by decide +kernel
theorem d13_19 : decode jdk_68_method_22_code 19 = .ok (.iload_n 2, 1) := by decide +kernel
theorem d13_20 : decode jdk_68_method_22_code 20 = .ok (.iadd, 1) := by decide +kernel
theorem d13_21 : decode jdk_68_method_22_code 21 = .ok (.invokevirtual 100, 3) := by decide +kernel
theorem w91 : Jvm.Cond.code N21 jdk_68_method_9_code (3 : Nat) (Option.none : Option Jvm.ClassFile.FieldType) ∈ tables_1 := List.mem_of_getElem? (i := 91) rfl
theorem pd_N21 : parseMethodDescriptor N21.desc = some ⟨[.int], none⟩ := by decide +kernel
theorem w89 : Jvm.Cond.privateMethod N21 ∈ tables_1 := List.mem_of_getElem? (i := 89) rfl
theorem w87 : Jvm.Cond.methodLink "java/lang/AbstractStringBuilder" (100 : Nat) N21 ∈ tables_1 := List.mem_of_getElem? (i := 87) rfl
theorem w90 : Jvm.Cond.selects "java/lang/StringBuilder" N21 N21 ∈ tables_1 := List.mem_of_getElem? (i := 90) rfl
theorem w88 : Jvm.Cond.instanceMethod N21 ∈ tables_1 := List.mem_of_getElem? (i := 88) rfl
theorem d13_24 : decode jdk_68_method_22_code 24 = .ok (.aload_n 0, 1) := by decide +kernel
theorem d13_25 : decode jdk_68_method_22_code 25 = .ok (.aload_n 0, 1) := by decide +kernel
theorem d13_26 : decode jdk_68_method_22_code 26 = .ok (.getfield 79, 3) := by decide +kernel
theorem d13_29 : decode jdk_68_method_22_code 29 = .ok (.aload_n 1, 1) := by decide +kernel
theorem d13_30 : decode jdk_68_method_22_code 30 = .ok (.invokevirtual 208, 3) := by decide +kernel
theorem w96 : Jvm.Cond.code N32 jdk_68_method_73_code (3 : Nat) (Option.none : Option Jvm.ClassFile.FieldType) ∈ tables_1 := List.mem_of_getElem? (i := 96) rfl
theorem pd_N32 : parseMethodDescriptor N32.desc = some ⟨[.int, (.object "java/lang/String")], none⟩ := by decide +kernel
theorem w94 : Jvm.Cond.privateMethod N32 ∈ tables_1 := List.mem_of_getElem? (i := 94) rfl
theorem w92 : Jvm.Cond.methodLink "java/lang/AbstractStringBuilder" (208 : Nat) N32 ∈ tables_1 := List.mem_of_getElem? (i := 92) rfl
theorem w95 : Jvm.Cond.selects "java/lang/StringBuilder" N32 N32 ∈ tables_1 := List.mem_of_getElem? (i := 95) rfl
theorem w93 : Jvm.Cond.instanceMethod N32 ∈ tables_1 := List.mem_of_getElem? (i := 93) rfl
theorem d13_33 : decode jdk_68_method_22_code 33 = .ok (.aload_n 0, 1) := by decide +kernel
theorem d13_34 : decode jdk_68_method_22_code 34 = .ok (.dup, 1) := by decide +kernel
theorem d13_35 : decode jdk_68_method_22_code 35 = .ok (.getfield 79, 3) := by decide +kernel
theorem d13_38 : decode jdk_68_method_22_code 38 = .ok (.iload_n 2, 1) := by decide +kernel
theorem d13_39 : decode jdk_68_method_22_code 39 = .ok (.iadd, 1) := by decide +kernel
theorem d13_40 : decode jdk_68_method_22_code 40 = .ok (.putfield 79, 3) := by decide +kernel
theorem d13_43 : decode jdk_68_method_22_code 43 = .ok (.aload_n 0, 1) := by decide +kernel
theorem d13_44 : decode jdk_68_method_22_code 44 = .ok (.areturn, 1) := by decide +kernel
abbrev N33 : MethodName := ⟨"java/lang/AbstractStringBuilder", "append", "(Ljava/lang/String;)Ljava/lang/AbstractStringBuilder;"⟩

abbrev rm_asba : Room := { frames := 8, cells := 2, slots := 102, locals := 116 }
set_option maxRecDepth 65536 in
set_option maxHeartbeats 4000000 in
theorem ct_asba (l : Launch) {Z : State} {n0 : Nat} {z : Int32} {f : Value} (W : Sx Z z f) (x b y sb : Addr) (cs ds : List Int32) (cap : Nat) (h : Heap) (B : Sbg Z h x b cap cs) (hcap0 : cap = 16 ∨ cap = 34) (S : Stg Z h y sb ds) (htot : cs.length + ds.length ≤ 33) (zx : n0 ≤ x) (zb : n0 ≤ b) (hne : sb ≠ b) :
    Ctr l Z n0 N33 jdk_68_method_22_code 3 (some (.object "java/lang/AbstractStringBuilder")) rm_asba #[(.ref x), (.ref y)] h [x, b] (fun v h' sn => v = some (.ref x) ∧ Keep h h' [x, b] ∧ ∃ d cap', (d = b ∨ h.size ≤ d) ∧ n0 ≤ d ∧ Sbg Z h' x d cap' (cs ++ ds) ∧ (cap' = 16 ∨ cap' = 34) ∧ (cs ++ ds).length ≤ cap' ∧ sn = [d]) := by
  refine Ctr.of_go (ls := #[.val (.ref x), .val (.ref y), .unset]) W.1.1 (plainFor_of_name pn_N15) (fun m => by first | (simp [entryFrame, mkF, argsToLocals, Value.category]; done) | rfl) (fun K H => ?_)
  have hsl := S.len
  have hSC := S.isC
  rcases B with ⟨F, ⟨pad, Fb, hcap⟩, hL⟩ | ⟨F, ⟨pad, Fb, hcap⟩, hC, hX⟩
  ·
    rcases S with S | S
    ·
      obtain ⟨A, Fv, Fc, Fn, Fm⟩ := F
      have KK : Keep h h [x, b] := Keep.refl _ _
      have hbx : b ≠ x := Vec.neExa Fb A W.1.1 w48
      have hxy : x ≠ y := Exa.ne A S.1 (by decide)
      have hby : b ≠ y := Vec.neExa Fb S.1 W.1.1 w5
      have hxs : sb ≠ x := Vec.neExa S.2.2.2.1 A W.1.1 w48
      refine Go.aloadN H d13_0 rfl rfl rfl ?_
      refine Go.ifnonnullY (pc' := 9) H d13_1 (by decide) (by decide) ?_
      refine Go.aloadN H d13_9 rfl rfl rfl ?_
      refine Go.callV (rest := []) 0 [] H d13_10 rfl S.1 w75 w76 w78 w77 w6 w79 pd_N12 (ct_len l W y sb ds h (Or.inl S)) all0 rfl rfl rfl (Nat.le_of_eq rfl) (by decide) (by decide) (by decide) (by decide) nh_N9 ?_
      rintro _ _ _ ⟨rfl, rfl, rfl⟩
      show Go _ _ _ _ _ _ h [x, b] 0 0 13 #[.val (.ref x), .val (.ref y), .unset] [(.int ds.length.toInt32)]
      refine Go.istoreN (ls' := #[.val (.ref x), .val (.ref y), .val (.int ds.length.toInt32)]) H d13_13 rfl rfl ?_
      refine Go.aloadN H d13_14 rfl rfl rfl ?_
      refine Go.aloadN H d13_15 rfl rfl rfl ?_
      refine Go.getfield H d13_16 rfl w85 Fn ?_
      refine Go.iloadN H d13_19 rfl rfl ?_
      refine Go.iadd H d13_20 rfl ?_
      rw [own_add]
      by_cases hf : cs.length + ds.length ≤ cap
      ·
        refine Go.callP (rest := []) 0 [(.int (cs.length + ds.length).toInt32)] H d13_21 rfl A w87 w89 w90 w88 w57 w91 pd_N21 (ct_ecf0 l W x b _ _ _ cap h ⟨A, Fv, Fc, Fn, Fm⟩ Fb (by rw [List.length_append, List.length_map]; exact hcap) hf (by omega)) all0 rfl rfl rfl (Nat.le_of_eq rfl) (by decide) (by decide) (by decide) (by decide) nh_N15 ?_
        rintro _ _ _ ⟨rfl, rfl, rfl⟩
        show Go _ _ _ _ _ _ h [x, b] 0 0 24 #[.val (.ref x), .val (.ref y), .val (.int ds.length.toInt32)] []
        refine Go.aloadN H d13_24 rfl rfl rfl ?_
        refine Go.aloadN H d13_25 rfl rfl rfl ?_
        refine Go.getfield H d13_26 rfl w85 Fn ?_
        refine Go.aloadN H d13_29 rfl rfl rfl ?_
        refine Go.callP (rest := []) 0 [(.int cs.length.toInt32), (.ref y)] H d13_30 rfl A w92 w94 w95 w93 w57 w96 pd_N32 (ct_pst00 l W x b y sb cs ds pad cap h ⟨A, Fv, Fc, Fn, Fm⟩ Fb hcap (by omega) hf S zx zb hne hL) (by simp) rfl rfl rfl (Nat.le_of_eq rfl) (by decide) (by decide) (by decide) (by decide) nh_N15 ?_
        rintro _ h1 _ ⟨rfl, K2, d3, q4, z5, F6, V7, rfl⟩
        have ne8 : x ≠ d3 := q4.elim (fun e => e ▸ (Ne.symm hbx)) (fun g => Nat.ne_of_lt (Nat.lt_of_lt_of_le A.lt g))
        have ne9 : y ≠ d3 := q4.elim (fun e => e ▸ (Ne.symm hby)) (fun g => Nat.ne_of_lt (Nat.lt_of_lt_of_le S.lt g))
        have ne10 : sb ≠ d3 := q4.elim (fun e => e ▸ hne) (fun g => Nat.ne_of_lt (Nat.lt_of_lt_of_le S.ltb g))
        replace S := S.keep K2 (ninS (Ne.symm hxy) (ninS (Ne.symm hby) nin0)) (ninS hxs (ninS hne nin0))
        replace KK := KK.trans K2 (allS (Or.inl (by simp)) (allS (Or.inl (by simp)) all0))
        obtain ⟨F11, F12, F13, F14, F15⟩ := F6
        show Go _ _ _ _ _ _ h1 [d3, x, b] 0 0 33 #[.val (.ref x), .val (.ref y), .val (.int ds.length.toInt32)] []
        refine Go.aloadN H d13_33 rfl rfl rfl ?_
        refine Go.dup H d13_34 rfl rfl ?_
        refine Go.getfield H d13_35 rfl w85 F14 ?_
        refine Go.iloadN H d13_38 rfl rfl ?_
        refine Go.iadd H d13_39 rfl ?_
        rw [own_add]
        refine Go.putfield (v := (.int (cs.length + ds.length).toInt32)) H d13_40 rfl w85 F14 F11 (Or.inl w86) w48 (ty := .int) (by decide) rfl rfl zx (by simp) ?_
        intro h16 Wr17
        have F18 := F14.same Wr17
        have K19 := Keep.of_wr Wr17
        replace S := S.keep K19 (ninS (Ne.symm hxy) nin0) (ninS hxs nin0)
        replace F11 := F11.wr Wr17
        replace F12 := F12.other Wr17 (Or.inr (own_sne W.1.1 (Or.inl w62) (Or.inl w86) (by decide) (t := (.array .byte)) (t' := .int) (by decide) (by decide)))
        replace F13 := F13.other Wr17 (Or.inr (own_sne W.1.1 (Or.inl w64) (Or.inl w86) (by decide) (t := .byte) (t' := .int) (by decide) (by decide)))
        replace F15 := F15.other Wr17 (Or.inr (own_sne W.1.1 (Or.inl w243) (Or.inl w86) (by decide) (t := .boolean) (t' := .int) (by decide) (by decide)))
        replace V7 := V7.keep K19 (ninS (Ne.symm ne8) nin0)
        replace KK := KK.wr Wr17 (Or.inl (by simp))
        refine Go.aloadN H d13_43 rfl rfl rfl ?_
        exact Go.areturn [d3] H d13_44 rfl rfl (own_narR rfl) ⟨rfl, KK, d3, cap, q4, z5, Or.inl ⟨by rw [List.length_append]; exact ⟨F11, F12, F13, F18, F15⟩, ⟨_, V7, (by simp only [List.length_append, List.length_drop, List.length_replicate]; omega)⟩, fun c m => (List.mem_append.mp m).elim (hL c) (S.2.2.2.2.1 c)⟩, hcap0, (by rw [List.length_append]; omega), rfl⟩ (by simp) (by decide) (by decide)
      ·
        obtain rfl : cap = 16 := by omega
        refine Go.callP (rest := []) 0 [(.int (cs.length + ds.length).toInt32)] H d13_21 rfl A w87 w89 w90 w88 w57 w91 pd_N21 (ct_ecg0 l W x b _ _ _ h ⟨A, Fv, Fc, Fn, Fm⟩ Fb (by rw [List.length_append, List.length_map]; exact hcap) (by omega) (by omega) zx) (by simp) rfl rfl rfl (Nat.le_of_eq rfl) (by decide) (by decide) (by decide) (by decide) nh_N15 ?_
        rintro _ h20 _ ⟨rfl, K21, d22, g23, z24, F25, V26, rfl⟩
        have ne27 : x ≠ d22 := Nat.ne_of_lt (Nat.lt_of_lt_of_le A.lt g23)
        have ne28 : b ≠ d22 := Nat.ne_of_lt (Nat.lt_of_lt_of_le Fb.lt g23)
        have ne29 : y ≠ d22 := Nat.ne_of_lt (Nat.lt_of_lt_of_le S.lt g23)
        have ne30 : sb ≠ d22 := Nat.ne_of_lt (Nat.lt_of_lt_of_le S.ltb g23)
        have sz31 := Nat.le_trans KK.1 g23
        replace Fb := Fb.keep K21 (ninS hbx nin0)
        replace S := S.keep K21 (ninS (Ne.symm hxy) nin0) (ninS hxs nin0)
        replace KK := KK.trans K21 (allS (Or.inl (by simp)) all0)
        obtain ⟨F32, F33, F34, F35, F36⟩ := F25
        show Go _ _ _ _ _ _ h20 [d22, x, b] 1 34 24 #[.val (.ref x), .val (.ref y), .val (.int ds.length.toInt32)] []
        have szK37 := K21.1
        refine Go.aloadN H d13_24 rfl rfl rfl ?_
        refine Go.aloadN H d13_25 rfl rfl rfl ?_
        refine Go.getfield H d13_26 rfl w85 F35 ?_
        refine Go.aloadN H d13_29 rfl rfl rfl ?_
        rw [List.append_assoc] at V26
        refine Go.callP (rest := []) 0 [(.int cs.length.toInt32), (.ref y)] H d13_30 rfl F32 w92 w94 w95 w93 w57 w96 pd_N32 (ct_pst00 l W x d22 y sb cs ds (pad ++ List.replicate 18 0) 34 h20 ⟨F32, F33, F34, F35, F36⟩ V26 (by rw [List.length_append, List.length_replicate]; omega) (by omega) (by omega) S zx z24 ne30 hL) (by simp) rfl rfl rfl (Nat.le_of_eq rfl) (by decide) (by decide) (by decide) (by decide) nh_N15 ?_
        rintro _ h38 _ ⟨rfl, K39, d40, q41, z42, F43, V44, rfl⟩
        have ne45 : x ≠ d40 := q41.elim (fun e => e ▸ ne27) (fun g => Nat.ne_of_lt (Nat.lt_of_lt_of_le F32.lt g))
        have ne46 : y ≠ d40 := q41.elim (fun e => e ▸ ne29) (fun g => Nat.ne_of_lt (Nat.lt_of_lt_of_le S.lt g))
        have ne47 : sb ≠ d40 := q41.elim (fun e => e ▸ ne30) (fun g => Nat.ne_of_lt (Nat.lt_of_lt_of_le S.ltb g))
        replace Fb := Fb.keep K39 (ninS hbx (ninS ne28 nin0))
        replace S := S.keep K39 (ninS (Ne.symm hxy) (ninS ne29 nin0)) (ninS hxs (ninS ne30 nin0))
        replace KK := KK.trans K39 (allS (Or.inl (by simp)) (allS (Or.inr sz31) all0))
        obtain ⟨F48, F49, F50, F51, F52⟩ := F43
        show Go _ _ _ _ _ _ h38 [d40, d22, x, b] 1 34 33 #[.val (.ref x), .val (.ref y), .val (.int ds.length.toInt32)] []
        refine Go.aloadN H d13_33 rfl rfl rfl ?_
        refine Go.dup H d13_34 rfl rfl ?_
        refine Go.getfield H d13_35 rfl w85 F51 ?_
        refine Go.iloadN H d13_38 rfl rfl ?_
        refine Go.iadd H d13_39 rfl ?_
        rw [own_add]
        refine Go.putfield (v := (.int (cs.length + ds.length).toInt32)) H d13_40 rfl w85 F51 F48 (Or.inl w86) w48 (ty := .int) (by decide) rfl rfl zx (by simp) ?_
        intro h53 Wr54
        have F55 := F51.same Wr54
        have K56 := Keep.of_wr Wr54
        replace Fb := Fb.keep K56 (ninS hbx nin0)
        replace S := S.keep K56 (ninS (Ne.symm hxy) nin0) (ninS hxs nin0)
        replace F48 := F48.wr Wr54
        replace F49 := F49.other Wr54 (Or.inr (own_sne W.1.1 (Or.inl w62) (Or.inl w86) (by decide) (t := (.array .byte)) (t' := .int) (by decide) (by decide)))
        replace F50 := F50.other Wr54 (Or.inr (own_sne W.1.1 (Or.inl w64) (Or.inl w86) (by decide) (t := .byte) (t' := .int) (by decide) (by decide)))
        replace F52 := F52.other Wr54 (Or.inr (own_sne W.1.1 (Or.inl w243) (Or.inl w86) (by decide) (t := .boolean) (t' := .int) (by decide) (by decide)))
        replace V44 := V44.keep K56 (ninS (Ne.symm ne45) nin0)
        replace KK := KK.wr Wr54 (Or.inl (by simp))
        refine Go.aloadN H d13_43 rfl rfl rfl ?_
        exact Go.areturn [d40] H d13_44 rfl rfl (own_narR rfl) ⟨rfl, KK, d40, 34, (Or.inr (q41.elim (fun e => e ▸ g23) (fun g => Nat.le_trans szK37 g))), z42, Or.inl ⟨by rw [List.length_append]; exact ⟨F48, F49, F50, F55, F52⟩, ⟨_, V44, (by simp only [List.length_append, List.length_drop, List.length_replicate]; omega)⟩, fun c m => (List.mem_append.mp m).elim (hL c) (S.2.2.2.2.1 c)⟩, (Or.inr rfl), (by rw [List.length_append]; omega), rfl⟩ (by simp) (by decide) (by decide)
    ·
      obtain ⟨A, Fv, Fc, Fn, Fm⟩ := F
      have KK : Keep h h [x, b] := Keep.refl _ _
      have hbx : b ≠ x := Vec.neExa Fb A W.1.1 w48
      have hxy : x ≠ y := Exa.ne A S.1 (by decide)
      have hby : b ≠ y := Vec.neExa Fb S.1 W.1.1 w5
      have hxs : sb ≠ x := Vec.neExa S.2.2.2.1 A W.1.1 w48
      refine Go.aloadN H d13_0 rfl rfl rfl ?_
      refine Go.ifnonnullY (pc' := 9) H d13_1 (by decide) (by decide) ?_
      refine Go.aloadN H d13_9 rfl rfl rfl ?_
      refine Go.callV (rest := []) 0 [] H d13_10 rfl S.1 w75 w76 w78 w77 w6 w79 pd_N12 (ct_len l W y sb ds h (Or.inr S)) all0 rfl rfl rfl (Nat.le_of_eq rfl) (by decide) (by decide) (by decide) (by decide) nh_N9 ?_
      rintro _ _ _ ⟨rfl, rfl, rfl⟩
      show Go _ _ _ _ _ _ h [x, b] 0 0 13 #[.val (.ref x), .val (.ref y), .unset] [(.int ds.length.toInt32)]
      refine Go.istoreN (ls' := #[.val (.ref x), .val (.ref y), .val (.int ds.length.toInt32)]) H d13_13 rfl rfl ?_
      refine Go.aloadN H d13_14 rfl rfl rfl ?_
      refine Go.aloadN H d13_15 rfl rfl rfl ?_
      refine Go.getfield H d13_16 rfl w85 Fn ?_
      refine Go.iloadN H d13_19 rfl rfl ?_
      refine Go.iadd H d13_20 rfl ?_
      rw [own_add]
      by_cases hf : cs.length + ds.length ≤ cap
      ·
        refine Go.callP (rest := []) 0 [(.int (cs.length + ds.length).toInt32)] H d13_21 rfl A w87 w89 w90 w88 w57 w91 pd_N21 (ct_ecf0 l W x b _ _ _ cap h ⟨A, Fv, Fc, Fn, Fm⟩ Fb (by rw [List.length_append, List.length_map]; exact hcap) hf (by omega)) all0 rfl rfl rfl (Nat.le_of_eq rfl) (by decide) (by decide) (by decide) (by decide) nh_N15 ?_
        rintro _ _ _ ⟨rfl, rfl, rfl⟩
        show Go _ _ _ _ _ _ h [x, b] 0 0 24 #[.val (.ref x), .val (.ref y), .val (.int ds.length.toInt32)] []
        refine Go.aloadN H d13_24 rfl rfl rfl ?_
        refine Go.aloadN H d13_25 rfl rfl rfl ?_
        refine Go.getfield H d13_26 rfl w85 Fn ?_
        refine Go.aloadN H d13_29 rfl rfl rfl ?_
        refine Go.callP (rest := []) 0 [(.int cs.length.toInt32), (.ref y)] H d13_30 rfl A w92 w94 w95 w93 w57 w96 pd_N32 (ct_pst01 l W x b y sb cs ds pad cap h ⟨A, Fv, Fc, Fn, Fm⟩ Fb hcap (by omega) hf S zx zb hne hL) (by simp) rfl rfl rfl (Nat.le_of_eq rfl) (by decide) (by decide) (by decide) (by decide) nh_N15 ?_
        rintro _ h57 _ ⟨rfl, K58, d59, q60, z61, F62, V63, rfl⟩
        have ne64 : x ≠ d59 := q60.elim (fun e => e ▸ (Ne.symm hbx)) (fun g => Nat.ne_of_lt (Nat.lt_of_lt_of_le A.lt g))
        have ne65 : y ≠ d59 := q60.elim (fun e => e ▸ (Ne.symm hby)) (fun g => Nat.ne_of_lt (Nat.lt_of_lt_of_le S.lt g))
        have ne66 : sb ≠ d59 := q60.elim (fun e => e ▸ hne) (fun g => Nat.ne_of_lt (Nat.lt_of_lt_of_le S.ltb g))
        replace S := S.keep K58 (ninS (Ne.symm hxy) (ninS (Ne.symm hby) nin0)) (ninS hxs (ninS hne nin0))
        replace KK := KK.trans K58 (allS (Or.inl (by simp)) (allS (Or.inl (by simp)) all0))
        obtain ⟨F67, F68, F69, F70, F71⟩ := F62
        show Go _ _ _ _ _ _ h57 [d59, x, b] 1 68 33 #[.val (.ref x), .val (.ref y), .val (.int ds.length.toInt32)] []
        refine Go.aloadN H d13_33 rfl rfl rfl ?_
        refine Go.dup H d13_34 rfl rfl ?_
        refine Go.getfield H d13_35 rfl w85 F70 ?_
        refine Go.iloadN H d13_38 rfl rfl ?_
        refine Go.iadd H d13_39 rfl ?_
        rw [own_add]
        refine Go.putfield (v := (.int (cs.length + ds.length).toInt32)) H d13_40 rfl w85 F70 F67 (Or.inl w86) w48 (ty := .int) (by decide) rfl rfl zx (by simp) ?_
        intro h72 Wr73
        have F74 := F70.same Wr73
        have K75 := Keep.of_wr Wr73
        replace S := S.keep K75 (ninS (Ne.symm hxy) nin0) (ninS hxs nin0)
        replace F67 := F67.wr Wr73
        replace F68 := F68.other Wr73 (Or.inr (own_sne W.1.1 (Or.inl w62) (Or.inl w86) (by decide) (t := (.array .byte)) (t' := .int) (by decide) (by decide)))
        replace F69 := F69.other Wr73 (Or.inr (own_sne W.1.1 (Or.inl w64) (Or.inl w86) (by decide) (t := .byte) (t' := .int) (by decide) (by decide)))
        replace F71 := F71.other Wr73 (Or.inr (own_sne W.1.1 (Or.inl w243) (Or.inl w86) (by decide) (t := .boolean) (t' := .int) (by decide) (by decide)))
        replace V63 := V63.keep K75 (ninS (Ne.symm ne64) nin0)
        replace KK := KK.wr Wr73 (Or.inl (by simp))
        refine Go.aloadN H d13_43 rfl rfl rfl ?_
        exact Go.areturn [d59] H d13_44 rfl rfl (own_narR rfl) ⟨rfl, KK, d59, cap, q60, z61, Or.inr ⟨by rw [List.length_append]; exact ⟨F67, F68, F69, F74, F71⟩, ⟨_, V63, (by simp only [List.length_append, List.length_drop, List.length_replicate]; omega)⟩, fun c m => (List.mem_append.mp m).elim (fun m => (hL c m).c) (hSC c), (by obtain ⟨c, m, e⟩ := S.2.2.2.2.2.2; exact ⟨c, List.mem_append.mpr (Or.inr m), e⟩)⟩, hcap0, (by rw [List.length_append]; omega), rfl⟩ (by simp) (by decide) (by decide)
      ·
        obtain rfl : cap = 16 := by omega
        refine Go.callP (rest := []) 0 [(.int (cs.length + ds.length).toInt32)] H d13_21 rfl A w87 w89 w90 w88 w57 w91 pd_N21 (ct_ecg0 l W x b _ _ _ h ⟨A, Fv, Fc, Fn, Fm⟩ Fb (by rw [List.length_append, List.length_map]; exact hcap) (by omega) (by omega) zx) (by simp) rfl rfl rfl (Nat.le_of_eq rfl) (by decide) (by decide) (by decide) (by decide) nh_N15 ?_
        rintro _ h76 _ ⟨rfl, K77, d78, g79, z80, F81, V82, rfl⟩
        have ne83 : x ≠ d78 := Nat.ne_of_lt (Nat.lt_of_lt_of_le A.lt g79)
        have ne84 : b ≠ d78 := Nat.ne_of_lt (Nat.lt_of_lt_of_le Fb.lt g79)
        have ne85 : y ≠ d78 := Nat.ne_of_lt (Nat.lt_of_lt_of_le S.lt g79)
        have ne86 : sb ≠ d78 := Nat.ne_of_lt (Nat.lt_of_lt_of_le S.ltb g79)
        have sz87 := Nat.le_trans KK.1 g79
        replace Fb := Fb.keep K77 (ninS hbx nin0)
        replace S := S.keep K77 (ninS (Ne.symm hxy) nin0) (ninS hxs nin0)
        replace KK := KK.trans K77 (allS (Or.inl (by simp)) all0)
        obtain ⟨F88, F89, F90, F91, F92⟩ := F81
        show Go _ _ _ _ _ _ h76 [d78, x, b] 1 34 24 #[.val (.ref x), .val (.ref y), .val (.int ds.length.toInt32)] []
        have szK93 := K77.1
        refine Go.aloadN H d13_24 rfl rfl rfl ?_
        refine Go.aloadN H d13_25 rfl rfl rfl ?_
        refine Go.getfield H d13_26 rfl w85 F91 ?_
        refine Go.aloadN H d13_29 rfl rfl rfl ?_
        rw [List.append_assoc] at V82
        refine Go.callP (rest := []) 0 [(.int cs.length.toInt32), (.ref y)] H d13_30 rfl F88 w92 w94 w95 w93 w57 w96 pd_N32 (ct_pst01 l W x d78 y sb cs ds (pad ++ List.replicate 18 0) 34 h76 ⟨F88, F89, F90, F91, F92⟩ V82 (by rw [List.length_append, List.length_replicate]; omega) (by omega) (by omega) S zx z80 ne86 hL) (by simp) rfl rfl rfl (Nat.le_of_eq rfl) (by decide) (by decide) (by decide) (by decide) nh_N15 ?_
        rintro _ h94 _ ⟨rfl, K95, d96, q97, z98, F99, V100, rfl⟩
        have ne101 : x ≠ d96 := q97.elim (fun e => e ▸ ne83) (fun g => Nat.ne_of_lt (Nat.lt_of_lt_of_le F88.lt g))
        have ne102 : y ≠ d96 := q97.elim (fun e => e ▸ ne85) (fun g => Nat.ne_of_lt (Nat.lt_of_lt_of_le S.lt g))
        have ne103 : sb ≠ d96 := q97.elim (fun e => e ▸ ne86) (fun g => Nat.ne_of_lt (Nat.lt_of_lt_of_le S.ltb g))
        replace Fb := Fb.keep K95 (ninS hbx (ninS ne84 nin0))
        replace S := S.keep K95 (ninS (Ne.symm hxy) (ninS ne85 nin0)) (ninS hxs (ninS ne86 nin0))
        replace KK := KK.trans K95 (allS (Or.inl (by simp)) (allS (Or.inr sz87) all0))
        obtain ⟨F104, F105, F106, F107, F108⟩ := F99
        show Go _ _ _ _ _ _ h94 [d96, d78, x, b] 2 102 33 #[.val (.ref x), .val (.ref y), .val (.int ds.length.toInt32)] []
        refine Go.aloadN H d13_33 rfl rfl rfl ?_
        refine Go.dup H d13_34 rfl rfl ?_
        refine Go.getfield H d13_35 rfl w85 F107 ?_
        refine Go.iloadN H d13_38 rfl rfl ?_
        refine Go.iadd H d13_39 rfl ?_
        rw [own_add]
        refine Go.putfield (v := (.int (cs.length + ds.length).toInt32)) H d13_40 rfl w85 F107 F104 (Or.inl w86) w48 (ty := .int) (by decide) rfl rfl zx (by simp) ?_
        intro h109 Wr110
        have F111 := F107.same Wr110
        have K112 := Keep.of_wr Wr110
        replace Fb := Fb.keep K112 (ninS hbx nin0)
        replace S := S.keep K112 (ninS (Ne.symm hxy) nin0) (ninS hxs nin0)
        replace F104 := F104.wr Wr110
        replace F105 := F105.other Wr110 (Or.inr (own_sne W.1.1 (Or.inl w62) (Or.inl w86) (by decide) (t := (.array .byte)) (t' := .int) (by decide) (by decide)))
        replace F106 := F106.other Wr110 (Or.inr (own_sne W.1.1 (Or.inl w64) (Or.inl w86) (by decide) (t := .byte) (t' := .int) (by decide) (by decide)))
        replace F108 := F108.other Wr110 (Or.inr (own_sne W.1.1 (Or.inl w243) (Or.inl w86) (by decide) (t := .boolean) (t' := .int) (by decide) (by decide)))
        replace V100 := V100.keep K112 (ninS (Ne.symm ne101) nin0)
        replace KK := KK.wr Wr110 (Or.inl (by simp))
        refine Go.aloadN H d13_43 rfl rfl rfl ?_
        exact Go.areturn [d96] H d13_44 rfl rfl (own_narR rfl) ⟨rfl, KK, d96, 34, (Or.inr (q97.elim (fun e => e ▸ g79) (fun g => Nat.le_trans szK93 g))), z98, Or.inr ⟨by rw [List.length_append]; exact ⟨F104, F105, F106, F111, F108⟩, ⟨_, V100, (by simp only [List.length_append, List.length_drop, List.length_replicate]; omega)⟩, fun c m => (List.mem_append.mp m).elim (fun m => (hL c m).c) (hSC c), (by obtain ⟨c, m, e⟩ := S.2.2.2.2.2.2; exact ⟨c, List.mem_append.mpr (Or.inr m), e⟩)⟩, (Or.inr rfl), (by rw [List.length_append]; omega), rfl⟩ (by simp) (by decide) (by decide)
  ·
    rcases S with S | S
    ·
      obtain ⟨A, Fv, Fc, Fn, Fm⟩ := F
      have KK : Keep h h [x, b] := Keep.refl _ _
      have hbx : b ≠ x := Vec.neExa Fb A W.1.1 w48
      have hxy : x ≠ y := Exa.ne A S.1 (by decide)
      have hby : b ≠ y := Vec.neExa Fb S.1 W.1.1 w5
      have hxs : sb ≠ x := Vec.neExa S.2.2.2.1 A W.1.1 w48
      refine Go.aloadN H d13_0 rfl rfl rfl ?_
      refine Go.ifnonnullY (pc' := 9) H d13_1 (by decide) (by decide) ?_
      refine Go.aloadN H d13_9 rfl rfl rfl ?_
      refine Go.callV (rest := []) 0 [] H d13_10 rfl S.1 w75 w76 w78 w77 w6 w79 pd_N12 (ct_len l W y sb ds h (Or.inl S)) all0 rfl rfl rfl (Nat.le_of_eq rfl) (by decide) (by decide) (by decide) (by decide) nh_N9 ?_
      rintro _ _ _ ⟨rfl, rfl, rfl⟩
      show Go _ _ _ _ _ _ h [x, b] 0 0 13 #[.val (.ref x), .val (.ref y), .unset] [(.int ds.length.toInt32)]
      refine Go.istoreN (ls' := #[.val (.ref x), .val (.ref y), .val (.int ds.length.toInt32)]) H d13_13 rfl rfl ?_
      refine Go.aloadN H d13_14 rfl rfl rfl ?_
      refine Go.aloadN H d13_15 rfl rfl rfl ?_
      refine Go.getfield H d13_16 rfl w85 Fn ?_
      refine Go.iloadN H d13_19 rfl rfl ?_
      refine Go.iadd H d13_20 rfl ?_
      rw [own_add]
      by_cases hf : cs.length + ds.length ≤ cap
      ·
        refine Go.callP (rest := []) 0 [(.int (cs.length + ds.length).toInt32)] H d13_21 rfl A w87 w89 w90 w88 w57 w91 pd_N21 (ct_ecf1 l W x b _ _ _ cap h ⟨A, Fv, Fc, Fn, Fm⟩ Fb (by rw [List.length_append, enc16_len]; exact hcap) hf (by omega)) all0 rfl rfl rfl (Nat.le_of_eq rfl) (by decide) (by decide) (by decide) (by decide) nh_N15 ?_
        rintro _ _ _ ⟨rfl, rfl, rfl⟩
        show Go _ _ _ _ _ _ h [x, b] 0 0 24 #[.val (.ref x), .val (.ref y), .val (.int ds.length.toInt32)] []
        refine Go.aloadN H d13_24 rfl rfl rfl ?_
        refine Go.aloadN H d13_25 rfl rfl rfl ?_
        refine Go.getfield H d13_26 rfl w85 Fn ?_
        refine Go.aloadN H d13_29 rfl rfl rfl ?_
        refine Go.callP (rest := []) 0 [(.int cs.length.toInt32), (.ref y)] H d13_30 rfl A w92 w94 w95 w93 w57 w96 pd_N32 (ct_pst10 l W x b y sb cs ds pad cap h ⟨A, Fv, Fc, Fn, Fm⟩ Fb hcap (by omega) hf S zx zb hne) (by simp) rfl rfl rfl (Nat.le_of_eq rfl) (by decide) (by decide) (by decide) (by decide) nh_N15 ?_
        rintro _ h113 _ ⟨rfl, K114, d115, q116, z117, F118, V119, rfl⟩
        have ne120 : x ≠ d115 := q116.elim (fun e => e ▸ (Ne.symm hbx)) (fun g => Nat.ne_of_lt (Nat.lt_of_lt_of_le A.lt g))
        have ne121 : y ≠ d115 := q116.elim (fun e => e ▸ (Ne.symm hby)) (fun g => Nat.ne_of_lt (Nat.lt_of_lt_of_le S.lt g))
        have ne122 : sb ≠ d115 := q116.elim (fun e => e ▸ hne) (fun g => Nat.ne_of_lt (Nat.lt_of_lt_of_le S.ltb g))
        replace S := S.keep K114 (ninS (Ne.symm hxy) (ninS (Ne.symm hby) nin0)) (ninS hxs (ninS hne nin0))
        replace KK := KK.trans K114 (allS (Or.inl (by simp)) (allS (Or.inl (by simp)) all0))
        obtain ⟨F123, F124, F125, F126, F127⟩ := F118
        show Go _ _ _ _ _ _ h113 [d115, x, b] 0 0 33 #[.val (.ref x), .val (.ref y), .val (.int ds.length.toInt32)] []
        refine Go.aloadN H d13_33 rfl rfl rfl ?_
        refine Go.dup H d13_34 rfl rfl ?_
        refine Go.getfield H d13_35 rfl w85 F126 ?_
        refine Go.iloadN H d13_38 rfl rfl ?_
        refine Go.iadd H d13_39 rfl ?_
        rw [own_add]
        refine Go.putfield (v := (.int (cs.length + ds.length).toInt32)) H d13_40 rfl w85 F126 F123 (Or.inl w86) w48 (ty := .int) (by decide) rfl rfl zx (by simp) ?_
        intro h128 Wr129
        have F130 := F126.same Wr129
        have K131 := Keep.of_wr Wr129
        replace S := S.keep K131 (ninS (Ne.symm hxy) nin0) (ninS hxs nin0)
        replace F123 := F123.wr Wr129
        replace F124 := F124.other Wr129 (Or.inr (own_sne W.1.1 (Or.inl w62) (Or.inl w86) (by decide) (t := (.array .byte)) (t' := .int) (by decide) (by decide)))
        replace F125 := F125.other Wr129 (Or.inr (own_sne W.1.1 (Or.inl w64) (Or.inl w86) (by decide) (t := .byte) (t' := .int) (by decide) (by decide)))
        replace F127 := F127.other Wr129 (Or.inr (own_sne W.1.1 (Or.inl w243) (Or.inl w86) (by decide) (t := .boolean) (t' := .int) (by decide) (by decide)))
        replace V119 := V119.keep K131 (ninS (Ne.symm ne120) nin0)
        replace KK := KK.wr Wr129 (Or.inl (by simp))
        refine Go.aloadN H d13_43 rfl rfl rfl ?_
        exact Go.areturn [d115] H d13_44 rfl rfl (own_narR rfl) ⟨rfl, KK, d115, cap, q116, z117, Or.inr ⟨by rw [List.length_append]; exact ⟨F123, F124, F125, F130, F127⟩, ⟨_, V119, (by simp only [List.length_append, List.length_drop, List.length_replicate]; omega)⟩, fun c m => (List.mem_append.mp m).elim (hC c) (hSC c), (by obtain ⟨c, m, e⟩ := hX; exact ⟨c, List.mem_append.mpr (Or.inl m), e⟩)⟩, hcap0, (by rw [List.length_append]; omega), rfl⟩ (by simp) (by decide) (by decide)
      ·
        obtain rfl : cap = 16 := by omega
        refine Go.callP (rest := []) 0 [(.int (cs.length + ds.length).toInt32)] H d13_21 rfl A w87 w89 w90 w88 w57 w91 pd_N21 (ct_ecg1 l W x b _ _ _ h ⟨A, Fv, Fc, Fn, Fm⟩ Fb (by rw [List.length_append, enc16_len]; exact hcap) (by omega) (by omega) zx) (by simp) rfl rfl rfl (Nat.le_of_eq rfl) (by decide) (by decide) (by decide) (by decide) nh_N15 ?_
        rintro _ h132 _ ⟨rfl, K133, d134, g135, z136, F137, V138, rfl⟩
        have ne139 : x ≠ d134 := Nat.ne_of_lt (Nat.lt_of_lt_of_le A.lt g135)
        have ne140 : b ≠ d134 := Nat.ne_of_lt (Nat.lt_of_lt_of_le Fb.lt g135)
        have ne141 : y ≠ d134 := Nat.ne_of_lt (Nat.lt_of_lt_of_le S.lt g135)
        have ne142 : sb ≠ d134 := Nat.ne_of_lt (Nat.lt_of_lt_of_le S.ltb g135)
        have sz143 := Nat.le_trans KK.1 g135
        replace Fb := Fb.keep K133 (ninS hbx nin0)
        replace S := S.keep K133 (ninS (Ne.symm hxy) nin0) (ninS hxs nin0)
        replace KK := KK.trans K133 (allS (Or.inl (by simp)) all0)
        obtain ⟨F144, F145, F146, F147, F148⟩ := F137
        show Go _ _ _ _ _ _ h132 [d134, x, b] 1 68 24 #[.val (.ref x), .val (.ref y), .val (.int ds.length.toInt32)] []
        have szK149 := K133.1
        refine Go.aloadN H d13_24 rfl rfl rfl ?_
        refine Go.aloadN H d13_25 rfl rfl rfl ?_
        refine Go.getfield H d13_26 rfl w85 F147 ?_
        refine Go.aloadN H d13_29 rfl rfl rfl ?_
        rw [List.append_assoc] at V138
        refine Go.callP (rest := []) 0 [(.int cs.length.toInt32), (.ref y)] H d13_30 rfl F144 w92 w94 w95 w93 w57 w96 pd_N32 (ct_pst10 l W x d134 y sb cs ds (pad ++ List.replicate 36 0) 34 h132 ⟨F144, F145, F146, F147, F148⟩ V138 (by rw [List.length_append, List.length_replicate]; omega) (by omega) (by omega) S zx z136 ne142) (by simp) rfl rfl rfl (Nat.le_of_eq rfl) (by decide) (by decide) (by decide) (by decide) nh_N15 ?_
        rintro _ h150 _ ⟨rfl, K151, d152, q153, z154, F155, V156, rfl⟩
        have ne157 : x ≠ d152 := q153.elim (fun e => e ▸ ne139) (fun g => Nat.ne_of_lt (Nat.lt_of_lt_of_le F144.lt g))
        have ne158 : y ≠ d152 := q153.elim (fun e => e ▸ ne141) (fun g => Nat.ne_of_lt (Nat.lt_of_lt_of_le S.lt g))
        have ne159 : sb ≠ d152 := q153.elim (fun e => e ▸ ne142) (fun g => Nat.ne_of_lt (Nat.lt_of_lt_of_le S.ltb g))
        replace Fb := Fb.keep K151 (ninS hbx (ninS ne140 nin0))
        replace S := S.keep K151 (ninS (Ne.symm hxy) (ninS ne141 nin0)) (ninS hxs (ninS ne142 nin0))
        replace KK := KK.trans K151 (allS (Or.inl (by simp)) (allS (Or.inr sz143) all0))
        obtain ⟨F160, F161, F162, F163, F164⟩ := F155
        show Go _ _ _ _ _ _ h150 [d152, d134, x, b] 1 68 33 #[.val (.ref x), .val (.ref y), .val (.int ds.length.toInt32)] []
        refine Go.aloadN H d13_33 rfl rfl rfl ?_
        refine Go.dup H d13_34 rfl rfl ?_
        refine Go.getfield H d13_35 rfl w85 F163 ?_
        refine Go.iloadN H d13_38 rfl rfl ?_
        refine Go.iadd H d13_39 rfl ?_
        rw [own_add]
        refine Go.putfield (v := (.int (cs.length + ds.length).toInt32)) H d13_40 rfl w85 F163 F160 (Or.inl w86) w48 (ty := .int) (by decide) rfl rfl zx (by simp) ?_
        intro h165 Wr166
        have F167 := F163.same Wr166
        have K168 := Keep.of_wr Wr166
        replace Fb := Fb.keep K168 (ninS hbx nin0)
        replace S := S.keep K168 (ninS (Ne.symm hxy) nin0) (ninS hxs nin0)
        replace F160 := F160.wr Wr166
        replace F161 := F161.other Wr166 (Or.inr (own_sne W.1.1 (Or.inl w62) (Or.inl w86) (by decide) (t := (.array .byte)) (t' := .int) (by decide) (by decide)))
        replace F162 := F162.other Wr166 (Or.inr (own_sne W.1.1 (Or.inl w64) (Or.inl w86) (by decide) (t := .byte) (t' := .int) (by decide) (by decide)))
        replace F164 := F164.other Wr166 (Or.inr (own_sne W.1.1 (Or.inl w243) (Or.inl w86) (by decide) (t := .boolean) (t' := .int) (by decide) (by decide)))
        replace V156 := V156.keep K168 (ninS (Ne.symm ne157) nin0)
        replace KK := KK.wr Wr166 (Or.inl (by simp))
        refine Go.aloadN H d13_43 rfl rfl rfl ?_
        exact Go.areturn [d152] H d13_44 rfl rfl (own_narR rfl) ⟨rfl, KK, d152, 34, (Or.inr (q153.elim (fun e => e ▸ g135) (fun g => Nat.le_trans szK149 g))), z154, Or.inr ⟨by rw [List.length_append]; exact ⟨F160, F161, F162, F167, F164⟩, ⟨_, V156, (by simp only [List.length_append, List.length_drop, List.length_replicate]; omega)⟩, fun c m => (List.mem_append.mp m).elim (hC c) (hSC c), (by obtain ⟨c, m, e⟩ := hX; exact ⟨c, List.mem_append.mpr (Or.inl m), e⟩)⟩, (Or.inr rfl), (by rw [List.length_append]; omega), rfl⟩ (by simp) (by decide) (by decide)
    ·
      obtain ⟨A, Fv, Fc, Fn, Fm⟩ := F
      have KK : Keep h h [x, b] := Keep.refl _ _
      have hbx : b ≠ x := Vec.neExa Fb A W.1.1 w48
      have hxy : x ≠ y := Exa.ne A S.1 (by decide)
      have hby : b ≠ y := Vec.neExa Fb S.1 W.1.1 w5
      have hxs : sb ≠ x := Vec.neExa S.2.2.2.1 A W.1.1 w48
      refine Go.aloadN H d13_0 rfl rfl rfl ?_
      refine Go.ifnonnullY (pc' := 9) H d13_1 (by decide) (by decide) ?_
      refine Go.aloadN H d13_9 rfl rfl rfl ?_
      refine Go.callV (rest := []) 0 [] H d13_10 rfl S.1 w75 w76 w78 w77 w6 w79 pd_N12 (ct_len l W y sb ds h (Or.inr S)) all0 rfl rfl rfl (Nat.le_of_eq rfl) (by decide) (by decide) (by decide) (by decide) nh_N9 ?_
      rintro _ _ _ ⟨rfl, rfl, rfl⟩
      show Go _ _ _ _ _ _ h [x, b] 0 0 13 #[.val (.ref x), .val (.ref y), .unset] [(.int ds.length.toInt32)]
      refine Go.istoreN (ls' := #[.val (.ref x), .val (.ref y), .val (.int ds.length.toInt32)]) H d13_13 rfl rfl ?_
      refine Go.aloadN H d13_14 rfl rfl rfl ?_
      refine Go.aloadN H d13_15 rfl rfl rfl ?_
      refine Go.getfield H d13_16 rfl w85 Fn ?_
      refine Go.iloadN H d13_19 rfl rfl ?_
      refine Go.iadd H d13_20 rfl ?_
      rw [own_add]
      by_cases hf : cs.length + ds.length ≤ cap
      ·
        refine Go.callP (rest := []) 0 [(.int (cs.length + ds.length).toInt32)] H d13_21 rfl A w87 w89 w90 w88 w57 w91 pd_N21 (ct_ecf1 l W x b _ _ _ cap h ⟨A, Fv, Fc, Fn, Fm⟩ Fb (by rw [List.length_append, enc16_len]; exact hcap) hf (by omega)) all0 rfl rfl rfl (Nat.le_of_eq rfl) (by decide) (by decide) (by decide) (by decide) nh_N15 ?_
        rintro _ _ _ ⟨rfl, rfl, rfl⟩
        show Go _ _ _ _ _ _ h [x, b] 0 0 24 #[.val (.ref x), .val (.ref y), .val (.int ds.length.toInt32)] []
        refine Go.aloadN H d13_24 rfl rfl rfl ?_
        refine Go.aloadN H d13_25 rfl rfl rfl ?_
        refine Go.getfield H d13_26 rfl w85 Fn ?_
        refine Go.aloadN H d13_29 rfl rfl rfl ?_
        refine Go.callP (rest := []) 0 [(.int cs.length.toInt32), (.ref y)] H d13_30 rfl A w92 w94 w95 w93 w57 w96 pd_N32 (ct_pst11 l W x b y sb cs ds pad cap h ⟨A, Fv, Fc, Fn, Fm⟩ Fb hcap (by omega) hf S zx zb hne) (by simp) rfl rfl rfl (Nat.le_of_eq rfl) (by decide) (by decide) (by decide) (by decide) nh_N15 ?_
        rintro _ h169 _ ⟨rfl, K170, d171, q172, z173, F174, V175, rfl⟩
        have ne176 : x ≠ d171 := q172.elim (fun e => e ▸ (Ne.symm hbx)) (fun g => Nat.ne_of_lt (Nat.lt_of_lt_of_le A.lt g))
        have ne177 : y ≠ d171 := q172.elim (fun e => e ▸ (Ne.symm hby)) (fun g => Nat.ne_of_lt (Nat.lt_of_lt_of_le S.lt g))
        have ne178 : sb ≠ d171 := q172.elim (fun e => e ▸ hne) (fun g => Nat.ne_of_lt (Nat.lt_of_lt_of_le S.ltb g))
        replace S := S.keep K170 (ninS (Ne.symm hxy) (ninS (Ne.symm hby) nin0)) (ninS hxs (ninS hne nin0))
        replace KK := KK.trans K170 (allS (Or.inl (by simp)) (allS (Or.inl (by simp)) all0))
        obtain ⟨F179, F180, F181, F182, F183⟩ := F174
        show Go _ _ _ _ _ _ h169 [d171, x, b] 0 0 33 #[.val (.ref x), .val (.ref y), .val (.int ds.length.toInt32)] []
        refine Go.aloadN H d13_33 rfl rfl rfl ?_
        refine Go.dup H d13_34 rfl rfl ?_
        refine Go.getfield H d13_35 rfl w85 F182 ?_
        refine Go.iloadN H d13_38 rfl rfl ?_
        refine Go.iadd H d13_39 rfl ?_
        rw [own_add]
        refine Go.putfield (v := (.int (cs.length + ds.length).toInt32)) H d13_40 rfl w85 F182 F179 (Or.inl w86) w48 (ty := .int) (by decide) rfl rfl zx (by simp) ?_
        intro h184 Wr185
        have F186 := F182.same Wr185
        have K187 := Keep.of_wr Wr185
        replace S := S.keep K187 (ninS (Ne.symm hxy) nin0) (ninS hxs nin0)
        replace F179 := F179.wr Wr185
        replace F180 := F180.other Wr185 (Or.inr (own_sne W.1.1 (Or.inl w62) (Or.inl w86) (by decide) (t := (.array .byte)) (t' := .int) (by decide) (by decide)))
        replace F181 := F181.other Wr185 (Or.inr (own_sne W.1.1 (Or.inl w64) (Or.inl w86) (by decide) (t := .byte) (t' := .int) (by decide) (by decide)))
        replace F183 := F183.other Wr185 (Or.inr (own_sne W.1.1 (Or.inl w243) (Or.inl w86) (by decide) (t := .boolean) (t' := .int) (by decide) (by decide)))
        replace V175 := V175.keep K187 (ninS (Ne.symm ne176) nin0)
        replace KK := KK.wr Wr185 (Or.inl (by simp))
        refine Go.aloadN H d13_43 rfl rfl rfl ?_
        exact Go.areturn [d171] H d13_44 rfl rfl (own_narR rfl) ⟨rfl, KK, d171, cap, q172, z173, Or.inr ⟨by rw [List.length_append]; exact ⟨F179, F180, F181, F186, F183⟩, ⟨_, V175, (by simp only [List.length_append, List.length_drop, List.length_replicate]; omega)⟩, fun c m => (List.mem_append.mp m).elim (hC c) (hSC c), (by obtain ⟨c, m, e⟩ := hX; exact ⟨c, List.mem_append.mpr (Or.inl m), e⟩)⟩, hcap0, (by rw [List.length_append]; omega), rfl⟩ (by simp) (by decide) (by decide)
      ·
        obtain rfl : cap = 16 := by omega
        refine Go.callP (rest := []) 0 [(.int (cs.length + ds.length).toInt32)] H d13_21 rfl A w87 w89 w90 w88 w57 w91 pd_N21 (ct_ecg1 l W x b _ _ _ h ⟨A, Fv, Fc, Fn, Fm⟩ Fb (by rw [List.length_append, enc16_len]; exact hcap) (by omega) (by omega) zx) (by simp) rfl rfl rfl (Nat.le_of_eq rfl) (by decide) (by decide) (by decide) (by decide) nh_N15 ?_
        rintro _ h188 _ ⟨rfl, K189, d190, g191, z192, F193, V194, rfl⟩
        have ne195 : x ≠ d190 := Nat.ne_of_lt (Nat.lt_of_lt_of_le A.lt g191)
        have ne196 : b ≠ d190 := Nat.ne_of_lt (Nat.lt_of_lt_of_le Fb.lt g191)
        have ne197 : y ≠ d190 := Nat.ne_of_lt (Nat.lt_of_lt_of_le S.lt g191)
        have ne198 : sb ≠ d190 := Nat.ne_of_lt (Nat.lt_of_lt_of_le S.ltb g191)
        have sz199 := Nat.le_trans KK.1 g191
        replace Fb := Fb.keep K189 (ninS hbx nin0)
        replace S := S.keep K189 (ninS (Ne.symm hxy) nin0) (ninS hxs nin0)
        replace KK := KK.trans K189 (allS (Or.inl (by simp)) all0)
        obtain ⟨F200, F201, F202, F203, F204⟩ := F193
        show Go _ _ _ _ _ _ h188 [d190, x, b] 1 68 24 #[.val (.ref x), .val (.ref y), .val (.int ds.length.toInt32)] []
        have szK205 := K189.1
        refine Go.aloadN H d13_24 rfl rfl rfl ?_
        refine Go.aloadN H d13_25 rfl rfl rfl ?_
        refine Go.getfield H d13_26 rfl w85 F203 ?_
        refine Go.aloadN H d13_29 rfl rfl rfl ?_
        rw [List.append_assoc] at V194
        refine Go.callP (rest := []) 0 [(.int cs.length.toInt32), (.ref y)] H d13_30 rfl F200 w92 w94 w95 w93 w57 w96 pd_N32 (ct_pst11 l W x d190 y sb cs ds (pad ++ List.replicate 36 0) 34 h188 ⟨F200, F201, F202, F203, F204⟩ V194 (by rw [List.length_append, List.length_replicate]; omega) (by omega) (by omega) S zx z192 ne198) (by simp) rfl rfl rfl (Nat.le_of_eq rfl) (by decide) (by decide) (by decide) (by decide) nh_N15 ?_
        rintro _ h206 _ ⟨rfl, K207, d208, q209, z210, F211, V212, rfl⟩
        have ne213 : x ≠ d208 := q209.elim (fun e => e ▸ ne195) (fun g => Nat.ne_of_lt (Nat.lt_of_lt_of_le F200.lt g))
        have ne214 : y ≠ d208 := q209.elim (fun e => e ▸ ne197) (fun g => Nat.ne_of_lt (Nat.lt_of_lt_of_le S.lt g))
        have ne215 : sb ≠ d208 := q209.elim (fun e => e ▸ ne198) (fun g => Nat.ne_of_lt (Nat.lt_of_lt_of_le S.ltb g))
        replace Fb := Fb.keep K207 (ninS hbx (ninS ne196 nin0))
        replace S := S.keep K207 (ninS (Ne.symm hxy) (ninS ne197 nin0)) (ninS hxs (ninS ne198 nin0))
        replace KK := KK.trans K207 (allS (Or.inl (by simp)) (allS (Or.inr sz199) all0))
        obtain ⟨F216, F217, F218, F219, F220⟩ := F211
        show Go _ _ _ _ _ _ h206 [d208, d190, x, b] 1 68 33 #[.val (.ref x), .val (.ref y), .val (.int ds.length.toInt32)] []
        refine Go.aloadN H d13_33 rfl rfl rfl ?_
        refine Go.dup H d13_34 rfl rfl ?_
        refine Go.getfield H d13_35 rfl w85 F219 ?_
        refine Go.iloadN H d13_38 rfl rfl ?_
        refine Go.iadd H d13_39 rfl ?_
        rw [own_add]
        refine Go.putfield (v := (.int (cs.length + ds.length).toInt32)) H d13_40 rfl w85 F219 F216 (Or.inl w86) w48 (ty := .int) (by decide) rfl rfl zx (by simp) ?_
        intro h221 Wr222
        have F223 := F219.same Wr222
        have K224 := Keep.of_wr Wr222
        replace Fb := Fb.keep K224 (ninS hbx nin0)
        replace S := S.keep K224 (ninS (Ne.symm hxy) nin0) (ninS hxs nin0)
        replace F216 := F216.wr Wr222
        replace F217 := F217.other Wr222 (Or.inr (own_sne W.1.1 (Or.inl w62) (Or.inl w86) (by decide) (t := (.array .byte)) (t' := .int) (by decide) (by decide)))
        replace F218 := F218.other Wr222 (Or.inr (own_sne W.1.1 (Or.inl w64) (Or.inl w86) (by decide) (t := .byte) (t' := .int) (by decide) (by decide)))
        replace F220 := F220.other Wr222 (Or.inr (own_sne W.1.1 (Or.inl w243) (Or.inl w86) (by decide) (t := .boolean) (t' := .int) (by decide) (by decide)))
        replace V212 := V212.keep K224 (ninS (Ne.symm ne213) nin0)
        replace KK := KK.wr Wr222 (Or.inl (by simp))
        refine Go.aloadN H d13_43 rfl rfl rfl ?_
        exact Go.areturn [d208] H d13_44 rfl rfl (own_narR rfl) ⟨rfl, KK, d208, 34, (Or.inr (q209.elim (fun e => e ▸ g191) (fun g => Nat.le_trans szK205 g))), z210, Or.inr ⟨by rw [List.length_append]; exact ⟨F216, F217, F218, F223, F220⟩, ⟨_, V212, (by simp only [List.length_append, List.length_drop, List.length_replicate]; omega)⟩, fun c m => (List.mem_append.mp m).elim (hC c) (hSC c), (by obtain ⟨c, m, e⟩ := hX; exact ⟨c, List.mem_append.mpr (Or.inl m), e⟩)⟩, (Or.inr rfl), (by rw [List.length_append]; omega), rfl⟩ (by simp) (by decide) (by decide)
theorem Sbg.ne {Z : State} {h : Heap} {x b : Addr} {cap kk : Nat} {cs : List Int32} (F : Sbg Z h x b cap cs) (W : Wds Z) (wi : Jvm.Cond.instantiable "java/lang/StringBuilder" kk ∈ tables_1) : b ≠ x := by
  rcases F with ⟨f, ⟨p, V, -⟩, -⟩ | ⟨f, ⟨p, V, -⟩, -⟩ <;> exact Vec.neExa V f.1 W wi
theorem Sbg.neStr {Z : State} {h : Heap} {x b y sb : Addr} {cap kk : Nat} {cs ds : List Int32} (F : Sbg Z h x b cap cs) (S : Stg Z h y sb ds) (W : Wds Z) (wi : Jvm.Cond.instantiable "java/lang/String" kk ∈ tables_1) : b ≠ y := by
  rcases F with ⟨f, ⟨p, V, -⟩, -⟩ | ⟨f, ⟨p, V, -⟩, -⟩ <;> exact Vec.neExa V S.exa W wi
theorem Stg.neSb {Z : State} {h : Heap} {x b y sb : Addr} {cap kk : Nat} {cs ds : List Int32} (S : Stg Z h y sb ds) (F : Sbg Z h x b cap cs) (W : Wds Z) (wi : Jvm.Cond.instantiable "java/lang/StringBuilder" kk ∈ tables_1) : sb ≠ x := by
  rcases S with S | S <;> exact Vec.neExa S.2.2.2.1 F.exa W wi
theorem d12_0 : decode jdk_67_method_7_code 0 = .ok (.aload_n 0, 1) := by decide +kernel
theorem d12_1 : decode jdk_67_method_7_code 1 = .ok (.aload_n 1, 1) := by decide +kernel
theorem d12_2 : decode jdk_67_method_7_code 2 = .ok (.invokespecial 29, 3) := by decide +kernel
theorem w74 : Jvm.Cond.code N33 jdk_68_method_22_code (3 : Nat) (Option.some (Jvm.ClassFile.FieldType.object "java/lang/AbstractStringBuilder")) ∈ tables_1 := List.mem_of_getElem? (i := 74) rfl
theorem pd_N33 : parseMethodDescriptor N33.desc = some ⟨[(.object "java/lang/String")], (some (.object "java/lang/AbstractStringBuilder"))⟩ := by decide +kernel
theorem w70 : Jvm.Cond.methodLink "java/lang/StringBuilder" (29 : Nat) N33 ∈ tables_1 := List.mem_of_getElem? (i := 70) rfl
theorem w72 : Jvm.Cond.superclass "java/lang/StringBuilder" "java/lang/AbstractStringBuilder" ∈ tables_1 := List.mem_of_getElem? (i := 72) rfl
theorem w71 : Jvm.Cond.instanceMethod N33 ∈ tables_1 := List.mem_of_getElem? (i := 71) rfl
theorem d12_5 : decode jdk_67_method_7_code 5 = .ok (.pop, 1) := by decide +kernel
theorem d12_6 : decode jdk_67_method_7_code 6 = .ok (.aload_n 0, 1) := by decide +kernel
theorem d12_7 : decode jdk_67_method_7_code 7 = .ok (.areturn, 1) := by decide +kernel
abbrev N34 : MethodName := ⟨"java/lang/StringBuilder", "append", "(Ljava/lang/String;)Ljava/lang/StringBuilder;"⟩

abbrev rm_sba : Room := { frames := 9, cells := 2, slots := 102, locals := 130 }
set_option maxRecDepth 65536 in
set_option maxHeartbeats 4000000 in
theorem ct_sba (l : Launch) {Z : State} {n0 : Nat} {z : Int32} {f : Value} (W : Sx Z z f) (x b y sb : Addr) (cs ds : List Int32) (cap : Nat) (h : Heap) (B : Sbg Z h x b cap cs) (hcap0 : cap = 16 ∨ cap = 34) (S : Stg Z h y sb ds) (htot : cs.length + ds.length ≤ 33) (zx : n0 ≤ x) (zb : n0 ≤ b) (hne : sb ≠ b) :
    Ctr l Z n0 N34 jdk_67_method_7_code 2 (some (.object "java/lang/StringBuilder")) rm_sba #[(.ref x), (.ref y)] h [x, b] (fun v h' sn => v = some (.ref x) ∧ Keep h h' [x, b] ∧ ∃ d cap', (d = b ∨ h.size ≤ d) ∧ n0 ≤ d ∧ Sbg Z h' x d cap' (cs ++ ds) ∧ (cap' = 16 ∨ cap' = 34) ∧ (cs ++ ds).length ≤ cap' ∧ sn = [d]) := by
  refine Ctr.of_go (ls := #[.val (.ref x), .val (.ref y)]) W.1.1 (plainFor_of_name pn_N16) (fun m => by first | (simp [entryFrame, mkF, argsToLocals, Value.category]; done) | rfl) (fun K H => ?_)
  have hbx : b ≠ x := B.ne W.1.1 w48
  have hyb : y ≠ b := Ne.symm (B.neStr S W.1.1 w5)
  have hyx : x ≠ y := Exa.ne B.exa S.exa (by decide)
  have hsx : sb ≠ x := S.neSb B W.1.1 w48
  refine Go.aloadN H d12_0 rfl rfl rfl ?_
  refine Go.aloadN H d12_1 rfl rfl rfl ?_
  refine Go.callU (y' := N21) (rest := []) 0 [(.ref y)] H d12_2 rfl B.exa (by decide) w70 ⟨rfl, w90, w88⟩ w72 w71 w57 w74 pd_N33 (ct_asba l W x b y sb cs ds cap h B hcap0 S htot zx zb hne) (by simp) rfl rfl rfl (Nat.le_of_eq rfl) (by decide) (by decide) (by decide) (by decide) nh_N15 ?_
  rintro _ h1 _ ⟨rfl, K2, d3, cp4, q5, z6, S7, hc8, hl9, rfl⟩
  have ne10 : y ≠ d3 := q5.elim (fun e => e ▸ hyb) (fun g => Nat.ne_of_lt (Nat.lt_of_lt_of_le S.lt g))
  have ne11 : sb ≠ d3 := q5.elim (fun e => e ▸ hne) (fun g => Nat.ne_of_lt (Nat.lt_of_lt_of_le S.ltb g))
  have ne12 : x ≠ d3 := q5.elim (fun e => e ▸ (Ne.symm hbx)) (fun g => Nat.ne_of_lt (Nat.lt_of_lt_of_le B.lt g))
  replace S := S.keep K2 (ninS (Ne.symm hyx) (ninS hyb nin0)) (ninS hsx (ninS hne nin0))
  show Go _ _ _ _ _ _ h1 [d3, x, b] 2 102 5 #[.val (.ref x), .val (.ref y)] [(.ref x)]
  refine Go.pop H d12_5 rfl rfl ?_
  refine Go.aloadN H d12_6 rfl rfl rfl ?_
  exact Go.areturn [d3] H d12_7 rfl rfl (own_narR rfl) ⟨rfl, K2, d3, cp4, q5, z6, S7, hc8, hl9, rfl⟩ (by simp) (by decide) (by decide)
theorem d23_0 : decode jdk_68_method_64_code 0 = .ok (.aload_n 0, 1) := by decide +kernel
theorem d23_1 : decode jdk_68_method_64_code 1 = .ok (.getfield 15, 3) := by decide +kernel
theorem d23_4 : decode jdk_68_method_64_code 4 = .ok (.areturn, 1) := by decide +kernel
abbrev N35 : MethodName := ⟨"java/lang/AbstractStringBuilder", "getValue", "()[B"⟩

abbrev rm_gval : Room := { frames := 0, cells := 0, slots := 0, locals := 0 }
set_option maxRecDepth 65536 in
set_option maxHeartbeats 4000000 in
theorem ct_gval (l : Launch) {Z : State} {n0 : Nat} {z : Int32} {f : Value} (W : Sx Z z f) (x b : Addr) (n t : Int32) (h : Heap) (F : SbF Z h x b t n) :
    Ctr l Z n0 N35 jdk_68_method_64_code 1 (some (.array .byte)) rm_gval #[(.ref x)] h [] (fun v h' sn => v = some (.ref b) ∧ h = h' ∧ sn = []) := by
  refine Ctr.of_go (ls := #[.val (.ref x)]) W.1.1 (plainFor_of_name pn_N15) (fun m => by first | (simp [entryFrame, mkF, argsToLocals, Value.category]; done) | rfl) (fun K H => ?_)
  obtain ⟨A, Fv, Fc, Fn, Fm⟩ := F
  refine Go.aloadN H d23_0 rfl rfl rfl ?_
  refine Go.getfield H d23_1 rfl w61 Fv ?_
  exact Go.areturn [] H d23_4 rfl rfl (own_narR rfl) ⟨rfl, rfl, rfl⟩ all0 (by decide) (by decide)
theorem d25_0 : decode jdk_68_method_6_code 0 = .ok (.aload_n 0, 1) := by decide +kernel
theorem d25_1 : decode jdk_68_method_6_code 1 = .ok (.getfield 79, 3) := by decide +kernel
theorem d25_4 : decode jdk_68_method_6_code 4 = .ok (.ireturn, 1) := by decide +kernel
abbrev N36 : MethodName := ⟨"java/lang/AbstractStringBuilder", "length", "()I"⟩

abbrev rm_aln : Room := { frames := 0, cells := 0, slots := 0, locals := 0 }
set_option maxRecDepth 65536 in
set_option maxHeartbeats 4000000 in
theorem ct_aln (l : Launch) {Z : State} {n0 : Nat} {z : Int32} {f : Value} (W : Sx Z z f) (x b : Addr) (n t : Int32) (h : Heap) (F : SbF Z h x b t n) :
    Ctr l Z n0 N36 jdk_68_method_6_code 1 (some .int) rm_aln #[(.ref x)] h [] (fun v h' sn => v = some (.int n) ∧ h = h' ∧ sn = []) := by
  refine Ctr.of_go (ls := #[.val (.ref x)]) W.1.1 (plainFor_of_name pn_N15) (fun m => by first | (simp [entryFrame, mkF, argsToLocals, Value.category]; done) | rfl) (fun K H => ?_)
  have F0 := F
  obtain ⟨A, Fv, Fc, Fn, Fm⟩ := F
  refine Go.aloadN H d25_0 rfl rfl rfl ?_
  refine Go.getfield H d25_1 rfl w85 Fn ?_
  exact Go.ireturnI [] H d25_4 ⟨rfl, rfl, rfl⟩ all0 (by decide) (by decide)
theorem d24_0 : decode jdk_67_method_93_code 0 = .ok (.aload_n 0, 1) := by decide +kernel
theorem d24_1 : decode jdk_67_method_93_code 1 = .ok (.invokespecial 343, 3) := by decide +kernel
theorem w137 : Jvm.Cond.code N36 jdk_68_method_6_code (1 : Nat) (Option.some Jvm.ClassFile.FieldType.int) ∈ tables_1 := List.mem_of_getElem? (i := 137) rfl
theorem pd_N36 : parseMethodDescriptor N36.desc = some ⟨[], (some .int)⟩ := by decide +kernel
theorem w136 : Jvm.Cond.methodLink "java/lang/StringBuilder" (343 : Nat) N36 ∈ tables_1 := List.mem_of_getElem? (i := 136) rfl
theorem w132 : Jvm.Cond.instanceMethod N36 ∈ tables_1 := List.mem_of_getElem? (i := 132) rfl
theorem d24_4 : decode jdk_67_method_93_code 4 = .ok (.ireturn, 1) := by decide +kernel
abbrev N37 : MethodName := ⟨"java/lang/StringBuilder", "length", "()I"⟩

abbrev rm_bln : Room := { frames := 1, cells := 0, slots := 0, locals := 12 }
set_option maxRecDepth 65536 in
set_option maxHeartbeats 4000000 in
theorem ct_bln (l : Launch) {Z : State} {n0 : Nat} {z : Int32} {f : Value} (W : Sx Z z f) (x b : Addr) (n t : Int32) (h : Heap) (F : SbF Z h x b t n) :
    Ctr l Z n0 N37 jdk_67_method_93_code 1 (some .int) rm_bln #[(.ref x)] h [] (fun v h' sn => v = some (.int n) ∧ h = h' ∧ sn = []) := by
  refine Ctr.of_go (ls := #[.val (.ref x)]) W.1.1 (plainFor_of_name pn_N16) (fun m => by first | (simp [entryFrame, mkF, argsToLocals, Value.category]; done) | rfl) (fun K H => ?_)
  have F0 := F
  obtain ⟨A, Fv, Fc, Fn, Fm⟩ := F
  refine Go.aloadN H d24_0 rfl rfl rfl ?_
  refine Go.callU (y' := N21) (rest := []) 0 [] H d24_1 rfl A (by decide) w136 ⟨rfl, w90, w88⟩ w72 w132 w57 w137 pd_N36 (ct_aln l W x b n t h F0) all0 rfl rfl rfl (Nat.le_of_eq rfl) (by decide) (by decide) (by decide) (by decide) nh_N15 ?_
  rintro _ _ _ ⟨rfl, rfl, rfl⟩
  show Go _ _ _ _ _ _ h [] 0 0 4 #[.val (.ref x)] [(.int n)]
  exact Go.ireturnI [] H d24_4 ⟨rfl, rfl, rfl⟩ all0 (by decide) (by decide)
theorem d29_0 : decode jdk_65_method_131_code 0 = .ok (.iload_n 1, 1) := by decide +kernel
theorem d29_1 : decode jdk_65_method_131_code 1 = .ok (.iload_n 0, 1) := by decide +kernel
theorem d29_2 : decode jdk_65_method_131_code 2 = .ok (.if_icmp .ge 35, 3) := by decide +kernel
theorem d29_37 : decode jdk_65_method_131_code 37 = .ok (.return_, 1) := by decide +kernel
abbrev N38 : MethodName := ⟨"java/util/Arrays", "checkLength", "(II)V"⟩

abbrev rm_ccl : Room := { frames := 0, cells := 0, slots := 0, locals := 0 }
set_option maxRecDepth 65536 in
set_option maxHeartbeats 4000000 in
theorem ct_ccl (l : Launch) {Z : State} {n0 : Nat} {z : Int32} {f : Value} (W : Sx Z z f) (n : Int32) (h : Heap) (h0 : ¬ n < 0) :
    Ctr l Z n0 N38 jdk_65_method_131_code 2 none rm_ccl #[(.int (0 : Int32)), (.int n)] h [] (fun v h' sn => v = none ∧ h = h' ∧ sn = []) := by
  refine Ctr.of_go (ls := #[.val (.int (0 : Int32)), .val (.int n)]) W.1.1 (plainFor_of_name pn_N19) (fun m => by first | (simp [entryFrame, mkF, argsToLocals, Value.category]; done) | rfl) (fun K H => ?_)
  refine Go.iloadN H d29_0 rfl rfl ?_
  refine Go.iloadN H d29_1 rfl rfl ?_
  refine Go.icmpY (pc' := 37) H d29_2 (flt h0).2.1 (by decide) (by decide) ?_
  exact Go.return_ [] H d29_37 ⟨rfl, rfl, rfl⟩ all0 (by decide) (by decide)
theorem d28_0 : decode jdk_65_method_133_code 0 = .ok (.iload_n 1, 1) := by decide +kernel
theorem d28_1 : decode jdk_65_method_133_code 1 = .ok (.iload_n 2, 1) := by decide +kernel
theorem d28_2 : decode jdk_65_method_133_code 2 = .ok (.invokestatic 343, 3) := by decide +kernel
theorem w152 : Jvm.Cond.code N38 jdk_65_method_131_code (2 : Nat) (Option.none : Option Jvm.ClassFile.FieldType) ∈ tables_1 := List.mem_of_getElem? (i := 152) rfl
theorem pd_N38 : parseMethodDescriptor N38.desc = some ⟨[.int, .int], none⟩ := by decide +kernel
theorem w150 : Jvm.Cond.methodLink "java/util/Arrays" (343 : Nat) N38 ∈ tables_1 := List.mem_of_getElem? (i := 150) rfl
theorem w151 : Jvm.Cond.static N38 ∈ tables_1 := List.mem_of_getElem? (i := 151) rfl
theorem d28_5 : decode jdk_65_method_133_code 5 = .ok (.iload_n 2, 1) := by decide +kernel
theorem d28_6 : decode jdk_65_method_133_code 6 = .ok (.iload_n 1, 1) := by decide +kernel
theorem d28_7 : decode jdk_65_method_133_code 7 = .ok (.isub, 1) := by decide +kernel
theorem d28_8 : decode jdk_65_method_133_code 8 = .ok (.istore_n 3, 1) := by decide +kernel
theorem d28_9 : decode jdk_65_method_133_code 9 = .ok (.iload_n 3, 1) := by decide +kernel
theorem d28_10 : decode jdk_65_method_133_code 10 = .ok (.newarray .byte, 2) := by decide +kernel
theorem d28_12 : decode jdk_65_method_133_code 12 = .ok (.astore 4, 2) := by decide +kernel
theorem d28_14 : decode jdk_65_method_133_code 14 = .ok (.aload_n 0, 1) := by decide +kernel
theorem d28_15 : decode jdk_65_method_133_code 15 = .ok (.iload_n 1, 1) := by decide +kernel
theorem d28_16 : decode jdk_65_method_133_code 16 = .ok (.aload 4, 2) := by decide +kernel
theorem d28_18 : decode jdk_65_method_133_code 18 = .ok (.iconst 0, 1) := by decide +kernel
theorem d28_19 : decode jdk_65_method_133_code 19 = .ok (.aload_n 0, 1) := by decide +kernel
theorem d28_20 : decode jdk_65_method_133_code 20 = .ok (.arraylength, 1) := by decide +kernel
theorem d28_21 : decode jdk_65_method_133_code 21 = .ok (.iload_n 1, 1) := by decide +kernel
theorem d28_22 : decode jdk_65_method_133_code 22 = .ok (.isub, 1) := by decide +kernel
theorem d28_23 : decode jdk_65_method_133_code 23 = .ok (.iload_n 3, 1) := by decide +kernel
theorem d28_24 : decode jdk_65_method_133_code 24 = .ok (.invokestatic 304, 3) := by decide +kernel
theorem d28_27 : decode jdk_65_method_133_code 27 = .ok (.invokestatic 150, 3) := by decide +kernel
theorem d28_30 : decode jdk_65_method_133_code 30 = .ok (.aload 4, 2) := by decide +kernel
theorem d28_32 : decode jdk_65_method_133_code 32 = .ok (.areturn, 1) := by decide +kernel
abbrev N39 : MethodName := ⟨"java/util/Arrays", "copyOfRangeByte", "([BII)[B"⟩

abbrev rm_crb : Room := { frames := 1, cells := 1, slots := 68, locals := 27 }
set_option maxRecDepth 65536 in
set_option maxHeartbeats 4000000 in
theorem ct_crb (l : Launch) {Z : State} {n0 : Nat} {z : Int32} {f : Value} (W : Sx Z z f) (b : Addr) (bs : List Int32) (k : Nat) (h : Heap) (Fb : Vec Z h b .byte bs) (hb : bs.length ≤ 68) (hk : k < bs.length) :
    Ctr l Z n0 N39 jdk_65_method_133_code 5 (some (.array .byte)) rm_crb #[(.ref b), (.int (0 : Int32)), (.int k.toInt32)] h [] (fun v h' sn => ∃ d, v = some (.ref d) ∧ Ext h h' ∧ h.size ≤ d ∧ Vec Z h' d .byte (bs.take k) ∧ sn = []) := by
  refine Ctr.of_go (ls := #[.val (.ref b), .val (.int (0 : Int32)), .val (.int k.toInt32), .unset, .unset]) W.1.1 (plainFor_of_name pn_N19) (fun m => by first | (simp [entryFrame, mkF, argsToLocals, Value.category]; done) | rfl) (fun K H => ?_)
  have KK : Keep h h [] := Keep.refl _ _
  refine Go.iloadN H d28_0 rfl rfl ?_
  refine Go.iloadN H d28_1 rfl rfl ?_
  refine Go.callS (rest := []) 0 [(.int (0 : Int32)), (.int k.toInt32)] H d28_2 rfl w150 w151 w145 w152 pd_N38 (ct_ccl l W k.toInt32 h (own_n0 (by omega))) all0 rfl rfl rfl (Nat.le_of_eq rfl) (by decide) (by decide) (by decide) (by decide) nh_N19 ?_
  rintro _ _ _ ⟨rfl, rfl, rfl⟩
  show Go _ _ _ _ _ _ h [] 0 0 5 #[.val (.ref b), .val (.int (0 : Int32)), .val (.int k.toInt32), .unset, .unset] []
  refine Go.iloadN H d28_5 rfl rfl ?_
  refine Go.iloadN H d28_6 rfl rfl ?_
  refine Go.isub H d28_7 rfl ?_
  rw [Int32.sub_zero]
  refine Go.istoreN (ls' := #[.val (.ref b), .val (.int (0 : Int32)), .val (.int k.toInt32), .val (.int k.toInt32), .unset]) H d28_8 rfl rfl ?_
  refine Go.iloadN H d28_9 rfl rfl ?_
  refine Go.newarray k 68 H d28_10 rfl w19 rfl (by decide) (own_n0 (by omega)) (own_cl (by omega)) (by omega) (by decide) (by decide) (by decide) ?_
  intro a1 h2 g3 z4 E5 F6
  have ne7 : b ≠ a1 := Nat.ne_of_lt (Nat.lt_of_lt_of_le Fb.lt (Nat.le_of_eq g3.symm))
  have sz8 := Nat.le_trans KK.1 (Nat.le_of_eq g3.symm)
  replace Fb := Fb.ext E5
  replace KK := KK.ext E5
  show Go _ _ _ _ _ _ h2 [a1] 1 68 12 #[.val (.ref b), .val (.int (0 : Int32)), .val (.int k.toInt32), .val (.int k.toInt32), .unset] [(.ref a1)]
  refine Go.astore (ls' := #[.val (.ref b), .val (.int (0 : Int32)), .val (.int k.toInt32), .val (.int k.toInt32), .val (.ref a1)]) H d28_12 rfl rfl rfl ?_
  refine Go.aloadN H d28_14 rfl rfl rfl ?_
  refine Go.iloadN H d28_15 rfl rfl ?_
  refine Go.aload H d28_16 rfl rfl rfl ?_
  refine Go.iconst (0 : Int32) H d28_18 rfl rfl ?_
  refine Go.aloadN H d28_19 rfl rfl rfl ?_
  refine Go.arraylength bs.length.toInt32 H d28_20 rfl Fb rfl ?_
  refine Go.iloadN H d28_21 rfl rfl ?_
  refine Go.isub H d28_22 rfl ?_
  rw [Int32.sub_zero]
  refine Go.iloadN H d28_23 rfl rfl ?_
  refine Go.callS (rest := [(.int (0 : Int32)), (.ref a1), (.int (0 : Int32)), (.ref b)]) 4 [(.int bs.length.toInt32), (.int k.toInt32)] H d28_24 rfl w153 w154 w155 w156 pd_N13 (ct_min l W bs.length.toInt32 k.toInt32 h2) all0 rfl rfl rfl (Nat.le_of_eq rfl) (by decide) (by decide) (by decide) (by decide) nh_N14 ?_
  rintro _ _ _ ⟨rfl, rfl, rfl⟩
  show Go _ _ _ _ _ _ h2 [a1] 1 68 27 #[.val (.ref b), .val (.int (0 : Int32)), .val (.int k.toInt32), .val (.int k.toInt32), .val (.ref a1)] [(.int (minF bs.length.toInt32 k.toInt32)), (.int (0 : Int32)), (.ref a1), (.int (0 : Int32)), (.ref b)]
  rw [own_min (by omega) hk]
  refine Go.arraycopy 0 0 k H d28_27 rfl w157 w111 w109 w110 Fb F6 (by omega) (by simp; omega) rfl (by decide) (by decide) (own_cl (by omega)) (by decide) (by decide) (own_n0 (by omega)) (by omega) (by simp) z4 (by simp) 0 rfl (Nat.le_of_eq rfl) (by decide) (by decide) ?_
  intro h9 K10 F11
  replace Fb := Fb.keep K10 (ninS ne7 nin0)
  replace KK := KK.trans K10 (allS (Or.inr sz8) all0)
  refine Go.aload H d28_30 rfl rfl rfl ?_
  exact Go.areturn [] H d28_32 rfl rfl (own_narR rfl) ⟨_, rfl, own_ext KK, Nat.le_of_eq g3.symm, by simpa using F11, rfl⟩ all0 (by decide) (by decide)
theorem d27_0 : decode jdk_65_method_132_code 0 = .ok (.iload_n 1, 1) := by decide +kernel
theorem d27_1 : decode jdk_65_method_132_code 1 = .ok (.ifCond .ne 9, 3) := by decide +kernel
theorem d27_4 : decode jdk_65_method_132_code 4 = .ok (.iload_n 2, 1) := by decide +kernel
theorem d27_5 : decode jdk_65_method_132_code 5 = .ok (.aload_n 0, 1) := by decide +kernel
theorem d27_6 : decode jdk_65_method_132_code 6 = .ok (.arraylength, 1) := by decide +kernel
theorem d27_7 : decode jdk_65_method_132_code 7 = .ok (.if_icmp .eq 10, 3) := by decide +kernel
theorem d27_10 : decode jdk_65_method_132_code 10 = .ok (.aload_n 0, 1) := by decide +kernel
theorem d27_11 : decode jdk_65_method_132_code 11 = .ok (.iload_n 1, 1) := by decide +kernel
theorem d27_12 : decode jdk_65_method_132_code 12 = .ok (.iload_n 2, 1) := by decide +kernel
theorem d27_13 : decode jdk_65_method_132_code 13 = .ok (.invokestatic 339, 3) := by decide +kernel
theorem w149 : Jvm.Cond.code N39 jdk_65_method_133_code (5 : Nat) (Option.some (Jvm.ClassFile.FieldType.array Jvm.ClassFile.FieldType.byte)) ∈ tables_1 := List.mem_of_getElem? (i := 149) rfl
theorem pd_N39 : parseMethodDescriptor N39.desc = some ⟨[(.array .byte), .int, .int], (some (.array .byte))⟩ := by decide +kernel
theorem w147 : Jvm.Cond.methodLink "java/util/Arrays" (339 : Nat) N39 ∈ tables_1 := List.mem_of_getElem? (i := 147) rfl
theorem w148 : Jvm.Cond.static N39 ∈ tables_1 := List.mem_of_getElem? (i := 148) rfl
theorem d27_16 : decode jdk_65_method_132_code 16 = .ok (.areturn, 1) := by decide +kernel
abbrev N40 : MethodName := ⟨"java/util/Arrays", "copyOfRange", "([BII)[B"⟩

abbrev rm_cor : Room := { frames := 2, cells := 1, slots := 68, locals := 43 }
set_option maxRecDepth 65536 in
set_option maxHeartbeats 4000000 in
theorem ct_cor (l : Launch) {Z : State} {n0 : Nat} {z : Int32} {f : Value} (W : Sx Z z f) (b : Addr) (bs : List Int32) (k : Nat) (h : Heap) (Fb : Vec Z h b .byte bs) (hb : bs.length ≤ 68) (hk : k < bs.length) :
    Ctr l Z n0 N40 jdk_65_method_132_code 3 (some (.array .byte)) rm_cor #[(.ref b), (.int (0 : Int32)), (.int k.toInt32)] h [] (fun v h' sn => ∃ d, v = some (.ref d) ∧ Ext h h' ∧ h.size ≤ d ∧ Vec Z h' d .byte (bs.take k) ∧ sn = []) := by
  refine Ctr.of_go (ls := #[.val (.ref b), .val (.int (0 : Int32)), .val (.int k.toInt32)]) W.1.1 (plainFor_of_name pn_N19) (fun m => by first | (simp [entryFrame, mkF, argsToLocals, Value.category]; done) | rfl) (fun K H => ?_)
  refine Go.iloadN H d27_0 rfl rfl ?_
  refine Go.ifN H d27_1 (by decide) rfl ?_
  refine Go.iloadN H d27_4 rfl rfl ?_
  refine Go.aloadN H d27_5 rfl rfl rfl ?_
  refine Go.arraylength bs.length.toInt32 H d27_6 rfl Fb rfl ?_
  refine Go.icmpN H d27_7 (feq (fun e => absurd (own_ofinj (by omega) (by omega) e) (by omega))).1 rfl ?_
  refine Go.aloadN H d27_10 rfl rfl rfl ?_
  refine Go.iloadN H d27_11 rfl rfl ?_
  refine Go.iloadN H d27_12 rfl rfl ?_
  refine Go.callS (rest := []) 0 [(.ref b), (.int (0 : Int32)), (.int k.toInt32)] H d27_13 rfl w147 w148 w145 w149 pd_N39 (ct_crb l W b _ k h Fb hb hk) all0 rfl rfl rfl (Nat.le_of_eq rfl) (by decide) (by decide) (by decide) (by decide) nh_N19 ?_
  rintro _ h2 _ ⟨d1, rfl, E3, g4, F5, rfl⟩
  have ne6 : b ≠ d1 := Nat.ne_of_lt (Nat.lt_of_lt_of_le Fb.lt g4)
  replace Fb := Fb.ext E3
  show Go _ _ _ _ _ _ h2 [] 1 68 16 #[.val (.ref b), .val (.int (0 : Int32)), .val (.int k.toInt32)] [(.ref d1)]
  exact Go.areturn [] H d27_16 rfl rfl (own_narR rfl) ⟨_, rfl, E3, g4, F5, rfl⟩ all0 (by decide) (by decide)
theorem d22_0 : decode jdk_42_method_150_code 0 = .ok (.aload_n 0, 1) := by decide +kernel
theorem d22_1 : decode jdk_42_method_150_code 1 = .ok (.invokespecial 1, 3) := by decide +kernel
theorem d22_4 : decode jdk_42_method_150_code 4 = .ok (.aload_n 1, 1) := by decide +kernel
theorem d22_5 : decode jdk_42_method_150_code 5 = .ok (.invokevirtual 552, 3) := by decide +kernel
theorem w129 : Jvm.Cond.code N35 jdk_68_method_64_code (1 : Nat) (Option.some (Jvm.ClassFile.FieldType.array Jvm.ClassFile.FieldType.byte)) ∈ tables_1 := List.mem_of_getElem? (i := 129) rfl
theorem pd_N35 : parseMethodDescriptor N35.desc = some ⟨[], (some (.array .byte))⟩ := by decide +kernel
theorem w125 : Jvm.Cond.methodLink "java/lang/String" (552 : Nat) N35 ∈ tables_1 := List.mem_of_getElem? (i := 125) rfl
theorem w126 : Jvm.Cond.declares N35 ∈ tables_1 := List.mem_of_getElem? (i := 126) rfl
theorem w128 : Jvm.Cond.selects "java/lang/StringBuilder" N35 N35 ∈ tables_1 := List.mem_of_getElem? (i := 128) rfl
theorem w127 : Jvm.Cond.instanceMethod N35 ∈ tables_1 := List.mem_of_getElem? (i := 127) rfl
theorem d22_8 : decode jdk_42_method_150_code 8 = .ok (.astore_n 3, 1) := by decide +kernel
theorem d22_9 : decode jdk_42_method_150_code 9 = .ok (.aload_n 1, 1) := by decide +kernel
theorem d22_10 : decode jdk_42_method_150_code 10 = .ok (.invokevirtual 549, 3) := by decide +kernel
theorem w135 : Jvm.Cond.code N37 jdk_67_method_93_code (1 : Nat) (Option.some Jvm.ClassFile.FieldType.int) ∈ tables_1 := List.mem_of_getElem? (i := 135) rfl
theorem w49 : Jvm.Cond.initialized "java/lang/StringBuilder" ∈ tables_1 := List.mem_of_getElem? (i := 49) rfl
theorem w130 : Jvm.Cond.methodLink "java/lang/String" (549 : Nat) N36 ∈ tables_1 := List.mem_of_getElem? (i := 130) rfl
theorem w131 : Jvm.Cond.declares N36 ∈ tables_1 := List.mem_of_getElem? (i := 131) rfl
theorem w133 : Jvm.Cond.selects "java/lang/StringBuilder" N36 N37 ∈ tables_1 := List.mem_of_getElem? (i := 133) rfl
theorem w134 : Jvm.Cond.instanceMethod N37 ∈ tables_1 := List.mem_of_getElem? (i := 134) rfl
theorem d22_13 : decode jdk_42_method_150_code 13 = .ok (.istore 4, 2) := by decide +kernel
theorem d22_15 : decode jdk_42_method_150_code 15 = .ok (.aload_n 1, 1) := by decide +kernel
theorem d22_16 : decode jdk_42_method_150_code 16 = .ok (.invokevirtual 1047, 3) := by decide +kernel
theorem w138 : Jvm.Cond.methodLink "java/lang/String" (1047 : Nat) N22 ∈ tables_1 := List.mem_of_getElem? (i := 138) rfl
theorem d22_19 : decode jdk_42_method_150_code 19 = .ok (.ifCond .eq 22, 3) := by decide +kernel
theorem d22_22 : decode jdk_42_method_150_code 22 = .ok (.aload_n 0, 1) := by decide +kernel
theorem d22_23 : decode jdk_42_method_150_code 23 = .ok (.iconst 0, 1) := by decide +kernel
theorem d22_24 : decode jdk_42_method_150_code 24 = .ok (.putfield 15, 3) := by decide +kernel
theorem d22_27 : decode jdk_42_method_150_code 27 = .ok (.aload_n 0, 1) := by decide +kernel
theorem d22_28 : decode jdk_42_method_150_code 28 = .ok (.aload_n 3, 1) := by decide +kernel
theorem d22_29 : decode jdk_42_method_150_code 29 = .ok (.iconst 0, 1) := by decide +kernel
theorem d22_30 : decode jdk_42_method_150_code 30 = .ok (.iload 4, 2) := by decide +kernel
theorem d22_32 : decode jdk_42_method_150_code 32 = .ok (.invokestatic 54, 3) := by decide +kernel
theorem w146 : Jvm.Cond.code N40 jdk_65_method_132_code (3 : Nat) (Option.some (Jvm.ClassFile.FieldType.array Jvm.ClassFile.FieldType.byte)) ∈ tables_1 := List.mem_of_getElem? (i := 146) rfl
theorem pd_N40 : parseMethodDescriptor N40.desc = some ⟨[(.array .byte), .int, .int], (some (.array .byte))⟩ := by decide +kernel
theorem w143 : Jvm.Cond.methodLink "java/lang/String" (54 : Nat) N40 ∈ tables_1 := List.mem_of_getElem? (i := 143) rfl
theorem w144 : Jvm.Cond.static N40 ∈ tables_1 := List.mem_of_getElem? (i := 144) rfl
theorem d22_35 : decode jdk_42_method_150_code 35 = .ok (.putfield 9, 3) := by decide +kernel
theorem d22_38 : decode jdk_42_method_150_code 38 = .ok (.goto 59, 3) := by decide +kernel
theorem d22_97 : decode jdk_42_method_150_code 97 = .ok (.return_, 1) := by decide +kernel
theorem d22_41 : decode jdk_42_method_150_code 41 = .ok (.getstatic 38, 3) := by decide +kernel
theorem d22_44 : decode jdk_42_method_150_code 44 = .ok (.ifCond .eq 35, 3) := by decide +kernel
theorem d22_47 : decode jdk_42_method_150_code 47 = .ok (.aload_n 1, 1) := by decide +kernel
theorem d22_48 : decode jdk_42_method_150_code 48 = .ok (.getfield 1048, 3) := by decide +kernel
theorem w242 : Jvm.Cond.fieldLink "java/lang/String" (1048 : Nat) "java/lang/AbstractStringBuilder" "maybeLatin1" "Z" ∈ tables_1 := List.mem_of_getElem? (i := 242) rfl
theorem d22_51 : decode jdk_42_method_150_code 51 = .ok (.ifCond .eq 28, 3) := by decide +kernel
theorem d22_79 : decode jdk_42_method_150_code 79 = .ok (.aload_n 0, 1) := by decide +kernel
theorem d22_80 : decode jdk_42_method_150_code 80 = .ok (.iconst 1, 1) := by decide +kernel
theorem d22_81 : decode jdk_42_method_150_code 81 = .ok (.putfield 15, 3) := by decide +kernel
theorem d22_84 : decode jdk_42_method_150_code 84 = .ok (.aload_n 0, 1) := by decide +kernel
theorem d22_85 : decode jdk_42_method_150_code 85 = .ok (.aload_n 3, 1) := by decide +kernel
theorem d22_86 : decode jdk_42_method_150_code 86 = .ok (.iconst 0, 1) := by decide +kernel
theorem d22_87 : decode jdk_42_method_150_code 87 = .ok (.iload 4, 2) := by decide +kernel
theorem d22_89 : decode jdk_42_method_150_code 89 = .ok (.iconst 1, 1) := by decide +kernel
theorem d22_90 : decode jdk_42_method_150_code 90 = .ok (.ishl, 1) := by decide +kernel
theorem d22_91 : decode jdk_42_method_150_code 91 = .ok (.invokestatic 54, 3) := by decide +kernel
theorem d22_94 : decode jdk_42_method_150_code 94 = .ok (.putfield 9, 3) := by decide +kernel
abbrev N41 : MethodName := ⟨"java/lang/String", "<init>", "(Ljava/lang/AbstractStringBuilder;Ljava/lang/Void;)V"⟩

abbrev rm_nsv : Room := { frames := 3, cells := 1, slots := 68, locals := 58 }
set_option maxRecDepth 65536 in
set_option maxHeartbeats 4000000 in
theorem ct_nsv (l : Launch) {Z : State} {n0 : Nat} {z : Int32} {f : Value} (W : Sx Z z f) (y x b : Addr) (cs : List Int32) (cap : Nat) (h : Heap) (A2 : Exa Z h y "java/lang/String") (Gv : Fld Z h y "java/lang/String" "value" "[B" .null) (Gc : Fld Z h y "java/lang/String" "coder" "B" (.int 0)) (B : Sbg Z h x b cap cs) (hcap0 : cap = 16 ∨ cap = 34) (hlt : cs.length < cap) (zy : n0 ≤ y) :
    Ctr l Z n0 N41 jdk_42_method_150_code 5 none rm_nsv #[(.ref y), (.ref x), .null] h [y] (fun v h' sn => v = none ∧ Keep h h' [y] ∧ (∃ sb, Stg Z h' y sb cs) ∧ sn = []) := by
  refine Ctr.of_go (ls := #[.val (.ref y), .val (.ref x), .val .null, .unset, .unset]) W.1.1 (plainFor_of_name pn_N9) (fun m => by first | (simp [entryFrame, mkF, argsToLocals, Value.category]; done) | rfl) (fun K H => ?_)
  rcases B with ⟨F, ⟨pad, Fb, hcap⟩, hL⟩ | ⟨F, ⟨pad, Fb, hcap⟩, hC, hX⟩
  ·
    obtain ⟨A, Fv, Fc, Fn, Fm⟩ := F
    have KK : Keep h h [y] := Keep.refl _ _
    have hbx : b ≠ x := Vec.neExa Fb A W.1.1 w48
    have hxy : x ≠ y := Exa.ne A A2 (by decide)
    have hby : b ≠ y := Vec.neExa Fb A2 W.1.1 w5
    refine Go.aloadN H d22_0 rfl rfl rfl ?_
    refine Go.initObj H d22_1 rfl w15 w16 w17 0 rfl (Nat.le_of_eq rfl) (by decide) (by decide) ?_
    refine Go.aloadN H d22_4 rfl rfl rfl ?_
    refine Go.callV (rest := []) 0 [] H d22_5 rfl A w125 w126 w128 w127 w57 w129 pd_N35 (ct_gval l W x b _ _ h ⟨A, Fv, Fc, Fn, Fm⟩) all0 rfl rfl rfl (Nat.le_of_eq rfl) (by decide) (by decide) (by decide) (by decide) nh_N15 ?_
    rintro _ _ _ ⟨rfl, rfl, rfl⟩
    show Go _ _ _ _ _ _ h [y] 0 0 8 #[.val (.ref y), .val (.ref x), .val .null, .unset, .unset] [(.ref b)]
    refine Go.astoreN (ls' := #[.val (.ref y), .val (.ref x), .val .null, .val (.ref b), .unset]) H d22_8 rfl rfl rfl ?_
    refine Go.aloadN H d22_9 rfl rfl rfl ?_
    refine Go.callV2 (y' := N21) (rest := []) 0 [] H d22_10 rfl A w130 w131 ⟨rfl, w90, w88⟩ w133 w134 w49 w135 pd_N36 (ct_bln l W x b _ _ h ⟨A, Fv, Fc, Fn, Fm⟩) all0 rfl rfl rfl (Nat.le_of_eq rfl) (by decide) (by decide) (by decide) (by decide) nh_N15 ?_
    rintro _ _ _ ⟨rfl, rfl, rfl⟩
    show Go _ _ _ _ _ _ h [y] 0 0 13 #[.val (.ref y), .val (.ref x), .val .null, .val (.ref b), .unset] [(.int cs.length.toInt32)]
    refine Go.istore (ls' := #[.val (.ref y), .val (.ref x), .val .null, .val (.ref b), .val (.int cs.length.toInt32)]) H d22_13 rfl rfl ?_
    refine Go.aloadN H d22_15 rfl rfl rfl ?_
    refine Go.callV (rest := []) 0 [] H d22_16 rfl A w138 w139 w141 w140 w57 w142 pd_N22 (ct_asl0 l W x b _ h ⟨A, Fv, Fc, Fn, Fm⟩) all0 rfl rfl rfl (Nat.le_of_eq rfl) (by decide) (by decide) (by decide) (by decide) nh_N15 ?_
    rintro _ _ _ ⟨rfl, rfl, rfl⟩
    show Go _ _ _ _ _ _ h [y] 0 0 19 #[.val (.ref y), .val (.ref x), .val .null, .val (.ref b), .val (.int cs.length.toInt32)] [(.int (1 : Int32))]
    refine Go.ifN H d22_19 (by decide) rfl ?_
    refine Go.aloadN H d22_22 rfl rfl rfl ?_
    refine Go.iconst (0 : Int32) H d22_23 rfl rfl ?_
    refine Go.putfield (v := (.int (0 : Int32))) H d22_24 rfl w25 Gc A2 (Or.inr ⟨w21, rfl, rfl⟩) w5 (ty := .byte) (by decide) (by decide) (by decide) zy (by simp) ?_
    intro h1 Wr2
    have F3 := Gc.same Wr2
    have K4 := Keep.of_wr Wr2
    replace A := A.wr Wr2
    replace Fv := Fv.keep K4 (ninS hxy nin0)
    replace Fc := Fc.keep K4 (ninS hxy nin0)
    replace Fn := Fn.keep K4 (ninS hxy nin0)
    replace Fm := Fm.keep K4 (ninS hxy nin0)
    replace A2 := A2.wr Wr2
    replace Gv := Gv.other Wr2 (Or.inr (own_sne W.1.1 (Or.inr w20) (Or.inr w21) (by decide) (t := (.array .byte)) (t' := .byte) (by decide) (by decide)))
    replace Fb := Fb.keep K4 (ninS hby nin0)
    replace KK := KK.wr Wr2 (Or.inl (by simp))
    refine Go.aloadN H d22_27 rfl rfl rfl ?_
    refine Go.aloadN H d22_28 rfl rfl rfl ?_
    refine Go.iconst (0 : Int32) H d22_29 rfl rfl ?_
    refine Go.iload H d22_30 rfl rfl ?_
    refine Go.callS (rest := [(.ref y)]) 1 [(.ref b), (.int (0 : Int32)), (.int cs.length.toInt32)] H d22_32 rfl w143 w144 w145 w146 pd_N40 (ct_cor l W b _ cs.length h1 Fb (by rw [List.length_append, List.length_map]; omega) (by rw [List.length_append, List.length_map]; omega)) all0 rfl rfl rfl (Nat.le_of_eq rfl) (by decide) (by decide) (by decide) (by decide) nh_N19 ?_
    rintro _ h6 _ ⟨d5, rfl, E7, g8, F9, rfl⟩
    have ne10 : x ≠ d5 := Nat.ne_of_lt (Nat.lt_of_lt_of_le A.lt g8)
    have ne11 : y ≠ d5 := Nat.ne_of_lt (Nat.lt_of_lt_of_le A2.lt g8)
    have ne12 : b ≠ d5 := Nat.ne_of_lt (Nat.lt_of_lt_of_le Fb.lt g8)
    replace A := A.ext E7
    replace Fv := Fv.ext E7
    replace Fc := Fc.ext E7
    replace Fn := Fn.ext E7
    replace Fm := Fm.ext E7
    replace A2 := A2.ext E7
    replace Gv := Gv.ext E7
    replace Fb := Fb.ext E7
    replace F3 := F3.ext E7
    replace KK := KK.ext E7
    show Go _ _ _ _ _ _ h6 [y] 1 68 35 #[.val (.ref y), .val (.ref x), .val .null, .val (.ref b), .val (.int cs.length.toInt32)] [(.ref d5), (.ref y)]
    refine Go.putfield (v := (.ref d5)) H d22_35 rfl w24 Gv A2 (Or.inr ⟨w20, rfl, rfl⟩) w5 (ty := (.array .byte)) (by decide) rfl rfl zy (by simp) ?_
    intro h13 Wr14
    have F15 := Gv.same Wr14
    have K16 := Keep.of_wr Wr14
    replace A := A.wr Wr14
    replace Fv := Fv.keep K16 (ninS hxy nin0)
    replace Fc := Fc.keep K16 (ninS hxy nin0)
    replace Fn := Fn.keep K16 (ninS hxy nin0)
    replace Fm := Fm.keep K16 (ninS hxy nin0)
    replace A2 := A2.wr Wr14
    replace Fb := Fb.keep K16 (ninS hby nin0)
    replace F3 := F3.other Wr14 (Or.inr (own_sne W.1.1 (Or.inr w21) (Or.inr w20) (by decide) (t := .byte) (t' := (.array .byte)) (by decide) (by decide)))
    replace F9 := F9.keep K16 (ninS (Ne.symm ne11) nin0)
    replace KK := KK.wr Wr14 (Or.inl (by simp))
    refine Go.goto (pc' := 97) H d22_38 (by decide) (by decide) ?_
    rw [List.take_left' (List.length_map _)] at F9
    exact Go.return_ [] H d22_97 ⟨rfl, KK, ⟨_, Or.inl ⟨A2, F15, F3, F9, hL, by omega⟩⟩, rfl⟩ all0 (by decide) (by decide)
  ·
    obtain ⟨A, Fv, Fc, Fn, Fm⟩ := F
    have KK : Keep h h [y] := Keep.refl _ _
    have hbx : b ≠ x := Vec.neExa Fb A W.1.1 w48
    have hxy : x ≠ y := Exa.ne A A2 (by decide)
    have hby : b ≠ y := Vec.neExa Fb A2 W.1.1 w5
    refine Go.aloadN H d22_0 rfl rfl rfl ?_
    refine Go.initObj H d22_1 rfl w15 w16 w17 0 rfl (Nat.le_of_eq rfl) (by decide) (by decide) ?_
    refine Go.aloadN H d22_4 rfl rfl rfl ?_
    refine Go.callV (rest := []) 0 [] H d22_5 rfl A w125 w126 w128 w127 w57 w129 pd_N35 (ct_gval l W x b _ _ h ⟨A, Fv, Fc, Fn, Fm⟩) all0 rfl rfl rfl (Nat.le_of_eq rfl) (by decide) (by decide) (by decide) (by decide) nh_N15 ?_
    rintro _ _ _ ⟨rfl, rfl, rfl⟩
    show Go _ _ _ _ _ _ h [y] 0 0 8 #[.val (.ref y), .val (.ref x), .val .null, .unset, .unset] [(.ref b)]
    refine Go.astoreN (ls' := #[.val (.ref y), .val (.ref x), .val .null, .val (.ref b), .unset]) H d22_8 rfl rfl rfl ?_
    refine Go.aloadN H d22_9 rfl rfl rfl ?_
    refine Go.callV2 (y' := N21) (rest := []) 0 [] H d22_10 rfl A w130 w131 ⟨rfl, w90, w88⟩ w133 w134 w49 w135 pd_N36 (ct_bln l W x b _ _ h ⟨A, Fv, Fc, Fn, Fm⟩) all0 rfl rfl rfl (Nat.le_of_eq rfl) (by decide) (by decide) (by decide) (by decide) nh_N15 ?_
    rintro _ _ _ ⟨rfl, rfl, rfl⟩
    show Go _ _ _ _ _ _ h [y] 0 0 13 #[.val (.ref y), .val (.ref x), .val .null, .val (.ref b), .unset] [(.int cs.length.toInt32)]
    refine Go.istore (ls' := #[.val (.ref y), .val (.ref x), .val .null, .val (.ref b), .val (.int cs.length.toInt32)]) H d22_13 rfl rfl ?_
    refine Go.aloadN H d22_15 rfl rfl rfl ?_
    refine Go.callV (rest := []) 0 [] H d22_16 rfl A w138 w139 w141 w140 w57 w142 pd_N22 (ct_asl1 l W x b _ h ⟨A, Fv, Fc, Fn, Fm⟩) all0 rfl rfl rfl (Nat.le_of_eq rfl) (by decide) (by decide) (by decide) (by decide) nh_N15 ?_
    rintro _ _ _ ⟨rfl, rfl, rfl⟩
    show Go _ _ _ _ _ _ h [y] 0 0 19 #[.val (.ref y), .val (.ref x), .val .null, .val (.ref b), .val (.int cs.length.toInt32)] [(.int (0 : Int32))]
    refine Go.ifY (pc' := 41) H d22_19 (by decide) (by decide) (by decide) ?_
    refine Go.getstatic H d22_41 rfl w29 W.1.2.2.1 ?_
    refine Go.ifN H d22_44 (feq W.1.2.1).1 rfl ?_
    refine Go.aloadN H d22_47 rfl rfl rfl ?_
    refine Go.getfield H d22_48 rfl w242 Fm ?_
    refine Go.ifY (pc' := 79) H d22_51 (by decide) (by decide) (by decide) ?_
    refine Go.aloadN H d22_79 rfl rfl rfl ?_
    refine Go.iconst (1 : Int32) H d22_80 rfl rfl ?_
    refine Go.putfield (v := (.int (1 : Int32))) H d22_81 rfl w25 Gc A2 (Or.inr ⟨w21, rfl, rfl⟩) w5 (ty := .byte) (by decide) (by decide) (by decide) zy (by simp) ?_
    intro h17 Wr18
    have F19 := Gc.same Wr18
    have K20 := Keep.of_wr Wr18
    replace A := A.wr Wr18
    replace Fv := Fv.keep K20 (ninS hxy nin0)
    replace Fc := Fc.keep K20 (ninS hxy nin0)
    replace Fn := Fn.keep K20 (ninS hxy nin0)
    replace Fm := Fm.keep K20 (ninS hxy nin0)
    replace A2 := A2.wr Wr18
    replace Gv := Gv.other Wr18 (Or.inr (own_sne W.1.1 (Or.inr w20) (Or.inr w21) (by decide) (t := (.array .byte)) (t' := .byte) (by decide) (by decide)))
    replace Fb := Fb.keep K20 (ninS hby nin0)
    replace KK := KK.wr Wr18 (Or.inl (by simp))
    refine Go.aloadN H d22_84 rfl rfl rfl ?_
    refine Go.aloadN H d22_85 rfl rfl rfl ?_
    refine Go.iconst (0 : Int32) H d22_86 rfl rfl ?_
    refine Go.iload H d22_87 rfl rfl ?_
    refine Go.iconst (1 : Int32) H d22_89 rfl rfl ?_
    refine Go.ishl H d22_90 rfl ?_
    rw [own_shl1 (by omega)]
    refine Go.callS (rest := [(.ref y)]) 1 [(.ref b), (.int (0 : Int32)), (.int (2 * cs.length).toInt32)] H d22_91 rfl w143 w144 w145 w146 pd_N40 (ct_cor l W b _ (2 * cs.length) h17 Fb (by rw [List.length_append, enc16_len]; omega) (by rw [List.length_append, enc16_len]; omega)) all0 rfl rfl rfl (Nat.le_of_eq rfl) (by decide) (by decide) (by decide) (by decide) nh_N19 ?_
    rintro _ h22 _ ⟨d21, rfl, E23, g24, F25, rfl⟩
    have ne26 : x ≠ d21 := Nat.ne_of_lt (Nat.lt_of_lt_of_le A.lt g24)
    have ne27 : y ≠ d21 := Nat.ne_of_lt (Nat.lt_of_lt_of_le A2.lt g24)
    have ne28 : b ≠ d21 := Nat.ne_of_lt (Nat.lt_of_lt_of_le Fb.lt g24)
    replace A := A.ext E23
    replace Fv := Fv.ext E23
    replace Fc := Fc.ext E23
    replace Fn := Fn.ext E23
    replace Fm := Fm.ext E23
    replace A2 := A2.ext E23
    replace Gv := Gv.ext E23
    replace Fb := Fb.ext E23
    replace F19 := F19.ext E23
    replace KK := KK.ext E23
    show Go _ _ _ _ _ _ h22 [y] 1 68 94 #[.val (.ref y), .val (.ref x), .val .null, .val (.ref b), .val (.int cs.length.toInt32)] [(.ref d21), (.ref y)]
    refine Go.putfield (v := (.ref d21)) H d22_94 rfl w24 Gv A2 (Or.inr ⟨w20, rfl, rfl⟩) w5 (ty := (.array .byte)) (by decide) rfl rfl zy (by simp) ?_
    intro h29 Wr30
    have F31 := Gv.same Wr30
    have K32 := Keep.of_wr Wr30
    replace A := A.wr Wr30
    replace Fv := Fv.keep K32 (ninS hxy nin0)
    replace Fc := Fc.keep K32 (ninS hxy nin0)
    replace Fn := Fn.keep K32 (ninS hxy nin0)
    replace Fm := Fm.keep K32 (ninS hxy nin0)
    replace A2 := A2.wr Wr30
    replace Fb := Fb.keep K32 (ninS hby nin0)
    replace F19 := F19.other Wr30 (Or.inr (own_sne W.1.1 (Or.inr w21) (Or.inr w20) (by decide) (t := .byte) (t' := (.array .byte)) (by decide) (by decide)))
    replace F25 := F25.keep K32 (ninS (Ne.symm ne27) nin0)
    replace KK := KK.wr Wr30 (Or.inl (by simp))
    rw [List.take_left' (enc16_len _)] at F25
    exact Go.return_ [] H d22_97 ⟨rfl, KK, ⟨_, Or.inr ⟨A2, F31, F19, F25, hC, by omega, hX⟩⟩, rfl⟩ all0 (by decide) (by decide)
theorem Sbg.neS {Z : State} {h : Heap} {x b y : Addr} {cap kk : Nat} {cs : List Int32} (F : Sbg Z h x b cap cs) (A : Exa Z h y "java/lang/String") (W : Wds Z) (wi : Jvm.Cond.instantiable "java/lang/String" kk ∈ tables_1) : b ≠ y := by
  rcases F with ⟨f, ⟨p, V, -⟩, -⟩ | ⟨f, ⟨p, V, -⟩, -⟩ <;> exact Vec.neExa V A W wi
theorem d21_0 : decode jdk_42_method_53_code 0 = .ok (.aload_n 0, 1) := by decide +kernel
theorem d21_1 : decode jdk_42_method_53_code 1 = .ok (.aload_n 1, 1) := by decide +kernel
theorem d21_2 : decode jdk_42_method_53_code 2 = .ok (.aconst_null, 1) := by decide +kernel
theorem d21_3 : decode jdk_42_method_53_code 3 = .ok (.invokespecial 489, 3) := by decide +kernel
theorem w124 : Jvm.Cond.code N41 jdk_42_method_150_code (5 : Nat) (Option.none : Option Jvm.ClassFile.FieldType) ∈ tables_1 := List.mem_of_getElem? (i := 124) rfl
theorem pd_N41 : parseMethodDescriptor N41.desc = some ⟨[(.object "java/lang/AbstractStringBuilder"), (.object "java/lang/Void")], none⟩ := by decide +kernel
theorem w122 : Jvm.Cond.methodLink "java/lang/String" (489 : Nat) N41 ∈ tables_1 := List.mem_of_getElem? (i := 122) rfl
theorem w123 : Jvm.Cond.instanceMethod N41 ∈ tables_1 := List.mem_of_getElem? (i := 123) rfl
theorem d21_6 : decode jdk_42_method_53_code 6 = .ok (.return_, 1) := by decide +kernel
abbrev N42 : MethodName := ⟨"java/lang/String", "<init>", "(Ljava/lang/StringBuilder;)V"⟩

abbrev rm_nsb : Room := { frames := 4, cells := 1, slots := 68, locals := 74 }
set_option maxRecDepth 65536 in
set_option maxHeartbeats 4000000 in
theorem ct_nsb (l : Launch) {Z : State} {n0 : Nat} {z : Int32} {f : Value} (W : Sx Z z f) (y x b : Addr) (cs : List Int32) (cap : Nat) (h : Heap) (A2 : Exa Z h y "java/lang/String") (Gv : Fld Z h y "java/lang/String" "value" "[B" .null) (Gc : Fld Z h y "java/lang/String" "coder" "B" (.int 0)) (B : Sbg Z h x b cap cs) (hcap0 : cap = 16 ∨ cap = 34) (hlt : cs.length < cap) (zy : n0 ≤ y) :
    Ctr l Z n0 N42 jdk_42_method_53_code 2 none rm_nsb #[(.ref y), (.ref x)] h [y] (fun v h' sn => v = none ∧ Keep h h' [y] ∧ (∃ sb, Stg Z h' y sb cs) ∧ sn = []) := by
  refine Ctr.of_go (ls := #[.val (.ref y), .val (.ref x)]) W.1.1 (plainFor_of_name pn_N9) (fun m => by first | (simp [entryFrame, mkF, argsToLocals, Value.category]; done) | rfl) (fun K H => ?_)
  have hxy : x ≠ y := Exa.ne B.exa A2 (by decide)
  have hby : b ≠ y := B.neS A2 W.1.1 w5
  refine Go.aloadN H d21_0 rfl rfl rfl ?_
  refine Go.aloadN H d21_1 rfl rfl rfl ?_
  refine Go.aconstNull H d21_2 rfl ?_
  refine Go.callI (rest := []) 0 [(.ref x), .null] H d21_3 rfl rfl w122 w123 w6 w124 pd_N41 (ct_nsv l W y x b cs cap h A2 Gv Gc B hcap0 hlt zy) (by simp) rfl rfl rfl (Nat.le_of_eq rfl) (by decide) (by decide) (by decide) (by decide) nh_N9 ?_
  rintro _ h1 _ ⟨rfl, K2, ⟨b3, S4⟩, rfl⟩
  replace B := B.keep K2 (ninS hxy nin0) (ninS hby nin0)
  show Go _ _ _ _ _ _ h1 [y] 1 68 6 #[.val (.ref y), .val (.ref x)] []
  exact Go.return_ [] H d21_6 ⟨rfl, K2, ⟨_, S4⟩, rfl⟩ all0 (by decide) (by decide)
theorem d20_0 : decode jdk_67_method_42_code 0 = .ok (.new 18, 3) := by decide +kernel
theorem w118 : Jvm.Cond.classLink "java/lang/StringBuilder" (18 : Nat) "java/lang/String" ∈ tables_1 := List.mem_of_getElem? (i := 118) rfl
theorem d20_3 : decode jdk_67_method_42_code 3 = .ok (.dup, 1) := by decide +kernel
theorem d20_4 : decode jdk_67_method_42_code 4 = .ok (.aload_n 0, 1) := by decide +kernel
theorem d20_5 : decode jdk_67_method_42_code 5 = .ok (.invokespecial 137, 3) := by decide +kernel
theorem w121 : Jvm.Cond.code N42 jdk_42_method_53_code (2 : Nat) (Option.none : Option Jvm.ClassFile.FieldType) ∈ tables_1 := List.mem_of_getElem? (i := 121) rfl
theorem pd_N42 : parseMethodDescriptor N42.desc = some ⟨[(.object "java/lang/StringBuilder")], none⟩ := by decide +kernel
theorem w119 : Jvm.Cond.methodLink "java/lang/StringBuilder" (137 : Nat) N42 ∈ tables_1 := List.mem_of_getElem? (i := 119) rfl
theorem w120 : Jvm.Cond.instanceMethod N42 ∈ tables_1 := List.mem_of_getElem? (i := 120) rfl
theorem d20_8 : decode jdk_67_method_42_code 8 = .ok (.areturn, 1) := by decide +kernel
abbrev N43 : MethodName := ⟨"java/lang/StringBuilder", "toString", "()Ljava/lang/String;"⟩

abbrev rm_tos : Room := { frames := 5, cells := 2, slots := 72, locals := 88 }
set_option maxRecDepth 65536 in
set_option maxHeartbeats 4000000 in
theorem ct_tos (l : Launch) {Z : State} {n0 : Nat} {z : Int32} {f : Value} (W : Sx Z z f) (x b : Addr) (cs : List Int32) (cap : Nat) (h : Heap) (B : Sbg Z h x b cap cs) (hcap0 : cap = 16 ∨ cap = 34) (hlt : cs.length < cap) :
    Ctr l Z n0 N43 jdk_67_method_42_code 1 (some (.object "java/lang/String")) rm_tos #[(.ref x)] h [] (fun v h' sn => ∃ a sb, v = some (.ref a) ∧ Ext h h' ∧ h.size ≤ a ∧ Stg Z h' a sb cs ∧ sn = []) := by
  refine Ctr.of_go (ls := #[.val (.ref x)]) W.1.1 (plainFor_of_name pn_N16) (fun m => by first | (simp [entryFrame, mkF, argsToLocals, Value.category]; done) | rfl) (fun K H => ?_)
  have KK : Keep h h [] := Keep.refl _ _
  refine Go.new H d20_0 rfl w118 w5 w6 (by decide) (by decide) ?_
  intro a1 h2 g3 z4 E5 A6 D7
  have ne8 : x ≠ a1 := Nat.ne_of_lt (Nat.lt_of_lt_of_le B.lt (Nat.le_of_eq g3.symm))
  have ne9 : b ≠ a1 := Nat.ne_of_lt (Nat.lt_of_lt_of_le B.ltb (Nat.le_of_eq g3.symm))
  have sz10 := Nat.le_trans KK.1 (Nat.le_of_eq g3.symm)
  replace B := B.ext E5
  replace KK := KK.ext E5
  have F11 : Fld Z h2 a1 "java/lang/String" "value" "[B" .null := D7 (Or.inr w20) (ty := (.array .byte)) (by decide)
  have F12 : Fld Z h2 a1 "java/lang/String" "coder" "B" (.int (0 : Int32)) := D7 (Or.inr w21) (ty := .byte) (by decide)
  show Go _ _ _ _ _ _ h2 [a1] 1 4 3 #[.val (.ref x)] [(.ref a1)]
  refine Go.dup H d20_3 rfl rfl ?_
  refine Go.aloadN H d20_4 rfl rfl rfl ?_
  refine Go.callI (rest := [(.ref a1)]) 1 [(.ref x)] H d20_5 rfl rfl w119 w120 w6 w121 pd_N42 (ct_nsb l W a1 x b cs cap h2 A6 F11 F12 B hcap0 hlt z4) (by simp) rfl rfl rfl (Nat.le_of_eq rfl) (by decide) (by decide) (by decide) (by decide) nh_N9 ?_
  rintro _ h13 _ ⟨rfl, K14, ⟨b15, S16⟩, rfl⟩
  replace B := B.keep K14 (ninS ne8 nin0) (ninS ne9 nin0)
  replace KK := KK.trans K14 (allS (Or.inr sz10) all0)
  show Go _ _ _ _ _ _ h13 [a1] 2 72 8 #[.val (.ref x)] [(.ref a1)]
  exact Go.areturn [] H d20_8 rfl rfl (own_narR rfl) ⟨_, _, rfl, own_ext KK, Nat.le_of_eq g3.symm, S16, rfl⟩ all0 (by decide) (by decide)
theorem own_eqt {u v : List Int32} {i : Nat} (e : u.take i = v.take i) {p q : Int32} (h1 : u[i]? = some p) (h2 : v[i]? = some q) (hpq : p = q) : u.take (i + 1) = v.take (i + 1) := by
  rw [List.take_add_one, List.take_add_one, h1, h2, hpq, e]
theorem d37_9 : decode jdk_43_method_13_code 9 = .ok (.iload_n 2, 1) := by decide +kernel
theorem d37_10 : decode jdk_43_method_13_code 10 = .ok (.aload_n 0, 1) := by decide +kernel
theorem d37_11 : decode jdk_43_method_13_code 11 = .ok (.arraylength, 1) := by decide +kernel
theorem d37_12 : decode jdk_43_method_13_code 12 = .ok (.if_icmp .ge 20, 3) := by decide +kernel
theorem d37_32 : decode jdk_43_method_13_code 32 = .ok (.iconst 1, 1) := by decide +kernel
theorem d37_33 : decode jdk_43_method_13_code 33 = .ok (.ireturn, 1) := by decide +kernel
theorem d37_15 : decode jdk_43_method_13_code 15 = .ok (.aload_n 0, 1) := by decide +kernel
theorem d37_16 : decode jdk_43_method_13_code 16 = .ok (.iload_n 2, 1) := by decide +kernel
theorem d37_17 : decode jdk_43_method_13_code 17 = .ok (.baload, 1) := by decide +kernel
theorem d37_18 : decode jdk_43_method_13_code 18 = .ok (.aload_n 1, 1) := by decide +kernel
theorem d37_19 : decode jdk_43_method_13_code 19 = .ok (.iload_n 2, 1) := by decide +kernel
theorem d37_20 : decode jdk_43_method_13_code 20 = .ok (.baload, 1) := by decide +kernel
theorem d37_21 : decode jdk_43_method_13_code 21 = .ok (.if_icmp .eq 5, 3) := by decide +kernel
theorem d37_26 : decode jdk_43_method_13_code 26 = .ok (.iinc 2 1, 3) := by decide +kernel
theorem d37_29 : decode jdk_43_method_13_code 29 = .ok (.goto (-20), 3) := by decide +kernel
theorem d37_24 : decode jdk_43_method_13_code 24 = .ok (.iconst 0, 1) := by decide +kernel
theorem d37_25 : decode jdk_43_method_13_code 25 = .ok (.ireturn, 1) := by decide +kernel

set_option maxRecDepth 65536 in
theorem lp_leq (l : Launch) {Z : State} {n0 : Nat} {h : Heap} (a b : Addr) (u w : List Int32) (Fa : Vec Z h a .byte u) (Fb : Vec Z h b .byte w) (hu : u.length < 2 ^ 31) (hl : u.length = w.length) {R : Room} {K : Cx} (H : Ok Z K "java/lang/StringLatin1" jdk_43_method_13_code 3 (some .boolean) "equals") :
    ∀ (m i : Nat), i + m = u.length → u.take i = w.take i → Go l Z n0 R K (fun x h' sn => x = some (.int (if u = w then 1 else 0)) ∧ h = h' ∧ sn = []) h [] 0 0 9 #[.val (.ref a), .val (.ref b), .val (.int i.toInt32)] [] := by
  intro m
  induction m with
  | zero =>
    intro i hi he
    refine Go.iloadN H d37_9 rfl rfl ?_
    refine Go.aloadN H d37_10 rfl rfl rfl ?_
    refine Go.arraylength u.length.toInt32 H d37_11 rfl Fa rfl ?_
    refine Go.icmpY (pc' := 32) H d37_12 (flt (own_nlt (by omega) (by omega))).2.1 (by decide) (by decide) ?_
    refine Go.iconst (1 : Int32) H d37_32 rfl rfl ?_
    exact Go.ireturn 1 [] H d37_33 (by simp) (by decide) ⟨by rw [if_pos (by rw [List.take_of_length_le (by omega), List.take_of_length_le (by omega)] at he; exact he)], rfl, rfl⟩ all0 (Nat.zero_le _) (Nat.zero_le _)
  | succ m ih =>
    intro i hi he
    have hlt : i < u.length := by omega
    obtain ⟨p, hp⟩ : ∃ p, u[i]? = some p := ⟨_, List.getElem?_eq_getElem hlt⟩
    obtain ⟨q, hq⟩ : ∃ q, w[i]? = some q := ⟨_, List.getElem?_eq_getElem (by omega)⟩
    refine Go.iloadN H d37_9 rfl rfl ?_
    refine Go.aloadN H d37_10 rfl rfl rfl ?_
    refine Go.arraylength u.length.toInt32 H d37_11 rfl Fa rfl ?_
    refine Go.icmpN H d37_12 (tlt (own_lt hu hlt)).2.1 rfl ?_
    refine Go.aloadN H d37_15 rfl rfl rfl ?_
    refine Go.iloadN H d37_16 rfl rfl ?_
    refine Go.baload (v := p) H d37_17 rfl Fa i (own_cl (by omega)) (own_n0 (by omega)) hp ?_
    refine Go.aloadN H d37_18 rfl rfl rfl ?_
    refine Go.iloadN H d37_19 rfl rfl ?_
    refine Go.baload (v := q) H d37_20 rfl Fb i (own_cl (by omega)) (own_n0 (by omega)) hq ?_
    by_cases c1 : p = q
    ·
      refine Go.icmpY (pc' := 26) H d37_21 (teq c1).1 (by decide) (by decide) ?_
      refine Go.iinc (ls' := #[.val (.ref a), .val (.ref b), .val (.int (i.toInt32 + (1 : Int32)))]) (1 : Int32) H d37_26 rfl rfl rfl rfl ?_
      refine Go.goto (pc' := 9) H d37_29 (by decide) (by decide) ?_
      rw [own_s i]
      exact ih (i + 1) (by omega) (own_eqt he hp hq c1)
    ·
      refine Go.icmpN H d37_21 (feq c1).1 rfl ?_
      refine Go.iconst (0 : Int32) H d37_24 rfl rfl ?_
      exact Go.ireturn 0 [] H d37_25 (by simp) (by decide) ⟨by rw [if_neg (fun e => c1 (Option.some.inj (hp.symm.trans ((congrArg (fun z : List Int32 => z[i]?) e).trans hq))))], rfl, rfl⟩ all0 (Nat.zero_le _) (Nat.zero_le _)
theorem d37_0 : decode jdk_43_method_13_code 0 = .ok (.aload_n 0, 1) := by decide +kernel
theorem d37_1 : decode jdk_43_method_13_code 1 = .ok (.arraylength, 1) := by decide +kernel
theorem d37_2 : decode jdk_43_method_13_code 2 = .ok (.aload_n 1, 1) := by decide +kernel
theorem d37_3 : decode jdk_43_method_13_code 3 = .ok (.arraylength, 1) := by decide +kernel
theorem d37_4 : decode jdk_43_method_13_code 4 = .ok (.if_icmp .ne 30, 3) := by decide +kernel
theorem d37_7 : decode jdk_43_method_13_code 7 = .ok (.iconst 0, 1) := by decide +kernel
theorem d37_8 : decode jdk_43_method_13_code 8 = .ok (.istore_n 2, 1) := by decide +kernel
theorem d37_34 : decode jdk_43_method_13_code 34 = .ok (.iconst 0, 1) := by decide +kernel
theorem d37_35 : decode jdk_43_method_13_code 35 = .ok (.ireturn, 1) := by decide +kernel
abbrev N44 : MethodName := ⟨"java/lang/StringLatin1", "equals", "([B[B)Z"⟩

abbrev rm_leq : Room := { frames := 0, cells := 0, slots := 0, locals := 0 }
set_option maxRecDepth 65536 in
set_option maxHeartbeats 4000000 in
theorem ct_leq (l : Launch) {Z : State} {n0 : Nat} {z : Int32} {f : Value} (W : Sx Z z f) (a b : Addr) (u w : List Int32) (h : Heap) (Fa : Vec Z h a .byte u) (Fb : Vec Z h b .byte w) (hu : u.length < 2 ^ 31) (hv : w.length < 2 ^ 31) :
    Ctr l Z n0 N44 jdk_43_method_13_code 3 (some .boolean) rm_leq #[(.ref a), (.ref b)] h [] (fun v h' sn => v = some (.int (if u = w then 1 else 0)) ∧ h = h' ∧ sn = []) := by
  refine Ctr.of_go (ls := #[.val (.ref a), .val (.ref b), .unset]) W.1.1 (plainFor_of_name pn_N28) (fun m => by first | (simp [entryFrame, mkF, argsToLocals, Value.category]; done) | rfl) (fun K H => ?_)
  refine Go.aloadN H d37_0 rfl rfl rfl ?_
  refine Go.arraylength u.length.toInt32 H d37_1 rfl Fa rfl ?_
  refine Go.aloadN H d37_2 rfl rfl rfl ?_
  refine Go.arraylength w.length.toInt32 H d37_3 rfl Fb rfl ?_
  by_cases c1 : u.length = w.length
  ·
    refine Go.icmpN H d37_4 (teq (congrArg Nat.toInt32 c1)).2 rfl ?_
    refine Go.iconst (0 : Int32) H d37_7 rfl rfl ?_
    refine Go.istoreN (ls' := #[.val (.ref a), .val (.ref b), .val (.int (0 : Int32))]) H d37_8 rfl rfl ?_
    exact lp_leq l a b u w Fa Fb hu c1 H u.length 0 (by omega) rfl
  ·
    refine Go.icmpY (pc' := 34) H d37_4 (feq (fun e => c1 (own_ofinj hu hv e))).2 (by decide) (by decide) ?_
    refine Go.iconst (0 : Int32) H d37_34 rfl rfl ?_
    exact Go.ireturn 0 [] H d37_35 (by simp) (by decide) ⟨by rw [if_neg (fun e => c1 (congrArg List.length e))], rfl, rfl⟩ all0 (by decide) (by decide)
theorem Stg.det {Z : State} {h : Heap} {x b b' : Addr} {cs ds : List Int32} (F : Stg Z h x b cs) (G : Stg Z h x b' ds) : cs = ds := by
  rcases F with F | F <;> rcases G with G | G
  · exact Str.det F G
  · exact absurd (Fld.det F.2.2.1 G.2.2.1) (by simp)
  · exact absurd (Fld.det F.2.2.1 G.2.2.1) (by simp)
  · have e := Fld.det F.2.1 G.2.1
    cases e
    exact enc16_inj F.2.2.2.2.1 G.2.2.2.2.1 (F.2.2.2.1.det G.2.2.2.1)
theorem own_lune {cs ds : List Int32} (h : ∀ c ∈ cs, isL c) (g : ∃ c ∈ ds, ¬ isL c) : ¬ cs = ds := fun e => by
  subst e; obtain ⟨c, m, q⟩ := g; exact q (h c m)
theorem d36_0 : decode jdk_42_method_66_code 0 = .ok (.aload_n 0, 1) := by decide +kernel
theorem d36_1 : decode jdk_42_method_66_code 1 = .ok (.aload_n 1, 1) := by decide +kernel
theorem d36_2 : decode jdk_42_method_66_code 2 = .ok (.if_acmp .ne 5, 3) := by decide +kernel
theorem d36_5 : decode jdk_42_method_66_code 5 = .ok (.iconst 1, 1) := by decide +kernel
theorem d36_6 : decode jdk_42_method_66_code 6 = .ok (.ireturn, 1) := by decide +kernel
theorem d36_7 : decode jdk_42_method_66_code 7 = .ok (.aload_n 1, 1) := by decide +kernel
theorem d36_8 : decode jdk_42_method_66_code 8 = .ok (.instanceof 10, 3) := by decide +kernel
theorem w190 : Jvm.Cond.classLink "java/lang/String" (10 : Nat) "java/lang/String" ∈ tables_1 := List.mem_of_getElem? (i := 190) rfl
theorem d36_11 : decode jdk_42_method_66_code 11 = .ok (.ifCond .eq 43, 3) := by decide +kernel
theorem d36_14 : decode jdk_42_method_66_code 14 = .ok (.aload_n 1, 1) := by decide +kernel
theorem d36_15 : decode jdk_42_method_66_code 15 = .ok (.checkcast 10, 3) := by decide +kernel
theorem d36_18 : decode jdk_42_method_66_code 18 = .ok (.astore_n 2, 1) := by decide +kernel
theorem d36_19 : decode jdk_42_method_66_code 19 = .ok (.getstatic 38, 3) := by decide +kernel
theorem d36_22 : decode jdk_42_method_66_code 22 = .ok (.ifCond .eq 14, 3) := by decide +kernel
theorem d36_25 : decode jdk_42_method_66_code 25 = .ok (.aload_n 0, 1) := by decide +kernel
theorem d36_26 : decode jdk_42_method_66_code 26 = .ok (.getfield 15, 3) := by decide +kernel
theorem d36_29 : decode jdk_42_method_66_code 29 = .ok (.aload_n 2, 1) := by decide +kernel
theorem d36_30 : decode jdk_42_method_66_code 30 = .ok (.getfield 15, 3) := by decide +kernel
theorem d36_33 : decode jdk_42_method_66_code 33 = .ok (.if_icmp .ne 21, 3) := by decide +kernel
theorem d36_36 : decode jdk_42_method_66_code 36 = .ok (.aload_n 0, 1) := by decide +kernel
theorem d36_37 : decode jdk_42_method_66_code 37 = .ok (.getfield 9, 3) := by decide +kernel
theorem d36_40 : decode jdk_42_method_66_code 40 = .ok (.aload_n 2, 1) := by decide +kernel
theorem d36_41 : decode jdk_42_method_66_code 41 = .ok (.getfield 9, 3) := by decide +kernel
theorem d36_44 : decode jdk_42_method_66_code 44 = .ok (.invokestatic 541, 3) := by decide +kernel
theorem w194 : Jvm.Cond.code N44 jdk_43_method_13_code (3 : Nat) (Option.some Jvm.ClassFile.FieldType.boolean) ∈ tables_1 := List.mem_of_getElem? (i := 194) rfl
theorem pd_N44 : parseMethodDescriptor N44.desc = some ⟨[(.array .byte), (.array .byte)], (some .boolean)⟩ := by decide +kernel
theorem w191 : Jvm.Cond.methodLink "java/lang/String" (541 : Nat) N44 ∈ tables_1 := List.mem_of_getElem? (i := 191) rfl
theorem w192 : Jvm.Cond.static N44 ∈ tables_1 := List.mem_of_getElem? (i := 192) rfl
theorem d36_47 : decode jdk_42_method_66_code 47 = .ok (.ifCond .eq 7, 3) := by decide +kernel
theorem d36_50 : decode jdk_42_method_66_code 50 = .ok (.iconst 1, 1) := by decide +kernel
theorem d36_51 : decode jdk_42_method_66_code 51 = .ok (.goto 4, 3) := by decide +kernel
theorem d36_55 : decode jdk_42_method_66_code 55 = .ok (.ireturn, 1) := by decide +kernel
theorem d36_54 : decode jdk_42_method_66_code 54 = .ok (.iconst 0, 1) := by decide +kernel
abbrev N45 : MethodName := ⟨"java/lang/String", "equals", "(Ljava/lang/Object;)Z"⟩

abbrev rm_eq : Room := { frames := 1, cells := 0, slots := 0, locals := 14 }
set_option maxRecDepth 65536 in
set_option maxHeartbeats 4000000 in
theorem ct_eq (l : Launch) {Z : State} {n0 : Nat} {z : Int32} {f : Value} (W : Sx Z z f) (x b y d : Addr) (cs ds : List Int32) (h : Heap) (S : Stg Z h x b cs) (S2 : Stg Z h y d ds) :
    Ctr l Z n0 N45 jdk_42_method_66_code 3 (some .boolean) rm_eq #[(.ref x), (.ref y)] h [] (fun v h' sn => v = some (.int (if cs = ds then 1 else 0)) ∧ h = h' ∧ sn = []) := by
  refine Ctr.of_go (ls := #[.val (.ref x), .val (.ref y), .unset]) W.1.1 (plainFor_of_name pn_N9) (fun m => by first | (simp [entryFrame, mkF, argsToLocals, Value.category]; done) | rfl) (fun K H => ?_)
  refine Go.aloadN H d36_0 rfl rfl rfl ?_
  refine Go.aloadN H d36_1 rfl rfl rfl ?_
  by_cases c1 : x = y
  ·
    subst c1
    refine Go.acmpN H d36_2 rfl rfl (by simp [XT.acmp]) rfl ?_
    refine Go.iconst (1 : Int32) H d36_5 rfl rfl ?_
    exact Go.ireturn (1 : Int32) [] H d36_6 (by simp) (by decide) ⟨by rw [if_pos (S.det S2)], rfl, rfl⟩ all0 (by decide) (by decide)
  ·
    refine Go.acmpY (pc' := 7) H d36_2 rfl rfl (by simp [XT.acmp, c1]) (by decide) (by decide) ?_
    refine Go.aloadN H d36_7 rfl rfl rfl ?_
    refine Go.instanceofY H d36_8 rfl w190 (Ins.self S2.exa) ?_
    refine Go.ifN H d36_11 (by decide) rfl ?_
    refine Go.aloadN H d36_14 rfl rfl rfl ?_
    refine Go.checkcast H d36_15 rfl w190 (Ins.self S2.exa) ?_
    refine Go.astoreN (ls' := #[.val (.ref x), .val (.ref y), .val (.ref y)]) H d36_18 rfl rfl rfl ?_
    rcases S with ⟨A, Fv, Fc, Fb, hL, hn⟩ | ⟨A, Fv, Fc, Fb, hC, hn, hX⟩
    ·
      rcases S2 with ⟨A2, Fv2, Fc2, Fb2, hL2, hn2⟩ | ⟨A2, Fv2, Fc2, Fb2, hC2, hn2, hX2⟩
      ·
        refine Go.getstatic H d36_19 rfl w29 W.1.2.2.1 ?_
        refine Go.ifN H d36_22 (feq W.1.2.1).1 rfl ?_
        refine Go.aloadN H d36_25 rfl rfl rfl ?_
        refine Go.getfield H d36_26 rfl w25 Fc ?_
        refine Go.aloadN H d36_29 rfl rfl rfl ?_
        refine Go.getfield H d36_30 rfl w25 Fc2 ?_
        refine Go.icmpN H d36_33 (by decide) rfl ?_
        refine Go.aloadN H d36_36 rfl rfl rfl ?_
        refine Go.getfield H d36_37 rfl w24 Fv ?_
        refine Go.aloadN H d36_40 rfl rfl rfl ?_
        refine Go.getfield H d36_41 rfl w24 Fv2 ?_
        refine Go.callS (rest := []) 0 [(.ref b), (.ref d)] H d36_44 rfl w191 w192 w193 w194 pd_N44 (ct_leq l W b d _ _ h Fb Fb2 (by rw [List.length_map]; omega) (by rw [List.length_map]; omega)) all0 rfl rfl rfl (Nat.le_of_eq rfl) (by decide) (by decide) (by decide) (by decide) nh_N28 ?_
        rintro _ _ _ ⟨rfl, rfl, rfl⟩
        show Go _ _ _ _ _ _ h [] 0 0 47 #[.val (.ref x), .val (.ref y), .val (.ref y)] [(.int (if cs.map (nar .byte) = ds.map (nar .byte) then (1 : Int32) else 0))]
        by_cases c2 : cs = ds
        ·
          refine Go.ifN H d36_47 (feq (by rw [if_pos (congrArg _ c2)]; decide)).1 rfl ?_
          refine Go.iconst (1 : Int32) H d36_50 rfl rfl ?_
          refine Go.goto (pc' := 55) H d36_51 (by decide) (by decide) ?_
          exact Go.ireturn (1 : Int32) [] H d36_55 (by simp) (by decide) ⟨by rw [if_pos c2], rfl, rfl⟩ all0 (by decide) (by decide)
        ·
          refine Go.ifY (pc' := 54) H d36_47 (teq (by rw [if_neg (fun e => c2 (own_mapinj hL hL2 e))])).1 (by decide) (by decide) ?_
          refine Go.iconst (0 : Int32) H d36_54 rfl rfl ?_
          exact Go.ireturn (0 : Int32) [] H d36_55 (by simp) (by decide) ⟨by rw [if_neg c2], rfl, rfl⟩ all0 (by decide) (by decide)
      ·
        refine Go.getstatic H d36_19 rfl w29 W.1.2.2.1 ?_
        refine Go.ifN H d36_22 (feq W.1.2.1).1 rfl ?_
        refine Go.aloadN H d36_25 rfl rfl rfl ?_
        refine Go.getfield H d36_26 rfl w25 Fc ?_
        refine Go.aloadN H d36_29 rfl rfl rfl ?_
        refine Go.getfield H d36_30 rfl w25 Fc2 ?_
        refine Go.icmpY (pc' := 54) H d36_33 (by decide) (by decide) (by decide) ?_
        refine Go.iconst (0 : Int32) H d36_54 rfl rfl ?_
        exact Go.ireturn (0 : Int32) [] H d36_55 (by simp) (by decide) ⟨by rw [if_neg (own_lune hL hX2)], rfl, rfl⟩ all0 (by decide) (by decide)
    ·
      rcases S2 with ⟨A2, Fv2, Fc2, Fb2, hL2, hn2⟩ | ⟨A2, Fv2, Fc2, Fb2, hC2, hn2, hX2⟩
      ·
        refine Go.getstatic H d36_19 rfl w29 W.1.2.2.1 ?_
        refine Go.ifN H d36_22 (feq W.1.2.1).1 rfl ?_
        refine Go.aloadN H d36_25 rfl rfl rfl ?_
        refine Go.getfield H d36_26 rfl w25 Fc ?_
        refine Go.aloadN H d36_29 rfl rfl rfl ?_
        refine Go.getfield H d36_30 rfl w25 Fc2 ?_
        refine Go.icmpY (pc' := 54) H d36_33 (by decide) (by decide) (by decide) ?_
        refine Go.iconst (0 : Int32) H d36_54 rfl rfl ?_
        exact Go.ireturn (0 : Int32) [] H d36_55 (by simp) (by decide) ⟨by rw [if_neg (Ne.symm (own_lune hL2 hX))], rfl, rfl⟩ all0 (by decide) (by decide)
      ·
        refine Go.getstatic H d36_19 rfl w29 W.1.2.2.1 ?_
        refine Go.ifN H d36_22 (feq W.1.2.1).1 rfl ?_
        refine Go.aloadN H d36_25 rfl rfl rfl ?_
        refine Go.getfield H d36_26 rfl w25 Fc ?_
        refine Go.aloadN H d36_29 rfl rfl rfl ?_
        refine Go.getfield H d36_30 rfl w25 Fc2 ?_
        refine Go.icmpN H d36_33 (by decide) rfl ?_
        refine Go.aloadN H d36_36 rfl rfl rfl ?_
        refine Go.getfield H d36_37 rfl w24 Fv ?_
        refine Go.aloadN H d36_40 rfl rfl rfl ?_
        refine Go.getfield H d36_41 rfl w24 Fv2 ?_
        refine Go.callS (rest := []) 0 [(.ref b), (.ref d)] H d36_44 rfl w191 w192 w193 w194 pd_N44 (ct_leq l W b d _ _ h Fb Fb2 (by rw [enc16_len]; omega) (by rw [enc16_len]; omega)) all0 rfl rfl rfl (Nat.le_of_eq rfl) (by decide) (by decide) (by decide) (by decide) nh_N28 ?_
        rintro _ _ _ ⟨rfl, rfl, rfl⟩
        show Go _ _ _ _ _ _ h [] 0 0 47 #[.val (.ref x), .val (.ref y), .val (.ref y)] [(.int (if enc16 cs = enc16 ds then (1 : Int32) else 0))]
        by_cases c3 : cs = ds
        ·
          refine Go.ifN H d36_47 (feq (by rw [if_pos (congrArg _ c3)]; decide)).1 rfl ?_
          refine Go.iconst (1 : Int32) H d36_50 rfl rfl ?_
          refine Go.goto (pc' := 55) H d36_51 (by decide) (by decide) ?_
          exact Go.ireturn (1 : Int32) [] H d36_55 (by simp) (by decide) ⟨by rw [if_pos c3], rfl, rfl⟩ all0 (by decide) (by decide)
        ·
          refine Go.ifY (pc' := 54) H d36_47 (teq (by rw [if_neg (fun e => c3 (enc16_inj hC hC2 e))])).1 (by decide) (by decide) ?_
          refine Go.iconst (0 : Int32) H d36_54 rfl rfl ?_
          exact Go.ireturn (0 : Int32) [] H d36_55 (by simp) (by decide) ⟨by rw [if_neg c3], rfl, rfl⟩ all0 (by decide) (by decide)
theorem w41 : Jvm.Cond.instantiable "com/example/steady_rollout/steadyrollout/DeviceTopics" (1 : Nat) ∈ tables_1 := List.mem_of_getElem? (i := 41) rfl
theorem d9_0 : decode prog_4_method_1_code 0 = .ok (.aload_n 0, 1) := by decide +kernel
theorem d9_1 : decode prog_4_method_1_code 1 = .ok (.invokespecial 1, 3) := by decide +kernel
theorem w46 : Jvm.Cond.methodLink "com/example/steady_rollout/steadyrollout/DeviceTopics" (1 : Nat) N8 ∈ tables_1 := List.mem_of_getElem? (i := 46) rfl
theorem d9_4 : decode prog_4_method_1_code 4 = .ok (.aload_n 0, 1) := by decide +kernel
theorem d9_5 : decode prog_4_method_1_code 5 = .ok (.new 7, 3) := by decide +kernel
theorem w47 : Jvm.Cond.classLink "com/example/steady_rollout/steadyrollout/DeviceTopics" (7 : Nat) "java/lang/StringBuilder" ∈ tables_1 := List.mem_of_getElem? (i := 47) rfl
theorem d9_8 : decode prog_4_method_1_code 8 = .ok (.dup, 1) := by decide +kernel
theorem d9_9 : decode prog_4_method_1_code 9 = .ok (.invokespecial 9, 3) := by decide +kernel
theorem w52 : Jvm.Cond.code N16 jdk_67_method_1_code (1 : Nat) (Option.none : Option Jvm.ClassFile.FieldType) ∈ tables_1 := List.mem_of_getElem? (i := 52) rfl
theorem pd_N16 : parseMethodDescriptor N16.desc = some ⟨[], none⟩ := by decide +kernel
theorem nh_N16 : N16.cls ≠ "java/lang/invoke/MethodHandle" ∧ N16.cls ≠ "java/lang/invoke/VarHandle" := by decide
theorem w50 : Jvm.Cond.methodLink "com/example/steady_rollout/steadyrollout/DeviceTopics" (9 : Nat) N16 ∈ tables_1 := List.mem_of_getElem? (i := 50) rfl
theorem w51 : Jvm.Cond.instanceMethod N16 ∈ tables_1 := List.mem_of_getElem? (i := 51) rfl
theorem d9_12 : decode prog_4_method_1_code 12 = .ok (.aload_n 1, 1) := by decide +kernel
theorem d9_13 : decode prog_4_method_1_code 13 = .ok (.invokevirtual 10, 3) := by decide +kernel
theorem tt_887 (cs : List Int32) (hn : cs.length ≤ 2) : (([] : List Int32)).length + (cs).length ≤ 33 := by
  simp only [List.length_append, List.length_cons, List.length_nil]; omega
theorem w69 : Jvm.Cond.code N34 jdk_67_method_7_code (2 : Nat) (Option.some (Jvm.ClassFile.FieldType.object "java/lang/StringBuilder")) ∈ tables_1 := List.mem_of_getElem? (i := 69) rfl
theorem pd_N34 : parseMethodDescriptor N34.desc = some ⟨[(.object "java/lang/String")], (some (.object "java/lang/StringBuilder"))⟩ := by decide +kernel
theorem w65 : Jvm.Cond.methodLink "com/example/steady_rollout/steadyrollout/DeviceTopics" (10 : Nat) N34 ∈ tables_1 := List.mem_of_getElem? (i := 65) rfl
theorem w66 : Jvm.Cond.declares N34 ∈ tables_1 := List.mem_of_getElem? (i := 66) rfl
theorem w68 : Jvm.Cond.selects "java/lang/StringBuilder" N34 N34 ∈ tables_1 := List.mem_of_getElem? (i := 68) rfl
theorem w67 : Jvm.Cond.instanceMethod N34 ∈ tables_1 := List.mem_of_getElem? (i := 67) rfl
theorem d9_16 : decode prog_4_method_1_code 16 = .ok (.ldc 14, 2) := by decide +kernel
theorem lt_1 : (∀ c ∈ ("/things/" : String).toList, c.toNat < 256) ∧ ("/things/" : String).toList.map (fun c => Value.int (Jvm.Lit.byteI c.toNat.toUInt16)) = (([(47 : Int32), (116 : Int32), (104 : Int32), (105 : Int32), (110 : Int32), (103 : Int32), (115 : Int32), (47 : Int32)]).map (nar .byte)).map Value.int := by decide +kernel
theorem lt_1_l : ∀ c ∈ [(47 : Int32), (116 : Int32), (104 : Int32), (105 : Int32), (110 : Int32), (103 : Int32), (115 : Int32), (47 : Int32)], isL c := own_ac (show isL (47 : Int32) from ⟨by decide, by decide⟩) (own_ac (show isL (116 : Int32) from ⟨by decide, by decide⟩) (own_ac (show isL (104 : Int32) from ⟨by decide, by decide⟩) (own_ac (show isL (105 : Int32) from ⟨by decide, by decide⟩) (own_ac (show isL (110 : Int32) from ⟨by decide, by decide⟩) (own_ac (show isL (103 : Int32) from ⟨by decide, by decide⟩) (own_ac (show isL (115 : Int32) from ⟨by decide, by decide⟩) (own_ac (show isL (47 : Int32) from ⟨by decide, by decide⟩) (own_an))))))))
theorem cm_1 : ("com/example/steady_rollout/steadyrollout/DeviceTopics", 14) ∈ consts_1 := by decide
theorem w112 : Jvm.Cond.stringLink "com/example/steady_rollout/steadyrollout/DeviceTopics" (14 : Nat) "/things/" ∈ tables_1 := List.mem_of_getElem? (i := 112) rfl
theorem d9_18 : decode prog_4_method_1_code 18 = .ok (.invokevirtual 10, 3) := by decide +kernel
theorem tt_899 (cs : List Int32) (hn : cs.length ≤ 2) : ((([] : List Int32) ++ cs)).length + ([(47 : Int32), (116 : Int32), (104 : Int32), (105 : Int32), (110 : Int32), (103 : Int32), (115 : Int32), (47 : Int32)]).length ≤ 33 := by
  simp only [List.length_append, List.length_cons, List.length_nil]; omega
theorem d9_21 : decode prog_4_method_1_code 21 = .ok (.invokevirtual 16, 3) := by decide +kernel
theorem tl_901 (cs : List Int32) (hn : cs.length ≤ 2) {cap : Nat} (hc : cap = 16 ∨ cap = 34) (hl : (((([] : List Int32) ++ cs) ++ [(47 : Int32), (116 : Int32), (104 : Int32), (105 : Int32), (110 : Int32), (103 : Int32), (115 : Int32), (47 : Int32)])).length ≤ cap) : (((([] : List Int32) ++ cs) ++ [(47 : Int32), (116 : Int32), (104 : Int32), (105 : Int32), (110 : Int32), (103 : Int32), (115 : Int32), (47 : Int32)])).length < cap := by
  simp only [List.length_append, List.length_cons, List.length_nil] at hl ⊢; omega
theorem w117 : Jvm.Cond.code N43 jdk_67_method_42_code (1 : Nat) (Option.some (Jvm.ClassFile.FieldType.object "java/lang/String")) ∈ tables_1 := List.mem_of_getElem? (i := 117) rfl
theorem pd_N43 : parseMethodDescriptor N43.desc = some ⟨[], (some (.object "java/lang/String"))⟩ := by decide +kernel
theorem w113 : Jvm.Cond.methodLink "com/example/steady_rollout/steadyrollout/DeviceTopics" (16 : Nat) N43 ∈ tables_1 := List.mem_of_getElem? (i := 113) rfl
theorem w114 : Jvm.Cond.declares N43 ∈ tables_1 := List.mem_of_getElem? (i := 114) rfl
theorem w116 : Jvm.Cond.selects "java/lang/StringBuilder" N43 N43 ∈ tables_1 := List.mem_of_getElem? (i := 116) rfl
theorem w115 : Jvm.Cond.instanceMethod N43 ∈ tables_1 := List.mem_of_getElem? (i := 115) rfl
theorem d9_24 : decode prog_4_method_1_code 24 = .ok (.putfield 20, 3) := by decide +kernel
theorem w158 : Jvm.Cond.fieldLink "com/example/steady_rollout/steadyrollout/DeviceTopics" (20 : Nat) "com/example/steady_rollout/steadyrollout/DeviceTopics" "thingsRoot" "Ljava/lang/String;" ∈ tables_1 := List.mem_of_getElem? (i := 158) rfl
theorem w159 : Jvm.Cond.laysFinal "com/example/steady_rollout/steadyrollout/DeviceTopics" "com/example/steady_rollout/steadyrollout/DeviceTopics" "thingsRoot" "Ljava/lang/String;" ∈ tables_1 := List.mem_of_getElem? (i := 159) rfl
theorem d9_27 : decode prog_4_method_1_code 27 = .ok (.return_, 1) := by decide +kernel
abbrev N46 : MethodName := ⟨"com/example/steady_rollout/steadyrollout/DeviceTopics", "<init>", "(Ljava/lang/String;)V"⟩
theorem pn_N46 : plainName N46.cls = true := by first | (simp [plainName, overriddenIn]; done) | decide +kernel

abbrev rm_dti : Room := { frames := 10, cells := 10, slots := 332, locals := 144 }
set_option maxRecDepth 65536 in
set_option maxHeartbeats 4000000 in
theorem ct_dti (l : Launch) {Z : State} {n0 : Nat} {z : Int32} {f : Value} (W : Sx Z z f) (t s1 b1 : Addr) (cs : List Int32) (h : Heap) (A : Exa Z h t "com/example/steady_rollout/steadyrollout/DeviceTopics") (F : Fld Z h t "com/example/steady_rollout/steadyrollout/DeviceTopics" "thingsRoot" "Ljava/lang/String;" .null) (S : Stg Z h s1 b1 cs) (hn : cs.length ≤ 2) (zt : n0 ≤ t) :
    Ctr l Z n0 N46 prog_4_method_1_code 2 none rm_dti #[(.ref t), (.ref s1)] h [t] (fun v h' sn => v = none ∧ Keep h h' [t] ∧ (∃ r rb, Fld Z h' t "com/example/steady_rollout/steadyrollout/DeviceTopics" "thingsRoot" "Ljava/lang/String;" (.ref r) ∧ Stg Z h' r rb (cs ++ [(47 : Int32), (116 : Int32), (104 : Int32), (105 : Int32), (110 : Int32), (103 : Int32), (115 : Int32), (47 : Int32)])) ∧ sn = []) := by
  refine Ctr.of_go (ls := #[.val (.ref t), .val (.ref s1)]) W.1.1 (plainFor_of_name pn_N46) (fun m => by first | (simp [entryFrame, mkF, argsToLocals, Value.category]; done) | rfl) (fun K H => ?_)
  have KK : Keep h h [t] := Keep.refl _ _
  have hst : s1 ≠ t := Ne.symm (Exa.ne A S.exa (by decide))
  have hbt : b1 ≠ t := S.neO A W.1.1 w41
  refine Go.aloadN H d9_0 rfl rfl rfl ?_
  refine Go.initObj H d9_1 rfl w46 w16 w17 0 rfl (Nat.le_of_eq rfl) (by decide) (by decide) ?_
  refine Go.aloadN H d9_4 rfl rfl rfl ?_
  refine Go.new H d9_5 rfl w47 w48 w49 (by decide) (by decide) ?_
  intro a1 h2 g3 z4 E5 A6 D7
  have ne8 : t ≠ a1 := Nat.ne_of_lt (Nat.lt_of_lt_of_le A.lt (Nat.le_of_eq g3.symm))
  have ne9 : s1 ≠ a1 := Nat.ne_of_lt (Nat.lt_of_lt_of_le S.lt (Nat.le_of_eq g3.symm))
  have ne10 : b1 ≠ a1 := Nat.ne_of_lt (Nat.lt_of_lt_of_le S.ltb (Nat.le_of_eq g3.symm))
  have sz11 := Nat.le_trans KK.1 (Nat.le_of_eq g3.symm)
  replace A := A.ext E5
  replace F := F.ext E5
  replace S := S.ext E5
  replace KK := KK.ext E5
  have F12 : Fld Z h2 a1 "java/lang/AbstractStringBuilder" "value" "[B" .null := D7 (Or.inl w62) (ty := (.array .byte)) (by decide)
  have F13 : Fld Z h2 a1 "java/lang/AbstractStringBuilder" "coder" "B" (.int (0 : Int32)) := D7 (Or.inl w64) (ty := .byte) (by decide)
  have F14 : Fld Z h2 a1 "java/lang/AbstractStringBuilder" "count" "I" (.int (0 : Int32)) := D7 (Or.inl w86) (ty := .int) (by decide)
  have F15 : Fld Z h2 a1 "java/lang/AbstractStringBuilder" "maybeLatin1" "Z" (.int (0 : Int32)) := D7 (Or.inl w243) (ty := .boolean) (by decide)
  show Go _ _ _ _ _ _ h2 [a1, t] 1 4 8 #[.val (.ref t), .val (.ref s1)] [(.ref a1), (.ref t)]
  refine Go.dup H d9_8 rfl rfl ?_
  refine Go.callI (rest := [(.ref a1), (.ref t)]) 2 [] H d9_9 rfl rfl w50 w51 w49 w52 pd_N16 (ct_sbi l W a1 h2 A6 F12 F13 F14 F15 z4) (by simp) rfl rfl rfl (Nat.le_of_eq rfl) (by decide) (by decide) (by decide) (by decide) nh_N16 ?_
  rintro _ h16 _ ⟨rfl, K17, b18, g19, z20, S21, rfl⟩
  have ne22 : t ≠ b18 := Nat.ne_of_lt (Nat.lt_of_lt_of_le A.lt g19)
  have ne23 : s1 ≠ b18 := Nat.ne_of_lt (Nat.lt_of_lt_of_le S.lt g19)
  have ne24 : b1 ≠ b18 := Nat.ne_of_lt (Nat.lt_of_lt_of_le S.ltb g19)
  have ne25 : a1 ≠ b18 := Nat.ne_of_lt (Nat.lt_of_lt_of_le A6.lt g19)
  have sz26 := Nat.le_trans KK.1 g19
  replace A := A.keep K17
  replace F := F.keep K17 (ninS ne8 nin0)
  replace S := S.keep K17 (ninS ne9 nin0) (ninS ne10 nin0)
  replace KK := KK.trans K17 (allS (Or.inr sz11) all0)
  show Go _ _ _ _ _ _ h16 [b18, a1, t] 2 20 12 #[.val (.ref t), .val (.ref s1)] [(.ref a1), (.ref t)]
  refine Go.aloadN H d9_12 rfl rfl rfl ?_
  refine Go.callV (rest := [(.ref t)]) 1 [(.ref s1)] H d9_13 rfl S21.exa w65 w66 w68 w67 w49 w69 pd_N34 (ct_sba l W a1 b18 s1 b1 ([] : List Int32) cs 16 h16 S21 (Or.inl rfl) S (tt_887 cs hn) z4 z20 ne24) (by simp) rfl rfl rfl (Nat.le_of_eq rfl) (by decide) (by decide) (by decide) (by decide) nh_N16 ?_
  rintro _ h27 _ ⟨rfl, K28, d29, cp30, q31, z32, S33, hc34, hl35, rfl⟩
  have ne36 : t ≠ d29 := q31.elim (fun e => e ▸ ne22) (fun g => Nat.ne_of_lt (Nat.lt_of_lt_of_le A.lt g))
  have ne37 : s1 ≠ d29 := q31.elim (fun e => e ▸ ne23) (fun g => Nat.ne_of_lt (Nat.lt_of_lt_of_le S.lt g))
  have ne38 : b1 ≠ d29 := q31.elim (fun e => e ▸ ne24) (fun g => Nat.ne_of_lt (Nat.lt_of_lt_of_le S.ltb g))
  have ne39 : a1 ≠ d29 := q31.elim (fun e => e ▸ ne25) (fun g => Nat.ne_of_lt (Nat.lt_of_lt_of_le S21.lt g))
  have sz40 : _ ≤ d29 := q31.elim (fun e => e ▸ sz26) (fun g => Nat.le_trans KK.1 g)
  replace A := A.keep K28
  replace F := F.keep K28 (ninS ne8 (ninS ne22 nin0))
  replace S := S.keep K28 (ninS ne9 (ninS ne23 nin0)) (ninS ne10 (ninS ne24 nin0))
  replace KK := KK.trans K28 (allS (Or.inr sz11) (allS (Or.inr sz26) all0))
  show Go _ _ _ _ _ _ h27 [d29, b18, a1, t] 4 122 16 #[.val (.ref t), .val (.ref s1)] [(.ref a1), (.ref t)]
  refine Go.ldcS [(47 : Int32), (116 : Int32), (104 : Int32), (105 : Int32), (110 : Int32), (103 : Int32), (115 : Int32), (47 : Int32)] (8 : Int32) 32 H d9_16 rfl w112 cm_1 lt_1 lt_1_l (by decide) (by decide) (by decide) (by decide) (by decide) (by decide) ?_
  intro a41 b42 h43 E44 S45 q46
  replace A := A.ext E44
  replace F := F.ext E44
  replace S := S.ext E44
  replace S33 := S33.ext E44
  replace KK := KK.ext E44
  have ne47 : d29 ≠ a41 := (q46 d29 (by simp)).1
  have ne48 : d29 ≠ b42 := (q46 d29 (by simp)).2
  have ne49 : b18 ≠ a41 := (q46 b18 (by simp)).1
  have ne50 : b18 ≠ b42 := (q46 b18 (by simp)).2
  have ne51 : a1 ≠ a41 := (q46 a1 (by simp)).1
  have ne52 : a1 ≠ b42 := (q46 a1 (by simp)).2
  have ne53 : t ≠ a41 := (q46 t (by simp)).1
  have ne54 : t ≠ b42 := (q46 t (by simp)).2
  show Go _ _ _ _ _ _ h43 [d29, b18, a1, t] 6 158 18 #[.val (.ref t), .val (.ref s1)] [(.ref a41), (.ref a1), (.ref t)]
  refine Go.callV (rest := [(.ref t)]) 1 [(.ref a41)] H d9_18 rfl S33.exa w65 w66 w68 w67 w49 w69 pd_N34 (ct_sba l W a1 d29 a41 b42 (([] : List Int32) ++ cs) [(47 : Int32), (116 : Int32), (104 : Int32), (105 : Int32), (110 : Int32), (103 : Int32), (115 : Int32), (47 : Int32)] cp30 h43 S33 hc34 (Or.inl S45) (tt_899 cs hn) z4 z32 (Ne.symm ne48)) (by simp) rfl rfl rfl (Nat.le_of_eq rfl) (by decide) (by decide) (by decide) (by decide) nh_N16 ?_
  rintro _ h55 _ ⟨rfl, K56, d57, cp58, q59, z60, S61, hc62, hl63, rfl⟩
  have ne64 : t ≠ d57 := q59.elim (fun e => e ▸ ne36) (fun g => Nat.ne_of_lt (Nat.lt_of_lt_of_le A.lt g))
  have ne65 : s1 ≠ d57 := q59.elim (fun e => e ▸ ne37) (fun g => Nat.ne_of_lt (Nat.lt_of_lt_of_le S.lt g))
  have ne66 : b1 ≠ d57 := q59.elim (fun e => e ▸ ne38) (fun g => Nat.ne_of_lt (Nat.lt_of_lt_of_le S.ltb g))
  have ne67 : a41 ≠ d57 := q59.elim (fun e => e ▸ (Ne.symm ne47)) (fun g => Nat.ne_of_lt (Nat.lt_of_lt_of_le S45.lt g))
  have ne68 : b42 ≠ d57 := q59.elim (fun e => e ▸ (Ne.symm ne48)) (fun g => Nat.ne_of_lt (Nat.lt_of_lt_of_le S45.ltb g))
  have ne69 : a1 ≠ d57 := q59.elim (fun e => e ▸ ne39) (fun g => Nat.ne_of_lt (Nat.lt_of_lt_of_le S33.lt g))
  have sz70 : _ ≤ d57 := q59.elim (fun e => e ▸ sz40) (fun g => Nat.le_trans KK.1 g)
  replace A := A.keep K56
  replace F := F.keep K56 (ninS ne8 (ninS ne36 nin0))
  replace S := S.keep K56 (ninS ne9 (ninS ne37 nin0)) (ninS ne10 (ninS ne38 nin0))
  replace S45 := S45.keep K56 (ninS (Ne.symm ne51) (ninS (Ne.symm ne47) nin0)) (ninS (Ne.symm ne52) (ninS (Ne.symm ne48) nin0))
  replace KK := KK.trans K56 (allS (Or.inr sz11) (allS (Or.inr sz40) all0))
  show Go _ _ _ _ _ _ h55 [d57, d29, b18, a1, t] 8 260 21 #[.val (.ref t), .val (.ref s1)] [(.ref a1), (.ref t)]
  refine Go.callV (rest := [(.ref t)]) 1 [] H d9_21 rfl S61.exa w113 w114 w116 w115 w49 w117 pd_N43 (ct_tos l W a1 d57 ((([] : List Int32) ++ cs) ++ [(47 : Int32), (116 : Int32), (104 : Int32), (105 : Int32), (110 : Int32), (103 : Int32), (115 : Int32), (47 : Int32)]) cp58 h55 S61 hc62 (tl_901 cs hn hc62 hl63)) all0 rfl rfl rfl (Nat.le_of_eq rfl) (by decide) (by decide) (by decide) (by decide) nh_N16 ?_
  rintro _ h73 _ ⟨a71, b72, rfl, E74, g75, S76, rfl⟩
  have ne77 : t ≠ a71 := Nat.ne_of_lt (Nat.lt_of_lt_of_le A.lt g75)
  have ne78 : s1 ≠ a71 := Nat.ne_of_lt (Nat.lt_of_lt_of_le S.lt g75)
  have ne79 : b1 ≠ a71 := Nat.ne_of_lt (Nat.lt_of_lt_of_le S.ltb g75)
  have ne80 : a41 ≠ a71 := Nat.ne_of_lt (Nat.lt_of_lt_of_le S45.lt g75)
  have ne81 : b42 ≠ a71 := Nat.ne_of_lt (Nat.lt_of_lt_of_le S45.ltb g75)
  have ne82 : a1 ≠ a71 := Nat.ne_of_lt (Nat.lt_of_lt_of_le S61.lt g75)
  have ne83 : d57 ≠ a71 := Nat.ne_of_lt (Nat.lt_of_lt_of_le S61.ltb g75)
  replace A := A.ext E74
  replace F := F.ext E74
  replace S := S.ext E74
  replace S45 := S45.ext E74
  replace S61 := S61.ext E74
  replace KK := KK.ext E74
  show Go _ _ _ _ _ _ h73 [d57, d29, b18, a1, t] 10 332 24 #[.val (.ref t), .val (.ref s1)] [(.ref a71), (.ref t)]
  refine Go.putfield (v := (.ref a71)) H d9_24 rfl w158 F A (Or.inr ⟨w159, rfl, rfl⟩) w41 (ty := (.object "java/lang/String")) (by decide) rfl rfl zt (by simp) ?_
  intro h84 Wr85
  have F86 := F.same Wr85
  have K87 := Keep.of_wr Wr85
  have ne88 : b72 ≠ t := (Stg.neO S76 A W.1.1 w41)
  replace A := A.wr Wr85
  replace S := S.keep K87 (ninS hst nin0) (ninS hbt nin0)
  replace S45 := S45.keep K87 (ninS (Ne.symm ne53) nin0) (ninS (Ne.symm ne54) nin0)
  replace S61 := S61.keep K87 (ninS (Ne.symm ne8) nin0) (ninS (Ne.symm ne64) nin0)
  replace S76 := S76.keep K87 (ninS (Ne.symm ne77) nin0) (ninS ne88 nin0)
  replace KK := KK.wr Wr85 (Or.inl (by simp))
  exact Go.return_ [] H d9_27 ⟨rfl, KK, ⟨_, _, F86, S76⟩, rfl⟩ all0 (by decide) (by decide)
theorem d31_0 : decode prog_4_method_6_code 0 = .ok (.new 7, 3) := by decide +kernel
theorem d31_3 : decode prog_4_method_6_code 3 = .ok (.dup, 1) := by decide +kernel
theorem d31_4 : decode prog_4_method_6_code 4 = .ok (.invokespecial 9, 3) := by decide +kernel
theorem d31_7 : decode prog_4_method_6_code 7 = .ok (.aload_n 0, 1) := by decide +kernel
theorem d31_8 : decode prog_4_method_6_code 8 = .ok (.getfield 20, 3) := by decide +kernel
theorem d31_11 : decode prog_4_method_6_code 11 = .ok (.invokevirtual 10, 3) := by decide +kernel
theorem tt_919 (cs ds es : List Int32) (n1 : 8 ≤ cs.length) (n2 : cs.length ≤ 10) (n3 : ds.length ≤ 2) (n4 : es.length ≤ 2) : (([] : List Int32)).length + (cs).length ≤ 33 := by
  simp only [List.length_append, List.length_cons, List.length_nil]; omega
theorem d31_14 : decode prog_4_method_6_code 14 = .ok (.aload_n 1, 1) := by decide +kernel
theorem d31_15 : decode prog_4_method_6_code 15 = .ok (.invokevirtual 10, 3) := by decide +kernel
theorem tt_922 (cs ds es : List Int32) (n1 : 8 ≤ cs.length) (n2 : cs.length ≤ 10) (n3 : ds.length ≤ 2) (n4 : es.length ≤ 2) : ((([] : List Int32) ++ cs)).length + (ds).length ≤ 33 := by
  simp only [List.length_append, List.length_cons, List.length_nil]; omega
theorem d31_18 : decode prog_4_method_6_code 18 = .ok (.ldc 137, 2) := by decide +kernel
theorem lt_2 : (∀ c ∈ ("/jobs/" : String).toList, c.toNat < 256) ∧ ("/jobs/" : String).toList.map (fun c => Value.int (Jvm.Lit.byteI c.toNat.toUInt16)) = (([(47 : Int32), (106 : Int32), (111 : Int32), (98 : Int32), (115 : Int32), (47 : Int32)]).map (nar .byte)).map Value.int := by decide +kernel
theorem lt_2_l : ∀ c ∈ [(47 : Int32), (106 : Int32), (111 : Int32), (98 : Int32), (115 : Int32), (47 : Int32)], isL c := own_ac (show isL (47 : Int32) from ⟨by decide, by decide⟩) (own_ac (show isL (106 : Int32) from ⟨by decide, by decide⟩) (own_ac (show isL (111 : Int32) from ⟨by decide, by decide⟩) (own_ac (show isL (98 : Int32) from ⟨by decide, by decide⟩) (own_ac (show isL (115 : Int32) from ⟨by decide, by decide⟩) (own_ac (show isL (47 : Int32) from ⟨by decide, by decide⟩) (own_an))))))
theorem cm_2 : ("com/example/steady_rollout/steadyrollout/DeviceTopics", 137) ∈ consts_1 := by decide
theorem w165 : Jvm.Cond.stringLink "com/example/steady_rollout/steadyrollout/DeviceTopics" (137 : Nat) "/jobs/" ∈ tables_1 := List.mem_of_getElem? (i := 165) rfl
theorem d31_20 : decode prog_4_method_6_code 20 = .ok (.invokevirtual 10, 3) := by decide +kernel
theorem tt_928 (cs ds es : List Int32) (n1 : 8 ≤ cs.length) (n2 : cs.length ≤ 10) (n3 : ds.length ≤ 2) (n4 : es.length ≤ 2) : (((([] : List Int32) ++ cs) ++ ds)).length + ([(47 : Int32), (106 : Int32), (111 : Int32), (98 : Int32), (115 : Int32), (47 : Int32)]).length ≤ 33 := by
  simp only [List.length_append, List.length_cons, List.length_nil]; omega
theorem d31_23 : decode prog_4_method_6_code 23 = .ok (.aload_n 2, 1) := by decide +kernel
theorem d31_24 : decode prog_4_method_6_code 24 = .ok (.invokevirtual 10, 3) := by decide +kernel
theorem tt_931 (cs ds es : List Int32) (n1 : 8 ≤ cs.length) (n2 : cs.length ≤ 10) (n3 : ds.length ≤ 2) (n4 : es.length ≤ 2) : ((((([] : List Int32) ++ cs) ++ ds) ++ [(47 : Int32), (106 : Int32), (111 : Int32), (98 : Int32), (115 : Int32), (47 : Int32)])).length + (es).length ≤ 33 := by
  simp only [List.length_append, List.length_cons, List.length_nil]; omega
theorem d31_27 : decode prog_4_method_6_code 27 = .ok (.ldc 48, 2) := by decide +kernel
theorem lt_3 : (∀ c ∈ ("/" : String).toList, c.toNat < 256) ∧ ("/" : String).toList.map (fun c => Value.int (Jvm.Lit.byteI c.toNat.toUInt16)) = (([(47 : Int32)]).map (nar .byte)).map Value.int := by decide +kernel
theorem lt_3_l : ∀ c ∈ [(47 : Int32)], isL c := own_ac (show isL (47 : Int32) from ⟨by decide, by decide⟩) (own_an)
theorem cm_3 : ("com/example/steady_rollout/steadyrollout/DeviceTopics", 48) ∈ consts_1 := by decide
theorem w166 : Jvm.Cond.stringLink "com/example/steady_rollout/steadyrollout/DeviceTopics" (48 : Nat) "/" ∈ tables_1 := List.mem_of_getElem? (i := 166) rfl
theorem d31_29 : decode prog_4_method_6_code 29 = .ok (.invokevirtual 10, 3) := by decide +kernel
theorem tt_937 (cs ds es : List Int32) (n1 : 8 ≤ cs.length) (n2 : cs.length ≤ 10) (n3 : ds.length ≤ 2) (n4 : es.length ≤ 2) : (((((([] : List Int32) ++ cs) ++ ds) ++ [(47 : Int32), (106 : Int32), (111 : Int32), (98 : Int32), (115 : Int32), (47 : Int32)]) ++ es)).length + ([(47 : Int32)]).length ≤ 33 := by
  simp only [List.length_append, List.length_cons, List.length_nil]; omega
theorem d31_32 : decode prog_4_method_6_code 32 = .ok (.ldc 106, 2) := by decide +kernel
theorem lt_4 : (∀ c ∈ ("update" : String).toList, c.toNat < 256) ∧ ("update" : String).toList.map (fun c => Value.int (Jvm.Lit.byteI c.toNat.toUInt16)) = (([(117 : Int32), (112 : Int32), (100 : Int32), (97 : Int32), (116 : Int32), (101 : Int32)]).map (nar .byte)).map Value.int := by decide +kernel
theorem lt_4_l : ∀ c ∈ [(117 : Int32), (112 : Int32), (100 : Int32), (97 : Int32), (116 : Int32), (101 : Int32)], isL c := own_ac (show isL (117 : Int32) from ⟨by decide, by decide⟩) (own_ac (show isL (112 : Int32) from ⟨by decide, by decide⟩) (own_ac (show isL (100 : Int32) from ⟨by decide, by decide⟩) (own_ac (show isL (97 : Int32) from ⟨by decide, by decide⟩) (own_ac (show isL (116 : Int32) from ⟨by decide, by decide⟩) (own_ac (show isL (101 : Int32) from ⟨by decide, by decide⟩) (own_an))))))
theorem cm_4 : ("com/example/steady_rollout/steadyrollout/DeviceTopics", 106) ∈ consts_1 := by decide
theorem w167 : Jvm.Cond.stringLink "com/example/steady_rollout/steadyrollout/DeviceTopics" (106 : Nat) "update" ∈ tables_1 := List.mem_of_getElem? (i := 167) rfl
theorem d31_34 : decode prog_4_method_6_code 34 = .ok (.invokevirtual 10, 3) := by decide +kernel
theorem tt_943 (cs ds es : List Int32) (n1 : 8 ≤ cs.length) (n2 : cs.length ≤ 10) (n3 : ds.length ≤ 2) (n4 : es.length ≤ 2) : ((((((([] : List Int32) ++ cs) ++ ds) ++ [(47 : Int32), (106 : Int32), (111 : Int32), (98 : Int32), (115 : Int32), (47 : Int32)]) ++ es) ++ [(47 : Int32)])).length + ([(117 : Int32), (112 : Int32), (100 : Int32), (97 : Int32), (116 : Int32), (101 : Int32)]).length ≤ 33 := by
  simp only [List.length_append, List.length_cons, List.length_nil]; omega
theorem d31_37 : decode prog_4_method_6_code 37 = .ok (.invokevirtual 16, 3) := by decide +kernel
theorem tl_945 (cs ds es : List Int32) (n1 : 8 ≤ cs.length) (n2 : cs.length ≤ 10) (n3 : ds.length ≤ 2) (n4 : es.length ≤ 2) {cap : Nat} (hc : cap = 16 ∨ cap = 34) (hl : (((((((([] : List Int32) ++ cs) ++ ds) ++ [(47 : Int32), (106 : Int32), (111 : Int32), (98 : Int32), (115 : Int32), (47 : Int32)]) ++ es) ++ [(47 : Int32)]) ++ [(117 : Int32), (112 : Int32), (100 : Int32), (97 : Int32), (116 : Int32), (101 : Int32)])).length ≤ cap) : (((((((([] : List Int32) ++ cs) ++ ds) ++ [(47 : Int32), (106 : Int32), (111 : Int32), (98 : Int32), (115 : Int32), (47 : Int32)]) ++ es) ++ [(47 : Int32)]) ++ [(117 : Int32), (112 : Int32), (100 : Int32), (97 : Int32), (116 : Int32), (101 : Int32)])).length < cap := by
  simp only [List.length_append, List.length_cons, List.length_nil] at hl ⊢; omega
theorem d31_40 : decode prog_4_method_6_code 40 = .ok (.areturn, 1) := by decide +kernel
abbrev N47 : MethodName := ⟨"com/example/steady_rollout/steadyrollout/DeviceTopics", "update", "(Ljava/lang/String;Ljava/lang/String;)Ljava/lang/String;"⟩

abbrev rm_upd : Room := { frames := 10, cells := 22, slots := 768, locals := 143 }
set_option maxRecDepth 65536 in
set_option maxHeartbeats 4000000 in
theorem ct_upd (l : Launch) {Z : State} {n0 : Nat} {z : Int32} {f : Value} (W : Sx Z z f) (t r rb s1 b1 s2 b2 : Addr) (cs ds es : List Int32) (h : Heap) (F : Fld Z h t "com/example/steady_rollout/steadyrollout/DeviceTopics" "thingsRoot" "Ljava/lang/String;" (.ref r)) (S0 : Stg Z h r rb cs) (S1 : Stg Z h s1 b1 ds) (S2 : Stg Z h s2 b2 es) (n1 : 8 ≤ cs.length) (n2 : cs.length ≤ 10) (n3 : ds.length ≤ 2) (n4 : es.length ≤ 2) :
    Ctr l Z n0 N47 prog_4_method_6_code 3 (some (.object "java/lang/String")) rm_upd #[(.ref t), (.ref s1), (.ref s2)] h [] (fun v h' sn => ∃ a b, v = some (.ref a) ∧ Ext h h' ∧ h.size ≤ a ∧ Stg Z h' a b (((((cs ++ ds) ++ [(47 : Int32), (106 : Int32), (111 : Int32), (98 : Int32), (115 : Int32), (47 : Int32)]) ++ es) ++ [(47 : Int32)]) ++ [(117 : Int32), (112 : Int32), (100 : Int32), (97 : Int32), (116 : Int32), (101 : Int32)]) ∧ sn = []) := by
  refine Ctr.of_go (ls := #[.val (.ref t), .val (.ref s1), .val (.ref s2)]) W.1.1 (plainFor_of_name pn_N46) (fun m => by first | (simp [entryFrame, mkF, argsToLocals, Value.category]; done) | rfl) (fun K H => ?_)
  have KK : Keep h h [] := Keep.refl _ _
  refine Go.new H d31_0 rfl w47 w48 w49 (by decide) (by decide) ?_
  intro a1 h2 g3 z4 E5 A6 D7
  have ne8 : t ≠ a1 := Nat.ne_of_lt (Nat.lt_of_lt_of_le F.lt (Nat.le_of_eq g3.symm))
  have ne9 : r ≠ a1 := Nat.ne_of_lt (Nat.lt_of_lt_of_le S0.lt (Nat.le_of_eq g3.symm))
  have ne10 : rb ≠ a1 := Nat.ne_of_lt (Nat.lt_of_lt_of_le S0.ltb (Nat.le_of_eq g3.symm))
  have ne11 : s1 ≠ a1 := Nat.ne_of_lt (Nat.lt_of_lt_of_le S1.lt (Nat.le_of_eq g3.symm))
  have ne12 : b1 ≠ a1 := Nat.ne_of_lt (Nat.lt_of_lt_of_le S1.ltb (Nat.le_of_eq g3.symm))
  have ne13 : s2 ≠ a1 := Nat.ne_of_lt (Nat.lt_of_lt_of_le S2.lt (Nat.le_of_eq g3.symm))
  have ne14 : b2 ≠ a1 := Nat.ne_of_lt (Nat.lt_of_lt_of_le S2.ltb (Nat.le_of_eq g3.symm))
  have sz15 := Nat.le_trans KK.1 (Nat.le_of_eq g3.symm)
  replace F := F.ext E5
  replace S0 := S0.ext E5
  replace S1 := S1.ext E5
  replace S2 := S2.ext E5
  replace KK := KK.ext E5
  have F16 : Fld Z h2 a1 "java/lang/AbstractStringBuilder" "value" "[B" .null := D7 (Or.inl w62) (ty := (.array .byte)) (by decide)
  have F17 : Fld Z h2 a1 "java/lang/AbstractStringBuilder" "coder" "B" (.int (0 : Int32)) := D7 (Or.inl w64) (ty := .byte) (by decide)
  have F18 : Fld Z h2 a1 "java/lang/AbstractStringBuilder" "count" "I" (.int (0 : Int32)) := D7 (Or.inl w86) (ty := .int) (by decide)
  have F19 : Fld Z h2 a1 "java/lang/AbstractStringBuilder" "maybeLatin1" "Z" (.int (0 : Int32)) := D7 (Or.inl w243) (ty := .boolean) (by decide)
  show Go _ _ _ _ _ _ h2 [a1] 1 4 3 #[.val (.ref t), .val (.ref s1), .val (.ref s2)] [(.ref a1)]
  refine Go.dup H d31_3 rfl rfl ?_
  refine Go.callI (rest := [(.ref a1)]) 1 [] H d31_4 rfl rfl w50 w51 w49 w52 pd_N16 (ct_sbi l W a1 h2 A6 F16 F17 F18 F19 z4) (by simp) rfl rfl rfl (Nat.le_of_eq rfl) (by decide) (by decide) (by decide) (by decide) nh_N16 ?_
  rintro _ h20 _ ⟨rfl, K21, b22, g23, z24, S25, rfl⟩
  have ne26 : t ≠ b22 := Nat.ne_of_lt (Nat.lt_of_lt_of_le F.lt g23)
  have ne27 : r ≠ b22 := Nat.ne_of_lt (Nat.lt_of_lt_of_le S0.lt g23)
  have ne28 : rb ≠ b22 := Nat.ne_of_lt (Nat.lt_of_lt_of_le S0.ltb g23)
  have ne29 : s1 ≠ b22 := Nat.ne_of_lt (Nat.lt_of_lt_of_le S1.lt g23)
  have ne30 : b1 ≠ b22 := Nat.ne_of_lt (Nat.lt_of_lt_of_le S1.ltb g23)
  have ne31 : s2 ≠ b22 := Nat.ne_of_lt (Nat.lt_of_lt_of_le S2.lt g23)
  have ne32 : b2 ≠ b22 := Nat.ne_of_lt (Nat.lt_of_lt_of_le S2.ltb g23)
  have ne33 : a1 ≠ b22 := Nat.ne_of_lt (Nat.lt_of_lt_of_le A6.lt g23)
  have sz34 := Nat.le_trans KK.1 g23
  replace F := F.keep K21 (ninS ne8 nin0)
  replace S0 := S0.keep K21 (ninS ne9 nin0) (ninS ne10 nin0)
  replace S1 := S1.keep K21 (ninS ne11 nin0) (ninS ne12 nin0)
  replace S2 := S2.keep K21 (ninS ne13 nin0) (ninS ne14 nin0)
  replace KK := KK.trans K21 (allS (Or.inr sz15) all0)
  show Go _ _ _ _ _ _ h20 [b22, a1] 2 20 7 #[.val (.ref t), .val (.ref s1), .val (.ref s2)] [(.ref a1)]
  refine Go.aloadN H d31_7 rfl rfl rfl ?_
  refine Go.getfield H d31_8 rfl w158 F ?_
  refine Go.callV (rest := []) 0 [(.ref r)] H d31_11 rfl S25.exa w65 w66 w68 w67 w49 w69 pd_N34 (ct_sba l W a1 b22 r rb ([] : List Int32) cs 16 h20 S25 (Or.inl rfl) S0 (tt_919 cs ds es n1 n2 n3 n4) z4 z24 ne28) (by simp) rfl rfl rfl (Nat.le_of_eq rfl) (by decide) (by decide) (by decide) (by decide) nh_N16 ?_
  rintro _ h35 _ ⟨rfl, K36, d37, cp38, q39, z40, S41, hc42, hl43, rfl⟩
  have ne44 : t ≠ d37 := q39.elim (fun e => e ▸ ne26) (fun g => Nat.ne_of_lt (Nat.lt_of_lt_of_le F.lt g))
  have ne45 : r ≠ d37 := q39.elim (fun e => e ▸ ne27) (fun g => Nat.ne_of_lt (Nat.lt_of_lt_of_le S0.lt g))
  have ne46 : rb ≠ d37 := q39.elim (fun e => e ▸ ne28) (fun g => Nat.ne_of_lt (Nat.lt_of_lt_of_le S0.ltb g))
  have ne47 : s1 ≠ d37 := q39.elim (fun e => e ▸ ne29) (fun g => Nat.ne_of_lt (Nat.lt_of_lt_of_le S1.lt g))
  have ne48 : b1 ≠ d37 := q39.elim (fun e => e ▸ ne30) (fun g => Nat.ne_of_lt (Nat.lt_of_lt_of_le S1.ltb g))
  have ne49 : s2 ≠ d37 := q39.elim (fun e => e ▸ ne31) (fun g => Nat.ne_of_lt (Nat.lt_of_lt_of_le S2.lt g))
  have ne50 : b2 ≠ d37 := q39.elim (fun e => e ▸ ne32) (fun g => Nat.ne_of_lt (Nat.lt_of_lt_of_le S2.ltb g))
  have ne51 : a1 ≠ d37 := q39.elim (fun e => e ▸ ne33) (fun g => Nat.ne_of_lt (Nat.lt_of_lt_of_le S25.lt g))
  have sz52 : _ ≤ d37 := q39.elim (fun e => e ▸ sz34) (fun g => Nat.le_trans KK.1 g)
  replace F := F.keep K36 (ninS ne8 (ninS ne26 nin0))
  replace S0 := S0.keep K36 (ninS ne9 (ninS ne27 nin0)) (ninS ne10 (ninS ne28 nin0))
  replace S1 := S1.keep K36 (ninS ne11 (ninS ne29 nin0)) (ninS ne12 (ninS ne30 nin0))
  replace S2 := S2.keep K36 (ninS ne13 (ninS ne31 nin0)) (ninS ne14 (ninS ne32 nin0))
  replace KK := KK.trans K36 (allS (Or.inr sz15) (allS (Or.inr sz34) all0))
  show Go _ _ _ _ _ _ h35 [d37, b22, a1] 4 122 14 #[.val (.ref t), .val (.ref s1), .val (.ref s2)] [(.ref a1)]
  refine Go.aloadN H d31_14 rfl rfl rfl ?_
  refine Go.callV (rest := []) 0 [(.ref s1)] H d31_15 rfl S41.exa w65 w66 w68 w67 w49 w69 pd_N34 (ct_sba l W a1 d37 s1 b1 (([] : List Int32) ++ cs) ds cp38 h35 S41 hc42 S1 (tt_922 cs ds es n1 n2 n3 n4) z4 z40 ne48) (by simp) rfl rfl rfl (Nat.le_of_eq rfl) (by decide) (by decide) (by decide) (by decide) nh_N16 ?_
  rintro _ h53 _ ⟨rfl, K54, d55, cp56, q57, z58, S59, hc60, hl61, rfl⟩
  have ne62 : t ≠ d55 := q57.elim (fun e => e ▸ ne44) (fun g => Nat.ne_of_lt (Nat.lt_of_lt_of_le F.lt g))
  have ne63 : r ≠ d55 := q57.elim (fun e => e ▸ ne45) (fun g => Nat.ne_of_lt (Nat.lt_of_lt_of_le S0.lt g))
  have ne64 : rb ≠ d55 := q57.elim (fun e => e ▸ ne46) (fun g => Nat.ne_of_lt (Nat.lt_of_lt_of_le S0.ltb g))
  have ne65 : s1 ≠ d55 := q57.elim (fun e => e ▸ ne47) (fun g => Nat.ne_of_lt (Nat.lt_of_lt_of_le S1.lt g))
  have ne66 : b1 ≠ d55 := q57.elim (fun e => e ▸ ne48) (fun g => Nat.ne_of_lt (Nat.lt_of_lt_of_le S1.ltb g))
  have ne67 : s2 ≠ d55 := q57.elim (fun e => e ▸ ne49) (fun g => Nat.ne_of_lt (Nat.lt_of_lt_of_le S2.lt g))
  have ne68 : b2 ≠ d55 := q57.elim (fun e => e ▸ ne50) (fun g => Nat.ne_of_lt (Nat.lt_of_lt_of_le S2.ltb g))
  have ne69 : a1 ≠ d55 := q57.elim (fun e => e ▸ ne51) (fun g => Nat.ne_of_lt (Nat.lt_of_lt_of_le S41.lt g))
  have sz70 : _ ≤ d55 := q57.elim (fun e => e ▸ sz52) (fun g => Nat.le_trans KK.1 g)
  replace F := F.keep K54 (ninS ne8 (ninS ne44 nin0))
  replace S0 := S0.keep K54 (ninS ne9 (ninS ne45 nin0)) (ninS ne10 (ninS ne46 nin0))
  replace S1 := S1.keep K54 (ninS ne11 (ninS ne47 nin0)) (ninS ne12 (ninS ne48 nin0))
  replace S2 := S2.keep K54 (ninS ne13 (ninS ne49 nin0)) (ninS ne14 (ninS ne50 nin0))
  replace KK := KK.trans K54 (allS (Or.inr sz15) (allS (Or.inr sz52) all0))
  show Go _ _ _ _ _ _ h53 [d55, d37, b22, a1] 6 224 18 #[.val (.ref t), .val (.ref s1), .val (.ref s2)] [(.ref a1)]
  refine Go.ldcS [(47 : Int32), (106 : Int32), (111 : Int32), (98 : Int32), (115 : Int32), (47 : Int32)] (6 : Int32) 24 H d31_18 rfl w165 cm_2 lt_2 lt_2_l (by decide) (by decide) (by decide) (by decide) (by decide) (by decide) ?_
  intro a71 b72 h73 E74 S75 q76
  replace F := F.ext E74
  replace S0 := S0.ext E74
  replace S1 := S1.ext E74
  replace S2 := S2.ext E74
  replace S59 := S59.ext E74
  replace KK := KK.ext E74
  have ne77 : d55 ≠ a71 := (q76 d55 (by simp)).1
  have ne78 : d55 ≠ b72 := (q76 d55 (by simp)).2
  have ne79 : d37 ≠ a71 := (q76 d37 (by simp)).1
  have ne80 : d37 ≠ b72 := (q76 d37 (by simp)).2
  have ne81 : b22 ≠ a71 := (q76 b22 (by simp)).1
  have ne82 : b22 ≠ b72 := (q76 b22 (by simp)).2
  have ne83 : a1 ≠ a71 := (q76 a1 (by simp)).1
  have ne84 : a1 ≠ b72 := (q76 a1 (by simp)).2
  show Go _ _ _ _ _ _ h73 [d55, d37, b22, a1] 8 252 20 #[.val (.ref t), .val (.ref s1), .val (.ref s2)] [(.ref a71), (.ref a1)]
  refine Go.callV (rest := []) 0 [(.ref a71)] H d31_20 rfl S59.exa w65 w66 w68 w67 w49 w69 pd_N34 (ct_sba l W a1 d55 a71 b72 ((([] : List Int32) ++ cs) ++ ds) [(47 : Int32), (106 : Int32), (111 : Int32), (98 : Int32), (115 : Int32), (47 : Int32)] cp56 h73 S59 hc60 (Or.inl S75) (tt_928 cs ds es n1 n2 n3 n4) z4 z58 (Ne.symm ne78)) (by simp) rfl rfl rfl (Nat.le_of_eq rfl) (by decide) (by decide) (by decide) (by decide) nh_N16 ?_
  rintro _ h85 _ ⟨rfl, K86, d87, cp88, q89, z90, S91, hc92, hl93, rfl⟩
  have ne94 : t ≠ d87 := q89.elim (fun e => e ▸ ne62) (fun g => Nat.ne_of_lt (Nat.lt_of_lt_of_le F.lt g))
  have ne95 : r ≠ d87 := q89.elim (fun e => e ▸ ne63) (fun g => Nat.ne_of_lt (Nat.lt_of_lt_of_le S0.lt g))
  have ne96 : rb ≠ d87 := q89.elim (fun e => e ▸ ne64) (fun g => Nat.ne_of_lt (Nat.lt_of_lt_of_le S0.ltb g))
  have ne97 : s1 ≠ d87 := q89.elim (fun e => e ▸ ne65) (fun g => Nat.ne_of_lt (Nat.lt_of_lt_of_le S1.lt g))
  have ne98 : b1 ≠ d87 := q89.elim (fun e => e ▸ ne66) (fun g => Nat.ne_of_lt (Nat.lt_of_lt_of_le S1.ltb g))
  have ne99 : s2 ≠ d87 := q89.elim (fun e => e ▸ ne67) (fun g => Nat.ne_of_lt (Nat.lt_of_lt_of_le S2.lt g))
  have ne100 : b2 ≠ d87 := q89.elim (fun e => e ▸ ne68) (fun g => Nat.ne_of_lt (Nat.lt_of_lt_of_le S2.ltb g))
  have ne101 : a71 ≠ d87 := q89.elim (fun e => e ▸ (Ne.symm ne77)) (fun g => Nat.ne_of_lt (Nat.lt_of_lt_of_le S75.lt g))
  have ne102 : b72 ≠ d87 := q89.elim (fun e => e ▸ (Ne.symm ne78)) (fun g => Nat.ne_of_lt (Nat.lt_of_lt_of_le S75.ltb g))
  have ne103 : a1 ≠ d87 := q89.elim (fun e => e ▸ ne69) (fun g => Nat.ne_of_lt (Nat.lt_of_lt_of_le S59.lt g))
  have sz104 : _ ≤ d87 := q89.elim (fun e => e ▸ sz70) (fun g => Nat.le_trans KK.1 g)
  replace F := F.keep K86 (ninS ne8 (ninS ne62 nin0))
  replace S0 := S0.keep K86 (ninS ne9 (ninS ne63 nin0)) (ninS ne10 (ninS ne64 nin0))
  replace S1 := S1.keep K86 (ninS ne11 (ninS ne65 nin0)) (ninS ne12 (ninS ne66 nin0))
  replace S2 := S2.keep K86 (ninS ne13 (ninS ne67 nin0)) (ninS ne14 (ninS ne68 nin0))
  replace S75 := S75.keep K86 (ninS (Ne.symm ne83) (ninS (Ne.symm ne77) nin0)) (ninS (Ne.symm ne84) (ninS (Ne.symm ne78) nin0))
  replace KK := KK.trans K86 (allS (Or.inr sz15) (allS (Or.inr sz70) all0))
  show Go _ _ _ _ _ _ h85 [d87, d55, d37, b22, a1] 10 354 23 #[.val (.ref t), .val (.ref s1), .val (.ref s2)] [(.ref a1)]
  refine Go.aloadN H d31_23 rfl rfl rfl ?_
  refine Go.callV (rest := []) 0 [(.ref s2)] H d31_24 rfl S91.exa w65 w66 w68 w67 w49 w69 pd_N34 (ct_sba l W a1 d87 s2 b2 (((([] : List Int32) ++ cs) ++ ds) ++ [(47 : Int32), (106 : Int32), (111 : Int32), (98 : Int32), (115 : Int32), (47 : Int32)]) es cp88 h85 S91 hc92 S2 (tt_931 cs ds es n1 n2 n3 n4) z4 z90 ne100) (by simp) rfl rfl rfl (Nat.le_of_eq rfl) (by decide) (by decide) (by decide) (by decide) nh_N16 ?_
  rintro _ h105 _ ⟨rfl, K106, d107, cp108, q109, z110, S111, hc112, hl113, rfl⟩
  have ne114 : t ≠ d107 := q109.elim (fun e => e ▸ ne94) (fun g => Nat.ne_of_lt (Nat.lt_of_lt_of_le F.lt g))
  have ne115 : r ≠ d107 := q109.elim (fun e => e ▸ ne95) (fun g => Nat.ne_of_lt (Nat.lt_of_lt_of_le S0.lt g))
  have ne116 : rb ≠ d107 := q109.elim (fun e => e ▸ ne96) (fun g => Nat.ne_of_lt (Nat.lt_of_lt_of_le S0.ltb g))
  have ne117 : s1 ≠ d107 := q109.elim (fun e => e ▸ ne97) (fun g => Nat.ne_of_lt (Nat.lt_of_lt_of_le S1.lt g))
  have ne118 : b1 ≠ d107 := q109.elim (fun e => e ▸ ne98) (fun g => Nat.ne_of_lt (Nat.lt_of_lt_of_le S1.ltb g))
  have ne119 : s2 ≠ d107 := q109.elim (fun e => e ▸ ne99) (fun g => Nat.ne_of_lt (Nat.lt_of_lt_of_le S2.lt g))
  have ne120 : b2 ≠ d107 := q109.elim (fun e => e ▸ ne100) (fun g => Nat.ne_of_lt (Nat.lt_of_lt_of_le S2.ltb g))
  have ne121 : a71 ≠ d107 := q109.elim (fun e => e ▸ ne101) (fun g => Nat.ne_of_lt (Nat.lt_of_lt_of_le S75.lt g))
  have ne122 : b72 ≠ d107 := q109.elim (fun e => e ▸ ne102) (fun g => Nat.ne_of_lt (Nat.lt_of_lt_of_le S75.ltb g))
  have ne123 : a1 ≠ d107 := q109.elim (fun e => e ▸ ne103) (fun g => Nat.ne_of_lt (Nat.lt_of_lt_of_le S91.lt g))
  have sz124 : _ ≤ d107 := q109.elim (fun e => e ▸ sz104) (fun g => Nat.le_trans KK.1 g)
  replace F := F.keep K106 (ninS ne8 (ninS ne94 nin0))
  replace S0 := S0.keep K106 (ninS ne9 (ninS ne95 nin0)) (ninS ne10 (ninS ne96 nin0))
  replace S1 := S1.keep K106 (ninS ne11 (ninS ne97 nin0)) (ninS ne12 (ninS ne98 nin0))
  replace S2 := S2.keep K106 (ninS ne13 (ninS ne99 nin0)) (ninS ne14 (ninS ne100 nin0))
  replace S75 := S75.keep K106 (ninS (Ne.symm ne83) (ninS ne101 nin0)) (ninS (Ne.symm ne84) (ninS ne102 nin0))
  replace KK := KK.trans K106 (allS (Or.inr sz15) (allS (Or.inr sz104) all0))
  show Go _ _ _ _ _ _ h105 [d107, d87, d55, d37, b22, a1] 12 456 27 #[.val (.ref t), .val (.ref s1), .val (.ref s2)] [(.ref a1)]
  refine Go.ldcS [(47 : Int32)] (1 : Int32) 4 H d31_27 rfl w166 cm_3 lt_3 lt_3_l (by decide) (by decide) (by decide) (by decide) (by decide) (by decide) ?_
  intro a125 b126 h127 E128 S129 q130
  replace F := F.ext E128
  replace S0 := S0.ext E128
  replace S1 := S1.ext E128
  replace S2 := S2.ext E128
  replace S75 := S75.ext E128
  replace S111 := S111.ext E128
  replace KK := KK.ext E128
  have ne131 : d107 ≠ a125 := (q130 d107 (by simp)).1
  have ne132 : d107 ≠ b126 := (q130 d107 (by simp)).2
  have ne133 : d87 ≠ a125 := (q130 d87 (by simp)).1
  have ne134 : d87 ≠ b126 := (q130 d87 (by simp)).2
  have ne135 : d55 ≠ a125 := (q130 d55 (by simp)).1
  have ne136 : d55 ≠ b126 := (q130 d55 (by simp)).2
  have ne137 : d37 ≠ a125 := (q130 d37 (by simp)).1
  have ne138 : d37 ≠ b126 := (q130 d37 (by simp)).2
  have ne139 : b22 ≠ a125 := (q130 b22 (by simp)).1
  have ne140 : b22 ≠ b126 := (q130 b22 (by simp)).2
  have ne141 : a1 ≠ a125 := (q130 a1 (by simp)).1
  have ne142 : a1 ≠ b126 := (q130 a1 (by simp)).2
  show Go _ _ _ _ _ _ h127 [d107, d87, d55, d37, b22, a1] 14 464 29 #[.val (.ref t), .val (.ref s1), .val (.ref s2)] [(.ref a125), (.ref a1)]
  refine Go.callV (rest := []) 0 [(.ref a125)] H d31_29 rfl S111.exa w65 w66 w68 w67 w49 w69 pd_N34 (ct_sba l W a1 d107 a125 b126 ((((([] : List Int32) ++ cs) ++ ds) ++ [(47 : Int32), (106 : Int32), (111 : Int32), (98 : Int32), (115 : Int32), (47 : Int32)]) ++ es) [(47 : Int32)] cp108 h127 S111 hc112 (Or.inl S129) (tt_937 cs ds es n1 n2 n3 n4) z4 z110 (Ne.symm ne132)) (by simp) rfl rfl rfl (Nat.le_of_eq rfl) (by decide) (by decide) (by decide) (by decide) nh_N16 ?_
  rintro _ h143 _ ⟨rfl, K144, d145, cp146, q147, z148, S149, hc150, hl151, rfl⟩
  have ne152 : t ≠ d145 := q147.elim (fun e => e ▸ ne114) (fun g => Nat.ne_of_lt (Nat.lt_of_lt_of_le F.lt g))
  have ne153 : r ≠ d145 := q147.elim (fun e => e ▸ ne115) (fun g => Nat.ne_of_lt (Nat.lt_of_lt_of_le S0.lt g))
  have ne154 : rb ≠ d145 := q147.elim (fun e => e ▸ ne116) (fun g => Nat.ne_of_lt (Nat.lt_of_lt_of_le S0.ltb g))
  have ne155 : s1 ≠ d145 := q147.elim (fun e => e ▸ ne117) (fun g => Nat.ne_of_lt (Nat.lt_of_lt_of_le S1.lt g))
  have ne156 : b1 ≠ d145 := q147.elim (fun e => e ▸ ne118) (fun g => Nat.ne_of_lt (Nat.lt_of_lt_of_le S1.ltb g))
  have ne157 : s2 ≠ d145 := q147.elim (fun e => e ▸ ne119) (fun g => Nat.ne_of_lt (Nat.lt_of_lt_of_le S2.lt g))
  have ne158 : b2 ≠ d145 := q147.elim (fun e => e ▸ ne120) (fun g => Nat.ne_of_lt (Nat.lt_of_lt_of_le S2.ltb g))
  have ne159 : a71 ≠ d145 := q147.elim (fun e => e ▸ ne121) (fun g => Nat.ne_of_lt (Nat.lt_of_lt_of_le S75.lt g))
  have ne160 : b72 ≠ d145 := q147.elim (fun e => e ▸ ne122) (fun g => Nat.ne_of_lt (Nat.lt_of_lt_of_le S75.ltb g))
  have ne161 : a125 ≠ d145 := q147.elim (fun e => e ▸ (Ne.symm ne131)) (fun g => Nat.ne_of_lt (Nat.lt_of_lt_of_le S129.lt g))
  have ne162 : b126 ≠ d145 := q147.elim (fun e => e ▸ (Ne.symm ne132)) (fun g => Nat.ne_of_lt (Nat.lt_of_lt_of_le S129.ltb g))
  have ne163 : a1 ≠ d145 := q147.elim (fun e => e ▸ ne123) (fun g => Nat.ne_of_lt (Nat.lt_of_lt_of_le S111.lt g))
  have sz164 : _ ≤ d145 := q147.elim (fun e => e ▸ sz124) (fun g => Nat.le_trans KK.1 g)
  replace F := F.keep K144 (ninS ne8 (ninS ne114 nin0))
  replace S0 := S0.keep K144 (ninS ne9 (ninS ne115 nin0)) (ninS ne10 (ninS ne116 nin0))
  replace S1 := S1.keep K144 (ninS ne11 (ninS ne117 nin0)) (ninS ne12 (ninS ne118 nin0))
  replace S2 := S2.keep K144 (ninS ne13 (ninS ne119 nin0)) (ninS ne14 (ninS ne120 nin0))
  replace S75 := S75.keep K144 (ninS (Ne.symm ne83) (ninS ne121 nin0)) (ninS (Ne.symm ne84) (ninS ne122 nin0))
  replace S129 := S129.keep K144 (ninS (Ne.symm ne141) (ninS (Ne.symm ne131) nin0)) (ninS (Ne.symm ne142) (ninS (Ne.symm ne132) nin0))
  replace KK := KK.trans K144 (allS (Or.inr sz15) (allS (Or.inr sz124) all0))
  show Go _ _ _ _ _ _ h143 [d145, d107, d87, d55, d37, b22, a1] 16 566 32 #[.val (.ref t), .val (.ref s1), .val (.ref s2)] [(.ref a1)]
  refine Go.ldcS [(117 : Int32), (112 : Int32), (100 : Int32), (97 : Int32), (116 : Int32), (101 : Int32)] (6 : Int32) 24 H d31_32 rfl w167 cm_4 lt_4 lt_4_l (by decide) (by decide) (by decide) (by decide) (by decide) (by decide) ?_
  intro a165 b166 h167 E168 S169 q170
  replace F := F.ext E168
  replace S0 := S0.ext E168
  replace S1 := S1.ext E168
  replace S2 := S2.ext E168
  replace S75 := S75.ext E168
  replace S129 := S129.ext E168
  replace S149 := S149.ext E168
  replace KK := KK.ext E168
  have ne171 : d145 ≠ a165 := (q170 d145 (by simp)).1
  have ne172 : d145 ≠ b166 := (q170 d145 (by simp)).2
  have ne173 : d107 ≠ a165 := (q170 d107 (by simp)).1
  have ne174 : d107 ≠ b166 := (q170 d107 (by simp)).2
  have ne175 : d87 ≠ a165 := (q170 d87 (by simp)).1
  have ne176 : d87 ≠ b166 := (q170 d87 (by simp)).2
  have ne177 : d55 ≠ a165 := (q170 d55 (by simp)).1
  have ne178 : d55 ≠ b166 := (q170 d55 (by simp)).2
  have ne179 : d37 ≠ a165 := (q170 d37 (by simp)).1
  have ne180 : d37 ≠ b166 := (q170 d37 (by simp)).2
  have ne181 : b22 ≠ a165 := (q170 b22 (by simp)).1
  have ne182 : b22 ≠ b166 := (q170 b22 (by simp)).2
  have ne183 : a1 ≠ a165 := (q170 a1 (by simp)).1
  have ne184 : a1 ≠ b166 := (q170 a1 (by simp)).2
  show Go _ _ _ _ _ _ h167 [d145, d107, d87, d55, d37, b22, a1] 18 594 34 #[.val (.ref t), .val (.ref s1), .val (.ref s2)] [(.ref a165), (.ref a1)]
  refine Go.callV (rest := []) 0 [(.ref a165)] H d31_34 rfl S149.exa w65 w66 w68 w67 w49 w69 pd_N34 (ct_sba l W a1 d145 a165 b166 (((((([] : List Int32) ++ cs) ++ ds) ++ [(47 : Int32), (106 : Int32), (111 : Int32), (98 : Int32), (115 : Int32), (47 : Int32)]) ++ es) ++ [(47 : Int32)]) [(117 : Int32), (112 : Int32), (100 : Int32), (97 : Int32), (116 : Int32), (101 : Int32)] cp146 h167 S149 hc150 (Or.inl S169) (tt_943 cs ds es n1 n2 n3 n4) z4 z148 (Ne.symm ne172)) (by simp) rfl rfl rfl (Nat.le_of_eq rfl) (by decide) (by decide) (by decide) (by decide) nh_N16 ?_
  rintro _ h185 _ ⟨rfl, K186, d187, cp188, q189, z190, S191, hc192, hl193, rfl⟩
  have ne194 : t ≠ d187 := q189.elim (fun e => e ▸ ne152) (fun g => Nat.ne_of_lt (Nat.lt_of_lt_of_le F.lt g))
  have ne195 : r ≠ d187 := q189.elim (fun e => e ▸ ne153) (fun g => Nat.ne_of_lt (Nat.lt_of_lt_of_le S0.lt g))
  have ne196 : rb ≠ d187 := q189.elim (fun e => e ▸ ne154) (fun g => Nat.ne_of_lt (Nat.lt_of_lt_of_le S0.ltb g))
  have ne197 : s1 ≠ d187 := q189.elim (fun e => e ▸ ne155) (fun g => Nat.ne_of_lt (Nat.lt_of_lt_of_le S1.lt g))
  have ne198 : b1 ≠ d187 := q189.elim (fun e => e ▸ ne156) (fun g => Nat.ne_of_lt (Nat.lt_of_lt_of_le S1.ltb g))
  have ne199 : s2 ≠ d187 := q189.elim (fun e => e ▸ ne157) (fun g => Nat.ne_of_lt (Nat.lt_of_lt_of_le S2.lt g))
  have ne200 : b2 ≠ d187 := q189.elim (fun e => e ▸ ne158) (fun g => Nat.ne_of_lt (Nat.lt_of_lt_of_le S2.ltb g))
  have ne201 : a71 ≠ d187 := q189.elim (fun e => e ▸ ne159) (fun g => Nat.ne_of_lt (Nat.lt_of_lt_of_le S75.lt g))
  have ne202 : b72 ≠ d187 := q189.elim (fun e => e ▸ ne160) (fun g => Nat.ne_of_lt (Nat.lt_of_lt_of_le S75.ltb g))
  have ne203 : a125 ≠ d187 := q189.elim (fun e => e ▸ ne161) (fun g => Nat.ne_of_lt (Nat.lt_of_lt_of_le S129.lt g))
  have ne204 : b126 ≠ d187 := q189.elim (fun e => e ▸ ne162) (fun g => Nat.ne_of_lt (Nat.lt_of_lt_of_le S129.ltb g))
  have ne205 : a165 ≠ d187 := q189.elim (fun e => e ▸ (Ne.symm ne171)) (fun g => Nat.ne_of_lt (Nat.lt_of_lt_of_le S169.lt g))
  have ne206 : b166 ≠ d187 := q189.elim (fun e => e ▸ (Ne.symm ne172)) (fun g => Nat.ne_of_lt (Nat.lt_of_lt_of_le S169.ltb g))
  have ne207 : a1 ≠ d187 := q189.elim (fun e => e ▸ ne163) (fun g => Nat.ne_of_lt (Nat.lt_of_lt_of_le S149.lt g))
  have sz208 : _ ≤ d187 := q189.elim (fun e => e ▸ sz164) (fun g => Nat.le_trans KK.1 g)
  replace F := F.keep K186 (ninS ne8 (ninS ne152 nin0))
  replace S0 := S0.keep K186 (ninS ne9 (ninS ne153 nin0)) (ninS ne10 (ninS ne154 nin0))
  replace S1 := S1.keep K186 (ninS ne11 (ninS ne155 nin0)) (ninS ne12 (ninS ne156 nin0))
  replace S2 := S2.keep K186 (ninS ne13 (ninS ne157 nin0)) (ninS ne14 (ninS ne158 nin0))
  replace S75 := S75.keep K186 (ninS (Ne.symm ne83) (ninS ne159 nin0)) (ninS (Ne.symm ne84) (ninS ne160 nin0))
  replace S129 := S129.keep K186 (ninS (Ne.symm ne141) (ninS ne161 nin0)) (ninS (Ne.symm ne142) (ninS ne162 nin0))
  replace S169 := S169.keep K186 (ninS (Ne.symm ne183) (ninS (Ne.symm ne171) nin0)) (ninS (Ne.symm ne184) (ninS (Ne.symm ne172) nin0))
  replace KK := KK.trans K186 (allS (Or.inr sz15) (allS (Or.inr sz164) all0))
  show Go _ _ _ _ _ _ h185 [d187, d145, d107, d87, d55, d37, b22, a1] 20 696 37 #[.val (.ref t), .val (.ref s1), .val (.ref s2)] [(.ref a1)]
  refine Go.callV (rest := []) 0 [] H d31_37 rfl S191.exa w113 w114 w116 w115 w49 w117 pd_N43 (ct_tos l W a1 d187 ((((((([] : List Int32) ++ cs) ++ ds) ++ [(47 : Int32), (106 : Int32), (111 : Int32), (98 : Int32), (115 : Int32), (47 : Int32)]) ++ es) ++ [(47 : Int32)]) ++ [(117 : Int32), (112 : Int32), (100 : Int32), (97 : Int32), (116 : Int32), (101 : Int32)]) cp188 h185 S191 hc192 (tl_945 cs ds es n1 n2 n3 n4 hc192 hl193)) all0 rfl rfl rfl (Nat.le_of_eq rfl) (by decide) (by decide) (by decide) (by decide) nh_N16 ?_
  have szk209 := KK.1
  rintro _ h212 _ ⟨a210, b211, rfl, E213, g214, S215, rfl⟩
  have ne216 : t ≠ a210 := Nat.ne_of_lt (Nat.lt_of_lt_of_le F.lt g214)
  have ne217 : r ≠ a210 := Nat.ne_of_lt (Nat.lt_of_lt_of_le S0.lt g214)
  have ne218 : rb ≠ a210 := Nat.ne_of_lt (Nat.lt_of_lt_of_le S0.ltb g214)
  have ne219 : s1 ≠ a210 := Nat.ne_of_lt (Nat.lt_of_lt_of_le S1.lt g214)
  have ne220 : b1 ≠ a210 := Nat.ne_of_lt (Nat.lt_of_lt_of_le S1.ltb g214)
  have ne221 : s2 ≠ a210 := Nat.ne_of_lt (Nat.lt_of_lt_of_le S2.lt g214)
  have ne222 : b2 ≠ a210 := Nat.ne_of_lt (Nat.lt_of_lt_of_le S2.ltb g214)
  have ne223 : a71 ≠ a210 := Nat.ne_of_lt (Nat.lt_of_lt_of_le S75.lt g214)
  have ne224 : b72 ≠ a210 := Nat.ne_of_lt (Nat.lt_of_lt_of_le S75.ltb g214)
  have ne225 : a125 ≠ a210 := Nat.ne_of_lt (Nat.lt_of_lt_of_le S129.lt g214)
  have ne226 : b126 ≠ a210 := Nat.ne_of_lt (Nat.lt_of_lt_of_le S129.ltb g214)
  have ne227 : a165 ≠ a210 := Nat.ne_of_lt (Nat.lt_of_lt_of_le S169.lt g214)
  have ne228 : b166 ≠ a210 := Nat.ne_of_lt (Nat.lt_of_lt_of_le S169.ltb g214)
  have ne229 : a1 ≠ a210 := Nat.ne_of_lt (Nat.lt_of_lt_of_le S191.lt g214)
  have ne230 : d187 ≠ a210 := Nat.ne_of_lt (Nat.lt_of_lt_of_le S191.ltb g214)
  replace F := F.ext E213
  replace S0 := S0.ext E213
  replace S1 := S1.ext E213
  replace S2 := S2.ext E213
  replace S75 := S75.ext E213
  replace S129 := S129.ext E213
  replace S169 := S169.ext E213
  replace S191 := S191.ext E213
  replace KK := KK.ext E213
  have szs231 := Nat.le_trans szk209 g214
  show Go _ _ _ _ _ _ h212 [d187, d145, d107, d87, d55, d37, b22, a1] 22 768 40 #[.val (.ref t), .val (.ref s1), .val (.ref s2)] [(.ref a210)]
  exact Go.areturn [] H d31_40 rfl rfl (own_narR rfl) ⟨_, _, rfl, own_ext KK, szs231, S215, rfl⟩ all0 (by decide) (by decide)
def pcF : Nat → Int32 → List Int32
  | 0, _ => []
  | 1, c => [nar .char c]
  | _, c => [nar .char c, (nar .char ((c.toUInt32 >>> ((16 : Int32) &&& 31).toUInt32).toInt32))]
theorem pcF_len : ∀ {n : Nat} (c : Int32), n ≤ 2 → (pcF n c).length = n
  | 0, _, _ => rfl
  | 1, _, _ => rfl
  | 2, _, _ => rfl
  | n + 3, _, h => absurd h (by omega)
theorem pcF_c : ∀ (n : Nat) (c : Int32), ∀ d ∈ pcF n c, isC d
  | 0, _ => own_an
  | 1, _ => own_ac (own_isC _) own_an
  | _ + 2, _ => own_ac (own_isC _) (own_ac (own_isC _) own_an)
def pd (D : List Int32) (N : Nat) : List Int32 := D ++ List.replicate (N - D.length) 0
theorem pd_len {D : List Int32} {N : Nat} (h : D.length ≤ N) : (pd D N).length = N := by unfold pd; rw [List.length_append, List.length_replicate]; omega
theorem pd_full {D : List Int32} {N : Nat} (h : D.length = N) : pd D N = D := by unfold pd; rw [h, Nat.sub_self]; simp
theorem pd_set {D : List Int32} {N n : Nat} (v : Int32) (hD : D.length = n) (h : n < N) : (pd D N).set n v = pd (D ++ [v]) N := by
  subst hD
  unfold pd
  rw [List.set_append_right _ _ (Nat.le_refl _), Nat.sub_self, show N - D.length = (N - (D ++ [v]).length) + 1 from by rw [List.length_append, List.length_singleton]; omega, List.replicate_succ, List.set_cons_zero]; simp
theorem own_ik {n k : Nat} (h : n + k < 2 ^ 31) : (n.toInt32 + k.toInt32).toNatClampNeg = n + k := by rw [own_add]; exact own_cl h
theorem own_i0 {n k : Nat} (h : n + k < 2 ^ 31) : ¬ n.toInt32 + k.toInt32 < 0 := by rw [own_add]; exact own_n0 h
theorem own_dl {D : List Int32} {n : Nat} (v : Int32) (h : D.length = n) : (D ++ [v]).length = n + 1 := by rw [List.length_append, h]; rfl
theorem own_mod3 (x : Int32) : ∃ n : Nat, (x &&& 3) % 3 = n.toInt32 ∧ n ≤ 2 := by
  have m1 := c_mask x 3 2 (by decide) (by decide)
  have q1 := (c_irem (x &&& 3) 3 3 (by decide)).1 (by omega)
  refine ⟨((x &&& 3) % 3).toInt.toNat, Int32.toInt_inj.mp ?_, by omega⟩
  rw [own_len (by omega)]; omega
theorem d1_0 : decode method_3_code 0 = .ok (.iload_n 1, 1) := by decide +kernel
theorem d1_1 : decode method_3_code 1 = .ok (.i2c, 1) := by decide +kernel
theorem d1_2 : decode method_3_code 2 = .ok (.istore_n 2, 1) := by decide +kernel
theorem d1_3 : decode method_3_code 3 = .ok (.iload_n 1, 1) := by decide +kernel
theorem d1_4 : decode method_3_code 4 = .ok (.bipush 16, 2) := by decide +kernel
theorem d1_6 : decode method_3_code 6 = .ok (.iushr, 1) := by decide +kernel
theorem d1_7 : decode method_3_code 7 = .ok (.i2c, 1) := by decide +kernel
theorem d1_8 : decode method_3_code 8 = .ok (.istore_n 3, 1) := by decide +kernel
theorem d1_9 : decode method_3_code 9 = .ok (.iload_n 0, 1) := by decide +kernel
theorem d1_10 : decode method_3_code 10 = .ok (.ifCond .ne 14, 3) := by decide +kernel
theorem d1_13 : decode method_3_code 13 = .ok (.new 17, 3) := by decide +kernel
theorem w4 : Jvm.Cond.classLink "com/example/steady_rollout/steadyrollout/DeviceTopicsUpdatePinLaw" (17 : Nat) "java/lang/String" ∈ tables_1 := List.mem_of_getElem? (i := 4) rfl
theorem d1_16 : decode method_3_code 16 = .ok (.dup, 1) := by decide +kernel
theorem d1_17 : decode method_3_code 17 = .ok (.iconst 0, 1) := by decide +kernel
theorem d1_18 : decode method_3_code 18 = .ok (.newarray .char, 2) := by decide +kernel
theorem w7 : Jvm.Cond.arrayClass Jvm.ClassFile.FieldType.char ∈ tables_1 := List.mem_of_getElem? (i := 7) rfl
theorem d1_20 : decode method_3_code 20 = .ok (.invokespecial 19, 3) := by decide +kernel
theorem w10 : Jvm.Cond.code N10 jdk_42_method_3_code (2 : Nat) (Option.none : Option Jvm.ClassFile.FieldType) ∈ tables_1 := List.mem_of_getElem? (i := 10) rfl
theorem pd_N10 : parseMethodDescriptor N10.desc = some ⟨[(.array .char)], none⟩ := by decide +kernel
theorem w8 : Jvm.Cond.methodLink "com/example/steady_rollout/steadyrollout/DeviceTopicsUpdatePinLaw" (19 : Nat) N10 ∈ tables_1 := List.mem_of_getElem? (i := 8) rfl
theorem w9 : Jvm.Cond.instanceMethod N10 ∈ tables_1 := List.mem_of_getElem? (i := 9) rfl
theorem d1_23 : decode method_3_code 23 = .ok (.areturn, 1) := by decide +kernel
theorem d1_24 : decode method_3_code 24 = .ok (.iload_n 0, 1) := by decide +kernel
theorem d1_25 : decode method_3_code 25 = .ok (.iconst 1, 1) := by decide +kernel
theorem d1_26 : decode method_3_code 26 = .ok (.if_icmp .ne 18, 3) := by decide +kernel
theorem d1_29 : decode method_3_code 29 = .ok (.new 17, 3) := by decide +kernel
theorem d1_32 : decode method_3_code 32 = .ok (.dup, 1) := by decide +kernel
theorem d1_33 : decode method_3_code 33 = .ok (.iconst 1, 1) := by decide +kernel
theorem d1_34 : decode method_3_code 34 = .ok (.newarray .char, 2) := by decide +kernel
theorem d1_36 : decode method_3_code 36 = .ok (.dup, 1) := by decide +kernel
theorem d1_37 : decode method_3_code 37 = .ok (.iconst 0, 1) := by decide +kernel
theorem d1_38 : decode method_3_code 38 = .ok (.iload_n 2, 1) := by decide +kernel
theorem d1_39 : decode method_3_code 39 = .ok (.castore, 1) := by decide +kernel
theorem d1_40 : decode method_3_code 40 = .ok (.invokespecial 19, 3) := by decide +kernel
theorem d1_43 : decode method_3_code 43 = .ok (.areturn, 1) := by decide +kernel
theorem d1_44 : decode method_3_code 44 = .ok (.new 17, 3) := by decide +kernel
theorem d1_47 : decode method_3_code 47 = .ok (.dup, 1) := by decide +kernel
theorem d1_48 : decode method_3_code 48 = .ok (.iconst 2, 1) := by decide +kernel
theorem d1_49 : decode method_3_code 49 = .ok (.newarray .char, 2) := by decide +kernel
theorem d1_51 : decode method_3_code 51 = .ok (.dup, 1) := by decide +kernel
theorem d1_52 : decode method_3_code 52 = .ok (.iconst 0, 1) := by decide +kernel
theorem d1_53 : decode method_3_code 53 = .ok (.iload_n 2, 1) := by decide +kernel
theorem d1_54 : decode method_3_code 54 = .ok (.castore, 1) := by decide +kernel
theorem d1_55 : decode method_3_code 55 = .ok (.dup, 1) := by decide +kernel
theorem d1_56 : decode method_3_code 56 = .ok (.iconst 1, 1) := by decide +kernel
theorem d1_57 : decode method_3_code 57 = .ok (.iload_n 3, 1) := by decide +kernel
theorem d1_58 : decode method_3_code 58 = .ok (.castore, 1) := by decide +kernel
theorem d1_59 : decode method_3_code 59 = .ok (.invokespecial 19, 3) := by decide +kernel
theorem d1_62 : decode method_3_code 62 = .ok (.areturn, 1) := by decide +kernel
abbrev N48 : MethodName := ⟨"com/example/steady_rollout/steadyrollout/DeviceTopicsUpdatePinLaw", "piece", "(II)Ljava/lang/String;"⟩
theorem pn_N48 : plainName N48.cls = true := by first | (simp [plainName, overriddenIn]; done) | decide +kernel

abbrev rm_pie : Room := { frames := 6, cells := 6, slots := 108, locals := 88 }
set_option maxRecDepth 65536 in
set_option maxHeartbeats 4000000 in
theorem ct_pie (l : Launch) {Z : State} {n0 : Nat} {z : Int32} {f : Value} (W : Sx Z z f) (n : Nat) (c : Int32) (h : Heap) (hn : n ≤ 2) :
    Ctr l Z n0 N48 method_3_code 4 (some (.object "java/lang/String")) rm_pie #[(.int n.toInt32), (.int c)] h [] (fun v h' sn => ∃ a b, v = some (.ref a) ∧ Ext h h' ∧ h.size ≤ a ∧ Stg Z h' a b (pcF n c) ∧ sn = []) := by
  refine Ctr.of_go (ls := #[.val (.int n.toInt32), .val (.int c), .unset, .unset]) W.1.1 (plainFor_of_name pn_N48) (fun m => by first | (simp [entryFrame, mkF, argsToLocals, Value.category]; done) | rfl) (fun K H => ?_)
  have KK : Keep h h [] := Keep.refl _ _
  obtain rfl | rfl | rfl : n = 0 ∨ n = 1 ∨ n = 2 := by omega
  ·
    show Go _ _ _ _ _ _ h [] 0 0 0 #[.val (.int (0 : Int32)), .val (.int c), .unset, .unset] []
    refine Go.iloadN H d1_0 rfl rfl ?_
    refine Go.i2c H d1_1 rfl ?_
    refine Go.istoreN (ls' := #[.val (.int (0 : Int32)), .val (.int c), .val (.int (nar .char c)), .unset]) H d1_2 rfl rfl ?_
    refine Go.iloadN H d1_3 rfl rfl ?_
    refine Go.bipush (16 : Int32) H d1_4 rfl rfl ?_
    refine Go.iushr H d1_6 rfl ?_
    refine Go.i2c H d1_7 rfl ?_
    refine Go.istoreN (ls' := #[.val (.int (0 : Int32)), .val (.int c), .val (.int (nar .char c)), .val (.int (nar .char ((c.toUInt32 >>> ((16 : Int32) &&& 31).toUInt32).toInt32)))]) H d1_8 rfl rfl ?_
    refine Go.iloadN H d1_9 rfl rfl ?_
    refine Go.ifN H d1_10 (by decide) rfl ?_
    refine Go.new H d1_13 rfl w4 w5 w6 (by decide) (by decide) ?_
    intro a1 h2 g3 z4 E5 A6 D7
    have sz8 := Nat.le_trans KK.1 (Nat.le_of_eq g3.symm)
    replace KK := KK.ext E5
    have F9 : Fld Z h2 a1 "java/lang/String" "value" "[B" .null := D7 (Or.inr w20) (ty := (.array .byte)) (by decide)
    have F10 : Fld Z h2 a1 "java/lang/String" "coder" "B" (.int (0 : Int32)) := D7 (Or.inr w21) (ty := .byte) (by decide)
    show Go _ _ _ _ _ _ h2 [a1] 1 4 16 #[.val (.int (0 : Int32)), .val (.int c), .val (.int (nar .char c)), .val (.int (nar .char ((c.toUInt32 >>> ((16 : Int32) &&& 31).toUInt32).toInt32)))] [(.ref a1)]
    refine Go.dup H d1_16 rfl rfl ?_
    refine Go.iconst (0 : Int32) H d1_17 rfl rfl ?_
    refine Go.newarray 0 0 H d1_18 rfl w7 rfl (by decide) (by decide) (by decide) (by decide) (by decide) (by decide) (by decide) ?_
    intro a11 h12 g13 z14 E15 F16
    have ne17 : a1 ≠ a11 := Nat.ne_of_lt (Nat.lt_of_lt_of_le A6.lt (Nat.le_of_eq g13.symm))
    have sz18 := Nat.le_trans KK.1 (Nat.le_of_eq g13.symm)
    replace A6 := A6.ext E15
    replace F9 := F9.ext E15
    replace F10 := F10.ext E15
    replace KK := KK.ext E15
    replace F16 : Vec Z h12 a11 .char [] := F16
    show Go _ _ _ _ _ _ h12 [a11, a1] 2 4 20 #[.val (.int (0 : Int32)), .val (.int c), .val (.int (nar .char c)), .val (.int (nar .char ((c.toUInt32 >>> ((16 : Int32) &&& 31).toUInt32).toInt32)))] [(.ref a11), (.ref a1), (.ref a1)]
    refine Go.callI (rest := [(.ref a1)]) 1 [(.ref a11)] H d1_20 rfl rfl w8 w9 w6 w10 pd_N10 (ct_new1 l W a1 a11 ([] : List Int32) h12 A6 F9 F10 F16 own_an (Nat.le_of_ble_eq_true rfl) z4) (by simp) rfl rfl rfl (Nat.le_of_eq rfl) (by decide) (by decide) (by decide) (by decide) nh_N9 ?_
    rintro _ h19 _ ⟨rfl, K20, ⟨b21, S22⟩, rfl⟩
    replace F16 := F16.keep K20 (ninS (Ne.symm ne17) nin0)
    replace KK := KK.trans K20 (allS (Or.inr sz8) all0)
    show Go _ _ _ _ _ _ h19 [a11, a1] 6 106 23 #[.val (.int (0 : Int32)), .val (.int c), .val (.int (nar .char c)), .val (.int (nar .char ((c.toUInt32 >>> ((16 : Int32) &&& 31).toUInt32).toInt32)))] [(.ref a1)]
    exact Go.areturn [] H d1_23 rfl rfl (own_narR rfl) ⟨_, _, rfl, own_ext KK, Nat.le_of_eq g3.symm, S22, rfl⟩ all0 (by decide) (by decide)
  ·
    show Go _ _ _ _ _ _ h [] 0 0 0 #[.val (.int (1 : Int32)), .val (.int c), .unset, .unset] []
    refine Go.iloadN H d1_0 rfl rfl ?_
    refine Go.i2c H d1_1 rfl ?_
    refine Go.istoreN (ls' := #[.val (.int (1 : Int32)), .val (.int c), .val (.int (nar .char c)), .unset]) H d1_2 rfl rfl ?_
    refine Go.iloadN H d1_3 rfl rfl ?_
    refine Go.bipush (16 : Int32) H d1_4 rfl rfl ?_
    refine Go.iushr H d1_6 rfl ?_
    refine Go.i2c H d1_7 rfl ?_
    refine Go.istoreN (ls' := #[.val (.int (1 : Int32)), .val (.int c), .val (.int (nar .char c)), .val (.int (nar .char ((c.toUInt32 >>> ((16 : Int32) &&& 31).toUInt32).toInt32)))]) H d1_8 rfl rfl ?_
    refine Go.iloadN H d1_9 rfl rfl ?_
    refine Go.ifY (pc' := 24) H d1_10 (by decide) (by decide) (by decide) ?_
    refine Go.iloadN H d1_24 rfl rfl ?_
    refine Go.iconst (1 : Int32) H d1_25 rfl rfl ?_
    refine Go.icmpN H d1_26 (by decide) rfl ?_
    refine Go.new H d1_29 rfl w4 w5 w6 (by decide) (by decide) ?_
    intro a23 h24 g25 z26 E27 A28 D29
    have sz30 := Nat.le_trans KK.1 (Nat.le_of_eq g25.symm)
    replace KK := KK.ext E27
    have F31 : Fld Z h24 a23 "java/lang/String" "value" "[B" .null := D29 (Or.inr w20) (ty := (.array .byte)) (by decide)
    have F32 : Fld Z h24 a23 "java/lang/String" "coder" "B" (.int (0 : Int32)) := D29 (Or.inr w21) (ty := .byte) (by decide)
    show Go _ _ _ _ _ _ h24 [a23] 1 4 32 #[.val (.int (1 : Int32)), .val (.int c), .val (.int (nar .char c)), .val (.int (nar .char ((c.toUInt32 >>> ((16 : Int32) &&& 31).toUInt32).toInt32)))] [(.ref a23)]
    refine Go.dup H d1_32 rfl rfl ?_
    refine Go.iconst (1 : Int32) H d1_33 rfl rfl ?_
    refine Go.newarray 1 1 H d1_34 rfl w7 rfl (by decide) (by decide) (by decide) (by decide) (by decide) (by decide) (by decide) ?_
    intro a33 h34 g35 z36 E37 F38
    have ne39 : a23 ≠ a33 := Nat.ne_of_lt (Nat.lt_of_lt_of_le A28.lt (Nat.le_of_eq g35.symm))
    have sz40 := Nat.le_trans KK.1 (Nat.le_of_eq g35.symm)
    replace A28 := A28.ext E37
    replace F31 := F31.ext E37
    replace F32 := F32.ext E37
    replace KK := KK.ext E37
    replace F38 : Vec Z h34 a33 .char [(0 : Int32)] := F38
    show Go _ _ _ _ _ _ h34 [a33, a23] 2 5 36 #[.val (.int (1 : Int32)), .val (.int c), .val (.int (nar .char c)), .val (.int (nar .char ((c.toUInt32 >>> ((16 : Int32) &&& 31).toUInt32).toInt32)))] [(.ref a33), (.ref a23), (.ref a23)]
    refine Go.dup H d1_36 rfl rfl ?_
    refine Go.iconst (0 : Int32) H d1_37 rfl rfl ?_
    refine Go.iloadN H d1_38 rfl rfl ?_
    refine Go.castore (nar .char c) H d1_39 rfl F38 0 (by decide) (by decide) (Nat.le_of_ble_eq_true rfl) own_nn z36 (by simp) ?_
    intro h41 K42 F43
    replace A28 := A28.keep K42
    replace F31 := F31.keep K42 (ninS ne39 nin0)
    replace F32 := F32.keep K42 (ninS ne39 nin0)
    replace KK := KK.trans K42 (allS (Or.inr sz40) all0)
    replace F43 : Vec Z h41 a33 .char [(nar .char c)] := F43
    refine Go.callI (rest := [(.ref a23)]) 1 [(.ref a33)] H d1_40 rfl rfl w8 w9 w6 w10 pd_N10 (ct_new1 l W a23 a33 [(nar .char c)] h41 A28 F31 F32 F43 (own_ac (own_isC _) own_an) (Nat.le_of_ble_eq_true rfl) z26) (by simp) rfl rfl rfl (Nat.le_of_eq rfl) (by decide) (by decide) (by decide) (by decide) nh_N9 ?_
    rintro _ h44 _ ⟨rfl, K45, ⟨b46, S47⟩, rfl⟩
    replace F43 := F43.keep K45 (ninS (Ne.symm ne39) nin0)
    replace KK := KK.trans K45 (allS (Or.inr sz30) all0)
    show Go _ _ _ _ _ _ h44 [a33, a23] 6 107 43 #[.val (.int (1 : Int32)), .val (.int c), .val (.int (nar .char c)), .val (.int (nar .char ((c.toUInt32 >>> ((16 : Int32) &&& 31).toUInt32).toInt32)))] [(.ref a23)]
    exact Go.areturn [] H d1_43 rfl rfl (own_narR rfl) ⟨_, _, rfl, own_ext KK, Nat.le_of_eq g25.symm, S47, rfl⟩ all0 (by decide) (by decide)
  ·
    show Go _ _ _ _ _ _ h [] 0 0 0 #[.val (.int (2 : Int32)), .val (.int c), .unset, .unset] []
    refine Go.iloadN H d1_0 rfl rfl ?_
    refine Go.i2c H d1_1 rfl ?_
    refine Go.istoreN (ls' := #[.val (.int (2 : Int32)), .val (.int c), .val (.int (nar .char c)), .unset]) H d1_2 rfl rfl ?_
    refine Go.iloadN H d1_3 rfl rfl ?_
    refine Go.bipush (16 : Int32) H d1_4 rfl rfl ?_
    refine Go.iushr H d1_6 rfl ?_
    refine Go.i2c H d1_7 rfl ?_
    refine Go.istoreN (ls' := #[.val (.int (2 : Int32)), .val (.int c), .val (.int (nar .char c)), .val (.int (nar .char ((c.toUInt32 >>> ((16 : Int32) &&& 31).toUInt32).toInt32)))]) H d1_8 rfl rfl ?_
    refine Go.iloadN H d1_9 rfl rfl ?_
    refine Go.ifY (pc' := 24) H d1_10 (by decide) (by decide) (by decide) ?_
    refine Go.iloadN H d1_24 rfl rfl ?_
    refine Go.iconst (1 : Int32) H d1_25 rfl rfl ?_
    refine Go.icmpY (pc' := 44) H d1_26 (by decide) (by decide) (by decide) ?_
    refine Go.new H d1_44 rfl w4 w5 w6 (by decide) (by decide) ?_
    intro a48 h49 g50 z51 E52 A53 D54
    have sz55 := Nat.le_trans KK.1 (Nat.le_of_eq g50.symm)
    replace KK := KK.ext E52
    have F56 : Fld Z h49 a48 "java/lang/String" "value" "[B" .null := D54 (Or.inr w20) (ty := (.array .byte)) (by decide)
    have F57 : Fld Z h49 a48 "java/lang/String" "coder" "B" (.int (0 : Int32)) := D54 (Or.inr w21) (ty := .byte) (by decide)
    show Go _ _ _ _ _ _ h49 [a48] 1 4 47 #[.val (.int (2 : Int32)), .val (.int c), .val (.int (nar .char c)), .val (.int (nar .char ((c.toUInt32 >>> ((16 : Int32) &&& 31).toUInt32).toInt32)))] [(.ref a48)]
    refine Go.dup H d1_47 rfl rfl ?_
    refine Go.iconst (2 : Int32) H d1_48 rfl rfl ?_
    refine Go.newarray 2 2 H d1_49 rfl w7 rfl (by decide) (by decide) (by decide) (by decide) (by decide) (by decide) (by decide) ?_
    intro a58 h59 g60 z61 E62 F63
    have ne64 : a48 ≠ a58 := Nat.ne_of_lt (Nat.lt_of_lt_of_le A53.lt (Nat.le_of_eq g60.symm))
    have sz65 := Nat.le_trans KK.1 (Nat.le_of_eq g60.symm)
    replace A53 := A53.ext E62
    replace F56 := F56.ext E62
    replace F57 := F57.ext E62
    replace KK := KK.ext E62
    replace F63 : Vec Z h59 a58 .char [(0 : Int32), (0 : Int32)] := F63
    show Go _ _ _ _ _ _ h59 [a58, a48] 2 6 51 #[.val (.int (2 : Int32)), .val (.int c), .val (.int (nar .char c)), .val (.int (nar .char ((c.toUInt32 >>> ((16 : Int32) &&& 31).toUInt32).toInt32)))] [(.ref a58), (.ref a48), (.ref a48)]
    refine Go.dup H d1_51 rfl rfl ?_
    refine Go.iconst (0 : Int32) H d1_52 rfl rfl ?_
    refine Go.iloadN H d1_53 rfl rfl ?_
    refine Go.castore (nar .char c) H d1_54 rfl F63 0 (by decide) (by decide) (Nat.le_of_ble_eq_true rfl) own_nn z61 (by simp) ?_
    intro h66 K67 F68
    replace A53 := A53.keep K67
    replace F56 := F56.keep K67 (ninS ne64 nin0)
    replace F57 := F57.keep K67 (ninS ne64 nin0)
    replace KK := KK.trans K67 (allS (Or.inr sz65) all0)
    replace F68 : Vec Z h66 a58 .char [(nar .char c), (0 : Int32)] := F68
    refine Go.dup H d1_55 rfl rfl ?_
    refine Go.iconst (1 : Int32) H d1_56 rfl rfl ?_
    refine Go.iloadN H d1_57 rfl rfl ?_
    refine Go.castore (nar .char ((c.toUInt32 >>> ((16 : Int32) &&& 31).toUInt32).toInt32)) H d1_58 rfl F68 1 (by decide) (by decide) (Nat.le_of_ble_eq_true rfl) own_nn z61 (by simp) ?_
    intro h69 K70 F71
    replace A53 := A53.keep K70
    replace F56 := F56.keep K70 (ninS ne64 nin0)
    replace F57 := F57.keep K70 (ninS ne64 nin0)
    replace KK := KK.trans K70 (allS (Or.inr sz65) all0)
    replace F71 : Vec Z h69 a58 .char [(nar .char c), (nar .char ((c.toUInt32 >>> ((16 : Int32) &&& 31).toUInt32).toInt32))] := F71
    refine Go.callI (rest := [(.ref a48)]) 1 [(.ref a58)] H d1_59 rfl rfl w8 w9 w6 w10 pd_N10 (ct_new1 l W a48 a58 [(nar .char c), (nar .char ((c.toUInt32 >>> ((16 : Int32) &&& 31).toUInt32).toInt32))] h69 A53 F56 F57 F71 (own_ac (own_isC _) (own_ac (own_isC _) own_an)) (Nat.le_of_ble_eq_true rfl) z51) (by simp) rfl rfl rfl (Nat.le_of_eq rfl) (by decide) (by decide) (by decide) (by decide) nh_N9 ?_
    rintro _ h72 _ ⟨rfl, K73, ⟨b74, S75⟩, rfl⟩
    replace F71 := F71.keep K73 (ninS (Ne.symm ne64) nin0)
    replace KK := KK.trans K73 (allS (Or.inr sz55) all0)
    show Go _ _ _ _ _ _ h72 [a58, a48] 6 108 62 #[.val (.int (2 : Int32)), .val (.int c), .val (.int (nar .char c)), .val (.int (nar .char ((c.toUInt32 >>> ((16 : Int32) &&& 31).toUInt32).toInt32)))] [(.ref a48)]
    exact Go.areturn [] H d1_62 rfl rfl (own_narR rfl) ⟨_, _, rfl, own_ext KK, Nat.le_of_eq g50.symm, S75, rfl⟩ all0 (by decide) (by decide)
theorem d5_0 : decode method_4_code 0 = .ok (.iload_n 2, 1) := by decide +kernel
theorem d5_1 : decode method_4_code 1 = .ok (.ifCond .le 8, 3) := by decide +kernel
theorem d5_9 : decode method_4_code 9 = .ok (.iload_n 2, 1) := by decide +kernel
theorem d5_10 : decode method_4_code 10 = .ok (.iconst 1, 1) := by decide +kernel
theorem d5_11 : decode method_4_code 11 = .ok (.if_icmp .le 13, 3) := by decide +kernel
theorem d5_24 : decode method_4_code 24 = .ok (.return_, 1) := by decide +kernel
theorem d5_4 : decode method_4_code 4 = .ok (.aload_n 0, 1) := by decide +kernel
theorem d5_5 : decode method_4_code 5 = .ok (.iload_n 1, 1) := by decide +kernel
theorem d5_6 : decode method_4_code 6 = .ok (.iload_n 3, 1) := by decide +kernel
theorem d5_7 : decode method_4_code 7 = .ok (.i2c, 1) := by decide +kernel
theorem d5_8 : decode method_4_code 8 = .ok (.castore, 1) := by decide +kernel
theorem d5_14 : decode method_4_code 14 = .ok (.aload_n 0, 1) := by decide +kernel
theorem d5_15 : decode method_4_code 15 = .ok (.iload_n 1, 1) := by decide +kernel
theorem d5_16 : decode method_4_code 16 = .ok (.iconst 1, 1) := by decide +kernel
theorem d5_17 : decode method_4_code 17 = .ok (.iadd, 1) := by decide +kernel
theorem d5_18 : decode method_4_code 18 = .ok (.iload_n 3, 1) := by decide +kernel
theorem d5_19 : decode method_4_code 19 = .ok (.bipush 16, 2) := by decide +kernel
theorem d5_21 : decode method_4_code 21 = .ok (.iushr, 1) := by decide +kernel
theorem d5_22 : decode method_4_code 22 = .ok (.i2c, 1) := by decide +kernel
theorem d5_23 : decode method_4_code 23 = .ok (.castore, 1) := by decide +kernel
abbrev N49 : MethodName := ⟨"com/example/steady_rollout/steadyrollout/DeviceTopicsUpdatePinLaw", "put", "([CIII)V"⟩

abbrev rm_put : Room := { frames := 0, cells := 0, slots := 0, locals := 0 }
set_option maxRecDepth 65536 in
set_option maxHeartbeats 4000000 in
theorem ct_put (l : Launch) {Z : State} {n0 : Nat} {z : Int32} {f : Value} (W : Sx Z z f) (e : Addr) (D : List Int32) (N o n : Nat) (c : Int32) (h : Heap) (Fe : Vec Z h e .char (pd D N)) (hD : D.length = o) (hN : o + n ≤ N) (hn : n ≤ 2) (hN2 : N ≤ 34) (ze : n0 ≤ e) :
    Ctr l Z n0 N49 method_4_code 4 none rm_put #[(.ref e), (.int o.toInt32), (.int n.toInt32), (.int c)] h [e] (fun v h' sn => v = none ∧ Keep h h' [e] ∧ Vec Z h' e .char (pd (D ++ pcF n c) N) ∧ sn = []) := by
  refine Ctr.of_go (ls := #[.val (.ref e), .val (.int o.toInt32), .val (.int n.toInt32), .val (.int c)]) W.1.1 (plainFor_of_name pn_N48) (fun m => by first | (simp [entryFrame, mkF, argsToLocals, Value.category]; done) | rfl) (fun K H => ?_)
  have KK : Keep h h [e] := Keep.refl _ _
  obtain rfl | rfl | rfl : n = 0 ∨ n = 1 ∨ n = 2 := by omega
  ·
    show Go _ _ _ _ _ _ h [e] 0 0 0 #[.val (.ref e), .val (.int o.toInt32), .val (.int (0 : Int32)), .val (.int c)] []
    refine Go.iloadN H d5_0 rfl rfl ?_
    refine Go.ifY (pc' := 9) H d5_1 (by decide) (by decide) (by decide) ?_
    refine Go.iloadN H d5_9 rfl rfl ?_
    refine Go.iconst (1 : Int32) H d5_10 rfl rfl ?_
    refine Go.icmpY (pc' := 24) H d5_11 (by decide) (by decide) (by decide) ?_
    rw [← List.append_nil D] at Fe
    exact Go.return_ [] H d5_24 ⟨rfl, KK, Fe, rfl⟩ all0 (by decide) (by decide)
  ·
    show Go _ _ _ _ _ _ h [e] 0 0 0 #[.val (.ref e), .val (.int o.toInt32), .val (.int (1 : Int32)), .val (.int c)] []
    refine Go.iloadN H d5_0 rfl rfl ?_
    refine Go.ifN H d5_1 (by decide) rfl ?_
    refine Go.aloadN H d5_4 rfl rfl rfl ?_
    refine Go.iloadN H d5_5 rfl rfl ?_
    refine Go.iloadN H d5_6 rfl rfl ?_
    refine Go.i2c H d5_7 rfl ?_
    refine Go.castore (nar .char c) H d5_8 rfl Fe o (own_cl (by omega)) (own_n0 (by omega)) (by rw [pd_len (by omega)]; omega) own_nn ze (by simp) ?_
    intro h1 K2 F3
    replace KK := KK.trans K2 (allS (Or.inl (by simp)) all0)
    refine Go.iloadN H d5_9 rfl rfl ?_
    refine Go.iconst (1 : Int32) H d5_10 rfl rfl ?_
    refine Go.icmpY (pc' := 24) H d5_11 (by decide) (by decide) (by decide) ?_
    rw [pd_set _ hD (by omega)] at F3
    exact Go.return_ [] H d5_24 ⟨rfl, KK, F3, rfl⟩ all0 (by decide) (by decide)
  ·
    show Go _ _ _ _ _ _ h [e] 0 0 0 #[.val (.ref e), .val (.int o.toInt32), .val (.int (2 : Int32)), .val (.int c)] []
    refine Go.iloadN H d5_0 rfl rfl ?_
    refine Go.ifN H d5_1 (by decide) rfl ?_
    refine Go.aloadN H d5_4 rfl rfl rfl ?_
    refine Go.iloadN H d5_5 rfl rfl ?_
    refine Go.iloadN H d5_6 rfl rfl ?_
    refine Go.i2c H d5_7 rfl ?_
    refine Go.castore (nar .char c) H d5_8 rfl Fe o (own_cl (by omega)) (own_n0 (by omega)) (by rw [pd_len (by omega)]; omega) own_nn ze (by simp) ?_
    intro h4 K5 F6
    replace KK := KK.trans K5 (allS (Or.inl (by simp)) all0)
    refine Go.iloadN H d5_9 rfl rfl ?_
    refine Go.iconst (1 : Int32) H d5_10 rfl rfl ?_
    refine Go.icmpN H d5_11 (by decide) rfl ?_
    refine Go.aloadN H d5_14 rfl rfl rfl ?_
    refine Go.iloadN H d5_15 rfl rfl ?_
    refine Go.iconst (1 : Int32) H d5_16 rfl rfl ?_
    refine Go.iadd H d5_17 rfl ?_
    refine Go.iloadN H d5_18 rfl rfl ?_
    refine Go.bipush (16 : Int32) H d5_19 rfl rfl ?_
    refine Go.iushr H d5_21 rfl ?_
    refine Go.i2c H d5_22 rfl ?_
    refine Go.castore (nar .char ((c.toUInt32 >>> ((16 : Int32) &&& 31).toUInt32).toInt32)) H d5_23 rfl F6 (o + 1) (by rw [own_s]; exact own_cl (by omega)) (by rw [own_s]; exact own_n0 (by omega)) (by rw [List.length_set, pd_len (by omega)]; omega) own_nn ze (by simp) ?_
    intro h7 K8 F9
    replace KK := KK.trans K8 (allS (Or.inl (by simp)) all0)
    rw [pd_set _ hD (by omega), pd_set _ (own_dl _ hD) (by omega), List.append_assoc] at F9
    exact Go.return_ [] H d5_24 ⟨rfl, KK, F9, rfl⟩ all0 (by decide) (by decide)
theorem own_app {P : Int32 → Prop} {A B : List Int32} (h1 : ∀ c ∈ A, P c) (h2 : ∀ c ∈ B, P c) : ∀ c ∈ A ++ B, P c := fun c m => (List.mem_append.mp m).elim (h1 c) (h2 c)
/-- a ≠ b, out of omega's sight -/
def Df (a b : Addr) : Prop := a ≠ b
theorem w3 : Jvm.Cond.code N48 method_3_code (4 : Nat) (Option.some (Jvm.ClassFile.FieldType.object "java/lang/String")) ∈ tables_1 := List.mem_of_getElem? (i := 3) rfl
theorem w2 : Jvm.Cond.initialized "com/example/steady_rollout/steadyrollout/DeviceTopicsUpdatePinLaw" ∈ tables_1 := List.mem_of_getElem? (i := 2) rfl
theorem pd_N48 : parseMethodDescriptor N48.desc = some ⟨[.int, .int], (some (.object "java/lang/String"))⟩ := by decide +kernel
theorem nh_N48 : N48.cls ≠ "java/lang/invoke/MethodHandle" ∧ N48.cls ≠ "java/lang/invoke/VarHandle" := by decide
theorem w0 : Jvm.Cond.methodLink "com/example/steady_rollout/steadyrollout/DeviceTopicsUpdatePinLaw" (7 : Nat) N48 ∈ tables_1 := List.mem_of_getElem? (i := 0) rfl
theorem w1 : Jvm.Cond.static N48 ∈ tables_1 := List.mem_of_getElem? (i := 1) rfl
theorem w28 : Jvm.Cond.code N49 method_4_code (4 : Nat) (Option.none : Option Jvm.ClassFile.FieldType) ∈ tables_1 := List.mem_of_getElem? (i := 28) rfl
theorem pd_N49 : parseMethodDescriptor N49.desc = some ⟨[(.array .char), .int, .int, .int], none⟩ := by decide +kernel
theorem w26 : Jvm.Cond.methodLink "com/example/steady_rollout/steadyrollout/DeviceTopicsUpdatePinLaw" (13 : Nat) N49 ∈ tables_1 := List.mem_of_getElem? (i := 26) rfl
theorem w27 : Jvm.Cond.static N49 ∈ tables_1 := List.mem_of_getElem? (i := 27) rfl
theorem w40 : Jvm.Cond.classLink "com/example/steady_rollout/steadyrollout/DeviceTopicsUpdatePinLaw" (22 : Nat) "com/example/steady_rollout/steadyrollout/DeviceTopics" ∈ tables_1 := List.mem_of_getElem? (i := 40) rfl
theorem w42 : Jvm.Cond.initialized "com/example/steady_rollout/steadyrollout/DeviceTopics" ∈ tables_1 := List.mem_of_getElem? (i := 42) rfl
theorem w45 : Jvm.Cond.code N46 prog_4_method_1_code (2 : Nat) (Option.none : Option Jvm.ClassFile.FieldType) ∈ tables_1 := List.mem_of_getElem? (i := 45) rfl
theorem pd_N46 : parseMethodDescriptor N46.desc = some ⟨[(.object "java/lang/String")], none⟩ := by decide +kernel
theorem nh_N46 : N46.cls ≠ "java/lang/invoke/MethodHandle" ∧ N46.cls ≠ "java/lang/invoke/VarHandle" := by decide
theorem w43 : Jvm.Cond.methodLink "com/example/steady_rollout/steadyrollout/DeviceTopicsUpdatePinLaw" (24 : Nat) N46 ∈ tables_1 := List.mem_of_getElem? (i := 43) rfl
theorem w44 : Jvm.Cond.instanceMethod N46 ∈ tables_1 := List.mem_of_getElem? (i := 44) rfl
theorem w164 : Jvm.Cond.code N47 prog_4_method_6_code (3 : Nat) (Option.some (Jvm.ClassFile.FieldType.object "java/lang/String")) ∈ tables_1 := List.mem_of_getElem? (i := 164) rfl
theorem pd_N47 : parseMethodDescriptor N47.desc = some ⟨[(.object "java/lang/String"), (.object "java/lang/String")], (some (.object "java/lang/String"))⟩ := by decide +kernel
theorem w160 : Jvm.Cond.methodLink "com/example/steady_rollout/steadyrollout/DeviceTopicsUpdatePinLaw" (27 : Nat) N47 ∈ tables_1 := List.mem_of_getElem? (i := 160) rfl
theorem w161 : Jvm.Cond.declares N47 ∈ tables_1 := List.mem_of_getElem? (i := 161) rfl
theorem w163 : Jvm.Cond.selects "com/example/steady_rollout/steadyrollout/DeviceTopics" N47 N47 ∈ tables_1 := List.mem_of_getElem? (i := 163) rfl
theorem w162 : Jvm.Cond.instanceMethod N47 ∈ tables_1 := List.mem_of_getElem? (i := 162) rfl
theorem w189 : Jvm.Cond.code N45 jdk_42_method_66_code (3 : Nat) (Option.some Jvm.ClassFile.FieldType.boolean) ∈ tables_1 := List.mem_of_getElem? (i := 189) rfl
theorem pd_N45 : parseMethodDescriptor N45.desc = some ⟨[(.object "java/lang/Object")], (some .boolean)⟩ := by decide +kernel
theorem w185 : Jvm.Cond.methodLink "com/example/steady_rollout/steadyrollout/DeviceTopicsUpdatePinLaw" (31 : Nat) N45 ∈ tables_1 := List.mem_of_getElem? (i := 185) rfl
theorem w186 : Jvm.Cond.declares N45 ∈ tables_1 := List.mem_of_getElem? (i := 186) rfl
theorem w188 : Jvm.Cond.selects "java/lang/String" N45 N45 ∈ tables_1 := List.mem_of_getElem? (i := 188) rfl
theorem w187 : Jvm.Cond.instanceMethod N45 ∈ tables_1 := List.mem_of_getElem? (i := 187) rfl
abbrev N50 : MethodName := ⟨"com/example/steady_rollout/steadyrollout/DeviceTopicsUpdatePinLaw", "law", "(IIII)Z"⟩
set_option maxRecDepth 65536 in
set_option maxHeartbeats 40000000 in
theorem ct_law (l : Launch) {Z : State} {n0 : Nat} {z : Int32} {f : Value} (W : Sx Z z f) (lens : Int32) (p : Int32) (t : Int32) (j : Int32) (h : Heap) : Ctr l Z n0 x code maxLocals ret room_1 #[(.int lens), (.int p), (.int t), (.int j)] h [] (fun v h' sn => v = some (.int 1) ∧ True) := by
  refine Ctr.of_go (ls := #[.val (.int lens), .val (.int p), .val (.int t), .val (.int j), .unset, .unset, .unset, .unset, .unset, .unset, .unset, .unset, .unset, .unset, .unset, .unset, .unset, .unset]) W.1.1 (plainFor_of_name pn_N48) (fun m => by simp [entryFrame, mkF, argsToLocals, Value.category, maxLocals]) (fun K H0 => ?_)
  have H : Ok Z K "com/example/steady_rollout/steadyrollout/DeviceTopicsUpdatePinLaw" code 18 (some .boolean) "law" := H0
  obtain ⟨np, hnp, hnp2⟩ := own_mod3 lens
  obtain ⟨nt, hnt, hnt2⟩ := own_mod3 ((lens.toUInt32 >>> ((2 : Int32) &&& 31).toUInt32).toInt32)
  obtain ⟨nj, hnj, hnj2⟩ := own_mod3 ((lens.toUInt32 >>> ((4 : Int32) &&& 31).toUInt32).toInt32)
  refine Go.iloadN H at_0 rfl rfl ?_
  refine Go.iconst (3 : Int32) H at_1 rfl rfl ?_
  refine Go.iand H at_2 rfl ?_
  refine Go.iconst (3 : Int32) H at_3 rfl rfl ?_
  refine Go.irem H at_4 rfl (by decide) ?_
  rw [hnp]
  refine Go.istore (ls' := #[.val (.int lens), .val (.int p), .val (.int t), .val (.int j), .val (.int np.toInt32), .unset, .unset, .unset, .unset, .unset, .unset, .unset, .unset, .unset, .unset, .unset, .unset, .unset]) H at_5 rfl rfl ?_
  refine Go.iloadN H at_7 rfl rfl ?_
  refine Go.iconst (2 : Int32) H at_8 rfl rfl ?_
  refine Go.iushr H at_9 rfl ?_
  refine Go.iconst (3 : Int32) H at_10 rfl rfl ?_
  refine Go.iand H at_11 rfl ?_
  refine Go.iconst (3 : Int32) H at_12 rfl rfl ?_
  refine Go.irem H at_13 rfl (by decide) ?_
  rw [hnt]
  refine Go.istore (ls' := #[.val (.int lens), .val (.int p), .val (.int t), .val (.int j), .val (.int np.toInt32), .val (.int nt.toInt32), .unset, .unset, .unset, .unset, .unset, .unset, .unset, .unset, .unset, .unset, .unset, .unset]) H at_14 rfl rfl ?_
  refine Go.iloadN H at_16 rfl rfl ?_
  refine Go.iconst (4 : Int32) H at_17 rfl rfl ?_
  refine Go.iushr H at_18 rfl ?_
  refine Go.iconst (3 : Int32) H at_19 rfl rfl ?_
  refine Go.iand H at_20 rfl ?_
  refine Go.iconst (3 : Int32) H at_21 rfl rfl ?_
  refine Go.irem H at_22 rfl (by decide) ?_
  rw [hnj]
  refine Go.istore (ls' := #[.val (.int lens), .val (.int p), .val (.int t), .val (.int j), .val (.int np.toInt32), .val (.int nt.toInt32), .val (.int nj.toInt32), .unset, .unset, .unset, .unset, .unset, .unset, .unset, .unset, .unset, .unset, .unset]) H at_23 rfl rfl ?_
  refine Go.iload H at_25 rfl rfl ?_
  refine Go.iloadN H at_27 rfl rfl ?_
  refine Go.callS (rest := []) 0 [(.int np.toInt32), (.int p)] H at_28 rfl w0 w1 w2 w3 pd_N48 (ct_pie l W np p h hnp2) all0 rfl rfl rfl (Nat.le_of_eq rfl) (by decide) (by decide) (by decide) (by decide) nh_N48 ?_
  rintro _ h3 _ ⟨a1, b2, rfl, E4, g5, S6, rfl⟩
  show Go _ _ _ _ _ _ h3 [] 6 108 31 #[.val (.int lens), .val (.int p), .val (.int t), .val (.int j), .val (.int np.toInt32), .val (.int nt.toInt32), .val (.int nj.toInt32), .unset, .unset, .unset, .unset, .unset, .unset, .unset, .unset, .unset, .unset, .unset] [(.ref a1)]
  refine Go.astore (ls' := #[.val (.int lens), .val (.int p), .val (.int t), .val (.int j), .val (.int np.toInt32), .val (.int nt.toInt32), .val (.int nj.toInt32), .val (.ref a1), .unset, .unset, .unset, .unset, .unset, .unset, .unset, .unset, .unset, .unset]) H at_31 rfl rfl rfl ?_
  refine Go.iload H at_33 rfl rfl ?_
  refine Go.iloadN H at_35 rfl rfl ?_
  refine Go.callS (rest := []) 0 [(.int nt.toInt32), (.int t)] H at_36 rfl w0 w1 w2 w3 pd_N48 (ct_pie l W nt t h3 hnt2) all0 rfl rfl rfl (Nat.le_of_eq rfl) (by decide) (by decide) (by decide) (by decide) nh_N48 ?_
  rintro _ h9 _ ⟨a7, b8, rfl, E10, g11, S12, rfl⟩
  have ne13 : Df a1 a7 := Nat.ne_of_lt (Nat.lt_of_lt_of_le S6.lt g11)
  have ne14 : Df b2 a7 := Nat.ne_of_lt (Nat.lt_of_lt_of_le S6.ltb g11)
  replace S6 := S6.ext E10
  show Go _ _ _ _ _ _ h9 [] 12 216 39 #[.val (.int lens), .val (.int p), .val (.int t), .val (.int j), .val (.int np.toInt32), .val (.int nt.toInt32), .val (.int nj.toInt32), .val (.ref a1), .unset, .unset, .unset, .unset, .unset, .unset, .unset, .unset, .unset, .unset] [(.ref a7)]
  refine Go.astore (ls' := #[.val (.int lens), .val (.int p), .val (.int t), .val (.int j), .val (.int np.toInt32), .val (.int nt.toInt32), .val (.int nj.toInt32), .val (.ref a1), .val (.ref a7), .unset, .unset, .unset, .unset, .unset, .unset, .unset, .unset, .unset]) H at_39 rfl rfl rfl ?_
  refine Go.iload H at_41 rfl rfl ?_
  refine Go.iloadN H at_43 rfl rfl ?_
  refine Go.callS (rest := []) 0 [(.int nj.toInt32), (.int j)] H at_44 rfl w0 w1 w2 w3 pd_N48 (ct_pie l W nj j h9 hnj2) all0 rfl rfl rfl (Nat.le_of_eq rfl) (by decide) (by decide) (by decide) (by decide) nh_N48 ?_
  rintro _ h17 _ ⟨a15, b16, rfl, E18, g19, S20, rfl⟩
  have ne21 : Df a1 a15 := Nat.ne_of_lt (Nat.lt_of_lt_of_le S6.lt g19)
  have ne22 : Df b2 a15 := Nat.ne_of_lt (Nat.lt_of_lt_of_le S6.ltb g19)
  have ne23 : Df a7 a15 := Nat.ne_of_lt (Nat.lt_of_lt_of_le S12.lt g19)
  have ne24 : Df b8 a15 := Nat.ne_of_lt (Nat.lt_of_lt_of_le S12.ltb g19)
  replace S6 := S6.ext E18
  replace S12 := S12.ext E18
  show Go _ _ _ _ _ _ h17 [] 18 324 47 #[.val (.int lens), .val (.int p), .val (.int t), .val (.int j), .val (.int np.toInt32), .val (.int nt.toInt32), .val (.int nj.toInt32), .val (.ref a1), .val (.ref a7), .unset, .unset, .unset, .unset, .unset, .unset, .unset, .unset, .unset] [(.ref a15)]
  refine Go.astore (ls' := #[.val (.int lens), .val (.int p), .val (.int t), .val (.int j), .val (.int np.toInt32), .val (.int nt.toInt32), .val (.int nj.toInt32), .val (.ref a1), .val (.ref a7), .val (.ref a15), .unset, .unset, .unset, .unset, .unset, .unset, .unset, .unset]) H at_47 rfl rfl rfl ?_
  refine Go.iload H at_49 rfl rfl ?_
  refine Go.bipush (8 : Int32) H at_51 rfl rfl ?_
  refine Go.iadd H at_53 rfl ?_
  rw [show (np.toInt32 + (8 : Int32)) = (np + 8).toInt32 from own_add _ _]
  refine Go.istore (ls' := #[.val (.int lens), .val (.int p), .val (.int t), .val (.int j), .val (.int np.toInt32), .val (.int nt.toInt32), .val (.int nj.toInt32), .val (.ref a1), .val (.ref a7), .val (.ref a15), .val (.int (np + 8).toInt32), .unset, .unset, .unset, .unset, .unset, .unset, .unset]) H at_54 rfl rfl ?_
  refine Go.iload H at_56 rfl rfl ?_
  refine Go.iload H at_58 rfl rfl ?_
  refine Go.iadd H at_60 rfl ?_
  rw [show ((np + 8).toInt32 + nt.toInt32) = (np + 8 + nt).toInt32 from own_add _ _]
  refine Go.istore (ls' := #[.val (.int lens), .val (.int p), .val (.int t), .val (.int j), .val (.int np.toInt32), .val (.int nt.toInt32), .val (.int nj.toInt32), .val (.ref a1), .val (.ref a7), .val (.ref a15), .val (.int (np + 8).toInt32), .val (.int (np + 8 + nt).toInt32), .unset, .unset, .unset, .unset, .unset, .unset]) H at_61 rfl rfl ?_
  refine Go.iload H at_63 rfl rfl ?_
  refine Go.bipush (6 : Int32) H at_65 rfl rfl ?_
  refine Go.iadd H at_67 rfl ?_
  rw [show ((np + 8 + nt).toInt32 + (6 : Int32)) = (np + 8 + nt + 6).toInt32 from own_add _ _]
  refine Go.istore (ls' := #[.val (.int lens), .val (.int p), .val (.int t), .val (.int j), .val (.int np.toInt32), .val (.int nt.toInt32), .val (.int nj.toInt32), .val (.ref a1), .val (.ref a7), .val (.ref a15), .val (.int (np + 8).toInt32), .val (.int (np + 8 + nt).toInt32), .val (.int (np + 8 + nt + 6).toInt32), .unset, .unset, .unset, .unset, .unset]) H at_68 rfl rfl ?_
  refine Go.iload H at_70 rfl rfl ?_
  refine Go.iload H at_72 rfl rfl ?_
  refine Go.iadd H at_74 rfl ?_
  rw [show ((np + 8 + nt + 6).toInt32 + nj.toInt32) = (np + 8 + nt + 6 + nj).toInt32 from own_add _ _]
  refine Go.istore (ls' := #[.val (.int lens), .val (.int p), .val (.int t), .val (.int j), .val (.int np.toInt32), .val (.int nt.toInt32), .val (.int nj.toInt32), .val (.ref a1), .val (.ref a7), .val (.ref a15), .val (.int (np + 8).toInt32), .val (.int (np + 8 + nt).toInt32), .val (.int (np + 8 + nt + 6).toInt32), .val (.int (np + 8 + nt + 6 + nj).toInt32), .unset, .unset, .unset, .unset]) H at_75 rfl rfl ?_
  refine Go.iload H at_77 rfl rfl ?_
  refine Go.bipush (7 : Int32) H at_79 rfl rfl ?_
  refine Go.iadd H at_81 rfl ?_
  rw [show ((np + 8 + nt + 6 + nj).toInt32 + (7 : Int32)) = (np + 8 + nt + 6 + nj + 7).toInt32 from own_add _ _]
  refine Go.newarray (np + 8 + nt + 6 + nj + 7) 27 H at_82 rfl w7 rfl (by decide) (own_n0 (by omega)) (own_cl (by omega)) (by omega) (by decide) (by decide) (by decide) ?_
  intro a25 h26 g27 z28 E29 F30
  have ne31 : Df a1 a25 := Nat.ne_of_lt (Nat.lt_of_lt_of_le S6.lt (Nat.le_of_eq g27.symm))
  have ne32 : Df b2 a25 := Nat.ne_of_lt (Nat.lt_of_lt_of_le S6.ltb (Nat.le_of_eq g27.symm))
  have ne33 : Df a7 a25 := Nat.ne_of_lt (Nat.lt_of_lt_of_le S12.lt (Nat.le_of_eq g27.symm))
  have ne34 : Df b8 a25 := Nat.ne_of_lt (Nat.lt_of_lt_of_le S12.ltb (Nat.le_of_eq g27.symm))
  have ne35 : Df a15 a25 := Nat.ne_of_lt (Nat.lt_of_lt_of_le S20.lt (Nat.le_of_eq g27.symm))
  have ne36 : Df b16 a25 := Nat.ne_of_lt (Nat.lt_of_lt_of_le S20.ltb (Nat.le_of_eq g27.symm))
  replace S6 := S6.ext E29
  replace S12 := S12.ext E29
  replace S20 := S20.ext E29
  show Go _ _ _ _ _ _ h26 [a25] 19 351 84 #[.val (.int lens), .val (.int p), .val (.int t), .val (.int j), .val (.int np.toInt32), .val (.int nt.toInt32), .val (.int nj.toInt32), .val (.ref a1), .val (.ref a7), .val (.ref a15), .val (.int (np + 8).toInt32), .val (.int (np + 8 + nt).toInt32), .val (.int (np + 8 + nt + 6).toInt32), .val (.int (np + 8 + nt + 6 + nj).toInt32), .unset, .unset, .unset, .unset] [(.ref a25)]
  refine Go.astore (ls' := #[.val (.int lens), .val (.int p), .val (.int t), .val (.int j), .val (.int np.toInt32), .val (.int nt.toInt32), .val (.int nj.toInt32), .val (.ref a1), .val (.ref a7), .val (.ref a15), .val (.int (np + 8).toInt32), .val (.int (np + 8 + nt).toInt32), .val (.int (np + 8 + nt + 6).toInt32), .val (.int (np + 8 + nt + 6 + nj).toInt32), .val (.ref a25), .unset, .unset, .unset]) H at_84 rfl rfl rfl ?_
  replace F30 : Vec Z h26 a25 .char (pd ([] : List Int32) (np + 8 + nt + 6 + nj + 7)) := F30
  refine Go.aload H at_86 rfl rfl rfl ?_
  refine Go.iconst (0 : Int32) H at_88 rfl rfl ?_
  refine Go.iload H at_89 rfl rfl ?_
  refine Go.iloadN H at_91 rfl rfl ?_
  refine Go.callS (rest := []) 0 [(.ref a25), (.int (0 : Int32)), (.int np.toInt32), (.int p)] H at_92 rfl w26 w27 w2 w28 pd_N49 (ct_put l W a25 ([] : List Int32) (np + 8 + nt + 6 + nj + 7) 0 np p h26 F30 List.length_nil (by omega) hnp2 (by omega) z28) (by simp) rfl rfl rfl (Nat.le_of_eq rfl) (by decide) (by decide) (by decide) (by decide) nh_N48 ?_
  rintro _ h37 _ ⟨rfl, K38, F39, rfl⟩
  replace S6 := S6.keep K38 (ninS ne31 nin0) (ninS ne32 nin0)
  replace S12 := S12.keep K38 (ninS ne33 nin0) (ninS ne34 nin0)
  replace S20 := S20.keep K38 (ninS ne35 nin0) (ninS ne36 nin0)
  obtain ⟨D41, hE42⟩ : ∃ q : List Int32, (([] : List Int32) ++ pcF np p) = q := ⟨_, rfl⟩
  rw [hE42] at F39
  have hD40 : D41.length = np := by rw [← hE42, List.length_append, List.length_nil, pcF_len _ hnp2]; omega
  show Go _ _ _ _ _ _ h37 [a25] 19 351 95 #[.val (.int lens), .val (.int p), .val (.int t), .val (.int j), .val (.int np.toInt32), .val (.int nt.toInt32), .val (.int nj.toInt32), .val (.ref a1), .val (.ref a7), .val (.ref a15), .val (.int (np + 8).toInt32), .val (.int (np + 8 + nt).toInt32), .val (.int (np + 8 + nt + 6).toInt32), .val (.int (np + 8 + nt + 6 + nj).toInt32), .val (.ref a25), .unset, .unset, .unset] []
  refine Go.aload H at_95 rfl rfl rfl ?_
  refine Go.iload H at_97 rfl rfl ?_
  refine Go.bipush (47 : Int32) H at_99 rfl rfl ?_
  refine Go.castore (47 : Int32) H at_101 rfl F39 np (own_cl (by omega)) (own_n0 (by omega)) (by rw [pd_len (by omega)]; omega) (by decide) z28 (by simp) ?_
  intro h43 K44 F45
  replace S6 := S6.keep K44 (ninS ne31 nin0) (ninS ne32 nin0)
  replace S12 := S12.keep K44 (ninS ne33 nin0) (ninS ne34 nin0)
  replace S20 := S20.keep K44 (ninS ne35 nin0) (ninS ne36 nin0)
  have hI46 : D41.length = np := hD40.trans (by omega)
  rw [pd_set _ hI46 (by omega)] at F45
  obtain ⟨D48, hE49⟩ : ∃ q : List Int32, (D41 ++ [(47 : Int32)]) = q := ⟨_, rfl⟩
  rw [hE49] at F45
  have hD47 : D48.length = np + 1 := by rw [← hE49]; exact own_dl (47 : Int32) hI46
  clear hI46 hD40
  refine Go.aload H at_102 rfl rfl rfl ?_
  refine Go.iload H at_104 rfl rfl ?_
  refine Go.iconst (1 : Int32) H at_106 rfl rfl ?_
  refine Go.iadd H at_107 rfl ?_
  refine Go.bipush (116 : Int32) H at_108 rfl rfl ?_
  refine Go.castore (116 : Int32) H at_110 rfl F45 (np + 1) (own_ik (n := np) (k := 1) (by omega)) (own_i0 (n := np) (k := 1) (by omega)) (by rw [pd_len (by omega)]; omega) (by decide) z28 (by simp) ?_
  intro h50 K51 F52
  replace S6 := S6.keep K51 (ninS ne31 nin0) (ninS ne32 nin0)
  replace S12 := S12.keep K51 (ninS ne33 nin0) (ninS ne34 nin0)
  replace S20 := S20.keep K51 (ninS ne35 nin0) (ninS ne36 nin0)
  have hI53 : D48.length = (np + 1) := hD47.trans (by omega)
  rw [pd_set _ hI53 (by omega)] at F52
  obtain ⟨D55, hE56⟩ : ∃ q : List Int32, (D48 ++ [(116 : Int32)]) = q := ⟨_, rfl⟩
  rw [hE56] at F52
  have hD54 : D55.length = (np + 1) + 1 := by rw [← hE56]; exact own_dl (116 : Int32) hI53
  clear hI53 hD47
  refine Go.aload H at_111 rfl rfl rfl ?_
  refine Go.iload H at_113 rfl rfl ?_
  refine Go.iconst (2 : Int32) H at_115 rfl rfl ?_
  refine Go.iadd H at_116 rfl ?_
  refine Go.bipush (104 : Int32) H at_117 rfl rfl ?_
  refine Go.castore (104 : Int32) H at_119 rfl F52 (np + 2) (own_ik (n := np) (k := 2) (by omega)) (own_i0 (n := np) (k := 2) (by omega)) (by rw [pd_len (by omega)]; omega) (by decide) z28 (by simp) ?_
  intro h57 K58 F59
  replace S6 := S6.keep K58 (ninS ne31 nin0) (ninS ne32 nin0)
  replace S12 := S12.keep K58 (ninS ne33 nin0) (ninS ne34 nin0)
  replace S20 := S20.keep K58 (ninS ne35 nin0) (ninS ne36 nin0)
  have hI60 : D55.length = (np + 2) := hD54.trans (by omega)
  rw [pd_set _ hI60 (by omega)] at F59
  obtain ⟨D62, hE63⟩ : ∃ q : List Int32, (D55 ++ [(104 : Int32)]) = q := ⟨_, rfl⟩
  rw [hE63] at F59
  have hD61 : D62.length = (np + 2) + 1 := by rw [← hE63]; exact own_dl (104 : Int32) hI60
  clear hI60 hD54
  refine Go.aload H at_120 rfl rfl rfl ?_
  refine Go.iload H at_122 rfl rfl ?_
  refine Go.iconst (3 : Int32) H at_124 rfl rfl ?_
  refine Go.iadd H at_125 rfl ?_
  refine Go.bipush (105 : Int32) H at_126 rfl rfl ?_
  refine Go.castore (105 : Int32) H at_128 rfl F59 (np + 3) (own_ik (n := np) (k := 3) (by omega)) (own_i0 (n := np) (k := 3) (by omega)) (by rw [pd_len (by omega)]; omega) (by decide) z28 (by simp) ?_
  intro h64 K65 F66
  replace S6 := S6.keep K65 (ninS ne31 nin0) (ninS ne32 nin0)
  replace S12 := S12.keep K65 (ninS ne33 nin0) (ninS ne34 nin0)
  replace S20 := S20.keep K65 (ninS ne35 nin0) (ninS ne36 nin0)
  have hI67 : D62.length = (np + 3) := hD61.trans (by omega)
  rw [pd_set _ hI67 (by omega)] at F66
  obtain ⟨D69, hE70⟩ : ∃ q : List Int32, (D62 ++ [(105 : Int32)]) = q := ⟨_, rfl⟩
  rw [hE70] at F66
  have hD68 : D69.length = (np + 3) + 1 := by rw [← hE70]; exact own_dl (105 : Int32) hI67
  clear hI67 hD61
  refine Go.aload H at_129 rfl rfl rfl ?_
  refine Go.iload H at_131 rfl rfl ?_
  refine Go.iconst (4 : Int32) H at_133 rfl rfl ?_
  refine Go.iadd H at_134 rfl ?_
  refine Go.bipush (110 : Int32) H at_135 rfl rfl ?_
  refine Go.castore (110 : Int32) H at_137 rfl F66 (np + 4) (own_ik (n := np) (k := 4) (by omega)) (own_i0 (n := np) (k := 4) (by omega)) (by rw [pd_len (by omega)]; omega) (by decide) z28 (by simp) ?_
  intro h71 K72 F73
  replace S6 := S6.keep K72 (ninS ne31 nin0) (ninS ne32 nin0)
  replace S12 := S12.keep K72 (ninS ne33 nin0) (ninS ne34 nin0)
  replace S20 := S20.keep K72 (ninS ne35 nin0) (ninS ne36 nin0)
  have hI74 : D69.length = (np + 4) := hD68.trans (by omega)
  rw [pd_set _ hI74 (by omega)] at F73
  obtain ⟨D76, hE77⟩ : ∃ q : List Int32, (D69 ++ [(110 : Int32)]) = q := ⟨_, rfl⟩
  rw [hE77] at F73
  have hD75 : D76.length = (np + 4) + 1 := by rw [← hE77]; exact own_dl (110 : Int32) hI74
  clear hI74 hD68
  refine Go.aload H at_138 rfl rfl rfl ?_
  refine Go.iload H at_140 rfl rfl ?_
  refine Go.iconst (5 : Int32) H at_142 rfl rfl ?_
  refine Go.iadd H at_143 rfl ?_
  refine Go.bipush (103 : Int32) H at_144 rfl rfl ?_
  refine Go.castore (103 : Int32) H at_146 rfl F73 (np + 5) (own_ik (n := np) (k := 5) (by omega)) (own_i0 (n := np) (k := 5) (by omega)) (by rw [pd_len (by omega)]; omega) (by decide) z28 (by simp) ?_
  intro h78 K79 F80
  replace S6 := S6.keep K79 (ninS ne31 nin0) (ninS ne32 nin0)
  replace S12 := S12.keep K79 (ninS ne33 nin0) (ninS ne34 nin0)
  replace S20 := S20.keep K79 (ninS ne35 nin0) (ninS ne36 nin0)
  have hI81 : D76.length = (np + 5) := hD75.trans (by omega)
  rw [pd_set _ hI81 (by omega)] at F80
  obtain ⟨D83, hE84⟩ : ∃ q : List Int32, (D76 ++ [(103 : Int32)]) = q := ⟨_, rfl⟩
  rw [hE84] at F80
  have hD82 : D83.length = (np + 5) + 1 := by rw [← hE84]; exact own_dl (103 : Int32) hI81
  clear hI81 hD75
  refine Go.aload H at_147 rfl rfl rfl ?_
  refine Go.iload H at_149 rfl rfl ?_
  refine Go.bipush (6 : Int32) H at_151 rfl rfl ?_
  refine Go.iadd H at_153 rfl ?_
  refine Go.bipush (115 : Int32) H at_154 rfl rfl ?_
  refine Go.castore (115 : Int32) H at_156 rfl F80 (np + 6) (own_ik (n := np) (k := 6) (by omega)) (own_i0 (n := np) (k := 6) (by omega)) (by rw [pd_len (by omega)]; omega) (by decide) z28 (by simp) ?_
  intro h85 K86 F87
  replace S6 := S6.keep K86 (ninS ne31 nin0) (ninS ne32 nin0)
  replace S12 := S12.keep K86 (ninS ne33 nin0) (ninS ne34 nin0)
  replace S20 := S20.keep K86 (ninS ne35 nin0) (ninS ne36 nin0)
  have hI88 : D83.length = (np + 6) := hD82.trans (by omega)
  rw [pd_set _ hI88 (by omega)] at F87
  obtain ⟨D90, hE91⟩ : ∃ q : List Int32, (D83 ++ [(115 : Int32)]) = q := ⟨_, rfl⟩
  rw [hE91] at F87
  have hD89 : D90.length = (np + 6) + 1 := by rw [← hE91]; exact own_dl (115 : Int32) hI88
  clear hI88 hD82
  refine Go.aload H at_157 rfl rfl rfl ?_
  refine Go.iload H at_159 rfl rfl ?_
  refine Go.bipush (7 : Int32) H at_161 rfl rfl ?_
  refine Go.iadd H at_163 rfl ?_
  refine Go.bipush (47 : Int32) H at_164 rfl rfl ?_
  refine Go.castore (47 : Int32) H at_166 rfl F87 (np + 7) (own_ik (n := np) (k := 7) (by omega)) (own_i0 (n := np) (k := 7) (by omega)) (by rw [pd_len (by omega)]; omega) (by decide) z28 (by simp) ?_
  intro h92 K93 F94
  replace S6 := S6.keep K93 (ninS ne31 nin0) (ninS ne32 nin0)
  replace S12 := S12.keep K93 (ninS ne33 nin0) (ninS ne34 nin0)
  replace S20 := S20.keep K93 (ninS ne35 nin0) (ninS ne36 nin0)
  have hI95 : D90.length = (np + 7) := hD89.trans (by omega)
  rw [pd_set _ hI95 (by omega)] at F94
  obtain ⟨D97, hE98⟩ : ∃ q : List Int32, (D90 ++ [(47 : Int32)]) = q := ⟨_, rfl⟩
  rw [hE98] at F94
  have hD96 : D97.length = (np + 7) + 1 := by rw [← hE98]; exact own_dl (47 : Int32) hI95
  clear hI95 hD89
  refine Go.aload H at_167 rfl rfl rfl ?_
  refine Go.iload H at_169 rfl rfl ?_
  refine Go.iload H at_171 rfl rfl ?_
  refine Go.iloadN H at_173 rfl rfl ?_
  refine Go.callS (rest := []) 0 [(.ref a25), (.int (np + 8).toInt32), (.int nt.toInt32), (.int t)] H at_174 rfl w26 w27 w2 w28 pd_N49 (ct_put l W a25 D97 (np + 8 + nt + 6 + nj + 7) ((np + 7) + 1) nt t h92 F94 hD96 (by omega) hnt2 (by omega) z28) (by simp) rfl rfl rfl (Nat.le_of_eq rfl) (by decide) (by decide) (by decide) (by decide) nh_N48 ?_
  rintro _ h99 _ ⟨rfl, K100, F101, rfl⟩
  replace S6 := S6.keep K100 (ninS ne31 nin0) (ninS ne32 nin0)
  replace S12 := S12.keep K100 (ninS ne33 nin0) (ninS ne34 nin0)
  replace S20 := S20.keep K100 (ninS ne35 nin0) (ninS ne36 nin0)
  obtain ⟨D103, hE104⟩ : ∃ q : List Int32, (D97 ++ pcF nt t) = q := ⟨_, rfl⟩
  rw [hE104] at F101
  have hD102 : D103.length = (((np + 7) + 1) + nt) := by rw [← hE104, List.length_append, hD96, pcF_len _ hnt2]
  clear hD96
  show Go _ _ _ _ _ _ h99 [a25] 19 351 177 #[.val (.int lens), .val (.int p), .val (.int t), .val (.int j), .val (.int np.toInt32), .val (.int nt.toInt32), .val (.int nj.toInt32), .val (.ref a1), .val (.ref a7), .val (.ref a15), .val (.int (np + 8).toInt32), .val (.int (np + 8 + nt).toInt32), .val (.int (np + 8 + nt + 6).toInt32), .val (.int (np + 8 + nt + 6 + nj).toInt32), .val (.ref a25), .unset, .unset, .unset] []
  refine Go.aload H at_177 rfl rfl rfl ?_
  refine Go.iload H at_179 rfl rfl ?_
  refine Go.bipush (47 : Int32) H at_181 rfl rfl ?_
  refine Go.castore (47 : Int32) H at_183 rfl F101 (np + 8 + nt) (own_cl (by omega)) (own_n0 (by omega)) (by rw [pd_len (by omega)]; omega) (by decide) z28 (by simp) ?_
  intro h105 K106 F107
  replace S6 := S6.keep K106 (ninS ne31 nin0) (ninS ne32 nin0)
  replace S12 := S12.keep K106 (ninS ne33 nin0) (ninS ne34 nin0)
  replace S20 := S20.keep K106 (ninS ne35 nin0) (ninS ne36 nin0)
  have hI108 : D103.length = (np + 8 + nt) := hD102.trans (by omega)
  rw [pd_set _ hI108 (by omega)] at F107
  obtain ⟨D110, hE111⟩ : ∃ q : List Int32, (D103 ++ [(47 : Int32)]) = q := ⟨_, rfl⟩
  rw [hE111] at F107
  have hD109 : D110.length = (np + 8 + nt) + 1 := by rw [← hE111]; exact own_dl (47 : Int32) hI108
  clear hI108 hD102
  refine Go.aload H at_184 rfl rfl rfl ?_
  refine Go.iload H at_186 rfl rfl ?_
  refine Go.iconst (1 : Int32) H at_188 rfl rfl ?_
  refine Go.iadd H at_189 rfl ?_
  refine Go.bipush (106 : Int32) H at_190 rfl rfl ?_
  refine Go.castore (106 : Int32) H at_192 rfl F107 ((np + 8 + nt) + 1) (own_ik (n := (np + 8 + nt)) (k := 1) (by omega)) (own_i0 (n := (np + 8 + nt)) (k := 1) (by omega)) (by rw [pd_len (by omega)]; omega) (by decide) z28 (by simp) ?_
  intro h112 K113 F114
  replace S6 := S6.keep K113 (ninS ne31 nin0) (ninS ne32 nin0)
  replace S12 := S12.keep K113 (ninS ne33 nin0) (ninS ne34 nin0)
  replace S20 := S20.keep K113 (ninS ne35 nin0) (ninS ne36 nin0)
  have hI115 : D110.length = ((np + 8 + nt) + 1) := hD109.trans (by omega)
  rw [pd_set _ hI115 (by omega)] at F114
  obtain ⟨D117, hE118⟩ : ∃ q : List Int32, (D110 ++ [(106 : Int32)]) = q := ⟨_, rfl⟩
  rw [hE118] at F114
  have hD116 : D117.length = ((np + 8 + nt) + 1) + 1 := by rw [← hE118]; exact own_dl (106 : Int32) hI115
  clear hI115 hD109
  refine Go.aload H at_193 rfl rfl rfl ?_
  refine Go.iload H at_195 rfl rfl ?_
  refine Go.iconst (2 : Int32) H at_197 rfl rfl ?_
  refine Go.iadd H at_198 rfl ?_
  refine Go.bipush (111 : Int32) H at_199 rfl rfl ?_
  refine Go.castore (111 : Int32) H at_201 rfl F114 ((np + 8 + nt) + 2) (own_ik (n := (np + 8 + nt)) (k := 2) (by omega)) (own_i0 (n := (np + 8 + nt)) (k := 2) (by omega)) (by rw [pd_len (by omega)]; omega) (by decide) z28 (by simp) ?_
  intro h119 K120 F121
  replace S6 := S6.keep K120 (ninS ne31 nin0) (ninS ne32 nin0)
  replace S12 := S12.keep K120 (ninS ne33 nin0) (ninS ne34 nin0)
  replace S20 := S20.keep K120 (ninS ne35 nin0) (ninS ne36 nin0)
  have hI122 : D117.length = ((np + 8 + nt) + 2) := hD116.trans (by omega)
  rw [pd_set _ hI122 (by omega)] at F121
  obtain ⟨D124, hE125⟩ : ∃ q : List Int32, (D117 ++ [(111 : Int32)]) = q := ⟨_, rfl⟩
  rw [hE125] at F121
  have hD123 : D124.length = ((np + 8 + nt) + 2) + 1 := by rw [← hE125]; exact own_dl (111 : Int32) hI122
  clear hI122 hD116
  refine Go.aload H at_202 rfl rfl rfl ?_
  refine Go.iload H at_204 rfl rfl ?_
  refine Go.iconst (3 : Int32) H at_206 rfl rfl ?_
  refine Go.iadd H at_207 rfl ?_
  refine Go.bipush (98 : Int32) H at_208 rfl rfl ?_
  refine Go.castore (98 : Int32) H at_210 rfl F121 ((np + 8 + nt) + 3) (own_ik (n := (np + 8 + nt)) (k := 3) (by omega)) (own_i0 (n := (np + 8 + nt)) (k := 3) (by omega)) (by rw [pd_len (by omega)]; omega) (by decide) z28 (by simp) ?_
  intro h126 K127 F128
  replace S6 := S6.keep K127 (ninS ne31 nin0) (ninS ne32 nin0)
  replace S12 := S12.keep K127 (ninS ne33 nin0) (ninS ne34 nin0)
  replace S20 := S20.keep K127 (ninS ne35 nin0) (ninS ne36 nin0)
  have hI129 : D124.length = ((np + 8 + nt) + 3) := hD123.trans (by omega)
  rw [pd_set _ hI129 (by omega)] at F128
  obtain ⟨D131, hE132⟩ : ∃ q : List Int32, (D124 ++ [(98 : Int32)]) = q := ⟨_, rfl⟩
  rw [hE132] at F128
  have hD130 : D131.length = ((np + 8 + nt) + 3) + 1 := by rw [← hE132]; exact own_dl (98 : Int32) hI129
  clear hI129 hD123
  refine Go.aload H at_211 rfl rfl rfl ?_
  refine Go.iload H at_213 rfl rfl ?_
  refine Go.iconst (4 : Int32) H at_215 rfl rfl ?_
  refine Go.iadd H at_216 rfl ?_
  refine Go.bipush (115 : Int32) H at_217 rfl rfl ?_
  refine Go.castore (115 : Int32) H at_219 rfl F128 ((np + 8 + nt) + 4) (own_ik (n := (np + 8 + nt)) (k := 4) (by omega)) (own_i0 (n := (np + 8 + nt)) (k := 4) (by omega)) (by rw [pd_len (by omega)]; omega) (by decide) z28 (by simp) ?_
  intro h133 K134 F135
  replace S6 := S6.keep K134 (ninS ne31 nin0) (ninS ne32 nin0)
  replace S12 := S12.keep K134 (ninS ne33 nin0) (ninS ne34 nin0)
  replace S20 := S20.keep K134 (ninS ne35 nin0) (ninS ne36 nin0)
  have hI136 : D131.length = ((np + 8 + nt) + 4) := hD130.trans (by omega)
  rw [pd_set _ hI136 (by omega)] at F135
  obtain ⟨D138, hE139⟩ : ∃ q : List Int32, (D131 ++ [(115 : Int32)]) = q := ⟨_, rfl⟩
  rw [hE139] at F135
  have hD137 : D138.length = ((np + 8 + nt) + 4) + 1 := by rw [← hE139]; exact own_dl (115 : Int32) hI136
  clear hI136 hD130
  refine Go.aload H at_220 rfl rfl rfl ?_
  refine Go.iload H at_222 rfl rfl ?_
  refine Go.iconst (5 : Int32) H at_224 rfl rfl ?_
  refine Go.iadd H at_225 rfl ?_
  refine Go.bipush (47 : Int32) H at_226 rfl rfl ?_
  refine Go.castore (47 : Int32) H at_228 rfl F135 ((np + 8 + nt) + 5) (own_ik (n := (np + 8 + nt)) (k := 5) (by omega)) (own_i0 (n := (np + 8 + nt)) (k := 5) (by omega)) (by rw [pd_len (by omega)]; omega) (by decide) z28 (by simp) ?_
  intro h140 K141 F142
  replace S6 := S6.keep K141 (ninS ne31 nin0) (ninS ne32 nin0)
  replace S12 := S12.keep K141 (ninS ne33 nin0) (ninS ne34 nin0)
  replace S20 := S20.keep K141 (ninS ne35 nin0) (ninS ne36 nin0)
  have hI143 : D138.length = ((np + 8 + nt) + 5) := hD137.trans (by omega)
  rw [pd_set _ hI143 (by omega)] at F142
  obtain ⟨D145, hE146⟩ : ∃ q : List Int32, (D138 ++ [(47 : Int32)]) = q := ⟨_, rfl⟩
  rw [hE146] at F142
  have hD144 : D145.length = ((np + 8 + nt) + 5) + 1 := by rw [← hE146]; exact own_dl (47 : Int32) hI143
  clear hI143 hD137
  refine Go.aload H at_229 rfl rfl rfl ?_
  refine Go.iload H at_231 rfl rfl ?_
  refine Go.iload H at_233 rfl rfl ?_
  refine Go.iloadN H at_235 rfl rfl ?_
  refine Go.callS (rest := []) 0 [(.ref a25), (.int (np + 8 + nt + 6).toInt32), (.int nj.toInt32), (.int j)] H at_236 rfl w26 w27 w2 w28 pd_N49 (ct_put l W a25 D145 (np + 8 + nt + 6 + nj + 7) (((np + 8 + nt) + 5) + 1) nj j h140 F142 hD144 (by omega) hnj2 (by omega) z28) (by simp) rfl rfl rfl (Nat.le_of_eq rfl) (by decide) (by decide) (by decide) (by decide) nh_N48 ?_
  rintro _ h147 _ ⟨rfl, K148, F149, rfl⟩
  replace S6 := S6.keep K148 (ninS ne31 nin0) (ninS ne32 nin0)
  replace S12 := S12.keep K148 (ninS ne33 nin0) (ninS ne34 nin0)
  replace S20 := S20.keep K148 (ninS ne35 nin0) (ninS ne36 nin0)
  obtain ⟨D151, hE152⟩ : ∃ q : List Int32, (D145 ++ pcF nj j) = q := ⟨_, rfl⟩
  rw [hE152] at F149
  have hD150 : D151.length = ((((np + 8 + nt) + 5) + 1) + nj) := by rw [← hE152, List.length_append, hD144, pcF_len _ hnj2]
  clear hD144
  show Go _ _ _ _ _ _ h147 [a25] 19 351 239 #[.val (.int lens), .val (.int p), .val (.int t), .val (.int j), .val (.int np.toInt32), .val (.int nt.toInt32), .val (.int nj.toInt32), .val (.ref a1), .val (.ref a7), .val (.ref a15), .val (.int (np + 8).toInt32), .val (.int (np + 8 + nt).toInt32), .val (.int (np + 8 + nt + 6).toInt32), .val (.int (np + 8 + nt + 6 + nj).toInt32), .val (.ref a25), .unset, .unset, .unset] []
  refine Go.aload H at_239 rfl rfl rfl ?_
  refine Go.iload H at_241 rfl rfl ?_
  refine Go.bipush (47 : Int32) H at_243 rfl rfl ?_
  refine Go.castore (47 : Int32) H at_245 rfl F149 (np + 8 + nt + 6 + nj) (own_cl (by omega)) (own_n0 (by omega)) (by rw [pd_len (by omega)]; omega) (by decide) z28 (by simp) ?_
  intro h153 K154 F155
  replace S6 := S6.keep K154 (ninS ne31 nin0) (ninS ne32 nin0)
  replace S12 := S12.keep K154 (ninS ne33 nin0) (ninS ne34 nin0)
  replace S20 := S20.keep K154 (ninS ne35 nin0) (ninS ne36 nin0)
  have hI156 : D151.length = (np + 8 + nt + 6 + nj) := hD150.trans (by omega)
  rw [pd_set _ hI156 (by omega)] at F155
  obtain ⟨D158, hE159⟩ : ∃ q : List Int32, (D151 ++ [(47 : Int32)]) = q := ⟨_, rfl⟩
  rw [hE159] at F155
  have hD157 : D158.length = (np + 8 + nt + 6 + nj) + 1 := by rw [← hE159]; exact own_dl (47 : Int32) hI156
  clear hI156 hD150
  refine Go.aload H at_246 rfl rfl rfl ?_
  refine Go.iload H at_248 rfl rfl ?_
  refine Go.iconst (1 : Int32) H at_250 rfl rfl ?_
  refine Go.iadd H at_251 rfl ?_
  refine Go.bipush (117 : Int32) H at_252 rfl rfl ?_
  refine Go.castore (117 : Int32) H at_254 rfl F155 ((np + 8 + nt + 6 + nj) + 1) (own_ik (n := (np + 8 + nt + 6 + nj)) (k := 1) (by omega)) (own_i0 (n := (np + 8 + nt + 6 + nj)) (k := 1) (by omega)) (by rw [pd_len (by omega)]; omega) (by decide) z28 (by simp) ?_
  intro h160 K161 F162
  replace S6 := S6.keep K161 (ninS ne31 nin0) (ninS ne32 nin0)
  replace S12 := S12.keep K161 (ninS ne33 nin0) (ninS ne34 nin0)
  replace S20 := S20.keep K161 (ninS ne35 nin0) (ninS ne36 nin0)
  have hI163 : D158.length = ((np + 8 + nt + 6 + nj) + 1) := hD157.trans (by omega)
  rw [pd_set _ hI163 (by omega)] at F162
  obtain ⟨D165, hE166⟩ : ∃ q : List Int32, (D158 ++ [(117 : Int32)]) = q := ⟨_, rfl⟩
  rw [hE166] at F162
  have hD164 : D165.length = ((np + 8 + nt + 6 + nj) + 1) + 1 := by rw [← hE166]; exact own_dl (117 : Int32) hI163
  clear hI163 hD157
  refine Go.aload H at_255 rfl rfl rfl ?_
  refine Go.iload H at_257 rfl rfl ?_
  refine Go.iconst (2 : Int32) H at_259 rfl rfl ?_
  refine Go.iadd H at_260 rfl ?_
  refine Go.bipush (112 : Int32) H at_261 rfl rfl ?_
  refine Go.castore (112 : Int32) H at_263 rfl F162 ((np + 8 + nt + 6 + nj) + 2) (own_ik (n := (np + 8 + nt + 6 + nj)) (k := 2) (by omega)) (own_i0 (n := (np + 8 + nt + 6 + nj)) (k := 2) (by omega)) (by rw [pd_len (by omega)]; omega) (by decide) z28 (by simp) ?_
  intro h167 K168 F169
  replace S6 := S6.keep K168 (ninS ne31 nin0) (ninS ne32 nin0)
  replace S12 := S12.keep K168 (ninS ne33 nin0) (ninS ne34 nin0)
  replace S20 := S20.keep K168 (ninS ne35 nin0) (ninS ne36 nin0)
  have hI170 : D165.length = ((np + 8 + nt + 6 + nj) + 2) := hD164.trans (by omega)
  rw [pd_set _ hI170 (by omega)] at F169
  obtain ⟨D172, hE173⟩ : ∃ q : List Int32, (D165 ++ [(112 : Int32)]) = q := ⟨_, rfl⟩
  rw [hE173] at F169
  have hD171 : D172.length = ((np + 8 + nt + 6 + nj) + 2) + 1 := by rw [← hE173]; exact own_dl (112 : Int32) hI170
  clear hI170 hD164
  refine Go.aload H at_264 rfl rfl rfl ?_
  refine Go.iload H at_266 rfl rfl ?_
  refine Go.iconst (3 : Int32) H at_268 rfl rfl ?_
  refine Go.iadd H at_269 rfl ?_
  refine Go.bipush (100 : Int32) H at_270 rfl rfl ?_
  refine Go.castore (100 : Int32) H at_272 rfl F169 ((np + 8 + nt + 6 + nj) + 3) (own_ik (n := (np + 8 + nt + 6 + nj)) (k := 3) (by omega)) (own_i0 (n := (np + 8 + nt + 6 + nj)) (k := 3) (by omega)) (by rw [pd_len (by omega)]; omega) (by decide) z28 (by simp) ?_
  intro h174 K175 F176
  replace S6 := S6.keep K175 (ninS ne31 nin0) (ninS ne32 nin0)
  replace S12 := S12.keep K175 (ninS ne33 nin0) (ninS ne34 nin0)
  replace S20 := S20.keep K175 (ninS ne35 nin0) (ninS ne36 nin0)
  have hI177 : D172.length = ((np + 8 + nt + 6 + nj) + 3) := hD171.trans (by omega)
  rw [pd_set _ hI177 (by omega)] at F176
  obtain ⟨D179, hE180⟩ : ∃ q : List Int32, (D172 ++ [(100 : Int32)]) = q := ⟨_, rfl⟩
  rw [hE180] at F176
  have hD178 : D179.length = ((np + 8 + nt + 6 + nj) + 3) + 1 := by rw [← hE180]; exact own_dl (100 : Int32) hI177
  clear hI177 hD171
  refine Go.aload H at_273 rfl rfl rfl ?_
  refine Go.iload H at_275 rfl rfl ?_
  refine Go.iconst (4 : Int32) H at_277 rfl rfl ?_
  refine Go.iadd H at_278 rfl ?_
  refine Go.bipush (97 : Int32) H at_279 rfl rfl ?_
  refine Go.castore (97 : Int32) H at_281 rfl F176 ((np + 8 + nt + 6 + nj) + 4) (own_ik (n := (np + 8 + nt + 6 + nj)) (k := 4) (by omega)) (own_i0 (n := (np + 8 + nt + 6 + nj)) (k := 4) (by omega)) (by rw [pd_len (by omega)]; omega) (by decide) z28 (by simp) ?_
  intro h181 K182 F183
  replace S6 := S6.keep K182 (ninS ne31 nin0) (ninS ne32 nin0)
  replace S12 := S12.keep K182 (ninS ne33 nin0) (ninS ne34 nin0)
  replace S20 := S20.keep K182 (ninS ne35 nin0) (ninS ne36 nin0)
  have hI184 : D179.length = ((np + 8 + nt + 6 + nj) + 4) := hD178.trans (by omega)
  rw [pd_set _ hI184 (by omega)] at F183
  obtain ⟨D186, hE187⟩ : ∃ q : List Int32, (D179 ++ [(97 : Int32)]) = q := ⟨_, rfl⟩
  rw [hE187] at F183
  have hD185 : D186.length = ((np + 8 + nt + 6 + nj) + 4) + 1 := by rw [← hE187]; exact own_dl (97 : Int32) hI184
  clear hI184 hD178
  refine Go.aload H at_282 rfl rfl rfl ?_
  refine Go.iload H at_284 rfl rfl ?_
  refine Go.iconst (5 : Int32) H at_286 rfl rfl ?_
  refine Go.iadd H at_287 rfl ?_
  refine Go.bipush (116 : Int32) H at_288 rfl rfl ?_
  refine Go.castore (116 : Int32) H at_290 rfl F183 ((np + 8 + nt + 6 + nj) + 5) (own_ik (n := (np + 8 + nt + 6 + nj)) (k := 5) (by omega)) (own_i0 (n := (np + 8 + nt + 6 + nj)) (k := 5) (by omega)) (by rw [pd_len (by omega)]; omega) (by decide) z28 (by simp) ?_
  intro h188 K189 F190
  replace S6 := S6.keep K189 (ninS ne31 nin0) (ninS ne32 nin0)
  replace S12 := S12.keep K189 (ninS ne33 nin0) (ninS ne34 nin0)
  replace S20 := S20.keep K189 (ninS ne35 nin0) (ninS ne36 nin0)
  have hI191 : D186.length = ((np + 8 + nt + 6 + nj) + 5) := hD185.trans (by omega)
  rw [pd_set _ hI191 (by omega)] at F190
  obtain ⟨D193, hE194⟩ : ∃ q : List Int32, (D186 ++ [(116 : Int32)]) = q := ⟨_, rfl⟩
  rw [hE194] at F190
  have hD192 : D193.length = ((np + 8 + nt + 6 + nj) + 5) + 1 := by rw [← hE194]; exact own_dl (116 : Int32) hI191
  clear hI191 hD185
  refine Go.aload H at_291 rfl rfl rfl ?_
  refine Go.iload H at_293 rfl rfl ?_
  refine Go.bipush (6 : Int32) H at_295 rfl rfl ?_
  refine Go.iadd H at_297 rfl ?_
  refine Go.bipush (101 : Int32) H at_298 rfl rfl ?_
  refine Go.castore (101 : Int32) H at_300 rfl F190 ((np + 8 + nt + 6 + nj) + 6) (own_ik (n := (np + 8 + nt + 6 + nj)) (k := 6) (by omega)) (own_i0 (n := (np + 8 + nt + 6 + nj)) (k := 6) (by omega)) (by rw [pd_len (by omega)]; omega) (by decide) z28 (by simp) ?_
  intro h195 K196 F197
  replace S6 := S6.keep K196 (ninS ne31 nin0) (ninS ne32 nin0)
  replace S12 := S12.keep K196 (ninS ne33 nin0) (ninS ne34 nin0)
  replace S20 := S20.keep K196 (ninS ne35 nin0) (ninS ne36 nin0)
  have hI198 : D193.length = ((np + 8 + nt + 6 + nj) + 6) := hD192.trans (by omega)
  rw [pd_set _ hI198 (by omega)] at F197
  obtain ⟨D200, hE201⟩ : ∃ q : List Int32, (D193 ++ [(101 : Int32)]) = q := ⟨_, rfl⟩
  rw [hE201] at F197
  have hD199 : D200.length = ((np + 8 + nt + 6 + nj) + 6) + 1 := by rw [← hE201]; exact own_dl (101 : Int32) hI198
  clear hI198 hD192
  rw [pd_full (hD199.trans (by omega))] at F197
  have hDL : D200.length ≤ 27 := by rw [hD199]; omega
  clear hD199
  subst hE201
  subst hE194
  subst hE187
  subst hE180
  subst hE173
  subst hE166
  subst hE159
  subst hE152
  subst hE146
  subst hE139
  subst hE132
  subst hE125
  subst hE118
  subst hE111
  subst hE104
  subst hE98
  subst hE91
  subst hE84
  subst hE77
  subst hE70
  subst hE63
  subst hE56
  subst hE49
  subst hE42
  refine Go.new H at_301 rfl w4 w5 w6 (by decide) (by decide) ?_
  intro a202 h203 g204 z205 E206 A207 D208
  have ne209 : Df a1 a202 := Nat.ne_of_lt (Nat.lt_of_lt_of_le S6.lt (Nat.le_of_eq g204.symm))
  have ne210 : Df b2 a202 := Nat.ne_of_lt (Nat.lt_of_lt_of_le S6.ltb (Nat.le_of_eq g204.symm))
  have ne211 : Df a7 a202 := Nat.ne_of_lt (Nat.lt_of_lt_of_le S12.lt (Nat.le_of_eq g204.symm))
  have ne212 : Df b8 a202 := Nat.ne_of_lt (Nat.lt_of_lt_of_le S12.ltb (Nat.le_of_eq g204.symm))
  have ne213 : Df a15 a202 := Nat.ne_of_lt (Nat.lt_of_lt_of_le S20.lt (Nat.le_of_eq g204.symm))
  have ne214 : Df b16 a202 := Nat.ne_of_lt (Nat.lt_of_lt_of_le S20.ltb (Nat.le_of_eq g204.symm))
  have ne215 : Df a25 a202 := Nat.ne_of_lt (Nat.lt_of_lt_of_le F197.lt (Nat.le_of_eq g204.symm))
  replace S6 := S6.ext E206
  replace S12 := S12.ext E206
  replace S20 := S20.ext E206
  replace F197 := F197.ext E206
  have F216 : Fld Z h203 a202 "java/lang/String" "value" "[B" .null := D208 (Or.inr w20) (ty := (.array .byte)) (by decide)
  have F217 : Fld Z h203 a202 "java/lang/String" "coder" "B" (.int (0 : Int32)) := D208 (Or.inr w21) (ty := .byte) (by decide)
  show Go _ _ _ _ _ _ h203 [a202, a25] 20 355 304 #[.val (.int lens), .val (.int p), .val (.int t), .val (.int j), .val (.int np.toInt32), .val (.int nt.toInt32), .val (.int nj.toInt32), .val (.ref a1), .val (.ref a7), .val (.ref a15), .val (.int (np + 8).toInt32), .val (.int (np + 8 + nt).toInt32), .val (.int (np + 8 + nt + 6).toInt32), .val (.int (np + 8 + nt + 6 + nj).toInt32), .val (.ref a25), .unset, .unset, .unset] [(.ref a202)]
  refine Go.dup H at_304 rfl rfl ?_
  refine Go.aload H at_305 rfl rfl rfl ?_
  have hCD : ∀ q ∈ ((((((((((((((((((((((((([] : List Int32) ++ pcF np p) ++ [(47 : Int32)]) ++ [(116 : Int32)]) ++ [(104 : Int32)]) ++ [(105 : Int32)]) ++ [(110 : Int32)]) ++ [(103 : Int32)]) ++ [(115 : Int32)]) ++ [(47 : Int32)]) ++ pcF nt t) ++ [(47 : Int32)]) ++ [(106 : Int32)]) ++ [(111 : Int32)]) ++ [(98 : Int32)]) ++ [(115 : Int32)]) ++ [(47 : Int32)]) ++ pcF nj j) ++ [(47 : Int32)]) ++ [(117 : Int32)]) ++ [(112 : Int32)]) ++ [(100 : Int32)]) ++ [(97 : Int32)]) ++ [(116 : Int32)]) ++ [(101 : Int32)]), isC q := (own_app (own_app (own_app (own_app (own_app (own_app (own_app (own_app (own_app (own_app (own_app (own_app (own_app (own_app (own_app (own_app (own_app (own_app (own_app (own_app (own_app (own_app (own_app (own_app own_an (pcF_c np p)) (own_ac (show isC (47 : Int32) from ⟨by decide, by decide⟩) own_an)) (own_ac (show isC (116 : Int32) from ⟨by decide, by decide⟩) own_an)) (own_ac (show isC (104 : Int32) from ⟨by decide, by decide⟩) own_an)) (own_ac (show isC (105 : Int32) from ⟨by decide, by decide⟩) own_an)) (own_ac (show isC (110 : Int32) from ⟨by decide, by decide⟩) own_an)) (own_ac (show isC (103 : Int32) from ⟨by decide, by decide⟩) own_an)) (own_ac (show isC (115 : Int32) from ⟨by decide, by decide⟩) own_an)) (own_ac (show isC (47 : Int32) from ⟨by decide, by decide⟩) own_an)) (pcF_c nt t)) (own_ac (show isC (47 : Int32) from ⟨by decide, by decide⟩) own_an)) (own_ac (show isC (106 : Int32) from ⟨by decide, by decide⟩) own_an)) (own_ac (show isC (111 : Int32) from ⟨by decide, by decide⟩) own_an)) (own_ac (show isC (98 : Int32) from ⟨by decide, by decide⟩) own_an)) (own_ac (show isC (115 : Int32) from ⟨by decide, by decide⟩) own_an)) (own_ac (show isC (47 : Int32) from ⟨by decide, by decide⟩) own_an)) (pcF_c nj j)) (own_ac (show isC (47 : Int32) from ⟨by decide, by decide⟩) own_an)) (own_ac (show isC (117 : Int32) from ⟨by decide, by decide⟩) own_an)) (own_ac (show isC (112 : Int32) from ⟨by decide, by decide⟩) own_an)) (own_ac (show isC (100 : Int32) from ⟨by decide, by decide⟩) own_an)) (own_ac (show isC (97 : Int32) from ⟨by decide, by decide⟩) own_an)) (own_ac (show isC (116 : Int32) from ⟨by decide, by decide⟩) own_an)) (own_ac (show isC (101 : Int32) from ⟨by decide, by decide⟩) own_an))
  refine Go.callI (rest := [(.ref a202)]) 1 [(.ref a25)] H at_307 rfl rfl w8 w9 w6 w10 pd_N10 (ct_new1 l W a202 a25 ((((((((((((((((((((((((([] : List Int32) ++ pcF np p) ++ [(47 : Int32)]) ++ [(116 : Int32)]) ++ [(104 : Int32)]) ++ [(105 : Int32)]) ++ [(110 : Int32)]) ++ [(103 : Int32)]) ++ [(115 : Int32)]) ++ [(47 : Int32)]) ++ pcF nt t) ++ [(47 : Int32)]) ++ [(106 : Int32)]) ++ [(111 : Int32)]) ++ [(98 : Int32)]) ++ [(115 : Int32)]) ++ [(47 : Int32)]) ++ pcF nj j) ++ [(47 : Int32)]) ++ [(117 : Int32)]) ++ [(112 : Int32)]) ++ [(100 : Int32)]) ++ [(97 : Int32)]) ++ [(116 : Int32)]) ++ [(101 : Int32)]) h203 A207 F216 F217 F197 hCD (Nat.le_trans hDL (by decide)) z205) (by simp) rfl rfl rfl (Nat.le_of_eq rfl) (by decide) (by decide) (by decide) (by decide) nh_N9 ?_
  rintro _ h218 _ ⟨rfl, K219, ⟨b220, S221⟩, rfl⟩
  replace S6 := S6.keep K219 (ninS ne209 nin0) (ninS ne210 nin0)
  replace S12 := S12.keep K219 (ninS ne211 nin0) (ninS ne212 nin0)
  replace S20 := S20.keep K219 (ninS ne213 nin0) (ninS ne214 nin0)
  replace F197 := F197.keep K219 (ninS ne215 nin0)
  show Go _ _ _ _ _ _ h218 [a202, a25] 24 457 310 #[.val (.int lens), .val (.int p), .val (.int t), .val (.int j), .val (.int np.toInt32), .val (.int nt.toInt32), .val (.int nj.toInt32), .val (.ref a1), .val (.ref a7), .val (.ref a15), .val (.int (np + 8).toInt32), .val (.int (np + 8 + nt).toInt32), .val (.int (np + 8 + nt + 6).toInt32), .val (.int (np + 8 + nt + 6 + nj).toInt32), .val (.ref a25), .unset, .unset, .unset] [(.ref a202)]
  refine Go.astore (ls' := #[.val (.int lens), .val (.int p), .val (.int t), .val (.int j), .val (.int np.toInt32), .val (.int nt.toInt32), .val (.int nj.toInt32), .val (.ref a1), .val (.ref a7), .val (.ref a15), .val (.int (np + 8).toInt32), .val (.int (np + 8 + nt).toInt32), .val (.int (np + 8 + nt + 6).toInt32), .val (.int (np + 8 + nt + 6 + nj).toInt32), .val (.ref a25), .val (.ref a202), .unset, .unset]) H at_310 rfl rfl rfl ?_
  refine Go.new H at_312 rfl w40 w41 w42 (by decide) (by decide) ?_
  intro a222 h223 g224 z225 E226 A227 D228
  have ne229 : Df a1 a222 := Nat.ne_of_lt (Nat.lt_of_lt_of_le S6.lt (Nat.le_of_eq g224.symm))
  have ne230 : Df b2 a222 := Nat.ne_of_lt (Nat.lt_of_lt_of_le S6.ltb (Nat.le_of_eq g224.symm))
  have ne231 : Df a7 a222 := Nat.ne_of_lt (Nat.lt_of_lt_of_le S12.lt (Nat.le_of_eq g224.symm))
  have ne232 : Df b8 a222 := Nat.ne_of_lt (Nat.lt_of_lt_of_le S12.ltb (Nat.le_of_eq g224.symm))
  have ne233 : Df a15 a222 := Nat.ne_of_lt (Nat.lt_of_lt_of_le S20.lt (Nat.le_of_eq g224.symm))
  have ne234 : Df b16 a222 := Nat.ne_of_lt (Nat.lt_of_lt_of_le S20.ltb (Nat.le_of_eq g224.symm))
  have ne235 : Df a25 a222 := Nat.ne_of_lt (Nat.lt_of_lt_of_le F197.lt (Nat.le_of_eq g224.symm))
  have ne236 : Df a202 a222 := Nat.ne_of_lt (Nat.lt_of_lt_of_le S221.lt (Nat.le_of_eq g224.symm))
  have ne237 : Df b220 a222 := Nat.ne_of_lt (Nat.lt_of_lt_of_le S221.ltb (Nat.le_of_eq g224.symm))
  replace S6 := S6.ext E226
  replace S12 := S12.ext E226
  replace S20 := S20.ext E226
  replace F197 := F197.ext E226
  replace S221 := S221.ext E226
  have F238 : Fld Z h223 a222 "com/example/steady_rollout/steadyrollout/DeviceTopics" "thingsRoot" "Ljava/lang/String;" .null := D228 (Or.inr w159) (ty := (.object "java/lang/String")) (by decide)
  show Go _ _ _ _ _ _ h223 [a222, a202, a25] 25 458 315 #[.val (.int lens), .val (.int p), .val (.int t), .val (.int j), .val (.int np.toInt32), .val (.int nt.toInt32), .val (.int nj.toInt32), .val (.ref a1), .val (.ref a7), .val (.ref a15), .val (.int (np + 8).toInt32), .val (.int (np + 8 + nt).toInt32), .val (.int (np + 8 + nt + 6).toInt32), .val (.int (np + 8 + nt + 6 + nj).toInt32), .val (.ref a25), .val (.ref a202), .unset, .unset] [(.ref a222)]
  refine Go.dup H at_315 rfl rfl ?_
  refine Go.aload H at_316 rfl rfl rfl ?_
  refine Go.callI (rest := [(.ref a222)]) 1 [(.ref a1)] H at_318 rfl rfl w43 w44 w42 w45 pd_N46 (ct_dti l W a222 a1 b2 (pcF np p) h223 A227 F238 S6 (by rw [pcF_len _ hnp2]; omega) z225) (by simp) rfl rfl rfl (Nat.le_of_eq rfl) (by decide) (by decide) (by decide) (by decide) nh_N46 ?_
  rintro _ h239 _ ⟨rfl, K240, ⟨r241, rb242, F243, S244⟩, rfl⟩
  replace S6 := S6.keep K240 (ninS ne229 nin0) (ninS ne230 nin0)
  replace S12 := S12.keep K240 (ninS ne231 nin0) (ninS ne232 nin0)
  replace S20 := S20.keep K240 (ninS ne233 nin0) (ninS ne234 nin0)
  replace F197 := F197.keep K240 (ninS ne235 nin0)
  replace S221 := S221.keep K240 (ninS ne236 nin0) (ninS ne237 nin0)
  replace A227 := A227.keep K240
  show Go _ _ _ _ _ _ h239 [a222, a202, a25] 35 790 321 #[.val (.int lens), .val (.int p), .val (.int t), .val (.int j), .val (.int np.toInt32), .val (.int nt.toInt32), .val (.int nj.toInt32), .val (.ref a1), .val (.ref a7), .val (.ref a15), .val (.int (np + 8).toInt32), .val (.int (np + 8 + nt).toInt32), .val (.int (np + 8 + nt + 6).toInt32), .val (.int (np + 8 + nt + 6 + nj).toInt32), .val (.ref a25), .val (.ref a202), .unset, .unset] [(.ref a222)]
  refine Go.astore (ls' := #[.val (.int lens), .val (.int p), .val (.int t), .val (.int j), .val (.int np.toInt32), .val (.int nt.toInt32), .val (.int nj.toInt32), .val (.ref a1), .val (.ref a7), .val (.ref a15), .val (.int (np + 8).toInt32), .val (.int (np + 8 + nt).toInt32), .val (.int (np + 8 + nt + 6).toInt32), .val (.int (np + 8 + nt + 6 + nj).toInt32), .val (.ref a25), .val (.ref a202), .val (.ref a222), .unset]) H at_321 rfl rfl rfl ?_
  refine Go.aload H at_323 rfl rfl rfl ?_
  refine Go.aload H at_325 rfl rfl rfl ?_
  refine Go.aload H at_327 rfl rfl rfl ?_
  refine Go.callV (rest := []) 0 [(.ref a7), (.ref a15)] H at_329 rfl A227 w160 w161 w163 w162 w42 w164 pd_N47 (ct_upd l W a222 r241 rb242 a7 b8 a15 b16 ((pcF np p) ++ [(47 : Int32), (116 : Int32), (104 : Int32), (105 : Int32), (110 : Int32), (103 : Int32), (115 : Int32), (47 : Int32)]) (pcF nt t) (pcF nj j) h239 F243 S244 S12 S20 (by rw [List.length_append]; simp) (by rw [List.length_append, pcF_len _ hnp2]; simp; omega) (by rw [pcF_len _ hnt2]; omega) (by rw [pcF_len _ hnj2]; omega)) all0 rfl rfl rfl (Nat.le_of_eq rfl) (by decide) (by decide) (by decide) (by decide) nh_N46 ?_
  rintro _ h247 _ ⟨a245, b246, rfl, E248, g249, S250, rfl⟩
  have ne251 : Df a1 a245 := Nat.ne_of_lt (Nat.lt_of_lt_of_le S6.lt g249)
  have ne252 : Df b2 a245 := Nat.ne_of_lt (Nat.lt_of_lt_of_le S6.ltb g249)
  have ne253 : Df a7 a245 := Nat.ne_of_lt (Nat.lt_of_lt_of_le S12.lt g249)
  have ne254 : Df b8 a245 := Nat.ne_of_lt (Nat.lt_of_lt_of_le S12.ltb g249)
  have ne255 : Df a15 a245 := Nat.ne_of_lt (Nat.lt_of_lt_of_le S20.lt g249)
  have ne256 : Df b16 a245 := Nat.ne_of_lt (Nat.lt_of_lt_of_le S20.ltb g249)
  have ne257 : Df a25 a245 := Nat.ne_of_lt (Nat.lt_of_lt_of_le F197.lt g249)
  have ne258 : Df a202 a245 := Nat.ne_of_lt (Nat.lt_of_lt_of_le S221.lt g249)
  have ne259 : Df b220 a245 := Nat.ne_of_lt (Nat.lt_of_lt_of_le S221.ltb g249)
  have ne260 : Df a222 a245 := Nat.ne_of_lt (Nat.lt_of_lt_of_le A227.lt g249)
  have ne261 : Df r241 a245 := Nat.ne_of_lt (Nat.lt_of_lt_of_le S244.lt g249)
  have ne262 : Df rb242 a245 := Nat.ne_of_lt (Nat.lt_of_lt_of_le S244.ltb g249)
  replace S6 := S6.ext E248
  replace S12 := S12.ext E248
  replace S20 := S20.ext E248
  replace F197 := F197.ext E248
  replace S221 := S221.ext E248
  replace A227 := A227.ext E248
  replace F243 := F243.ext E248
  replace S244 := S244.ext E248
  show Go _ _ _ _ _ _ h247 [a222, a202, a25] 57 1558 332 #[.val (.int lens), .val (.int p), .val (.int t), .val (.int j), .val (.int np.toInt32), .val (.int nt.toInt32), .val (.int nj.toInt32), .val (.ref a1), .val (.ref a7), .val (.ref a15), .val (.int (np + 8).toInt32), .val (.int (np + 8 + nt).toInt32), .val (.int (np + 8 + nt + 6).toInt32), .val (.int (np + 8 + nt + 6 + nj).toInt32), .val (.ref a25), .val (.ref a202), .val (.ref a222), .unset] [(.ref a245)]
  refine Go.astore (ls' := #[.val (.int lens), .val (.int p), .val (.int t), .val (.int j), .val (.int np.toInt32), .val (.int nt.toInt32), .val (.int nj.toInt32), .val (.ref a1), .val (.ref a7), .val (.ref a15), .val (.int (np + 8).toInt32), .val (.int (np + 8 + nt).toInt32), .val (.int (np + 8 + nt + 6).toInt32), .val (.int (np + 8 + nt + 6 + nj).toInt32), .val (.ref a25), .val (.ref a202), .val (.ref a222), .val (.ref a245)]) H at_332 rfl rfl rfl ?_
  refine Go.aload H at_334 rfl rfl rfl ?_
  refine Go.ifnullN H at_336 rfl ?_
  refine Go.aload H at_339 rfl rfl rfl ?_
  refine Go.aload H at_341 rfl rfl rfl ?_
  refine Go.callV (rest := []) 0 [(.ref a202)] H at_343 rfl S250.exa w185 w186 w188 w187 w6 w189 pd_N45 (ct_eq l W a245 b246 a202 b220 (((((((pcF np p) ++ [(47 : Int32), (116 : Int32), (104 : Int32), (105 : Int32), (110 : Int32), (103 : Int32), (115 : Int32), (47 : Int32)]) ++ (pcF nt t)) ++ [(47 : Int32), (106 : Int32), (111 : Int32), (98 : Int32), (115 : Int32), (47 : Int32)]) ++ (pcF nj j)) ++ [(47 : Int32)]) ++ [(117 : Int32), (112 : Int32), (100 : Int32), (97 : Int32), (116 : Int32), (101 : Int32)]) ((((((((((((((((((((((((([] : List Int32) ++ pcF np p) ++ [(47 : Int32)]) ++ [(116 : Int32)]) ++ [(104 : Int32)]) ++ [(105 : Int32)]) ++ [(110 : Int32)]) ++ [(103 : Int32)]) ++ [(115 : Int32)]) ++ [(47 : Int32)]) ++ pcF nt t) ++ [(47 : Int32)]) ++ [(106 : Int32)]) ++ [(111 : Int32)]) ++ [(98 : Int32)]) ++ [(115 : Int32)]) ++ [(47 : Int32)]) ++ pcF nj j) ++ [(47 : Int32)]) ++ [(117 : Int32)]) ++ [(112 : Int32)]) ++ [(100 : Int32)]) ++ [(97 : Int32)]) ++ [(116 : Int32)]) ++ [(101 : Int32)]) h247 S250 S221) all0 rfl rfl rfl (Nat.le_of_eq rfl) (by decide) (by decide) (by decide) (by decide) nh_N9 ?_
  rintro _ _ _ ⟨rfl, rfl, rfl⟩
  show Go _ _ _ _ _ _ h247 [a222, a202, a25] 57 1558 346 #[.val (.int lens), .val (.int p), .val (.int t), .val (.int j), .val (.int np.toInt32), .val (.int nt.toInt32), .val (.int nj.toInt32), .val (.ref a1), .val (.ref a7), .val (.ref a15), .val (.int (np + 8).toInt32), .val (.int (np + 8 + nt).toInt32), .val (.int (np + 8 + nt + 6).toInt32), .val (.int (np + 8 + nt + 6 + nj).toInt32), .val (.ref a25), .val (.ref a202), .val (.ref a222), .val (.ref a245)] [(.int (if (((((((pcF np p) ++ [(47 : Int32), (116 : Int32), (104 : Int32), (105 : Int32), (110 : Int32), (103 : Int32), (115 : Int32), (47 : Int32)]) ++ (pcF nt t)) ++ [(47 : Int32), (106 : Int32), (111 : Int32), (98 : Int32), (115 : Int32), (47 : Int32)]) ++ (pcF nj j)) ++ [(47 : Int32)]) ++ [(117 : Int32), (112 : Int32), (100 : Int32), (97 : Int32), (116 : Int32), (101 : Int32)]) = ((((((((((((((((((((((((([] : List Int32) ++ pcF np p) ++ [(47 : Int32)]) ++ [(116 : Int32)]) ++ [(104 : Int32)]) ++ [(105 : Int32)]) ++ [(110 : Int32)]) ++ [(103 : Int32)]) ++ [(115 : Int32)]) ++ [(47 : Int32)]) ++ pcF nt t) ++ [(47 : Int32)]) ++ [(106 : Int32)]) ++ [(111 : Int32)]) ++ [(98 : Int32)]) ++ [(115 : Int32)]) ++ [(47 : Int32)]) ++ pcF nj j) ++ [(47 : Int32)]) ++ [(117 : Int32)]) ++ [(112 : Int32)]) ++ [(100 : Int32)]) ++ [(97 : Int32)]) ++ [(116 : Int32)]) ++ [(101 : Int32)]) then (1 : Int32) else 0))]
  refine Go.ifN H at_346 (feq (by rw [if_pos (by simp)]; decide)).1 rfl ?_
  refine Go.iconst (1 : Int32) H at_349 rfl rfl ?_
  refine Go.goto (pc' := 354) H at_350 (by decide) (by decide) ?_
  exact Go.ireturn 1 [] H at_354 (by simp) (by decide) ⟨rfl, trivial⟩ all0 (by decide) (by decide)
theorem w22 : Jvm.Cond.soleField "java/lang/String" "value" ∈ tables_1 := List.mem_of_getElem? (i := 22) rfl
theorem w23 : Jvm.Cond.soleField "java/lang/String" "coder" ∈ tables_1 := List.mem_of_getElem? (i := 23) rfl
set_option maxRecDepth 65536 in
set_option maxHeartbeats 4000000 in
theorem comes_1 {Post : Tables → Env → Array Value → State → Outcome → State → Prop} (hpost : ∀ tb e args s v u, (limb_1_1.after args s (.returned v) u = true ∧ limb_1_2.after args s (.returned v) u = true ∧ True) → ReturnedEndW s (.returned v) u (Jvm.fieldLocs frame_1_writes args s ++ Jvm.arrayLocs frame_1_arrays args s ++ Jvm.staticLocs frame_1_statics s) 80 6016 → Post tb e args s (.returned v) u) :
    ArmFor flags0 classFile x code maxLocals ret World_1 tables_1 room_1 Calls_1 rest_1 Pre_1 Post := by
  intro l hfl _ _ p e ha hc hk s m args below hf hA hF happ hP
  obtain ⟨hcalls, hrest, hpre⟩ := hP
  obtain ⟨-, -, -, hnamed, -, -, -, hat⟩ := (Spec.applies_iff hf).mp happ
  obtain ⟨hg, hn⟩ := and_e (Cond.before_iff.mp (show (Jvm.Cond.and given_1 narrow_1).before args s = true from hpre))
  obtain ⟨h1, h2⟩ := and_e hg
  obtain ⟨k0, r0⟩ := and_e h2
  obtain ⟨k1, r1⟩ := and_e r0
  obtain ⟨k2, r2⟩ := and_e r1
  obtain ⟨w0, w1, w2, w3, rfl⟩ : ∃ w0 w1 w2 w3 : Value, args = #[w0, w1, w2, w3] := by
    have hs : args.size = 4 := by simpa [Cond.value, given_1] using h1
    obtain ⟨L⟩ := args
    match L, hs with
    | [w0, w1, w2, w3], _ => exact ⟨w0, w1, w2, w3, rfl⟩
  have hw := fun d (hd : d ∈ tables_1) => atoms_spec (ws := Jvm.Cond.code x code maxLocals ret :: tables_1) hat d (List.mem_cons_of_mem _ hd)
  obtain ⟨hsets, hown0⟩ := atoms_of _ (rest_1_c_eq ▸ (show rest_1_c.before _ s = true from hrest))
  have hfit : Fit s := fun {y c} hc i hi => by
    obtain ⟨ha, rfl⟩ := Array.getElem?_eq_some_iff.mp hc
    have q := List.all_eq_true.mp ((Array.all_eq_true_iff_forall_mem.mp hF) _ (Array.getElem_mem ha)) i (List.mem_range.mpr hi)
    simpa [Array.getElem?_eq_getElem hi] using q
  obtain ⟨i0, e0⟩ := is_v k0
  obtain rfl : w0 = (.int i0) := Option.some.inj e0
  obtain ⟨i1, e1⟩ := is_v k1
  obtain rfl : w1 = (.int i1) := Option.some.inj e1
  obtain ⟨i2, e2⟩ := is_v k2
  obtain rfl : w2 = (.int i2) := Option.some.inj e2
  obtain ⟨i3, e3⟩ := is_v r2
  obtain rfl : w3 = (.int i3) := Option.some.inj e3
  have n5 := not_v (Cond.before_iff.mp (hsets _ (List.mem_of_getElem? (i := 2) rfl)))
  obtain ⟨iz, ez⟩ := is_v (Cond.before_iff.mp (hsets _ (List.mem_of_getElem? (i := 1) rfl)))
  have Sz : Sta s s.heap "java/lang/String" "COMPACT_STRINGS" "Z" (.int iz) := Sta.start ez (Or.inl (hsets _ (List.mem_of_getElem? (i := 0) rfl)))
  obtain ⟨vf, ef, rf⟩ := isR_v (Cond.before_iff.mp (hsets _ (List.mem_of_getElem? (i := 8) rfl)))
  have Sf : Sta s s.heap "jdk/internal/util/Preconditions" "SIOOBE_FORMATTER" "Ljava/util/function/BiFunction;" vf := Sta.start ef (Or.inl (hsets _ (List.mem_of_getElem? (i := 7) rfl)))
  have cz : ¬ (iz = (0 : Int32)) := gotF (Cond.eq_ints ez (Term.int_eval (0))) n5
  obtain ⟨vu0, eu0, fu0⟩ := static_fit hfit (hsets _ (List.mem_of_getElem? (i := 10) rfl)) (ty := .boolean) (by decide)
  obtain ⟨iu0, rfl⟩ := fit_I fu0 (by simp)
  obtain rfl : iu0 = 1 := gotT (Cond.eq_ints eu0 (Term.int_eval (1))) (Cond.before_iff.mp (hsets _ (List.mem_of_getElem? (i := 12) rfl)))
  have Su0 : Sta s s.heap "java/lang/StringUTF16" "$assertionsDisabled" "Z" (.int 1) := Sta.start eu0 (Or.inl (hsets _ (List.mem_of_getElem? (i := 11) rfl)))
  obtain ⟨vu1, eu1, fu1⟩ := static_fit hfit (hsets _ (List.mem_of_getElem? (i := 13) rfl)) (ty := .int) (by decide)
  obtain ⟨iu1, rfl⟩ := fit_I fu1 (by simp)
  obtain rfl : iu1 = 0 := gotT (Cond.eq_ints eu1 (Term.int_eval (0))) (Cond.before_iff.mp (hsets _ (List.mem_of_getElem? (i := 15) rfl)))
  have Su1 : Sta s s.heap "java/lang/StringUTF16" "HI_BYTE_SHIFT" "I" (.int 0) := Sta.start eu1 (Or.inl (hsets _ (List.mem_of_getElem? (i := 14) rfl)))
  obtain ⟨vu2, eu2, fu2⟩ := static_fit hfit (hsets _ (List.mem_of_getElem? (i := 16) rfl)) (ty := .int) (by decide)
  obtain ⟨iu2, rfl⟩ := fit_I fu2 (by simp)
  obtain rfl : iu2 = 8 := gotT (Cond.eq_ints eu2 (Term.int_eval (8))) (Cond.before_iff.mp (hsets _ (List.mem_of_getElem? (i := 18) rfl)))
  have Su2 : Sta s s.heap "java/lang/StringUTF16" "LO_BYTE_SHIFT" "I" (.int 8) := Sta.start eu2 (Or.inl (hsets _ (List.mem_of_getElem? (i := 17) rfl)))
  have hEL : EW s _ consts_1 := (EW.cons (hw _ w112) (by decide) (EW.cons (hw _ w166) (by decide) (EW.cons (hw _ w167) (by decide) (EW.cons (hw _ w165) (by decide) (EW.cons (hw _ w18) (by decide) EW.nil)))))
  have hat7 : ∀ a ∈ Bundle.stringAtoms, a.before _ s = true := fun a ha => by
    simp only [Bundle.stringAtoms, List.mem_cons, List.not_mem_nil, or_false] at ha
    rcases ha with rfl | rfl | rfl | rfl | rfl | rfl | rfl
    · exact hw _ w6
    · exact hw _ w5
    · exact hw _ w19
    · exact hw _ w20
    · exact hw _ w21
    · exact hw _ w22
    · exact hw _ w23
  have hCH : CHv s consts_1 s.vm s.heap := CHv.start hEL (fun p hp => hcalls.1 p hp) (hsets _ (List.mem_of_getElem? (i := 2) rfl)) (hw _ w19) (hw _ w5)
  obtain ⟨n, o, h1, h2, h3, _, L, rfl, ⟨⟨sn, ⟨rfl, -⟩, -⟩, N, -⟩, -, hq⟩ := ct_law l (Z := s) (n0 := s.heap.size) ⟨⟨⟨_, hw, hEL, hat7⟩, cz, Sz, rf, Sf⟩, Su0, Su1, Su2⟩ i0 i1 i2 i3 s.heap (Old.start s) tables_1 p e ha hc hk s m _ below hf ((Spec.applies_iff_loose hf).mp happ).1 ⟨rfl, State.Warmed39.refl s, rfl, hCH, fun x q => nomatch q⟩ trivial
  refine ⟨n, _, h1, h2, h3, hpost _ _ _ _ _ _ ⟨Cond.after_iff.mpr rfl, Cond.after_iff.mpr (eq_i res_at (Term.int_eval (1)) rfl), trivial⟩ ⟨hq.1, hq.2.1, hq.2.2.1, (hq.2.2.2.sift fun y hy => Or.inr (N y hy)).mono (by decide) (by decide)⟩⟩
theorem main_1_1 : Claimed_1_1 := comes_1 fun _ _ _ _ _ _ h hF => ⟨h.1, hF⟩
theorem main_1_2 : Claimed_1_2 := comes_1 fun _ _ _ _ _ _ h hF => ⟨h.2.1, hF⟩
end Jvm.Pilot.@@N@@
namespace Jvm.Pilot.@@N@@
open Jvm Jvm.ClassFile Sem Op Lib Jvm.Free Jvm.Stand Jvm.Pilot.@@N@@.Jvm.D
/-! MADE BY PROGRAM (witnessworld.py) out of the Statement's table words and the real class files: 26 classes; the members and pool entries that the words name. The judged class is class 1, her method 1. -/
namespace start1
open Jvm.ClassFile
def u (s : String) : CpInfo := .utf8 (stringToUtf16 s)
/-- a pool by its gaps: so many unusable entries, then the entry; so many at the end -/
def gap : Nat → List CpInfo → List CpInfo
  | 0, r => r
  | n + 1, r => .unusable :: gap n r
def poolList (es : List (Nat × CpInfo)) (last : Nat) : List CpInfo := es.foldr (fun e r => gap e.1 (e.2 :: r)) (gap last [])
def pool (es : List (Nat × CpInfo)) (last : Nat) : Array CpInfo := ⟨poolList es last⟩
def fileOf (pool : Array CpInfo) (this : Nat) (attrs : Array Attribute := #[]) (ms : Array MethodInfo := #[]) (fl : Nat := 33) (sup : Nat := 0) (ifs : Array Nat := #[]) (fds : Array FieldInfo := #[]) : ClassFile where
  minorVersion := 0
  majorVersion := 65
  constantPool := pool
  accessFlags := fl
  thisClass := this
  superClass := sup
  interfaces := ifs
  fields := fds
  methods := ms
  attributes := attrs
def plain (name : String) (sup : Option ClassId) : Class where
  name := name
  kind := .ordinary
  loader := none
  accessFlags := 33
  super := sup
  interfaces := #[]
  cf := none
  fields := #[]
  methods := #[]
  instanceTypes := #[]
  staticTypes := #[]
  resolved := #[]
  callSites := []
  init := .initialized
  statics := none
  mirror := none

def pool0 : Array CpInfo := pool [(5, u "<init>"), (0, u "()V"), (1, .class_ 10), (1, u "java/lang/Object")] 113

def k0c0 : Code := { maxStack := 0, maxLocals := 1, code := object_method_1_code, exceptionTable := #[], attributes := #[] }
def k0m0 : Method := { name := "<init>", desc := "()V", sig := { parameters := [], returnType := none }, accessFlags := 1, code := some k0c0 }
/-- java/lang/Object -/
def k0 : Class := { plain "java/lang/Object" none with
  accessFlags := 33
  interfaces := #[]
  cf := some (fileOf pool0 8 #[] #[{ accessFlags := 1, nameIndex := 5, descriptorIndex := 6, attributes := #[] }] 33 0 #[] #[])
  fields := #[]
  methods := #[k0m0]
  instanceTypes := #[]
  staticTypes := #[]
  resolved := Array.replicate 124 none
  statics := none }

def pool1 : Array CpInfo := pool [(2, .class_ 4), (1, u "java/lang/Object"), (0, u "<init>"), (0, u "()V"), (0, .methodref 8 9), (0, .class_ 10), (0, .nameAndType 11 12), (0, u "com/example/steady_rollout/steadyrollout/DeviceTopicsUpdatePinLaw"), (0, u "piece"), (0, u "(II)Ljava/lang/String;"), (0, .methodref 8 14), (0, .nameAndType 15 16), (0, u "put"), (0, u "([CIII)V"), (0, .class_ 18), (0, u "java/lang/String"), (0, .methodref 17 20), (0, .nameAndType 5 21), (0, u "([C)V"), (0, .class_ 23), (0, u "com/example/steady_rollout/steadyrollout/DeviceTopics"), (0, .methodref 22 25), (0, .nameAndType 5 26), (0, u "(Ljava/lang/String;)V"), (0, .methodref 22 28), (0, .nameAndType 29 30), (0, u "update"), (0, u "(Ljava/lang/String;Ljava/lang/String;)Ljava/lang/String;"), (0, .methodref 17 32), (0, .nameAndType 33 34), (0, u "equals"), (0, u "(Ljava/lang/Object;)Z"), (2, u "law"), (0, u "(IIII)Z")] 5

def k1m0 : Method := { name := "<init>", desc := "()V", sig := { parameters := [], returnType := none }, accessFlags := 1, code := none }
def k1c1 : Code := { maxStack := 4, maxLocals := 18, code := code, exceptionTable := #[], attributes := #[] }
def k1m1 : Method := { name := "law", desc := "(IIII)Z", sig := { parameters := [.int, .int, .int, .int], returnType := some .boolean }, accessFlags := 9, code := some k1c1 }
def k1c2 : Code := { maxStack := 6, maxLocals := 4, code := method_3_code, exceptionTable := #[], attributes := #[] }
def k1m2 : Method := { name := "piece", desc := "(II)Ljava/lang/String;", sig := { parameters := [.int, .int], returnType := some (.object "java/lang/String") }, accessFlags := 10, code := some k1c2 }
def k1c3 : Code := { maxStack := 4, maxLocals := 4, code := method_4_code, exceptionTable := #[], attributes := #[] }
def k1m3 : Method := { name := "put", desc := "([CIII)V", sig := { parameters := [(.array .char), .int, .int, .int], returnType := none }, accessFlags := 10, code := some k1c3 }
/-- com/example/steady_rollout/steadyrollout/DeviceTopicsUpdatePinLaw -/
def k1 : Class := { plain "com/example/steady_rollout/steadyrollout/DeviceTopicsUpdatePinLaw" (some 0) with
  accessFlags := 49
  interfaces := #[]
  cf := some (fileOf pool1 8 #[] #[{ accessFlags := 1, nameIndex := 5, descriptorIndex := 6, attributes := #[] }, { accessFlags := 9, nameIndex := 37, descriptorIndex := 38, attributes := #[] }, { accessFlags := 10, nameIndex := 11, descriptorIndex := 12, attributes := #[] }, { accessFlags := 10, nameIndex := 15, descriptorIndex := 16, attributes := #[] }] 49 2 #[] #[])
  fields := #[]
  methods := #[k1m0, k1m1, k1m2, k1m3]
  instanceTypes := #[]
  staticTypes := #[]
  resolved := Array.replicate 44 none
  statics := none }

def pool2 : Array CpInfo := pool [(1, .class_ 2), (0, u "java/io/Serializable"), (0, .class_ 4), (0, u "java/lang/Object")] 2

/-- java/io/Serializable -/
def k2 : Class := { plain "java/io/Serializable" (some 0) with
  accessFlags := 1537
  interfaces := #[]
  cf := some (fileOf pool2 1 #[] #[] 1537 3 #[] #[])
  fields := #[]
  methods := #[]
  instanceTypes := #[]
  staticTypes := #[]
  resolved := Array.replicate 7 none
  statics := none }

def pool3 : Array CpInfo := pool [(1, .class_ 2), (0, u "java/lang/Comparable"), (0, .class_ 4), (0, u "java/lang/Object")] 7

/-- java/lang/Comparable -/
def k3 : Class := { plain "java/lang/Comparable" (some 0) with
  accessFlags := 1537
  interfaces := #[]
  cf := some (fileOf pool3 1 #[] #[] 1537 3 #[] #[])
  fields := #[]
  methods := #[]
  instanceTypes := #[]
  staticTypes := #[]
  resolved := Array.replicate 12 none
  statics := none }

def pool4 : Array CpInfo := pool [(2, .class_ 4), (1, u "java/lang/CharSequence"), (42, .class_ 48), (0, u "java/lang/CharSequence$1CodePointIterator"), (10, .class_ 60), (0, u "java/lang/CharSequence$1CharIterator"), (5, .class_ 67), (0, u "java/lang/Object")] 63

/-- java/lang/CharSequence -/
def k4 : Class := { plain "java/lang/CharSequence" (some 0) with
  accessFlags := 1537
  interfaces := #[]
  cf := some (fileOf pool4 2 #[.nestMembers #[47, 59]] #[] 1537 66 #[] #[])
  fields := #[]
  methods := #[]
  instanceTypes := #[]
  staticTypes := #[]
  resolved := Array.replicate 131 none
  statics := none }

def pool5 : Array CpInfo := pool [(1, .class_ 2), (0, u "java/lang/constant/Constable"), (0, .class_ 4), (0, u "java/lang/Object")] 6

/-- java/lang/constant/Constable -/
def k5 : Class := { plain "java/lang/constant/Constable" (some 0) with
  accessFlags := 1537
  interfaces := #[]
  cf := some (fileOf pool5 1 #[] #[] 1537 3 #[] #[])
  fields := #[]
  methods := #[]
  instanceTypes := #[]
  staticTypes := #[]
  resolved := Array.replicate 11 none
  statics := none }

def pool6 : Array CpInfo := pool [(1, .class_ 2), (0, u "java/lang/constant/ConstantDesc"), (0, .class_ 4), (0, u "java/lang/Object")] 32

/-- java/lang/constant/ConstantDesc -/
def k6 : Class := { plain "java/lang/constant/ConstantDesc" (some 0) with
  accessFlags := 1537
  interfaces := #[]
  cf := some (fileOf pool6 1 #[] #[] 1537 3 #[] #[])
  fields := #[]
  methods := #[]
  instanceTypes := #[]
  staticTypes := #[]
  resolved := Array.replicate 37 none
  statics := none }

def pool7 : Array CpInfo := pool [(1, .methodref 2 3), (0, .class_ 4), (0, .nameAndType 5 6), (0, u "java/lang/Object"), (0, u "<init>"), (0, u "()V"), (0, .string 8), (0, u ""), (0, .fieldref 10 11), (0, .class_ 12), (0, .nameAndType 13 14), (0, u "java/lang/String"), (0, u "value"), (0, u "[B"), (0, .fieldref 10 16), (0, .nameAndType 17 18), (0, u "coder"), (0, u "B"), (2, u "hash"), (0, u "I"), (2, u "hashIsZero"), (0, u "Z"), (0, .methodref 10 28), (0, .nameAndType 5 29), (0, u "([CIILjava/lang/Void;)V"), (6, u "checkBoundsOffCount"), (0, u "(III)I"), (0, .fieldref 10 39), (0, .nameAndType 40 26), (0, u "COMPACT_STRINGS"), (1, .class_ 44), (1, u "java/lang/StringUTF16"), (0, u "compress"), (1, .methodref 42 48), (0, .nameAndType 49 50), (0, u "coderFromArrayLen"), (0, u "([BI)B"), (3, .methodref 55 56), (0, .class_ 57), (0, .nameAndType 58 59), (0, u "java/util/Arrays"), (0, u "copyOfRange"), (0, u "([BII)[B"), (46, .methodref 107 108), (0, .class_ 109), (0, .nameAndType 110 111), (0, u "java/lang/StringLatin1"), (0, u "inflate"), (0, u "([BI[BII)V"), (30, u "()Z"), (34, .methodref 42 178), (0, .nameAndType 45 179), (0, u "([CII)[B"), (13, .class_ 195), (1, u "java/lang/System"), (16, .methodref 193 213), (0, .nameAndType 214 215), (0, u "arraycopy"), (0, u "(Ljava/lang/Object;ILjava/lang/Object;II)V"), (118, u "()I"), (0, .methodref 10 336), (0, .nameAndType 17 337), (0, u "()B"), (2, u "()[B"), (148, .methodref 10 490), (0, .nameAndType 5 491), (0, u "(Ljava/lang/AbstractStringBuilder;Ljava/lang/Void;)V"), (1, .nameAndType 494 142), (0, u "isLatin1"), (11, .nameAndType 507 334), (0, u "length"), (24, u "getBytes"), (8, .methodref 107 542), (0, .nameAndType 543 544), (0, u "equals"), (0, u "([B[B)Z"), (4, .methodref 550 506), (0, .class_ 551), (0, u "java/lang/AbstractStringBuilder"), (0, .methodref 550 553), (0, .nameAndType 554 340), (0, u "getValue"), (18, u "(Ljava/lang/Object;)Z"), (1, .class_ 576), (0, u "java/lang/CharSequence"), (22, u "CASE_INSENSITIVE_ORDER"), (0, u "Ljava/util/Comparator;"), (220, u "([BIB)V"), (188, u "([C)V"), (36, .methodref 550 493), (0, .fieldref 550 1049), (0, .nameAndType 1050 26), (0, u "maybeLatin1"), (2, .fieldref 1054 1055), (0, .class_ 1056), (0, .nameAndType 1057 1058), (0, u "jdk/internal/util/Preconditions"), (0, u "SIOOBE_FORMATTER"), (0, u "Ljava/util/function/BiFunction;"), (5, u "(IIILjava/util/function/BiFunction;)I"), (0, .methodref 1054 1066), (0, .nameAndType 1067 1064), (0, u "checkFromIndexSize"), (33, u "serialPersistentFields"), (0, u "[Ljava/io/ObjectStreamField;"), (0, .class_ 1104), (0, u "java/lang/String$CaseInsensitiveComparator"), (1, .class_ 1107), (0, u "java/io/Serializable"), (0, .class_ 1109), (0, u "java/lang/Comparable"), (0, .class_ 1111), (0, u "java/lang/constant/Constable"), (0, .class_ 1113), (0, u "java/lang/constant/ConstantDesc"), (2, u "serialVersionUID"), (0, u "J"), (3, u "REPL"), (0, u "C"), (2, u "LATIN1"), (1, u "UTF16"), (105, u "(Ljava/lang/StringBuilder;)V")] 217

def k7m0 : Method := { name := "<init>", desc := "()V", sig := { parameters := [], returnType := none }, accessFlags := 1, code := none }
def k7c1 : Code := { maxStack := 5, maxLocals := 2, code := jdk_42_method_3_code, exceptionTable := #[], attributes := #[] }
def k7m1 : Method := { name := "<init>", desc := "([C)V", sig := { parameters := [(.array .char)], returnType := none }, accessFlags := 1, code := some k7c1 }
def k7c2 : Code := { maxStack := 3, maxLocals := 2, code := jdk_42_method_53_code, exceptionTable := #[], attributes := #[] }
def k7m2 : Method := { name := "<init>", desc := "(Ljava/lang/StringBuilder;)V", sig := { parameters := [(.object "java/lang/StringBuilder")], returnType := none }, accessFlags := 1, code := some k7c2 }
def k7c3 : Code := { maxStack := 2, maxLocals := 1, code := jdk_42_method_54_code, exceptionTable := #[], attributes := #[] }
def k7m3 : Method := { name := "length", desc := "()I", sig := { parameters := [], returnType := some .int }, accessFlags := 1, code := some k7c3 }
def k7c4 : Code := { maxStack := 2, maxLocals := 3, code := jdk_42_method_66_code, exceptionTable := #[], attributes := #[] }
def k7m4 : Method := { name := "equals", desc := "(Ljava/lang/Object;)Z", sig := { parameters := [(.object "java/lang/Object")], returnType := some .boolean }, accessFlags := 1, code := some k7c4 }
def k7c5 : Code := { maxStack := 5, maxLocals := 4, code := jdk_42_method_147_code, exceptionTable := #[], attributes := #[] }
def k7m5 : Method := { name := "getBytes", desc := "([BIB)V", sig := { parameters := [(.array .byte), .int, .byte], returnType := none }, accessFlags := 0, code := some k7c5 }
def k7c6 : Code := { maxStack := 4, maxLocals := 6, code := jdk_42_method_149_code, exceptionTable := #[], attributes := #[] }
def k7m6 : Method := { name := "<init>", desc := "([CIILjava/lang/Void;)V", sig := { parameters := [(.array .char), .int, .int, (.object "java/lang/Void")], returnType := none }, accessFlags := 2, code := some k7c6 }
def k7c7 : Code := { maxStack := 5, maxLocals := 5, code := jdk_42_method_150_code, exceptionTable := #[], attributes := #[] }
def k7m7 : Method := { name := "<init>", desc := "(Ljava/lang/AbstractStringBuilder;Ljava/lang/Void;)V", sig := { parameters := [(.object "java/lang/AbstractStringBuilder"), (.object "java/lang/Void")], returnType := none }, accessFlags := 0, code := some k7c7 }
def k7c8 : Code := { maxStack := 1, maxLocals := 1, code := jdk_42_method_152_code, exceptionTable := #[], attributes := #[] }
def k7m8 : Method := { name := "coder", desc := "()B", sig := { parameters := [], returnType := some .byte }, accessFlags := 0, code := some k7c8 }
def k7c9 : Code := { maxStack := 4, maxLocals := 3, code := jdk_42_method_157_code, exceptionTable := #[], attributes := #[] }
def k7m9 : Method := { name := "checkBoundsOffCount", desc := "(III)I", sig := { parameters := [.int, .int, .int], returnType := some .int }, accessFlags := 8, code := some k7c9 }
/-- java/lang/String -/
def k7 : Class := { plain "java/lang/String" (some 0) with
  accessFlags := 49
  interfaces := #[2, 3, 4, 5, 6]
  cf := some (fileOf pool7 10 #[.nestMembers #[1103]] #[{ accessFlags := 1, nameIndex := 5, descriptorIndex := 6, attributes := #[] }, { accessFlags := 1, nameIndex := 5, descriptorIndex := 1010, attributes := #[] }, { accessFlags := 1, nameIndex := 5, descriptorIndex := 1233, attributes := #[] }, { accessFlags := 1, nameIndex := 507, descriptorIndex := 334, attributes := #[] }, { accessFlags := 1, nameIndex := 543, descriptorIndex := 573, attributes := #[] }, { accessFlags := 0, nameIndex := 532, descriptorIndex := 821, attributes := #[] }, { accessFlags := 2, nameIndex := 5, descriptorIndex := 29, attributes := #[] }, { accessFlags := 0, nameIndex := 5, descriptorIndex := 491, attributes := #[] }, { accessFlags := 0, nameIndex := 17, descriptorIndex := 337, attributes := #[] }, { accessFlags := 8, nameIndex := 36, descriptorIndex := 37, attributes := #[] }] 49 2 #[1106, 1108, 575, 1110, 1112] #[{ accessFlags := 18, nameIndex := 13, descriptorIndex := 14, attributes := #[] }, { accessFlags := 18, nameIndex := 17, descriptorIndex := 18, attributes := #[] }, { accessFlags := 2, nameIndex := 21, descriptorIndex := 22, attributes := #[] }, { accessFlags := 2, nameIndex := 25, descriptorIndex := 26, attributes := #[] }, { accessFlags := 26, nameIndex := 1116, descriptorIndex := 1117, attributes := #[] }, { accessFlags := 24, nameIndex := 40, descriptorIndex := 26, attributes := #[] }, { accessFlags := 26, nameIndex := 1101, descriptorIndex := 1102, attributes := #[] }, { accessFlags := 26, nameIndex := 1121, descriptorIndex := 1122, attributes := #[] }, { accessFlags := 25, nameIndex := 599, descriptorIndex := 600, attributes := #[] }, { accessFlags := 24, nameIndex := 1125, descriptorIndex := 18, attributes := #[] }, { accessFlags := 24, nameIndex := 1127, descriptorIndex := 18, attributes := #[] }])
  fields := #[{ name := "value", type := (.array .byte), accessFlags := 18, slot := 0, constantValue := 0 }, { name := "coder", type := .byte, accessFlags := 18, slot := 1, constantValue := 0 }, { name := "hash", type := .int, accessFlags := 2, slot := 2, constantValue := 0 }, { name := "hashIsZero", type := .boolean, accessFlags := 2, slot := 3, constantValue := 0 }, { name := "serialVersionUID", type := .long, accessFlags := 26, slot := 0, constantValue := 0 }, { name := "COMPACT_STRINGS", type := .boolean, accessFlags := 24, slot := 1, constantValue := 0 }, { name := "serialPersistentFields", type := (.array (.object "java/io/ObjectStreamField")), accessFlags := 26, slot := 2, constantValue := 0 }, { name := "REPL", type := .char, accessFlags := 26, slot := 3, constantValue := 0 }, { name := "CASE_INSENSITIVE_ORDER", type := (.object "java/util/Comparator"), accessFlags := 25, slot := 4, constantValue := 0 }, { name := "LATIN1", type := .byte, accessFlags := 24, slot := 5, constantValue := 0 }, { name := "UTF16", type := .byte, accessFlags := 24, slot := 6, constantValue := 0 }]
  methods := #[k7m0, k7m1, k7m2, k7m3, k7m4, k7m5, k7m6, k7m7, k7m8, k7m9]
  instanceTypes := #[(.array .byte), .byte, .int, .boolean]
  staticTypes := #[.long, .boolean, (.array (.object "java/io/ObjectStreamField")), .char, (.object "java/util/Comparator"), .byte, .byte]
  resolved := Array.replicate 1451 none
  statics := some 0 }

def pool8 : Array CpInfo := pool [(3, .class_ 4), (0, u "java/lang/String"), (1, .class_ 8), (1, u "java/lang/Object"), (0, u "<init>"), (0, u "()V"), (0, .methodref 12 13), (0, .class_ 14), (0, .nameAndType 15 16), (0, u "java/lang/StringUTF16"), (0, u "newBytesLength"), (0, u "(I)I"), (3, .integer 1073741823), (23, .fieldref 12 45), (0, .nameAndType 46 47), (0, u "$assertionsDisabled"), (0, u "Z"), (0, .methodref 12 49), (0, .nameAndType 50 51), (0, u "length"), (0, u "([B)I"), (7, .fieldref 12 60), (0, .nameAndType 61 62), (0, u "HI_BYTE_SHIFT"), (0, u "I"), (0, .fieldref 12 64), (0, .nameAndType 65 62), (0, u "LO_BYTE_SHIFT"), (5, .methodref 12 72), (0, .nameAndType 73 74), (0, u "getChar"), (0, u "([BI)C"), (24, u "(II[B)V"), (7, .methodref 12 108), (0, .nameAndType 109 110), (0, u "newBytesFor"), (0, u "(I)[B"), (0, .methodref 12 112), (0, .nameAndType 113 114), (0, u "putChar"), (0, u "([BII)V"), (0, .methodref 12 116), (0, .nameAndType 117 118), (0, u "compress"), (0, u "([CI[BII)I"), (0, .methodref 12 120), (0, .nameAndType 121 122), (0, u "toBytes"), (0, u "([CII)[B"), (17, u "inflate"), (0, u "([BI[BII)V"), (31, .methodref 12 174), (0, .nameAndType 175 99), (0, u "checkBoundsOffCount"), (85, u "coderFromArrayLen"), (0, u "([BI)B"), (18, u "(III)I"), (87, .class_ 371), (1, u "java/lang/StringUTF16$LinesSpliterator"), (47, .methodref 3 420), (0, .nameAndType 175 281), (9, u "MAX_LENGTH"), (196, .class_ 628), (0, u "java/lang/StringUTF16$CodePointsSpliterator"), (0, .class_ 630), (0, u "java/lang/StringUTF16$CharsSpliterator")] 4

def k8m0 : Method := { name := "<init>", desc := "()V", sig := { parameters := [], returnType := none }, accessFlags := 0, code := none }
def k8c1 : Code := { maxStack := 1, maxLocals := 1, code := jdk_52_method_2_code, exceptionTable := #[], attributes := #[] }
def k8m1 : Method := { name := "newBytesFor", desc := "(I)[B", sig := { parameters := [.int], returnType := some (.array .byte) }, accessFlags := 9, code := some k8c1 }
def k8c2 : Code := { maxStack := 4, maxLocals := 1, code := jdk_52_method_3_code, exceptionTable := #[], attributes := #[] }
def k8m2 : Method := { name := "newBytesLength", desc := "(I)I", sig := { parameters := [.int], returnType := some .int }, accessFlags := 9, code := some k8c2 }
def k8c3 : Code := { maxStack := 4, maxLocals := 3, code := jdk_52_method_4_code, exceptionTable := #[], attributes := #[] }
def k8m3 : Method := { name := "putChar", desc := "([BII)V", sig := { parameters := [(.array .byte), .int, .int], returnType := none }, accessFlags := 8, code := some k8c3 }
def k8c4 : Code := { maxStack := 3, maxLocals := 2, code := jdk_52_method_5_code, exceptionTable := #[], attributes := #[] }
def k8m4 : Method := { name := "getChar", desc := "([BI)C", sig := { parameters := [(.array .byte), .int], returnType := some .char }, accessFlags := 8, code := some k8c4 }
def k8c5 : Code := { maxStack := 2, maxLocals := 1, code := jdk_52_method_6_code, exceptionTable := #[], attributes := #[] }
def k8m5 : Method := { name := "length", desc := "([B)I", sig := { parameters := [(.array .byte)], returnType := some .int }, accessFlags := 9, code := some k8c5 }
def k8c6 : Code := { maxStack := 4, maxLocals := 5, code := jdk_52_method_14_code, exceptionTable := #[], attributes := #[] }
def k8m6 : Method := { name := "toBytes", desc := "([CII)[B", sig := { parameters := [(.array .char), .int, .int], returnType := some (.array .byte) }, accessFlags := 9, code := some k8c6 }
def k8c7 : Code := { maxStack := 2, maxLocals := 2, code := jdk_52_method_15_code, exceptionTable := #[], attributes := #[] }
def k8m7 : Method := { name := "coderFromArrayLen", desc := "([BI)B", sig := { parameters := [(.array .byte), .int], returnType := some .byte }, accessFlags := 8, code := some k8c7 }
def k8c8 : Code := { maxStack := 5, maxLocals := 6, code := jdk_52_method_16_code, exceptionTable := #[], attributes := #[] }
def k8m8 : Method := { name := "compress", desc := "([CII)[B", sig := { parameters := [(.array .char), .int, .int], returnType := some (.array .byte) }, accessFlags := 9, code := some k8c8 }
def k8c9 : Code := { maxStack := 3, maxLocals := 7, code := jdk_52_method_21_code, exceptionTable := #[], attributes := #[] }
def k8m9 : Method := { name := "compress", desc := "([CI[BII)I", sig := { parameters := [(.array .char), .int, (.array .byte), .int, .int], returnType := some .int }, accessFlags := 9, code := some k8c9 }
def k8c10 : Code := { maxStack := 4, maxLocals := 6, code := jdk_52_method_86_code, exceptionTable := #[], attributes := #[] }
def k8m10 : Method := { name := "inflate", desc := "([BI[BII)V", sig := { parameters := [(.array .byte), .int, (.array .byte), .int, .int], returnType := none }, accessFlags := 9, code := some k8c10 }
def k8c11 : Code := { maxStack := 3, maxLocals := 3, code := jdk_52_method_94_code, exceptionTable := #[], attributes := #[] }
def k8m11 : Method := { name := "checkBoundsOffCount", desc := "(II[B)V", sig := { parameters := [.int, .int, (.array .byte)], returnType := none }, accessFlags := 9, code := some k8c11 }
/-- java/lang/StringUTF16 -/
def k8 : Class := { plain "java/lang/StringUTF16" (some 0) with
  accessFlags := 48
  interfaces := #[]
  cf := some (fileOf pool8 12 #[.nestMembers #[627, 629, 369]] #[{ accessFlags := 0, nameIndex := 9, descriptorIndex := 10, attributes := #[] }, { accessFlags := 9, nameIndex := 109, descriptorIndex := 110, attributes := #[] }, { accessFlags := 9, nameIndex := 15, descriptorIndex := 16, attributes := #[] }, { accessFlags := 8, nameIndex := 113, descriptorIndex := 114, attributes := #[] }, { accessFlags := 8, nameIndex := 73, descriptorIndex := 74, attributes := #[] }, { accessFlags := 9, nameIndex := 50, descriptorIndex := 51, attributes := #[] }, { accessFlags := 9, nameIndex := 121, descriptorIndex := 122, attributes := #[] }, { accessFlags := 8, nameIndex := 261, descriptorIndex := 262, attributes := #[] }, { accessFlags := 9, nameIndex := 117, descriptorIndex := 122, attributes := #[] }, { accessFlags := 9, nameIndex := 117, descriptorIndex := 118, attributes := #[] }, { accessFlags := 9, nameIndex := 140, descriptorIndex := 141, attributes := #[] }, { accessFlags := 9, nameIndex := 175, descriptorIndex := 99, attributes := #[] }] 48 6 #[] #[{ accessFlags := 26, nameIndex := 61, descriptorIndex := 62, attributes := #[] }, { accessFlags := 26, nameIndex := 65, descriptorIndex := 62, attributes := #[] }, { accessFlags := 24, nameIndex := 430, descriptorIndex := 62, attributes := #[] }, { accessFlags := 4120, nameIndex := 46, descriptorIndex := 47, attributes := #[] }])
  fields := #[{ name := "HI_BYTE_SHIFT", type := .int, accessFlags := 26, slot := 0, constantValue := 0 }, { name := "LO_BYTE_SHIFT", type := .int, accessFlags := 26, slot := 1, constantValue := 0 }, { name := "MAX_LENGTH", type := .int, accessFlags := 24, slot := 2, constantValue := 0 }, { name := "$assertionsDisabled", type := .boolean, accessFlags := 4120, slot := 3, constantValue := 0 }]
  methods := #[k8m0, k8m1, k8m2, k8m3, k8m4, k8m5, k8m6, k8m7, k8m8, k8m9, k8m10, k8m11]
  instanceTypes := #[]
  staticTypes := #[.int, .int, .int, .boolean]
  resolved := Array.replicate 635 none
  statics := some 1 }

def pool9 : Array CpInfo := pool [(1, .methodref 2 3), (0, .class_ 4), (0, .nameAndType 5 6), (0, u "java/lang/Object"), (0, u "<init>"), (0, u "()V"), (0, .class_ 8), (0, u "java/lang/StringBuilder"), (0, .methodref 7 3), (0, .methodref 7 11), (0, .nameAndType 12 13), (0, u "append"), (0, u "(Ljava/lang/String;)Ljava/lang/StringBuilder;"), (0, .string 15), (0, u "/things/"), (0, .methodref 7 17), (0, .nameAndType 18 19), (0, u "toString"), (0, u "()Ljava/lang/String;"), (0, .fieldref 21 22), (0, .class_ 23), (0, .nameAndType 24 25), (0, u "com/example/steady_rollout/steadyrollout/DeviceTopics"), (0, u "thingsRoot"), (0, u "Ljava/lang/String;"), (22, .string 49), (0, u "/"), (12, u "REPLIES"), (0, u "Ljava/util/Set;"), (13, .class_ 78), (0, u "com/example/steady_rollout/steadyrollout/DeviceTopics$Request"), (1, .class_ 82), (1, u "com/example/steady_rollout/steadyrollout/DeviceTopics$Operation"), (23, .string 107), (0, u "update"), (8, .class_ 118), (1, u "com/example/steady_rollout/steadyrollout/DeviceTopics$Push"), (18, .string 138), (0, u "/jobs/"), (14, u "NEXT"), (1, u "START_NEXT_LEVEL"), (0, u "UPDATE_LEVEL"), (2, u "(Ljava/lang/String;)V"), (11, u "(Ljava/lang/String;Ljava/lang/String;)Ljava/lang/String;")] 31

def k9c0 : Code := { maxStack := 3, maxLocals := 2, code := prog_4_method_1_code, exceptionTable := #[], attributes := #[] }
def k9m0 : Method := { name := "<init>", desc := "(Ljava/lang/String;)V", sig := { parameters := [(.object "java/lang/String")], returnType := none }, accessFlags := 0, code := some k9c0 }
def k9c1 : Code := { maxStack := 2, maxLocals := 3, code := prog_4_method_6_code, exceptionTable := #[], attributes := #[] }
def k9m1 : Method := { name := "update", desc := "(Ljava/lang/String;Ljava/lang/String;)Ljava/lang/String;", sig := { parameters := [(.object "java/lang/String"), (.object "java/lang/String")], returnType := some (.object "java/lang/String") }, accessFlags := 0, code := some k9c1 }
/-- com/example/steady_rollout/steadyrollout/DeviceTopics -/
def k9 : Class := { plain "com/example/steady_rollout/steadyrollout/DeviceTopics" (some 0) with
  accessFlags := 48
  interfaces := #[]
  cf := some (fileOf pool9 21 #[.nestMembers #[116, 77, 80]] #[{ accessFlags := 0, nameIndex := 5, descriptorIndex := 159, attributes := #[] }, { accessFlags := 0, nameIndex := 107, descriptorIndex := 171, attributes := #[] }] 48 2 #[] #[{ accessFlags := 26, nameIndex := 153, descriptorIndex := 25, attributes := #[] }, { accessFlags := 26, nameIndex := 155, descriptorIndex := 25, attributes := #[] }, { accessFlags := 26, nameIndex := 156, descriptorIndex := 25, attributes := #[] }, { accessFlags := 26, nameIndex := 62, descriptorIndex := 63, attributes := #[] }, { accessFlags := 18, nameIndex := 24, descriptorIndex := 25, attributes := #[] }])
  fields := #[{ name := "NEXT", type := (.object "java/lang/String"), accessFlags := 26, slot := 0, constantValue := 0 }, { name := "START_NEXT_LEVEL", type := (.object "java/lang/String"), accessFlags := 26, slot := 1, constantValue := 0 }, { name := "UPDATE_LEVEL", type := (.object "java/lang/String"), accessFlags := 26, slot := 2, constantValue := 0 }, { name := "REPLIES", type := (.object "java/util/Set"), accessFlags := 26, slot := 3, constantValue := 0 }, { name := "thingsRoot", type := (.object "java/lang/String"), accessFlags := 18, slot := 0, constantValue := 0 }]
  methods := #[k9m0, k9m1]
  instanceTypes := #[(.object "java/lang/String")]
  staticTypes := #[(.object "java/lang/String"), (.object "java/lang/String"), (.object "java/lang/String"), (.object "java/util/Set")]
  resolved := Array.replicate 203 none
  statics := none }

def pool10 : Array CpInfo := pool [(1, .class_ 2), (0, u "java/lang/Appendable"), (0, .class_ 4), (0, u "java/lang/Object")] 9

/-- java/lang/Appendable -/
def k10 : Class := { plain "java/lang/Appendable" (some 0) with
  accessFlags := 1537
  interfaces := #[]
  cf := some (fileOf pool10 1 #[] #[] 1537 3 #[] #[])
  fields := #[]
  methods := #[]
  instanceTypes := #[]
  staticTypes := #[]
  resolved := Array.replicate 14 none
  statics := none }

def pool11 : Array CpInfo := pool [(1, .class_ 2), (0, u "java/lang/String"), (0, .methodref 4 5), (0, .class_ 6), (0, .nameAndType 7 8), (0, u "java/lang/Object"), (0, u "<init>"), (0, u "()V"), (1, .class_ 12), (1, u "java/lang/AbstractStringBuilder"), (0, u "EMPTYVALUE"), (0, u "[B"), (0, .fieldref 10 16), (0, .nameAndType 17 14), (0, u "value"), (0, .fieldref 1 19), (0, .nameAndType 20 21), (0, u "COMPACT_STRINGS"), (0, u "Z"), (0, .fieldref 10 23), (0, .nameAndType 24 25), (0, u "coder"), (0, u "B"), (0, .methodref 27 28), (0, .class_ 29), (0, .nameAndType 30 31), (0, u "java/lang/StringUTF16"), (0, u "newBytesFor"), (0, u "(I)[B"), (0, .methodref 1 33), (0, .nameAndType 34 35), (0, u "length"), (0, u "()I"), (3, .integer 2147483647), (0, .methodref 1 41), (0, .nameAndType 24 42), (0, u "()B"), (2, u "append"), (0, u "(Ljava/lang/String;)Ljava/lang/AbstractStringBuilder;"), (1, .class_ 49), (0, u "java/lang/CharSequence"), (19, u "(Ljava/lang/String;)V"), (5, u "maybeLatin1"), (3, .fieldref 10 80), (0, .nameAndType 81 82), (0, u "count"), (0, u "I"), (0, .methodref 10 84), (0, .nameAndType 85 86), (0, u "isLatin1"), (0, u "()Z"), (1, .class_ 90), (1, u "java/lang/StringLatin1"), (9, .methodref 10 101), (0, .nameAndType 102 103), (0, u "ensureCapacityInternal"), (0, u "(I)V"), (0, .methodref 10 105), (0, .nameAndType 106 107), (0, u "newCapacity"), (0, u "(I)I"), (0, .methodref 109 110), (0, .class_ 111), (0, .nameAndType 112 113), (0, u "java/util/Arrays"), (0, u "copyOf"), (0, u "([BI)[B"), (0, .methodref 115 116), (0, .class_ 117), (0, .nameAndType 118 119), (0, u "jdk/internal/util/ArraysSupport"), (0, u "newLength"), (0, u "(III)I"), (5, .methodref 88 126), (0, .nameAndType 127 128), (0, u "inflate"), (0, u "([BI[BII)V"), (66, .methodref 10 196), (0, .nameAndType 127 8), (11, .methodref 10 209), (0, .nameAndType 210 211), (0, u "putStringAt"), (0, u "(ILjava/lang/String;)V"), (5, u "inflateIfNeededFor"), (2, .nameAndType 221 222), (0, u "getBytes"), (0, u "([BIB)V"), (174, .methodref 10 398), (0, .nameAndType 217 69), (0, .methodref 1 220), (3, u "()[B"), (40, .class_ 445), (0, u "java/lang/Appendable"), (106, u "getValue")] 56

def k11m0 : Method := { name := "<init>", desc := "()V", sig := { parameters := [], returnType := none }, accessFlags := 0, code := none }
def k11c1 : Code := { maxStack := 2, maxLocals := 2, code := jdk_68_method_2_code, exceptionTable := #[], attributes := #[] }
def k11m1 : Method := { name := "<init>", desc := "(I)V", sig := { parameters := [.int], returnType := none }, accessFlags := 0, code := some k11c1 }
def k11c2 : Code := { maxStack := 1, maxLocals := 1, code := jdk_68_method_6_code, exceptionTable := #[], attributes := #[] }
def k11m2 : Method := { name := "length", desc := "()I", sig := { parameters := [], returnType := some .int }, accessFlags := 1, code := some k11c2 }
def k11c3 : Code := { maxStack := 4, maxLocals := 3, code := jdk_68_method_9_code, exceptionTable := #[], attributes := #[] }
def k11m3 : Method := { name := "ensureCapacityInternal", desc := "(I)V", sig := { parameters := [.int], returnType := none }, accessFlags := 2, code := some k11c3 }
def k11c4 : Code := { maxStack := 5, maxLocals := 6, code := jdk_68_method_10_code, exceptionTable := #[], attributes := #[] }
def k11m4 : Method := { name := "newCapacity", desc := "(I)I", sig := { parameters := [.int], returnType := some .int }, accessFlags := 2, code := some k11c4 }
def k11c5 : Code := { maxStack := 5, maxLocals := 2, code := jdk_68_method_11_code, exceptionTable := #[], attributes := #[] }
def k11m5 : Method := { name := "inflate", desc := "()V", sig := { parameters := [], returnType := none }, accessFlags := 2, code := some k11c5 }
def k11c6 : Code := { maxStack := 3, maxLocals := 3, code := jdk_68_method_22_code, exceptionTable := #[], attributes := #[] }
def k11m6 : Method := { name := "append", desc := "(Ljava/lang/String;)Ljava/lang/AbstractStringBuilder;", sig := { parameters := [(.object "java/lang/String")], returnType := some (.object "java/lang/AbstractStringBuilder") }, accessFlags := 1, code := some k11c6 }
def k11c7 : Code := { maxStack := 1, maxLocals := 1, code := jdk_68_method_64_code, exceptionTable := #[], attributes := #[] }
def k11m7 : Method := { name := "getValue", desc := "()[B", sig := { parameters := [], returnType := some (.array .byte) }, accessFlags := 16, code := some k11c7 }
def k11c8 : Code := { maxStack := 1, maxLocals := 1, code := jdk_68_method_68_code, exceptionTable := #[], attributes := #[] }
def k11m8 : Method := { name := "isLatin1", desc := "()Z", sig := { parameters := [], returnType := some .boolean }, accessFlags := 16, code := some k11c8 }
def k11c9 : Code := { maxStack := 2, maxLocals := 2, code := jdk_68_method_71_code, exceptionTable := #[], attributes := #[] }
def k11m9 : Method := { name := "inflateIfNeededFor", desc := "(Ljava/lang/String;)V", sig := { parameters := [(.object "java/lang/String")], returnType := none }, accessFlags := 2, code := some k11c9 }
def k11c10 : Code := { maxStack := 4, maxLocals := 3, code := jdk_68_method_73_code, exceptionTable := #[], attributes := #[] }
def k11m10 : Method := { name := "putStringAt", desc := "(ILjava/lang/String;)V", sig := { parameters := [.int, (.object "java/lang/String")], returnType := none }, accessFlags := 2, code := some k11c10 }
/-- java/lang/AbstractStringBuilder -/
def k11 : Class := { plain "java/lang/AbstractStringBuilder" (some 0) with
  accessFlags := 1056
  interfaces := #[10, 4]
  cf := some (fileOf pool11 10 #[] #[{ accessFlags := 0, nameIndex := 7, descriptorIndex := 8, attributes := #[] }, { accessFlags := 0, nameIndex := 7, descriptorIndex := 103, attributes := #[] }, { accessFlags := 1, nameIndex := 34, descriptorIndex := 35, attributes := #[] }, { accessFlags := 2, nameIndex := 102, descriptorIndex := 103, attributes := #[] }, { accessFlags := 2, nameIndex := 106, descriptorIndex := 107, attributes := #[] }, { accessFlags := 2, nameIndex := 127, descriptorIndex := 8, attributes := #[] }, { accessFlags := 1, nameIndex := 45, descriptorIndex := 46, attributes := #[] }, { accessFlags := 16, nameIndex := 552, descriptorIndex := 403, attributes := #[] }, { accessFlags := 16, nameIndex := 85, descriptorIndex := 86, attributes := #[] }, { accessFlags := 2, nameIndex := 217, descriptorIndex := 69, attributes := #[] }, { accessFlags := 2, nameIndex := 210, descriptorIndex := 211, attributes := #[] }] 1056 4 #[444, 48] #[{ accessFlags := 0, nameIndex := 17, descriptorIndex := 14, attributes := #[] }, { accessFlags := 0, nameIndex := 24, descriptorIndex := 25, attributes := #[] }, { accessFlags := 0, nameIndex := 75, descriptorIndex := 21, attributes := #[] }, { accessFlags := 0, nameIndex := 81, descriptorIndex := 82, attributes := #[] }, { accessFlags := 26, nameIndex := 13, descriptorIndex := 14, attributes := #[] }])
  fields := #[{ name := "value", type := (.array .byte), accessFlags := 0, slot := 0, constantValue := 0 }, { name := "coder", type := .byte, accessFlags := 0, slot := 1, constantValue := 0 }, { name := "maybeLatin1", type := .boolean, accessFlags := 0, slot := 2, constantValue := 0 }, { name := "count", type := .int, accessFlags := 0, slot := 3, constantValue := 0 }, { name := "EMPTYVALUE", type := (.array .byte), accessFlags := 26, slot := 0, constantValue := 0 }]
  methods := #[k11m0, k11m1, k11m2, k11m3, k11m4, k11m5, k11m6, k11m7, k11m8, k11m9, k11m10]
  instanceTypes := #[(.array .byte), .byte, .boolean, .int]
  staticTypes := #[(.array .byte)]
  resolved := Array.replicate 609 none
  statics := none }

def pool12 : Array CpInfo := pool [(1, .methodref 2 3), (0, .class_ 4), (0, .nameAndType 5 6), (0, u "java/lang/AbstractStringBuilder"), (0, u "<init>"), (0, u "(I)V"), (11, .class_ 20), (1, u "java/lang/String"), (3, .class_ 26), (1, u "java/lang/StringBuilder"), (0, u "append"), (0, u "(Ljava/lang/String;)Ljava/lang/StringBuilder;"), (0, .methodref 2 30), (0, .nameAndType 27 31), (0, u "(Ljava/lang/String;)Ljava/lang/AbstractStringBuilder;"), (105, .methodref 18 138), (0, .nameAndType 5 139), (0, u "(Ljava/lang/StringBuilder;)V"), (5, u "()V"), (10, u "()I"), (186, .methodref 2 344), (0, .nameAndType 345 156), (0, u "length"), (3, .class_ 350), (0, u "java/lang/Appendable"), (0, .class_ 352), (0, u "java/io/Serializable"), (0, .class_ 354), (0, u "java/lang/Comparable"), (0, .class_ 356), (0, u "java/lang/CharSequence"), (0, u "serialVersionUID"), (0, u "J"), (40, u "toString"), (0, u "()Ljava/lang/String;")] 21

def k12c0 : Code := { maxStack := 2, maxLocals := 1, code := jdk_67_method_1_code, exceptionTable := #[], attributes := #[] }
def k12m0 : Method := { name := "<init>", desc := "()V", sig := { parameters := [], returnType := none }, accessFlags := 1, code := some k12c0 }
def k12c1 : Code := { maxStack := 2, maxLocals := 2, code := jdk_67_method_7_code, exceptionTable := #[], attributes := #[] }
def k12m1 : Method := { name := "append", desc := "(Ljava/lang/String;)Ljava/lang/StringBuilder;", sig := { parameters := [(.object "java/lang/String")], returnType := some (.object "java/lang/StringBuilder") }, accessFlags := 1, code := some k12c1 }
def k12c2 : Code := { maxStack := 3, maxLocals := 1, code := jdk_67_method_42_code, exceptionTable := #[], attributes := #[] }
def k12m2 : Method := { name := "toString", desc := "()Ljava/lang/String;", sig := { parameters := [], returnType := some (.object "java/lang/String") }, accessFlags := 1, code := some k12c2 }
def k12c3 : Code := { maxStack := 1, maxLocals := 1, code := jdk_67_method_93_code, exceptionTable := #[], attributes := #[] }
def k12m3 : Method := { name := "length", desc := "()I", sig := { parameters := [], returnType := some .int }, accessFlags := 4161, code := some k12c3 }
/-- java/lang/StringBuilder -/
def k12 : Class := { plain "java/lang/StringBuilder" (some 11) with
  accessFlags := 49
  interfaces := #[10, 2, 3, 4]
  cf := some (fileOf pool12 24 #[] #[{ accessFlags := 1, nameIndex := 5, descriptorIndex := 145, attributes := #[] }, { accessFlags := 1, nameIndex := 27, descriptorIndex := 28, attributes := #[] }, { accessFlags := 1, nameIndex := 399, descriptorIndex := 400, attributes := #[] }, { accessFlags := 4161, nameIndex := 345, descriptorIndex := 156, attributes := #[] }] 49 2 #[349, 351, 353, 355] #[{ accessFlags := 24, nameIndex := 357, descriptorIndex := 358, attributes := #[] }])
  fields := #[{ name := "serialVersionUID", type := .long, accessFlags := 24, slot := 0, constantValue := 0 }]
  methods := #[k12m0, k12m1, k12m2, k12m3]
  instanceTypes := #[(.array .byte), .byte, .boolean, .int]
  staticTypes := #[.long]
  resolved := Array.replicate 422 none
  statics := none }

def pool13 : Array CpInfo := pool [(2, .class_ 4), (1, u "java/lang/Object"), (0, u "<init>"), (0, u "()V"), (1, .class_ 10), (1, u "java/lang/System"), (0, u "allowSecurityManager"), (0, u "I"), (16, u "cons"), (0, u "Ljava/io/Console;"), (77, .class_ 110), (1, u "java/lang/System$CallersHolder"), (43, u "initialErrStream"), (0, u "Ljava/io/PrintStream;"), (19, u "security"), (0, u "Ljava/lang/SecurityManager;"), (31, .class_ 209), (0, u "java/lang/System$1"), (7, u "props"), (0, u "Ljava/util/Properties;"), (2, u "lineSeparator"), (0, u "Ljava/lang/String;"), (96, .class_ 321), (1, u "java/lang/System$LoggerFinder"), (5, .class_ 328), (0, u "java/lang/System$Logger"), (67, u "err"), (2, u "out"), (91, u "notSupportedJnuEncoding"), (15, u "in"), (17, u "initialIn"), (0, u "Ljava/io/InputStream;"), (35, u "bootLayer"), (0, u "Ljava/lang/ModuleLayer;"), (99, .class_ 664), (0, u "java/lang/System$2"), (9, u "NEVER"), (2, u "MAYBE"), (49, u "arraycopy"), (0, u "(Ljava/lang/Object;ILjava/lang/Object;II)V"), (72, .class_ 802), (0, u "java/lang/System$Logger$Level")] 31

def k13m0 : Method := { name := "<init>", desc := "()V", sig := { parameters := [], returnType := none }, accessFlags := 2, code := none }
def k13m1 : Method := { name := "arraycopy", desc := "(Ljava/lang/Object;ILjava/lang/Object;II)V", sig := { parameters := [(.object "java/lang/Object"), .int, (.object "java/lang/Object"), .int, .int], returnType := none }, accessFlags := 265, code := none }
/-- java/lang/System -/
def k13 : Class := { plain "java/lang/System" (some 0) with
  accessFlags := 49
  interfaces := #[]
  cf := some (fileOf pool13 8 #[.nestMembers #[319, 327, 801, 108, 663, 208]] #[{ accessFlags := 2, nameIndex := 5, descriptorIndex := 6, attributes := #[] }, { accessFlags := 265, nameIndex := 727, descriptorIndex := 728, attributes := #[] }] 49 2 #[] #[{ accessFlags := 25, nameIndex := 507, descriptorIndex := 526, attributes := #[] }, { accessFlags := 25, nameIndex := 399, descriptorIndex := 155, attributes := #[] }, { accessFlags := 25, nameIndex := 396, descriptorIndex := 155, attributes := #[] }, { accessFlags := 10, nameIndex := 525, descriptorIndex := 526, attributes := #[] }, { accessFlags := 26, nameIndex := 674, descriptorIndex := 12, attributes := #[] }, { accessFlags := 26, nameIndex := 677, descriptorIndex := 12, attributes := #[] }, { accessFlags := 10, nameIndex := 11, descriptorIndex := 12, attributes := #[] }, { accessFlags := 74, nameIndex := 175, descriptorIndex := 176, attributes := #[] }, { accessFlags := 10, nameIndex := 491, descriptorIndex := 222, attributes := #[] }, { accessFlags := 74, nameIndex := 29, descriptorIndex := 30, attributes := #[] }, { accessFlags := 74, nameIndex := 154, descriptorIndex := 155, attributes := #[] }, { accessFlags := 10, nameIndex := 217, descriptorIndex := 218, attributes := #[] }, { accessFlags := 10, nameIndex := 221, descriptorIndex := 222, attributes := #[] }, { accessFlags := 8, nameIndex := 562, descriptorIndex := 563, attributes := #[] }])
  fields := #[{ name := "in", type := (.object "java/io/InputStream"), accessFlags := 25, slot := 0, constantValue := 0 }, { name := "out", type := (.object "java/io/PrintStream"), accessFlags := 25, slot := 1, constantValue := 0 }, { name := "err", type := (.object "java/io/PrintStream"), accessFlags := 25, slot := 2, constantValue := 0 }, { name := "initialIn", type := (.object "java/io/InputStream"), accessFlags := 10, slot := 3, constantValue := 0 }, { name := "NEVER", type := .int, accessFlags := 26, slot := 4, constantValue := 0 }, { name := "MAYBE", type := .int, accessFlags := 26, slot := 5, constantValue := 0 }, { name := "allowSecurityManager", type := .int, accessFlags := 10, slot := 6, constantValue := 0 }, { name := "security", type := (.object "java/lang/SecurityManager"), accessFlags := 74, slot := 7, constantValue := 0 }, { name := "notSupportedJnuEncoding", type := (.object "java/lang/String"), accessFlags := 10, slot := 8, constantValue := 0 }, { name := "cons", type := (.object "java/io/Console"), accessFlags := 74, slot := 9, constantValue := 0 }, { name := "initialErrStream", type := (.object "java/io/PrintStream"), accessFlags := 74, slot := 10, constantValue := 0 }, { name := "props", type := (.object "java/util/Properties"), accessFlags := 10, slot := 11, constantValue := 0 }, { name := "lineSeparator", type := (.object "java/lang/String"), accessFlags := 10, slot := 12, constantValue := 0 }, { name := "bootLayer", type := (.object "java/lang/ModuleLayer"), accessFlags := 8, slot := 13, constantValue := 0 }]
  methods := #[k13m0, k13m1]
  instanceTypes := #[]
  staticTypes := #[(.object "java/io/InputStream"), (.object "java/io/PrintStream"), (.object "java/io/PrintStream"), (.object "java/io/InputStream"), .int, .int, .int, (.object "java/lang/SecurityManager"), (.object "java/lang/String"), (.object "java/io/Console"), (.object "java/io/PrintStream"), (.object "java/util/Properties"), (.object "java/lang/String"), (.object "java/lang/ModuleLayer")]
  resolved := Array.replicate 834 none
  statics := none }

def pool14 : Array CpInfo := pool [(2, .class_ 4), (1, u "java/lang/Object"), (0, u "<init>"), (0, u "()V"), (7, .class_ 16), (1, u "java/util/Arrays"), (57, .class_ 76), (1, u "java/util/Arrays$NaturalOrder"), (36, .class_ 115), (1, u "java/util/Arrays$LegacyMergeSort"), (1, u "Z"), (21, u "copyOfRange"), (10, .methodref 151 152), (0, .class_ 153), (0, .nameAndType 154 155), (0, u "java/lang/System"), (0, u "arraycopy"), (0, u "(Ljava/lang/Object;ILjava/lang/Object;II)V"), (146, u "copyOf"), (1, .methodref 305 306), (0, .class_ 307), (0, .nameAndType 308 309), (0, u "java/lang/Math"), (0, u "min"), (0, u "(II)I"), (29, .methodref 14 340), (0, .nameAndType 341 342), (0, u "copyOfRangeByte"), (0, u "([BII)[B"), (0, .methodref 14 344), (0, .nameAndType 345 346), (0, u "checkLength"), (0, u "(II)V"), (28, .class_ 376), (0, u "java/util/Arrays$ArrayList"), (68, u "$assertionsDisabled"), (269, u "MIN_ARRAY_SORT_GRAN"), (0, u "I"), (2, u "INSERTIONSORT_THRESHOLD"), (149, u "([BI)[B"), (105, .class_ 976), (0, u "java/util/Arrays$ArrayItr")] 52

def k14m0 : Method := { name := "<init>", desc := "()V", sig := { parameters := [], returnType := none }, accessFlags := 2, code := none }
def k14c1 : Code := { maxStack := 6, maxLocals := 3, code := jdk_65_method_121_code, exceptionTable := #[], attributes := #[] }
def k14m1 : Method := { name := "copyOf", desc := "([BI)[B", sig := { parameters := [(.array .byte), .int], returnType := some (.array .byte) }, accessFlags := 9, code := some k14c1 }
def k14c2 : Code := { maxStack := 4, maxLocals := 2, code := jdk_65_method_131_code, exceptionTable := #[], attributes := #[] }
def k14m2 : Method := { name := "checkLength", desc := "(II)V", sig := { parameters := [.int, .int], returnType := none }, accessFlags := 10, code := some k14c2 }
def k14c3 : Code := { maxStack := 3, maxLocals := 3, code := jdk_65_method_132_code, exceptionTable := #[], attributes := #[] }
def k14m3 : Method := { name := "copyOfRange", desc := "([BII)[B", sig := { parameters := [(.array .byte), .int, .int], returnType := some (.array .byte) }, accessFlags := 9, code := some k14c3 }
def k14c4 : Code := { maxStack := 6, maxLocals := 5, code := jdk_65_method_133_code, exceptionTable := #[], attributes := #[] }
def k14m4 : Method := { name := "copyOfRangeByte", desc := "([BII)[B", sig := { parameters := [(.array .byte), .int, .int], returnType := some (.array .byte) }, accessFlags := 10, code := some k14c4 }
/-- java/util/Arrays -/
def k14 : Class := { plain "java/util/Arrays" (some 0) with
  accessFlags := 49
  interfaces := #[]
  cf := some (fileOf pool14 14 #[.nestMembers #[975, 375, 113, 74]] #[{ accessFlags := 2, nameIndex := 5, descriptorIndex := 6, attributes := #[] }, { accessFlags := 9, nameIndex := 302, descriptorIndex := 869, attributes := #[] }, { accessFlags := 10, nameIndex := 345, descriptorIndex := 346, attributes := #[] }, { accessFlags := 9, nameIndex := 139, descriptorIndex := 342, attributes := #[] }, { accessFlags := 10, nameIndex := 341, descriptorIndex := 342, attributes := #[] }] 49 2 #[] #[{ accessFlags := 26, nameIndex := 715, descriptorIndex := 716, attributes := #[] }, { accessFlags := 26, nameIndex := 719, descriptorIndex := 716, attributes := #[] }, { accessFlags := 4120, nameIndex := 445, descriptorIndex := 117, attributes := #[] }])
  fields := #[{ name := "MIN_ARRAY_SORT_GRAN", type := .int, accessFlags := 26, slot := 0, constantValue := 0 }, { name := "INSERTIONSORT_THRESHOLD", type := .int, accessFlags := 26, slot := 1, constantValue := 0 }, { name := "$assertionsDisabled", type := .boolean, accessFlags := 4120, slot := 2, constantValue := 0 }]
  methods := #[k14m0, k14m1, k14m2, k14m3, k14m4]
  instanceTypes := #[]
  staticTypes := #[.int, .int, .boolean]
  resolved := Array.replicate 1029 none
  statics := none }

def pool15 : Array CpInfo := pool [(1, .class_ 2), (0, u "java/lang/Math"), (1, .class_ 6), (1, u "java/lang/Object"), (0, u "<init>"), (0, u "()V"), (89, .class_ 100), (1, u "java/lang/Math$RandomNumberGeneratorHolder"), (71, u "negativeZeroFloatBits"), (0, u "J"), (2, u "negativeZeroDoubleBits"), (21, u "max"), (2, u "min"), (43, u "$assertionsDisabled"), (0, u "Z"), (88, u "(II)I"), (2, u "twoToTheDoubleScaleDown"), (0, u "D"), (4, u "twoToTheDoubleScaleUp"), (9, u "E"), (3, u "PI"), (2, u "TAU"), (2, u "DEGREES_TO_RADIANS"), (0, u "RADIANS_TO_DEGREES")] 94

def k15m0 : Method := { name := "<init>", desc := "()V", sig := { parameters := [], returnType := none }, accessFlags := 2, code := none }
def k15c1 : Code := { maxStack := 2, maxLocals := 2, code := jdk_29_method_65_code, exceptionTable := #[], attributes := #[] }
def k15m1 : Method := { name := "max", desc := "(II)I", sig := { parameters := [.int, .int], returnType := some .int }, accessFlags := 9, code := some k15c1 }
def k15c2 : Code := { maxStack := 2, maxLocals := 2, code := jdk_29_method_69_code, exceptionTable := #[], attributes := #[] }
def k15m2 : Method := { name := "min", desc := "(II)I", sig := { parameters := [.int, .int], returnType := some .int }, accessFlags := 9, code := some k15c2 }
/-- java/lang/Math -/
def k15 : Class := { plain "java/lang/Math" (some 0) with
  accessFlags := 49
  interfaces := #[]
  cf := some (fileOf pool15 1 #[.nestMembers #[98]] #[{ accessFlags := 2, nameIndex := 7, descriptorIndex := 8, attributes := #[] }, { accessFlags := 9, nameIndex := 198, descriptorIndex := 335, attributes := #[] }, { accessFlags := 9, nameIndex := 201, descriptorIndex := 335, attributes := #[] }] 49 4 #[] #[{ accessFlags := 25, nameIndex := 354, descriptorIndex := 339, attributes := #[] }, { accessFlags := 25, nameIndex := 358, descriptorIndex := 339, attributes := #[] }, { accessFlags := 25, nameIndex := 361, descriptorIndex := 339, attributes := #[] }, { accessFlags := 26, nameIndex := 364, descriptorIndex := 339, attributes := #[] }, { accessFlags := 26, nameIndex := 365, descriptorIndex := 339, attributes := #[] }, { accessFlags := 26, nameIndex := 172, descriptorIndex := 173, attributes := #[] }, { accessFlags := 26, nameIndex := 176, descriptorIndex := 173, attributes := #[] }, { accessFlags := 8, nameIndex := 344, descriptorIndex := 339, attributes := #[] }, { accessFlags := 8, nameIndex := 338, descriptorIndex := 339, attributes := #[] }, { accessFlags := 4120, nameIndex := 245, descriptorIndex := 246, attributes := #[] }])
  fields := #[{ name := "E", type := .double, accessFlags := 25, slot := 0, constantValue := 0 }, { name := "PI", type := .double, accessFlags := 25, slot := 1, constantValue := 0 }, { name := "TAU", type := .double, accessFlags := 25, slot := 2, constantValue := 0 }, { name := "DEGREES_TO_RADIANS", type := .double, accessFlags := 26, slot := 3, constantValue := 0 }, { name := "RADIANS_TO_DEGREES", type := .double, accessFlags := 26, slot := 4, constantValue := 0 }, { name := "negativeZeroFloatBits", type := .long, accessFlags := 26, slot := 5, constantValue := 0 }, { name := "negativeZeroDoubleBits", type := .long, accessFlags := 26, slot := 6, constantValue := 0 }, { name := "twoToTheDoubleScaleUp", type := .double, accessFlags := 8, slot := 7, constantValue := 0 }, { name := "twoToTheDoubleScaleDown", type := .double, accessFlags := 8, slot := 8, constantValue := 0 }, { name := "$assertionsDisabled", type := .boolean, accessFlags := 4120, slot := 9, constantValue := 0 }]
  methods := #[k15m0, k15m1, k15m2]
  instanceTypes := #[]
  staticTypes := #[.double, .double, .double, .double, .double, .long, .long, .double, .double, .boolean]
  resolved := Array.replicate 460 none
  statics := none }

def pool16 : Array CpInfo := pool [(9, u "<init>"), (6, .class_ 18), (1, u "java/lang/Object"), (0, u "()V"), (1, .class_ 23), (1, u "jdk/internal/util/ArraysSupport"), (0, u "LOG2_ARRAY_LONG_INDEX_SCALE"), (0, u "I"), (2, u "U"), (0, u "Ljdk/internal/misc/Unsafe;"), (8, u "BIG_ENDIAN"), (0, u "Z"), (8, u "LOG2_BYTE_BIT_SIZE"), (4, u "LOG2_ARRAY_INT_INDEX_SCALE"), (54, u "JLA"), (0, u "Ljdk/internal/access/JavaLangAccess;"), (11, u "LOG2_ARRAY_BOOLEAN_INDEX_SCALE"), (9, u "LOG2_ARRAY_BYTE_INDEX_SCALE"), (5, u "LOG2_ARRAY_CHAR_INDEX_SCALE"), (5, u "LOG2_ARRAY_SHORT_INDEX_SCALE"), (18, u "LOG2_ARRAY_FLOAT_INDEX_SCALE"), (24, u "LOG2_ARRAY_DOUBLE_INDEX_SCALE"), (6, .methodref 195 196), (0, .class_ 197), (0, .nameAndType 198 199), (0, u "java/lang/Math"), (0, u "max"), (0, u "(II)I"), (0, .integer 2147483639), (76, u "T_BOOLEAN"), (2, u "T_CHAR"), (1, u "T_FLOAT"), (1, u "T_DOUBLE"), (1, u "T_BYTE"), (1, u "T_SHORT"), (1, u "T_INT"), (1, u "T_LONG"), (1, u "SOFT_MAX_ARRAY_LENGTH"), (56, u "newLength"), (0, u "(III)I")] 25

def k16m0 : Method := { name := "<init>", desc := "()V", sig := { parameters := [], returnType := none }, accessFlags := 2, code := none }
def k16c1 : Code := { maxStack := 3, maxLocals := 4, code := jdk_48_method_27_code, exceptionTable := #[], attributes := #[] }
def k16m1 : Method := { name := "newLength", desc := "(III)I", sig := { parameters := [.int, .int, .int], returnType := some .int }, accessFlags := 9, code := some k16c1 }
/-- jdk/internal/util/ArraysSupport -/
def k16 : Class := { plain "jdk/internal/util/ArraysSupport" (some 0) with
  accessFlags := 33
  interfaces := #[]
  cf := some (fileOf pool16 21 #[] #[{ accessFlags := 2, nameIndex := 9, descriptorIndex := 19, attributes := #[] }, { accessFlags := 9, nameIndex := 351, descriptorIndex := 352, attributes := #[] }] 33 16 #[] #[{ accessFlags := 24, nameIndex := 28, descriptorIndex := 29, attributes := #[] }, { accessFlags := 26, nameIndex := 38, descriptorIndex := 39, attributes := #[] }, { accessFlags := 25, nameIndex := 121, descriptorIndex := 25, attributes := #[] }, { accessFlags := 25, nameIndex := 131, descriptorIndex := 25, attributes := #[] }, { accessFlags := 25, nameIndex := 137, descriptorIndex := 25, attributes := #[] }, { accessFlags := 25, nameIndex := 143, descriptorIndex := 25, attributes := #[] }, { accessFlags := 25, nameIndex := 53, descriptorIndex := 25, attributes := #[] }, { accessFlags := 25, nameIndex := 24, descriptorIndex := 25, attributes := #[] }, { accessFlags := 25, nameIndex := 162, descriptorIndex := 25, attributes := #[] }, { accessFlags := 25, nameIndex := 187, descriptorIndex := 25, attributes := #[] }, { accessFlags := 26, nameIndex := 48, descriptorIndex := 25, attributes := #[] }, { accessFlags := 25, nameIndex := 277, descriptorIndex := 25, attributes := #[] }, { accessFlags := 25, nameIndex := 280, descriptorIndex := 25, attributes := #[] }, { accessFlags := 25, nameIndex := 282, descriptorIndex := 25, attributes := #[] }, { accessFlags := 25, nameIndex := 284, descriptorIndex := 25, attributes := #[] }, { accessFlags := 25, nameIndex := 286, descriptorIndex := 25, attributes := #[] }, { accessFlags := 25, nameIndex := 288, descriptorIndex := 25, attributes := #[] }, { accessFlags := 25, nameIndex := 290, descriptorIndex := 25, attributes := #[] }, { accessFlags := 25, nameIndex := 292, descriptorIndex := 25, attributes := #[] }, { accessFlags := 26, nameIndex := 108, descriptorIndex := 109, attributes := #[] }, { accessFlags := 25, nameIndex := 294, descriptorIndex := 25, attributes := #[] }])
  fields := #[{ name := "U", type := (.object "jdk/internal/misc/Unsafe"), accessFlags := 24, slot := 0, constantValue := 0 }, { name := "BIG_ENDIAN", type := .boolean, accessFlags := 26, slot := 1, constantValue := 0 }, { name := "LOG2_ARRAY_BOOLEAN_INDEX_SCALE", type := .int, accessFlags := 25, slot := 2, constantValue := 0 }, { name := "LOG2_ARRAY_BYTE_INDEX_SCALE", type := .int, accessFlags := 25, slot := 3, constantValue := 0 }, { name := "LOG2_ARRAY_CHAR_INDEX_SCALE", type := .int, accessFlags := 25, slot := 4, constantValue := 0 }, { name := "LOG2_ARRAY_SHORT_INDEX_SCALE", type := .int, accessFlags := 25, slot := 5, constantValue := 0 }, { name := "LOG2_ARRAY_INT_INDEX_SCALE", type := .int, accessFlags := 25, slot := 6, constantValue := 0 }, { name := "LOG2_ARRAY_LONG_INDEX_SCALE", type := .int, accessFlags := 25, slot := 7, constantValue := 0 }, { name := "LOG2_ARRAY_FLOAT_INDEX_SCALE", type := .int, accessFlags := 25, slot := 8, constantValue := 0 }, { name := "LOG2_ARRAY_DOUBLE_INDEX_SCALE", type := .int, accessFlags := 25, slot := 9, constantValue := 0 }, { name := "LOG2_BYTE_BIT_SIZE", type := .int, accessFlags := 26, slot := 10, constantValue := 0 }, { name := "T_BOOLEAN", type := .int, accessFlags := 25, slot := 11, constantValue := 0 }, { name := "T_CHAR", type := .int, accessFlags := 25, slot := 12, constantValue := 0 }, { name := "T_FLOAT", type := .int, accessFlags := 25, slot := 13, constantValue := 0 }, { name := "T_DOUBLE", type := .int, accessFlags := 25, slot := 14, constantValue := 0 }, { name := "T_BYTE", type := .int, accessFlags := 25, slot := 15, constantValue := 0 }, { name := "T_SHORT", type := .int, accessFlags := 25, slot := 16, constantValue := 0 }, { name := "T_INT", type := .int, accessFlags := 25, slot := 17, constantValue := 0 }, { name := "T_LONG", type := .int, accessFlags := 25, slot := 18, constantValue := 0 }, { name := "JLA", type := (.object "jdk/internal/access/JavaLangAccess"), accessFlags := 26, slot := 19, constantValue := 0 }, { name := "SOFT_MAX_ARRAY_LENGTH", type := .int, accessFlags := 25, slot := 20, constantValue := 0 }]
  methods := #[k16m0, k16m1]
  instanceTypes := #[]
  staticTypes := #[(.object "jdk/internal/misc/Unsafe"), .boolean, .int, .int, .int, .int, .int, .int, .int, .int, .int, .int, .int, .int, .int, .int, .int, .int, .int, (.object "jdk/internal/access/JavaLangAccess"), .int]
  resolved := Array.replicate 378 none
  statics := none }

def pool17 : Array CpInfo := pool [(4, .class_ 6), (1, u "java/lang/Object"), (0, u "<init>"), (0, u "()V"), (5, .class_ 16), (1, u "java/lang/StringLatin1"), (0, u "inflate"), (2, .class_ 22), (1, u "java/lang/StringUTF16"), (3, .nameAndType 17 27), (0, u "([BI[BII)V"), (93, u "$assertionsDisabled"), (0, u "Z"), (98, .class_ 223), (1, u "java/lang/StringLatin1$LinesSpliterator"), (16, .methodref 20 26), (40, u "equals"), (0, u "([B[B)Z"), (107, .class_ 391), (0, u "java/lang/StringLatin1$CharsSpliterator")] 3

def k17m0 : Method := { name := "<init>", desc := "()V", sig := { parameters := [], returnType := none }, accessFlags := 0, code := none }
def k17c1 : Code := { maxStack := 3, maxLocals := 3, code := jdk_43_method_13_code, exceptionTable := #[], attributes := #[] }
def k17m1 : Method := { name := "equals", desc := "([B[B)Z", sig := { parameters := [(.array .byte), (.array .byte)], returnType := some .boolean }, accessFlags := 9, code := some k17c1 }
def k17c2 : Code := { maxStack := 5, maxLocals := 5, code := jdk_43_method_50_code, exceptionTable := #[], attributes := #[] }
def k17m2 : Method := { name := "inflate", desc := "([BI[BII)V", sig := { parameters := [(.array .byte), .int, (.array .byte), .int, .int], returnType := none }, accessFlags := 9, code := some k17c2 }
/-- java/lang/StringLatin1 -/
def k17 : Class := { plain "java/lang/StringLatin1" (some 0) with
  accessFlags := 48
  interfaces := #[]
  cf := some (fileOf pool17 14 #[.nestMembers #[390, 221]] #[{ accessFlags := 0, nameIndex := 7, descriptorIndex := 8, attributes := #[] }, { accessFlags := 9, nameIndex := 281, descriptorIndex := 282, attributes := #[] }, { accessFlags := 9, nameIndex := 17, descriptorIndex := 27, attributes := #[] }] 48 4 #[] #[{ accessFlags := 4120, nameIndex := 121, descriptorIndex := 122, attributes := #[] }])
  fields := #[{ name := "$assertionsDisabled", type := .boolean, accessFlags := 4120, slot := 0, constantValue := 0 }]
  methods := #[k17m0, k17m1, k17m2]
  instanceTypes := #[]
  staticTypes := #[.boolean]
  resolved := Array.replicate 395 none
  statics := none }

def pool18 : Array CpInfo := pool [(2, .class_ 4), (1, u "java/lang/Object"), (0, u "<init>"), (0, u "()V"), (17, .class_ 26), (1, u "jdk/internal/util/Preconditions"), (22, u "checkFromIndexSize"), (5, .class_ 56), (0, u "jdk/internal/util/Preconditions$4"), (57, .class_ 115), (0, u "jdk/internal/util/Preconditions$1"), (7, u "SIOOBE_FORMATTER"), (0, u "Ljava/util/function/BiFunction;"), (0, .class_ 126), (0, u "jdk/internal/util/Preconditions$2"), (3, u "AIOOBE_FORMATTER"), (0, .class_ 132), (0, u "jdk/internal/util/Preconditions$3"), (3, u "IOOBE_FORMATTER"), (46, u "(IIILjava/util/function/BiFunction;)I")] 10

def k18m0 : Method := { name := "<init>", desc := "()V", sig := { parameters := [], returnType := none }, accessFlags := 1, code := none }
def k18c1 : Code := { maxStack := 4, maxLocals := 4, code := jdk_41_method_13_code, exceptionTable := #[], attributes := #[] }
def k18m1 : Method := { name := "checkFromIndexSize", desc := "(IIILjava/util/function/BiFunction;)I", sig := { parameters := [.int, .int, .int, (.object "java/util/function/BiFunction")], returnType := some .int }, accessFlags := 9, code := some k18c1 }
/-- jdk/internal/util/Preconditions -/
def k18 : Class := { plain "jdk/internal/util/Preconditions" (some 0) with
  accessFlags := 33
  interfaces := #[]
  cf := some (fileOf pool18 24 #[.nestMembers #[55, 131, 125, 114]] #[{ accessFlags := 1, nameIndex := 5, descriptorIndex := 6, attributes := #[] }, { accessFlags := 9, nameIndex := 49, descriptorIndex := 183, attributes := #[] }] 33 2 #[] #[{ accessFlags := 25, nameIndex := 123, descriptorIndex := 124, attributes := #[] }, { accessFlags := 25, nameIndex := 130, descriptorIndex := 124, attributes := #[] }, { accessFlags := 25, nameIndex := 136, descriptorIndex := 124, attributes := #[] }])
  fields := #[{ name := "SIOOBE_FORMATTER", type := (.object "java/util/function/BiFunction"), accessFlags := 25, slot := 0, constantValue := 0 }, { name := "AIOOBE_FORMATTER", type := (.object "java/util/function/BiFunction"), accessFlags := 25, slot := 1, constantValue := 0 }, { name := "IOOBE_FORMATTER", type := (.object "java/util/function/BiFunction"), accessFlags := 25, slot := 2, constantValue := 0 }]
  methods := #[k18m0, k18m1]
  instanceTypes := #[]
  staticTypes := #[(.object "java/util/function/BiFunction"), (.object "java/util/function/BiFunction"), (.object "java/util/function/BiFunction")]
  resolved := Array.replicate 194 none
  statics := some 2 }

def pool19 : Array CpInfo := pool [(1, u "java/lang/Cloneable"), (0, .class_ 1), (0, u "java/lang/Object"), (0, .class_ 3)] 3

/-- java/lang/Cloneable -/
def k19 : Class := { plain "java/lang/Cloneable" (some 0) with
  accessFlags := 1537
  interfaces := #[]
  cf := some (fileOf pool19 2 #[] #[] 1537 4 #[] #[])
  fields := #[]
  methods := #[]
  instanceTypes := #[]
  staticTypes := #[]
  resolved := Array.replicate 8 none
  statics := none }

/-- the primitive byte -/
def k20 : Class := { plain "byte" none with kind := .primitive 'B', accessFlags := 0x411 }
/-- [B -/
def k21 : Class := { plain "[B" (some 0) with kind := .array 20 .byte, interfaces := #[19, 2], accessFlags := 1041 }

/-- the primitive char -/
def k22 : Class := { plain "char" none with kind := .primitive 'C', accessFlags := 0x411 }
/-- [C -/
def k23 : Class := { plain "[C" (some 0) with kind := .array 22 .char, interfaces := #[19, 2], accessFlags := 1041 }

/-- the primitive int -/
def k24 : Class := { plain "int" none with kind := .primitive 'I', accessFlags := 0x411 }
/-- [I -/
def k25 : Class := { plain "[I" (some 0) with kind := .array 24 .int, interfaces := #[19, 2], accessFlags := 1041 }

def heap : Heap := #[{ cls := 7, slots := #[.long 0, .int 1, .null, .int 0, .null, .int 0, .int 0], vm := .statics 7 },
  { cls := 8, slots := #[.int 0, .int 8, .int 0, .int 1], vm := .statics 8 },
  { cls := 18, slots := #[.null, .null, .null], vm := .statics 18 }]
def classes : Array Class := #[k0, k1, k2, k3, k4, k5, k6, k7, k8, k9, k10, k11, k12, k13, k14, k15, k16, k17, k18, k19, k20, k21, k22, k23, k24, k25]
def interned : List (Array UInt16 × Addr) := []
def slotsUsed : Nat := 14
def theMethod : MethodId := ⟨1, 1⟩
def args0 : Array Value := #[.int 5, .int 6, .int 7, .int 8]
def aboutOver (below : List Frame) : State where
  vm := { classes := classes, interned := interned.toArray }
  heap := heap
  slotsUsed := slotsUsed
  threads := #[{ frames := .invoking theMethod args0 :: below }]
def below0 : List Frame := [.native { method := ⟨0, 0⟩, args := #[] }]
def about1 : State := aboutOver below0
def p0 : Program := .bare "" "" ""
def e0 : Env := launch0.env 0 0 0
theorem w_frames : about1.frames = Frame.invoking theMethod args0 :: below0 := rfl
set_option maxRecDepth 65536 in
theorem w_args : argsFit about1.vm theMethod args0 = true := by decide +kernel
set_option maxRecDepth 65536 in
theorem w_heap : heapFits about1 = true := by decide +kernel
set_option maxRecDepth 65536 in
theorem w_runnable : about1.curStatus? = some .runnable := by decide +kernel
set_option maxRecDepth 65536 in
theorem w_alone : about1.alone = true := by decide +kernel
set_option maxRecDepth 65536 in
theorem w_named : about1.methodNamed? x = some theMethod := by decide +kernel
set_option maxRecDepth 65536 in
theorem w_hears : about1.hears theMethod below0 = true := by decide +kernel
set_option maxRecDepth 65536 in
theorem w_ripe : about1.ripe theMethod args0 below0 = true := by decide +kernel
theorem w_running : about1.status = .running := rfl
set_option maxRecDepth 65536 in
theorem w_room : about1.hasRoom e0.platform room_1 = true :=
  launch0.hasRoom_least _ room_1 (by decide +kernel) (by decide +kernel) (by decide +kernel) (by decide +kernel) (by decide +kernel) (by decide +kernel)
theorem allAtoms_all (ts : List Jvm.Cond) (a : Array Jvm.Value) (st : Jvm.State) : (allAtoms ts).before a st = ts.all (fun c => c.before a st) := by
  induction ts with
  | nil => rfl
  | cons c t ih =>
    show (Jvm.Cond.and c (allAtoms t)).before a st = _
    rw [Jvm.Cond.before_and, ih, List.all_cons]
def words1 : List Jvm.Cond := Jvm.Cond.code x code maxLocals ret :: tables_1
/-- a 'code' word, met by the world's own term for the bytes: nothing is compared byte by byte -/
theorem code_word {y : MethodName} {bytes : ByteArray} {mx : Nat} {rt : Option FieldType} {a : Array Value} {s : State} {m : MethodId} {meth : Method} {c : Code} (h1 : s.methodNamed? y = some m) (h2 : s.vm.method? m = some meth) (h3 : meth.code = some c) (h4 : c.code = bytes)
    (h5 : (c.maxLocals == mx && c.exceptionTable.isEmpty && decide (c.maxStack ≤ mostOperands) && decide (meth.sig.returnType = rt) && !meth.locks && decide (parseMethodDescriptor y.desc = some meth.sig)) = true) : (Jvm.Cond.code y bytes mx rt).before a s = true := by
  simp only [Bool.and_eq_true, beq_iff_eq, Bool.not_eq_true', decide_eq_true_eq] at h5
  obtain ⟨⟨⟨⟨⟨g1, g2⟩, g3⟩, g4⟩, g5⟩, g6⟩ := h5
  simp [Cond.before, Cond.holds, Cond.value, h1, h2, h3, h4, g1, g2, g3, g4, g5, g6]
def isCode : Jvm.Cond → Bool
  | .code _ _ _ _ => true
  | _ => false
theorem all_split {L : List Jvm.Cond} {P : Jvm.Cond → Bool} (h1 : L.all (fun c => isCode c || P c) = true) (h2 : ∀ c ∈ L.filter isCode, P c = true) : L.all P = true := by
  refine List.all_eq_true.mpr fun c hc => ?_
  have h := List.all_eq_true.mp h1 c hc
  rcases Bool.eq_false_or_eq_true (isCode c) with hi | hi
  · exact h2 c (List.mem_filter.mpr ⟨hc, hi⟩)
  · simpa [hi] using h
set_option maxRecDepth 65536 in
theorem w_c0 : (Jvm.Cond.code x code maxLocals ret).before args0 about1 = true := code_word (m := ⟨1, 1⟩) (meth := k1m1) (c := k1c1) (by decide +kernel) rfl rfl rfl (by decide +kernel)
set_option maxRecDepth 65536 in
theorem w_c1 : (Jvm.Cond.code ({ cls := "com/example/steady_rollout/steadyrollout/DeviceTopicsUpdatePinLaw", name := "piece", desc := "(II)Ljava/lang/String;" } : Jvm.MethodName) method_3_code (4 : Nat) (Option.some (Jvm.ClassFile.FieldType.object "java/lang/String"))).before args0 about1 = true := code_word (m := ⟨1, 2⟩) (meth := k1m2) (c := k1c2) (by decide +kernel) rfl rfl rfl (by decide +kernel)
set_option maxRecDepth 65536 in
theorem w_c2 : (Jvm.Cond.code ({ cls := "java/lang/String", name := "<init>", desc := "([C)V" } : Jvm.MethodName) jdk_42_method_3_code (2 : Nat) (Option.none : Option Jvm.ClassFile.FieldType)).before args0 about1 = true := code_word (m := ⟨7, 1⟩) (meth := k7m1) (c := k7c1) (by decide +kernel) rfl rfl rfl (by decide +kernel)
set_option maxRecDepth 65536 in
theorem w_c3 : (Jvm.Cond.code ({ cls := "java/lang/String", name := "<init>", desc := "([CIILjava/lang/Void;)V" } : Jvm.MethodName) jdk_42_method_149_code (6 : Nat) (Option.none : Option Jvm.ClassFile.FieldType)).before args0 about1 = true := code_word (m := ⟨7, 6⟩) (meth := k7m6) (c := k7c6) (by decide +kernel) rfl rfl rfl (by decide +kernel)
set_option maxRecDepth 65536 in
theorem w_c4 : (Jvm.Cond.code ({ cls := "java/lang/Object", name := "<init>", desc := "()V" } : Jvm.MethodName) object_method_1_code (1 : Nat) (Option.none : Option Jvm.ClassFile.FieldType)).before args0 about1 = true := code_word (m := ⟨0, 0⟩) (meth := k0m0) (c := k0c0) (by decide +kernel) rfl rfl rfl (by decide +kernel)
set_option maxRecDepth 65536 in
theorem w_c5 : (Jvm.Cond.code ({ cls := "com/example/steady_rollout/steadyrollout/DeviceTopicsUpdatePinLaw", name := "put", desc := "([CIII)V" } : Jvm.MethodName) method_4_code (4 : Nat) (Option.none : Option Jvm.ClassFile.FieldType)).before args0 about1 = true := code_word (m := ⟨1, 3⟩) (meth := k1m3) (c := k1c3) (by decide +kernel) rfl rfl rfl (by decide +kernel)
set_option maxRecDepth 65536 in
theorem w_c6 : (Jvm.Cond.code ({ cls := "java/lang/StringUTF16", name := "compress", desc := "([CII)[B" } : Jvm.MethodName) jdk_52_method_16_code (6 : Nat) (Option.some (Jvm.ClassFile.FieldType.array Jvm.ClassFile.FieldType.byte))).before args0 about1 = true := code_word (m := ⟨8, 8⟩) (meth := k8m8) (c := k8c8) (by decide +kernel) rfl rfl rfl (by decide +kernel)
set_option maxRecDepth 65536 in
theorem w_c7 : (Jvm.Cond.code ({ cls := "java/lang/StringUTF16", name := "compress", desc := "([CI[BII)I" } : Jvm.MethodName) jdk_52_method_21_code (7 : Nat) (Option.some Jvm.ClassFile.FieldType.int)).before args0 about1 = true := code_word (m := ⟨8, 9⟩) (meth := k8m9) (c := k8c9) (by decide +kernel) rfl rfl rfl (by decide +kernel)
set_option maxRecDepth 65536 in
theorem w_c8 : (Jvm.Cond.code ({ cls := "java/lang/StringUTF16", name := "coderFromArrayLen", desc := "([BI)B" } : Jvm.MethodName) jdk_52_method_15_code (2 : Nat) (Option.some Jvm.ClassFile.FieldType.byte)).before args0 about1 = true := code_word (m := ⟨8, 7⟩) (meth := k8m7) (c := k8c7) (by decide +kernel) rfl rfl rfl (by decide +kernel)
set_option maxRecDepth 65536 in
theorem w_c9 : (Jvm.Cond.code ({ cls := "com/example/steady_rollout/steadyrollout/DeviceTopics", name := "<init>", desc := "(Ljava/lang/String;)V" } : Jvm.MethodName) prog_4_method_1_code (2 : Nat) (Option.none : Option Jvm.ClassFile.FieldType)).before args0 about1 = true := code_word (m := ⟨9, 0⟩) (meth := k9m0) (c := k9c0) (by decide +kernel) rfl rfl rfl (by decide +kernel)
set_option maxRecDepth 65536 in
theorem w_c10 : (Jvm.Cond.code ({ cls := "java/lang/StringBuilder", name := "<init>", desc := "()V" } : Jvm.MethodName) jdk_67_method_1_code (1 : Nat) (Option.none : Option Jvm.ClassFile.FieldType)).before args0 about1 = true := code_word (m := ⟨12, 0⟩) (meth := k12m0) (c := k12c0) (by decide +kernel) rfl rfl rfl (by decide +kernel)
set_option maxRecDepth 65536 in
theorem w_c11 : (Jvm.Cond.code ({ cls := "java/lang/AbstractStringBuilder", name := "<init>", desc := "(I)V" } : Jvm.MethodName) jdk_68_method_2_code (2 : Nat) (Option.none : Option Jvm.ClassFile.FieldType)).before args0 about1 = true := code_word (m := ⟨11, 1⟩) (meth := k11m1) (c := k11c1) (by decide +kernel) rfl rfl rfl (by decide +kernel)
set_option maxRecDepth 65536 in
theorem w_c12 : (Jvm.Cond.code ({ cls := "java/lang/StringBuilder", name := "append", desc := "(Ljava/lang/String;)Ljava/lang/StringBuilder;" } : Jvm.MethodName) jdk_67_method_7_code (2 : Nat) (Option.some (Jvm.ClassFile.FieldType.object "java/lang/StringBuilder"))).before args0 about1 = true := code_word (m := ⟨12, 1⟩) (meth := k12m1) (c := k12c1) (by decide +kernel) rfl rfl rfl (by decide +kernel)
set_option maxRecDepth 65536 in
theorem w_c13 : (Jvm.Cond.code ({ cls := "java/lang/AbstractStringBuilder", name := "append", desc := "(Ljava/lang/String;)Ljava/lang/AbstractStringBuilder;" } : Jvm.MethodName) jdk_68_method_22_code (3 : Nat) (Option.some (Jvm.ClassFile.FieldType.object "java/lang/AbstractStringBuilder"))).before args0 about1 = true := code_word (m := ⟨11, 6⟩) (meth := k11m6) (c := k11c6) (by decide +kernel) rfl rfl rfl (by decide +kernel)
set_option maxRecDepth 65536 in
theorem w_c14 : (Jvm.Cond.code ({ cls := "java/lang/String", name := "length", desc := "()I" } : Jvm.MethodName) jdk_42_method_54_code (1 : Nat) (Option.some Jvm.ClassFile.FieldType.int)).before args0 about1 = true := code_word (m := ⟨7, 3⟩) (meth := k7m3) (c := k7c3) (by decide +kernel) rfl rfl rfl (by decide +kernel)
set_option maxRecDepth 65536 in
theorem w_c15 : (Jvm.Cond.code ({ cls := "java/lang/String", name := "coder", desc := "()B" } : Jvm.MethodName) jdk_42_method_152_code (1 : Nat) (Option.some Jvm.ClassFile.FieldType.byte)).before args0 about1 = true := code_word (m := ⟨7, 8⟩) (meth := k7m8) (c := k7c8) (by decide +kernel) rfl rfl rfl (by decide +kernel)
set_option maxRecDepth 65536 in
theorem w_c16 : (Jvm.Cond.code ({ cls := "java/lang/AbstractStringBuilder", name := "ensureCapacityInternal", desc := "(I)V" } : Jvm.MethodName) jdk_68_method_9_code (3 : Nat) (Option.none : Option Jvm.ClassFile.FieldType)).before args0 about1 = true := code_word (m := ⟨11, 3⟩) (meth := k11m3) (c := k11c3) (by decide +kernel) rfl rfl rfl (by decide +kernel)
set_option maxRecDepth 65536 in
theorem w_c17 : (Jvm.Cond.code ({ cls := "java/lang/AbstractStringBuilder", name := "putStringAt", desc := "(ILjava/lang/String;)V" } : Jvm.MethodName) jdk_68_method_73_code (3 : Nat) (Option.none : Option Jvm.ClassFile.FieldType)).before args0 about1 = true := code_word (m := ⟨11, 10⟩) (meth := k11m10) (c := k11c10) (by decide +kernel) rfl rfl rfl (by decide +kernel)
set_option maxRecDepth 65536 in
theorem w_c18 : (Jvm.Cond.code ({ cls := "java/lang/AbstractStringBuilder", name := "inflateIfNeededFor", desc := "(Ljava/lang/String;)V" } : Jvm.MethodName) jdk_68_method_71_code (2 : Nat) (Option.none : Option Jvm.ClassFile.FieldType)).before args0 about1 = true := code_word (m := ⟨11, 9⟩) (meth := k11m9) (c := k11c9) (by decide +kernel) rfl rfl rfl (by decide +kernel)
set_option maxRecDepth 65536 in
theorem w_c19 : (Jvm.Cond.code ({ cls := "java/lang/String", name := "getBytes", desc := "([BIB)V" } : Jvm.MethodName) jdk_42_method_147_code (4 : Nat) (Option.none : Option Jvm.ClassFile.FieldType)).before args0 about1 = true := code_word (m := ⟨7, 5⟩) (meth := k7m5) (c := k7c5) (by decide +kernel) rfl rfl rfl (by decide +kernel)
set_option maxRecDepth 65536 in
theorem w_c20 : (Jvm.Cond.code ({ cls := "java/lang/StringBuilder", name := "toString", desc := "()Ljava/lang/String;" } : Jvm.MethodName) jdk_67_method_42_code (1 : Nat) (Option.some (Jvm.ClassFile.FieldType.object "java/lang/String"))).before args0 about1 = true := code_word (m := ⟨12, 2⟩) (meth := k12m2) (c := k12c2) (by decide +kernel) rfl rfl rfl (by decide +kernel)
set_option maxRecDepth 65536 in
theorem w_c21 : (Jvm.Cond.code ({ cls := "java/lang/String", name := "<init>", desc := "(Ljava/lang/StringBuilder;)V" } : Jvm.MethodName) jdk_42_method_53_code (2 : Nat) (Option.none : Option Jvm.ClassFile.FieldType)).before args0 about1 = true := code_word (m := ⟨7, 2⟩) (meth := k7m2) (c := k7c2) (by decide +kernel) rfl rfl rfl (by decide +kernel)
set_option maxRecDepth 65536 in
theorem w_c22 : (Jvm.Cond.code ({ cls := "java/lang/String", name := "<init>", desc := "(Ljava/lang/AbstractStringBuilder;Ljava/lang/Void;)V" } : Jvm.MethodName) jdk_42_method_150_code (5 : Nat) (Option.none : Option Jvm.ClassFile.FieldType)).before args0 about1 = true := code_word (m := ⟨7, 7⟩) (meth := k7m7) (c := k7c7) (by decide +kernel) rfl rfl rfl (by decide +kernel)
set_option maxRecDepth 65536 in
theorem w_c23 : (Jvm.Cond.code ({ cls := "java/lang/AbstractStringBuilder", name := "getValue", desc := "()[B" } : Jvm.MethodName) jdk_68_method_64_code (1 : Nat) (Option.some (Jvm.ClassFile.FieldType.array Jvm.ClassFile.FieldType.byte))).before args0 about1 = true := code_word (m := ⟨11, 7⟩) (meth := k11m7) (c := k11c7) (by decide +kernel) rfl rfl rfl (by decide +kernel)
set_option maxRecDepth 65536 in
theorem w_c24 : (Jvm.Cond.code ({ cls := "java/lang/StringBuilder", name := "length", desc := "()I" } : Jvm.MethodName) jdk_67_method_93_code (1 : Nat) (Option.some Jvm.ClassFile.FieldType.int)).before args0 about1 = true := code_word (m := ⟨12, 3⟩) (meth := k12m3) (c := k12c3) (by decide +kernel) rfl rfl rfl (by decide +kernel)
set_option maxRecDepth 65536 in
theorem w_c25 : (Jvm.Cond.code ({ cls := "java/lang/AbstractStringBuilder", name := "length", desc := "()I" } : Jvm.MethodName) jdk_68_method_6_code (1 : Nat) (Option.some Jvm.ClassFile.FieldType.int)).before args0 about1 = true := code_word (m := ⟨11, 2⟩) (meth := k11m2) (c := k11c2) (by decide +kernel) rfl rfl rfl (by decide +kernel)
set_option maxRecDepth 65536 in
theorem w_c26 : (Jvm.Cond.code ({ cls := "java/lang/AbstractStringBuilder", name := "isLatin1", desc := "()Z" } : Jvm.MethodName) jdk_68_method_68_code (1 : Nat) (Option.some Jvm.ClassFile.FieldType.boolean)).before args0 about1 = true := code_word (m := ⟨11, 8⟩) (meth := k11m8) (c := k11c8) (by decide +kernel) rfl rfl rfl (by decide +kernel)
set_option maxRecDepth 65536 in
theorem w_c27 : (Jvm.Cond.code ({ cls := "java/util/Arrays", name := "copyOfRange", desc := "([BII)[B" } : Jvm.MethodName) jdk_65_method_132_code (3 : Nat) (Option.some (Jvm.ClassFile.FieldType.array Jvm.ClassFile.FieldType.byte))).before args0 about1 = true := code_word (m := ⟨14, 3⟩) (meth := k14m3) (c := k14c3) (by decide +kernel) rfl rfl rfl (by decide +kernel)
set_option maxRecDepth 65536 in
theorem w_c28 : (Jvm.Cond.code ({ cls := "java/util/Arrays", name := "copyOfRangeByte", desc := "([BII)[B" } : Jvm.MethodName) jdk_65_method_133_code (5 : Nat) (Option.some (Jvm.ClassFile.FieldType.array Jvm.ClassFile.FieldType.byte))).before args0 about1 = true := code_word (m := ⟨14, 4⟩) (meth := k14m4) (c := k14c4) (by decide +kernel) rfl rfl rfl (by decide +kernel)
set_option maxRecDepth 65536 in
theorem w_c29 : (Jvm.Cond.code ({ cls := "java/util/Arrays", name := "checkLength", desc := "(II)V" } : Jvm.MethodName) jdk_65_method_131_code (2 : Nat) (Option.none : Option Jvm.ClassFile.FieldType)).before args0 about1 = true := code_word (m := ⟨14, 2⟩) (meth := k14m2) (c := k14c2) (by decide +kernel) rfl rfl rfl (by decide +kernel)
set_option maxRecDepth 65536 in
theorem w_c30 : (Jvm.Cond.code ({ cls := "java/lang/Math", name := "min", desc := "(II)I" } : Jvm.MethodName) jdk_29_method_69_code (2 : Nat) (Option.some Jvm.ClassFile.FieldType.int)).before args0 about1 = true := code_word (m := ⟨15, 2⟩) (meth := k15m2) (c := k15c2) (by decide +kernel) rfl rfl rfl (by decide +kernel)
set_option maxRecDepth 65536 in
theorem w_c31 : (Jvm.Cond.code ({ cls := "com/example/steady_rollout/steadyrollout/DeviceTopics", name := "update", desc := "(Ljava/lang/String;Ljava/lang/String;)Ljava/lang/String;" } : Jvm.MethodName) prog_4_method_6_code (3 : Nat) (Option.some (Jvm.ClassFile.FieldType.object "java/lang/String"))).before args0 about1 = true := code_word (m := ⟨9, 1⟩) (meth := k9m1) (c := k9c1) (by decide +kernel) rfl rfl rfl (by decide +kernel)
set_option maxRecDepth 65536 in
theorem w_c32 : (Jvm.Cond.code ({ cls := "java/lang/AbstractStringBuilder", name := "newCapacity", desc := "(I)I" } : Jvm.MethodName) jdk_68_method_10_code (6 : Nat) (Option.some Jvm.ClassFile.FieldType.int)).before args0 about1 = true := code_word (m := ⟨11, 4⟩) (meth := k11m4) (c := k11c4) (by decide +kernel) rfl rfl rfl (by decide +kernel)
set_option maxRecDepth 65536 in
theorem w_c33 : (Jvm.Cond.code ({ cls := "jdk/internal/util/ArraysSupport", name := "newLength", desc := "(III)I" } : Jvm.MethodName) jdk_48_method_27_code (4 : Nat) (Option.some Jvm.ClassFile.FieldType.int)).before args0 about1 = true := code_word (m := ⟨16, 1⟩) (meth := k16m1) (c := k16c1) (by decide +kernel) rfl rfl rfl (by decide +kernel)
set_option maxRecDepth 65536 in
theorem w_c34 : (Jvm.Cond.code ({ cls := "java/lang/Math", name := "max", desc := "(II)I" } : Jvm.MethodName) jdk_29_method_65_code (2 : Nat) (Option.some Jvm.ClassFile.FieldType.int)).before args0 about1 = true := code_word (m := ⟨15, 1⟩) (meth := k15m1) (c := k15c1) (by decide +kernel) rfl rfl rfl (by decide +kernel)
set_option maxRecDepth 65536 in
theorem w_c35 : (Jvm.Cond.code ({ cls := "java/util/Arrays", name := "copyOf", desc := "([BI)[B" } : Jvm.MethodName) jdk_65_method_121_code (3 : Nat) (Option.some (Jvm.ClassFile.FieldType.array Jvm.ClassFile.FieldType.byte))).before args0 about1 = true := code_word (m := ⟨14, 1⟩) (meth := k14m1) (c := k14c1) (by decide +kernel) rfl rfl rfl (by decide +kernel)
set_option maxRecDepth 65536 in
theorem w_c36 : (Jvm.Cond.code ({ cls := "java/lang/String", name := "equals", desc := "(Ljava/lang/Object;)Z" } : Jvm.MethodName) jdk_42_method_66_code (3 : Nat) (Option.some Jvm.ClassFile.FieldType.boolean)).before args0 about1 = true := code_word (m := ⟨7, 4⟩) (meth := k7m4) (c := k7c4) (by decide +kernel) rfl rfl rfl (by decide +kernel)
set_option maxRecDepth 65536 in
theorem w_c37 : (Jvm.Cond.code ({ cls := "java/lang/StringLatin1", name := "equals", desc := "([B[B)Z" } : Jvm.MethodName) jdk_43_method_13_code (3 : Nat) (Option.some Jvm.ClassFile.FieldType.boolean)).before args0 about1 = true := code_word (m := ⟨17, 1⟩) (meth := k17m1) (c := k17c1) (by decide +kernel) rfl rfl rfl (by decide +kernel)
set_option maxRecDepth 65536 in
theorem w_c38 : (Jvm.Cond.code ({ cls := "java/lang/StringUTF16", name := "toBytes", desc := "([CII)[B" } : Jvm.MethodName) jdk_52_method_14_code (5 : Nat) (Option.some (Jvm.ClassFile.FieldType.array Jvm.ClassFile.FieldType.byte))).before args0 about1 = true := code_word (m := ⟨8, 6⟩) (meth := k8m6) (c := k8c6) (by decide +kernel) rfl rfl rfl (by decide +kernel)
set_option maxRecDepth 65536 in
theorem w_c39 : (Jvm.Cond.code ({ cls := "java/lang/StringUTF16", name := "newBytesFor", desc := "(I)[B" } : Jvm.MethodName) jdk_52_method_2_code (1 : Nat) (Option.some (Jvm.ClassFile.FieldType.array Jvm.ClassFile.FieldType.byte))).before args0 about1 = true := code_word (m := ⟨8, 1⟩) (meth := k8m1) (c := k8c1) (by decide +kernel) rfl rfl rfl (by decide +kernel)
set_option maxRecDepth 65536 in
theorem w_c40 : (Jvm.Cond.code ({ cls := "java/lang/StringUTF16", name := "newBytesLength", desc := "(I)I" } : Jvm.MethodName) jdk_52_method_3_code (1 : Nat) (Option.some Jvm.ClassFile.FieldType.int)).before args0 about1 = true := code_word (m := ⟨8, 2⟩) (meth := k8m2) (c := k8c2) (by decide +kernel) rfl rfl rfl (by decide +kernel)
set_option maxRecDepth 65536 in
theorem w_c41 : (Jvm.Cond.code ({ cls := "java/lang/StringUTF16", name := "putChar", desc := "([BII)V" } : Jvm.MethodName) jdk_52_method_4_code (3 : Nat) (Option.none : Option Jvm.ClassFile.FieldType)).before args0 about1 = true := code_word (m := ⟨8, 3⟩) (meth := k8m3) (c := k8c3) (by decide +kernel) rfl rfl rfl (by decide +kernel)
set_option maxRecDepth 65536 in
theorem w_c42 : (Jvm.Cond.code ({ cls := "java/lang/StringUTF16", name := "getChar", desc := "([BI)C" } : Jvm.MethodName) jdk_52_method_5_code (2 : Nat) (Option.some Jvm.ClassFile.FieldType.char)).before args0 about1 = true := code_word (m := ⟨8, 4⟩) (meth := k8m4) (c := k8c4) (by decide +kernel) rfl rfl rfl (by decide +kernel)
set_option maxRecDepth 65536 in
theorem w_c43 : (Jvm.Cond.code ({ cls := "java/lang/AbstractStringBuilder", name := "inflate", desc := "()V" } : Jvm.MethodName) jdk_68_method_11_code (2 : Nat) (Option.none : Option Jvm.ClassFile.FieldType)).before args0 about1 = true := code_word (m := ⟨11, 5⟩) (meth := k11m5) (c := k11c5) (by decide +kernel) rfl rfl rfl (by decide +kernel)
set_option maxRecDepth 65536 in
theorem w_c44 : (Jvm.Cond.code ({ cls := "java/lang/StringLatin1", name := "inflate", desc := "([BI[BII)V" } : Jvm.MethodName) jdk_43_method_50_code (5 : Nat) (Option.none : Option Jvm.ClassFile.FieldType)).before args0 about1 = true := code_word (m := ⟨17, 2⟩) (meth := k17m2) (c := k17c2) (by decide +kernel) rfl rfl rfl (by decide +kernel)
set_option maxRecDepth 65536 in
theorem w_c45 : (Jvm.Cond.code ({ cls := "java/lang/StringUTF16", name := "inflate", desc := "([BI[BII)V" } : Jvm.MethodName) jdk_52_method_86_code (6 : Nat) (Option.none : Option Jvm.ClassFile.FieldType)).before args0 about1 = true := code_word (m := ⟨8, 10⟩) (meth := k8m10) (c := k8c10) (by decide +kernel) rfl rfl rfl (by decide +kernel)
set_option maxRecDepth 65536 in
theorem w_c46 : (Jvm.Cond.code ({ cls := "java/lang/StringUTF16", name := "checkBoundsOffCount", desc := "(II[B)V" } : Jvm.MethodName) jdk_52_method_94_code (3 : Nat) (Option.none : Option Jvm.ClassFile.FieldType)).before args0 about1 = true := code_word (m := ⟨8, 11⟩) (meth := k8m11) (c := k8c11) (by decide +kernel) rfl rfl rfl (by decide +kernel)
set_option maxRecDepth 65536 in
theorem w_c47 : (Jvm.Cond.code ({ cls := "java/lang/StringUTF16", name := "length", desc := "([B)I" } : Jvm.MethodName) jdk_52_method_6_code (1 : Nat) (Option.some Jvm.ClassFile.FieldType.int)).before args0 about1 = true := code_word (m := ⟨8, 5⟩) (meth := k8m5) (c := k8c5) (by decide +kernel) rfl rfl rfl (by decide +kernel)
set_option maxRecDepth 65536 in
theorem w_c48 : (Jvm.Cond.code ({ cls := "java/lang/String", name := "checkBoundsOffCount", desc := "(III)I" } : Jvm.MethodName) jdk_42_method_157_code (3 : Nat) (Option.some Jvm.ClassFile.FieldType.int)).before args0 about1 = true := code_word (m := ⟨7, 9⟩) (meth := k7m9) (c := k7c9) (by decide +kernel) rfl rfl rfl (by decide +kernel)
set_option maxRecDepth 65536 in
theorem w_c49 : (Jvm.Cond.code ({ cls := "jdk/internal/util/Preconditions", name := "checkFromIndexSize", desc := "(IIILjava/util/function/BiFunction;)I" } : Jvm.MethodName) jdk_41_method_13_code (4 : Nat) (Option.some Jvm.ClassFile.FieldType.int)).before args0 about1 = true := code_word (m := ⟨18, 1⟩) (meth := k18m1) (c := k18c1) (by decide +kernel) rfl rfl rfl (by decide +kernel)
def codes1 : List Jvm.Cond := [Jvm.Cond.code x code maxLocals ret, Jvm.Cond.code ({ cls := "com/example/steady_rollout/steadyrollout/DeviceTopicsUpdatePinLaw", name := "piece", desc := "(II)Ljava/lang/String;" } : Jvm.MethodName) method_3_code (4 : Nat) (Option.some (Jvm.ClassFile.FieldType.object "java/lang/String")), Jvm.Cond.code ({ cls := "java/lang/String", name := "<init>", desc := "([C)V" } : Jvm.MethodName) jdk_42_method_3_code (2 : Nat) (Option.none : Option Jvm.ClassFile.FieldType), Jvm.Cond.code ({ cls := "java/lang/String", name := "<init>", desc := "([CIILjava/lang/Void;)V" } : Jvm.MethodName) jdk_42_method_149_code (6 : Nat) (Option.none : Option Jvm.ClassFile.FieldType), Jvm.Cond.code ({ cls := "java/lang/Object", name := "<init>", desc := "()V" } : Jvm.MethodName) object_method_1_code (1 : Nat) (Option.none : Option Jvm.ClassFile.FieldType), Jvm.Cond.code ({ cls := "com/example/steady_rollout/steadyrollout/DeviceTopicsUpdatePinLaw", name := "put", desc := "([CIII)V" } : Jvm.MethodName) method_4_code (4 : Nat) (Option.none : Option Jvm.ClassFile.FieldType), Jvm.Cond.code ({ cls := "java/lang/StringUTF16", name := "compress", desc := "([CII)[B" } : Jvm.MethodName) jdk_52_method_16_code (6 : Nat) (Option.some (Jvm.ClassFile.FieldType.array Jvm.ClassFile.FieldType.byte)), Jvm.Cond.code ({ cls := "java/lang/StringUTF16", name := "compress", desc := "([CI[BII)I" } : Jvm.MethodName) jdk_52_method_21_code (7 : Nat) (Option.some Jvm.ClassFile.FieldType.int), Jvm.Cond.code ({ cls := "java/lang/StringUTF16", name := "coderFromArrayLen", desc := "([BI)B" } : Jvm.MethodName) jdk_52_method_15_code (2 : Nat) (Option.some Jvm.ClassFile.FieldType.byte), Jvm.Cond.code ({ cls := "com/example/steady_rollout/steadyrollout/DeviceTopics", name := "<init>", desc := "(Ljava/lang/String;)V" } : Jvm.MethodName) prog_4_method_1_code (2 : Nat) (Option.none : Option Jvm.ClassFile.FieldType), Jvm.Cond.code ({ cls := "java/lang/StringBuilder", name := "<init>", desc := "()V" } : Jvm.MethodName) jdk_67_method_1_code (1 : Nat) (Option.none : Option Jvm.ClassFile.FieldType), Jvm.Cond.code ({ cls := "java/lang/AbstractStringBuilder", name := "<init>", desc := "(I)V" } : Jvm.MethodName) jdk_68_method_2_code (2 : Nat) (Option.none : Option Jvm.ClassFile.FieldType), Jvm.Cond.code ({ cls := "java/lang/StringBuilder", name := "append", desc := "(Ljava/lang/String;)Ljava/lang/StringBuilder;" } : Jvm.MethodName) jdk_67_method_7_code (2 : Nat) (Option.some (Jvm.ClassFile.FieldType.object "java/lang/StringBuilder")), Jvm.Cond.code ({ cls := "java/lang/AbstractStringBuilder", name := "append", desc := "(Ljava/lang/String;)Ljava/lang/AbstractStringBuilder;" } : Jvm.MethodName) jdk_68_method_22_code (3 : Nat) (Option.some (Jvm.ClassFile.FieldType.object "java/lang/AbstractStringBuilder")), Jvm.Cond.code ({ cls := "java/lang/String", name := "length", desc := "()I" } : Jvm.MethodName) jdk_42_method_54_code (1 : Nat) (Option.some Jvm.ClassFile.FieldType.int), Jvm.Cond.code ({ cls := "java/lang/String", name := "coder", desc := "()B" } : Jvm.MethodName) jdk_42_method_152_code (1 : Nat) (Option.some Jvm.ClassFile.FieldType.byte), Jvm.Cond.code ({ cls := "java/lang/AbstractStringBuilder", name := "ensureCapacityInternal", desc := "(I)V" } : Jvm.MethodName) jdk_68_method_9_code (3 : Nat) (Option.none : Option Jvm.ClassFile.FieldType), Jvm.Cond.code ({ cls := "java/lang/AbstractStringBuilder", name := "putStringAt", desc := "(ILjava/lang/String;)V" } : Jvm.MethodName) jdk_68_method_73_code (3 : Nat) (Option.none : Option Jvm.ClassFile.FieldType), Jvm.Cond.code ({ cls := "java/lang/AbstractStringBuilder", name := "inflateIfNeededFor", desc := "(Ljava/lang/String;)V" } : Jvm.MethodName) jdk_68_method_71_code (2 : Nat) (Option.none : Option Jvm.ClassFile.FieldType), Jvm.Cond.code ({ cls := "java/lang/String", name := "getBytes", desc := "([BIB)V" } : Jvm.MethodName) jdk_42_method_147_code (4 : Nat) (Option.none : Option Jvm.ClassFile.FieldType), Jvm.Cond.code ({ cls := "java/lang/StringBuilder", name := "toString", desc := "()Ljava/lang/String;" } : Jvm.MethodName) jdk_67_method_42_code (1 : Nat) (Option.some (Jvm.ClassFile.FieldType.object "java/lang/String")), Jvm.Cond.code ({ cls := "java/lang/String", name := "<init>", desc := "(Ljava/lang/StringBuilder;)V" } : Jvm.MethodName) jdk_42_method_53_code (2 : Nat) (Option.none : Option Jvm.ClassFile.FieldType), Jvm.Cond.code ({ cls := "java/lang/String", name := "<init>", desc := "(Ljava/lang/AbstractStringBuilder;Ljava/lang/Void;)V" } : Jvm.MethodName) jdk_42_method_150_code (5 : Nat) (Option.none : Option Jvm.ClassFile.FieldType), Jvm.Cond.code ({ cls := "java/lang/AbstractStringBuilder", name := "getValue", desc := "()[B" } : Jvm.MethodName) jdk_68_method_64_code (1 : Nat) (Option.some (Jvm.ClassFile.FieldType.array Jvm.ClassFile.FieldType.byte)), Jvm.Cond.code ({ cls := "java/lang/StringBuilder", name := "length", desc := "()I" } : Jvm.MethodName) jdk_67_method_93_code (1 : Nat) (Option.some Jvm.ClassFile.FieldType.int), Jvm.Cond.code ({ cls := "java/lang/AbstractStringBuilder", name := "length", desc := "()I" } : Jvm.MethodName) jdk_68_method_6_code (1 : Nat) (Option.some Jvm.ClassFile.FieldType.int), Jvm.Cond.code ({ cls := "java/lang/AbstractStringBuilder", name := "isLatin1", desc := "()Z" } : Jvm.MethodName) jdk_68_method_68_code (1 : Nat) (Option.some Jvm.ClassFile.FieldType.boolean), Jvm.Cond.code ({ cls := "java/util/Arrays", name := "copyOfRange", desc := "([BII)[B" } : Jvm.MethodName) jdk_65_method_132_code (3 : Nat) (Option.some (Jvm.ClassFile.FieldType.array Jvm.ClassFile.FieldType.byte)), Jvm.Cond.code ({ cls := "java/util/Arrays", name := "copyOfRangeByte", desc := "([BII)[B" } : Jvm.MethodName) jdk_65_method_133_code (5 : Nat) (Option.some (Jvm.ClassFile.FieldType.array Jvm.ClassFile.FieldType.byte)), Jvm.Cond.code ({ cls := "java/util/Arrays", name := "checkLength", desc := "(II)V" } : Jvm.MethodName) jdk_65_method_131_code (2 : Nat) (Option.none : Option Jvm.ClassFile.FieldType), Jvm.Cond.code ({ cls := "java/lang/Math", name := "min", desc := "(II)I" } : Jvm.MethodName) jdk_29_method_69_code (2 : Nat) (Option.some Jvm.ClassFile.FieldType.int), Jvm.Cond.code ({ cls := "com/example/steady_rollout/steadyrollout/DeviceTopics", name := "update", desc := "(Ljava/lang/String;Ljava/lang/String;)Ljava/lang/String;" } : Jvm.MethodName) prog_4_method_6_code (3 : Nat) (Option.some (Jvm.ClassFile.FieldType.object "java/lang/String")), Jvm.Cond.code ({ cls := "java/lang/AbstractStringBuilder", name := "newCapacity", desc := "(I)I" } : Jvm.MethodName) jdk_68_method_10_code (6 : Nat) (Option.some Jvm.ClassFile.FieldType.int), Jvm.Cond.code ({ cls := "jdk/internal/util/ArraysSupport", name := "newLength", desc := "(III)I" } : Jvm.MethodName) jdk_48_method_27_code (4 : Nat) (Option.some Jvm.ClassFile.FieldType.int), Jvm.Cond.code ({ cls := "java/lang/Math", name := "max", desc := "(II)I" } : Jvm.MethodName) jdk_29_method_65_code (2 : Nat) (Option.some Jvm.ClassFile.FieldType.int), Jvm.Cond.code ({ cls := "java/util/Arrays", name := "copyOf", desc := "([BI)[B" } : Jvm.MethodName) jdk_65_method_121_code (3 : Nat) (Option.some (Jvm.ClassFile.FieldType.array Jvm.ClassFile.FieldType.byte)), Jvm.Cond.code ({ cls := "java/lang/String", name := "equals", desc := "(Ljava/lang/Object;)Z" } : Jvm.MethodName) jdk_42_method_66_code (3 : Nat) (Option.some Jvm.ClassFile.FieldType.boolean), Jvm.Cond.code ({ cls := "java/lang/StringLatin1", name := "equals", desc := "([B[B)Z" } : Jvm.MethodName) jdk_43_method_13_code (3 : Nat) (Option.some Jvm.ClassFile.FieldType.boolean), Jvm.Cond.code ({ cls := "java/lang/StringUTF16", name := "toBytes", desc := "([CII)[B" } : Jvm.MethodName) jdk_52_method_14_code (5 : Nat) (Option.some (Jvm.ClassFile.FieldType.array Jvm.ClassFile.FieldType.byte)), Jvm.Cond.code ({ cls := "java/lang/StringUTF16", name := "newBytesFor", desc := "(I)[B" } : Jvm.MethodName) jdk_52_method_2_code (1 : Nat) (Option.some (Jvm.ClassFile.FieldType.array Jvm.ClassFile.FieldType.byte)), Jvm.Cond.code ({ cls := "java/lang/StringUTF16", name := "newBytesLength", desc := "(I)I" } : Jvm.MethodName) jdk_52_method_3_code (1 : Nat) (Option.some Jvm.ClassFile.FieldType.int), Jvm.Cond.code ({ cls := "java/lang/StringUTF16", name := "putChar", desc := "([BII)V" } : Jvm.MethodName) jdk_52_method_4_code (3 : Nat) (Option.none : Option Jvm.ClassFile.FieldType), Jvm.Cond.code ({ cls := "java/lang/StringUTF16", name := "getChar", desc := "([BI)C" } : Jvm.MethodName) jdk_52_method_5_code (2 : Nat) (Option.some Jvm.ClassFile.FieldType.char), Jvm.Cond.code ({ cls := "java/lang/AbstractStringBuilder", name := "inflate", desc := "()V" } : Jvm.MethodName) jdk_68_method_11_code (2 : Nat) (Option.none : Option Jvm.ClassFile.FieldType), Jvm.Cond.code ({ cls := "java/lang/StringLatin1", name := "inflate", desc := "([BI[BII)V" } : Jvm.MethodName) jdk_43_method_50_code (5 : Nat) (Option.none : Option Jvm.ClassFile.FieldType), Jvm.Cond.code ({ cls := "java/lang/StringUTF16", name := "inflate", desc := "([BI[BII)V" } : Jvm.MethodName) jdk_52_method_86_code (6 : Nat) (Option.none : Option Jvm.ClassFile.FieldType), Jvm.Cond.code ({ cls := "java/lang/StringUTF16", name := "checkBoundsOffCount", desc := "(II[B)V" } : Jvm.MethodName) jdk_52_method_94_code (3 : Nat) (Option.none : Option Jvm.ClassFile.FieldType), Jvm.Cond.code ({ cls := "java/lang/StringUTF16", name := "length", desc := "([B)I" } : Jvm.MethodName) jdk_52_method_6_code (1 : Nat) (Option.some Jvm.ClassFile.FieldType.int), Jvm.Cond.code ({ cls := "java/lang/String", name := "checkBoundsOffCount", desc := "(III)I" } : Jvm.MethodName) jdk_42_method_157_code (3 : Nat) (Option.some Jvm.ClassFile.FieldType.int), Jvm.Cond.code ({ cls := "jdk/internal/util/Preconditions", name := "checkFromIndexSize", desc := "(IIILjava/util/function/BiFunction;)I" } : Jvm.MethodName) jdk_41_method_13_code (4 : Nat) (Option.some Jvm.ClassFile.FieldType.int)]
set_option maxRecDepth 65536 in
theorem codes_eq : words1.filter isCode = codes1 := rfl
theorem w_codes : ∀ c ∈ words1.filter isCode, c.before args0 about1 = true := by
  rw [codes_eq]
  intro c hc
  simp only [codes1, List.mem_cons, List.not_mem_nil, or_false] at hc
  rcases hc with rfl | rfl | rfl | rfl | rfl | rfl | rfl | rfl | rfl | rfl | rfl | rfl | rfl | rfl | rfl | rfl | rfl | rfl | rfl | rfl | rfl | rfl | rfl | rfl | rfl | rfl | rfl | rfl | rfl | rfl | rfl | rfl | rfl | rfl | rfl | rfl | rfl | rfl | rfl | rfl | rfl | rfl | rfl | rfl | rfl | rfl | rfl | rfl | rfl | rfl
  · exact w_c0
  · exact w_c1
  · exact w_c2
  · exact w_c3
  · exact w_c4
  · exact w_c5
  · exact w_c6
  · exact w_c7
  · exact w_c8
  · exact w_c9
  · exact w_c10
  · exact w_c11
  · exact w_c12
  · exact w_c13
  · exact w_c14
  · exact w_c15
  · exact w_c16
  · exact w_c17
  · exact w_c18
  · exact w_c19
  · exact w_c20
  · exact w_c21
  · exact w_c22
  · exact w_c23
  · exact w_c24
  · exact w_c25
  · exact w_c26
  · exact w_c27
  · exact w_c28
  · exact w_c29
  · exact w_c30
  · exact w_c31
  · exact w_c32
  · exact w_c33
  · exact w_c34
  · exact w_c35
  · exact w_c36
  · exact w_c37
  · exact w_c38
  · exact w_c39
  · exact w_c40
  · exact w_c41
  · exact w_c42
  · exact w_c43
  · exact w_c44
  · exact w_c45
  · exact w_c46
  · exact w_c47
  · exact w_c48
  · exact w_c49
set_option maxRecDepth 65536 in
theorem w_t1 : (words1.take 24).all (fun c => isCode c || c.before args0 about1) = true := by decide +kernel
set_option maxRecDepth 65536 in
theorem w_t2 : ((words1.drop 24).take 24).all (fun c => isCode c || c.before args0 about1) = true := by decide +kernel
set_option maxRecDepth 65536 in
theorem w_t3 : (((words1.drop 24).drop 24).take 24).all (fun c => isCode c || c.before args0 about1) = true := by decide +kernel
set_option maxRecDepth 65536 in
theorem w_t4 : ((((words1.drop 24).drop 24).drop 24).take 24).all (fun c => isCode c || c.before args0 about1) = true := by decide +kernel
set_option maxRecDepth 65536 in
theorem w_t5 : (((((words1.drop 24).drop 24).drop 24).drop 24).take 24).all (fun c => isCode c || c.before args0 about1) = true := by decide +kernel
set_option maxRecDepth 65536 in
theorem w_t6 : ((((((words1.drop 24).drop 24).drop 24).drop 24).drop 24).take 24).all (fun c => isCode c || c.before args0 about1) = true := by decide +kernel
set_option maxRecDepth 65536 in
theorem w_t7 : (((((((words1.drop 24).drop 24).drop 24).drop 24).drop 24).drop 24).take 24).all (fun c => isCode c || c.before args0 about1) = true := by decide +kernel
set_option maxRecDepth 65536 in
theorem w_t8 : ((((((((words1.drop 24).drop 24).drop 24).drop 24).drop 24).drop 24).drop 24).take 24).all (fun c => isCode c || c.before args0 about1) = true := by decide +kernel
set_option maxRecDepth 65536 in
theorem w_t9 : (((((((((words1.drop 24).drop 24).drop 24).drop 24).drop 24).drop 24).drop 24).drop 24).take 24).all (fun c => isCode c || c.before args0 about1) = true := by decide +kernel
set_option maxRecDepth 65536 in
theorem w_t10 : ((((((((((words1.drop 24).drop 24).drop 24).drop 24).drop 24).drop 24).drop 24).drop 24).drop 24).take 24).all (fun c => isCode c || c.before args0 about1) = true := by decide +kernel
set_option maxRecDepth 65536 in
theorem w_t11 : ((((((((((words1.drop 24).drop 24).drop 24).drop 24).drop 24).drop 24).drop 24).drop 24).drop 24).drop 24).all (fun c => isCode c || c.before args0 about1) = true := by decide +kernel
theorem w_tables : (allAtoms (Jvm.Cond.code x code maxLocals ret :: tables_1)).before args0 about1 = true := by
  rw [allAtoms_all]
  show words1.all (fun c => c.before args0 about1) = true
  refine all_split ?_ w_codes
  rw [← List.take_append_drop 24 words1, List.all_append, w_t1, ← List.take_append_drop 24 (words1.drop 24), List.all_append, w_t2, ← List.take_append_drop 24 ((words1.drop 24).drop 24), List.all_append, w_t3, ← List.take_append_drop 24 (((words1.drop 24).drop 24).drop 24), List.all_append, w_t4, ← List.take_append_drop 24 ((((words1.drop 24).drop 24).drop 24).drop 24), List.all_append, w_t5, ← List.take_append_drop 24 (((((words1.drop 24).drop 24).drop 24).drop 24).drop 24), List.all_append, w_t6, ← List.take_append_drop 24 ((((((words1.drop 24).drop 24).drop 24).drop 24).drop 24).drop 24), List.all_append, w_t7, ← List.take_append_drop 24 (((((((words1.drop 24).drop 24).drop 24).drop 24).drop 24).drop 24).drop 24), List.all_append, w_t8, ← List.take_append_drop 24 ((((((((words1.drop 24).drop 24).drop 24).drop 24).drop 24).drop 24).drop 24).drop 24), List.all_append, w_t9, ← List.take_append_drop 24 (((((((((words1.drop 24).drop 24).drop 24).drop 24).drop 24).drop 24).drop 24).drop 24).drop 24), List.all_append, w_t10, w_t11]
  rfl
set_option maxRecDepth 65536 in
theorem w_rest : rest_1_c.before args0 about1 = true := by decide +kernel
set_option maxRecDepth 65536 in
theorem w_case : (Jvm.Cond.and given_1 narrow_1).before args0 about1 = true := by decide +kernel
set_option maxRecDepth 65536 in
theorem w_consts : constsHeld consts_1 about1 := Jvm.Lit.constsHeldB_iff.mp (by decide +kernel)
theorem w_applies : (headSpec (Jvm.Cond.code x code maxLocals ret :: tables_1) room_1).applies x e0.platform about1 = true :=
  (Spec.applies_iff w_frames).mpr ⟨w_running, w_runnable, w_alone, w_named, w_hears, w_ripe, w_room, w_tables⟩
theorem atStart : AtStart classFile x code maxLocals ret World_1 tables_1 room_1 Calls_1 rest_1 Pre_1 launch0 p0 e0 about1 theMethod args0 below0 :=
  ⟨lists_1, trivial, launch0.admits_env _ _ _, launch0.least_env, fairChoices_fair.cas, fairChoices_fair.clock, w_frames, w_args, w_heap, w_applies, ⟨w_consts, trivial⟩, w_rest, w_case⟩
end start1
theorem witness_1 : WitnessClaimed_1 := ⟨start1.p0, start1.e0, start1.about1, start1.theMethod, start1.args0, start1.below0, start1.atStart⟩
end Jvm.Pilot.@@N@@
