import JvmDerived
import JvmDerived.Pilot.@@N@@Statement
import JvmDerived.Pilot.@@N@@Code
set_option linter.unusedVariables false
set_option linter.unusedSimpArgs false
namespace Jvm.Pilot.@@N@@
open Jvm Jvm.ClassFile Sem Op Lib Jvm.Free Jvm.Stand Jvm.LawKit Jvm.RoadKit Bundle Jvm.Pilot.@@N@@.Jvm.D
/-! the walk's own layer (wide form): Go = "from here the body returns, and Q"; String constants may be loaded on the way -/
abbrev Cx : Type := Program × Env × State × MethodId × Array Value × List Frame × Method × Code
def Wds (Z : State) : Prop := ∃ a0 : Array Value, (∀ d ∈ tables_1, d.before a0 Z = true) ∧ EW Z a0 consts_1 ∧ ∀ a ∈ Bundle.stringAtoms, a.before a0 Z = true
theorem Wds.w {Z : State} (W : Wds Z) : ∃ a0 : Array Value, ∀ d ∈ tables_1, d.before a0 Z = true := by obtain ⟨a0, h, -⟩ := W; exact ⟨a0, h⟩
def Ok (Z : State) (K : Cx) (own : String) (bytes : ByteArray) (maxL : Nat) (ret : Option FieldType) (nm : String) : Prop :=
  match K with
  | (p, e, s, m, args, below, meth, c) => p.tables.exec = Jvm.exec ∧ c.code = bytes ∧ c.maxLocals = maxL ∧ meth.sig.returnType = ret ∧ s.vm.findClass own = some m.cls ∧ Z.Warmed39 s.vm ∧ meth.name = nm ∧ meth.locks = false ∧ Wds Z
abbrev Sfs (Z : State) (vm : Vm) (h : Heap) (sf : List Addr) : Prop := ∀ x ∈ sf, x < h.size ∧ Safe Z consts_1 vm h x
abbrev Fnl (Z : State) (n0 : Nat) (Q : Option Value → Heap → List Addr → Prop) (v : Option Value) (t : State) (L : List Loc) : Prop := (∃ sn, Q v t.heap sn ∧ Sfs Z t.vm t.heap sn) ∧ Fr n0 L ∧ Old Z n0 t.heap
def Go (l : Launch) (Z : State) (n0 : Nat) (R : Room) (K : Cx) (Q : Option Value → Heap → List Addr → Prop) (h : Heap) (sf : List Addr) (k j : Nat) (pc : Nat) (ls : Array Slot) (st : List Value) : Prop :=
  match K with
  | (p, e, s, m, args, below, meth, c) => ∀ (vm0 : Vm) (k0 : Nat) (T : State) (locs : List Loc), Stand p l e R (s.setVm vm0) m args below meth c T locs k j → T.heap = h → s.Since vm0 k0 → k0 ≤ h.size → CHr Z consts_1 s.vm s.heap vm0 h → Sfs Z vm0 h sf → Fr n0 locs → Old Z n0 h →
      ∃ (s₂ : State) (o : Outcome), Steps p.tables e below (T.setTop (mkF m pc ls st)) s₂ ∧ s₂.status = .running ∧ Ended s₂ below o ∧ ∃ (v : Option Value) (L : List Loc), o = .returned v ∧ Fnl Z n0 Q v s₂ L ∧ CHr Z consts_1 s.vm s.heap s₂.vm s₂.heap ∧ ReturnedEndW s o s₂ L R.cells R.slots
def Ctr (l : Launch) (Z : State) (n0 : Nat) (y : MethodName) (bytes : ByteArray) (maxL : Nat) (ret : Option FieldType) (rm : Room) (as : Array Value) (h : Heap) (sf : List Addr) (Q : Option Value → Heap → List Addr → Prop) : Prop :=
  Old Z n0 h → ∀ ws : List Jvm.Cond, MetFree l y (head1 (Jvm.Cond.code y bytes maxL ret :: ws) rm) (fun a U => a = as ∧ Z.Warmed39 U.vm ∧ U.heap = h ∧ CHv Z consts_1 U.vm h ∧ Sfs Z U.vm h sf) (fun _ _ _ _ _ => True) (fun _ U o U' => ∃ v L, o = .returned v ∧ Fnl Z n0 Q v U' L ∧ CHr Z consts_1 U.vm U.heap U'.vm U'.heap ∧ ReturnedEndW U o U' L rm.cells rm.slots)
section Kit
variable {l : Launch} {Z : State} {n0 : Nat} {R : Room} {K : Cx} {Q : Option Value → Heap → List Addr → Prop} {h : Heap} {sf : List Addr} {k j pc pc' : Nat} {ls : Array Slot} {st : List Value} {own : String} {bytes : ByteArray} {maxL : Nat} {ret : Option FieldType} {nm : String}
theorem Sfs.ext {vm : Vm} {h' : Heap} (E : Ext h h') (H : CHv Z consts_1 vm h) (S : Sfs Z vm h sf) : Sfs Z vm h' sf := fun x q => ⟨Nat.lt_of_lt_of_le (S x q).1 E.1, Safe.ext E H (S x q).2⟩
theorem Sfs.cons {vm : Vm} {a : Addr} (q : a < h.size) (Sa : Safe Z consts_1 vm h a) (S : Sfs Z vm h sf) : Sfs Z vm h (a :: sf) := fun x hx => by
  rcases List.mem_cons.mp hx with rfl | hx
  · exact ⟨q, Sa⟩
  · exact S x hx
theorem Sfs.chr {vm vm' : Vm} {h' : Heap} (A : CHr Z consts_1 vm h vm' h') (S : Sfs Z vm h sf) : Sfs Z vm' h' sf := fun x q => ⟨Nat.lt_of_lt_of_le (S x q).1 A.2.1, A.safe (S x q).1 (S x q).2⟩
theorem Sfs.app {vm : Vm} {sn : List Addr} (S : Sfs Z vm h sn) (S' : Sfs Z vm h sf) : Sfs Z vm h (sn ++ sf) := fun x q => (List.mem_append.mp q).elim (S x) (S' x)
theorem Ctr.of_go {y : MethodName} {rm : Room} {as : Array Value} (W : Wds Z) (hp : plainFor y = true) (hef : ∀ m, entryFrame m as maxL = mkF m 0 ls []) (hgo : ∀ K, Ok Z K y.cls bytes maxL ret y.name → Go l Z n0 rm K Q h sf 0 0 0 ls []) : Ctr l Z n0 y bytes maxL ret rm as h sf Q := fun hO ws => by
  refine MetFree.of_bodySF hp hisR ?_
  intro p e s m args below meth c s₁ Bd hml0 hP hK
  obtain ⟨rfl, hZ, hh, hC, hS⟩ := hP
  have X0 : Stand p l e rm (s.setVm s.vm) m args below meth c s₁ [] 0 0 := Stand.of_body Bd
  have e0 : s₁.heap = h := by rw [← hh, Bd.state]; rfl
  have hnm := (name_of_methodNamed Bd.named Bd.method).1
  have hlk : meth.locks = false := BodyLoose.notSynchronized Bd
  have hS0 : s.Since s.vm 0 := (State.WarmedH.refl s).since _
  obtain ⟨s₂, o, h1, h2⟩ := hgo (p, e, s, m, args, below, meth, c) ⟨Bd.exec, Bd.bytes, hml0, Bd.returns, findClass_of_methodNamed Bd.named, hZ, hnm, hlk, W⟩ s.vm 0 s₁ [] X0 e0 hS0 (Nat.zero_le _) (by rw [hh]; exact CHr.refl hC) hS (Fr.nil n0) hO
  exact ⟨s₂, o, castTop (hef m) h1, h2⟩
theorem Go.of {ls' : Array Slot} {st' : List Value} (H : Ok Z K own bytes maxL ret nm) (step : ∀ (p : Program) (e : Env) (below : List Frame) (T target : State) (m : MethodId) (c : Code), At T m c below → p.tables.exec = Jvm.exec → c.code = bytes → Steps p.tables e below (T.setTop (mkF m pc' ls' st')) target → Steps p.tables e below (T.setTop (mkF m pc ls st)) target) (r : Go l Z n0 R K Q h sf k j pc' ls' st') : Go l Z n0 R K Q h sf k j pc ls st := by
  obtain ⟨p, e, s, m, args, below, meth, c⟩ := K
  intro vm0 k0 T locs X eT hS hk hC hSf hF hO
  obtain ⟨s₂, o, h1, h2⟩ := r vm0 k0 T locs X eT hS hk hC hSf hF hO
  exact ⟨s₂, o, step p e below T s₂ m c X.here H.1 H.2.1 h1, h2⟩
/-- a step that keeps the heap and may warm the tables -/
theorem Go.of2 {st' : List Value} (H : Ok Z K own bytes maxL ret nm) (step : ∀ (p : Program) (e : Env) (s : State) (m : MethodId) (args : Array Value) (below : List Frame) (meth : Method) (c : Code) (T : State) (locs : List Loc) (a0 : Array Value), (∀ d ∈ tables_1, d.before a0 Z = true) → Stand p l e R s m args below meth c T locs k j → p.tables.exec = Jvm.exec → c.code = bytes → c.maxLocals = maxL → Z.Warmed39 s.vm → s.vm.findClass own = some m.cls → T.heap = h → Old Z n0 h →
      ∃ T', Stand p l e R s m args below meth c T' locs k j ∧ T'.heap = h ∧ ∀ target, Steps p.tables e below (T'.setTop (mkF m pc' ls st')) target → Steps p.tables e below (T.setTop (mkF m pc ls st)) target) (r : Go l Z n0 R K Q h sf k j pc' ls st') : Go l Z n0 R K Q h sf k j pc ls st := by
  obtain ⟨p, e, s, m, args, below, meth, c⟩ := K
  intro vm0 k0 T locs X eT hS hk hC hSf hF hO
  obtain ⟨H1, H2, H3, H4, H5, H6, H7, H8, a0, hw, hEL, hat⟩ := H
  obtain ⟨T', X', eT', st⟩ := step p e (s.setVm vm0) m args below meth c T locs a0 hw X H1 H2 H3 (State.Warmed39.trans H6 hS.1) ((hS.1.alike.findClass _ _).trans H5) eT hO
  obtain ⟨s₂, o, h1, h2⟩ := r vm0 k0 T' locs X' eT' hS hk hC hSf hF hO
  exact ⟨s₂, o, st _ h1, h2⟩
/-- a step that makes cells -/
theorem Go.ofNew {st' : List Value} {dk dj : Nat} {P : Addr → Heap → Prop} (H : Ok Z K own bytes maxL ret nm) (step : ∀ (p : Program) (e : Env) (s : State) (m : MethodId) (args : Array Value) (below : List Frame) (meth : Method) (c : Code) (T : State) (locs : List Loc) (a0 : Array Value), (∀ d ∈ tables_1, d.before a0 Z = true) → Stand p l e R s m args below meth c T locs k j → p.tables.exec = Jvm.exec → c.code = bytes → Z.Warmed39 s.vm → s.vm.findClass own = some m.cls → T.heap = h →
      ∃ T' h', Stand p l e R s m args below meth c T' locs (k + dk) (j + dj) ∧ T'.heap = h' ∧ Ext h h' ∧ P h.size h' ∧ ∀ target, Steps p.tables e below (T'.setTop (mkF m pc' ls (.ref h.size :: st'))) target → Steps p.tables e below (T.setTop (mkF m pc ls st)) target)
    (hnew : ∀ a h', P a h' → a < h'.size)
    (r : ∀ (a : Addr) (h' : Heap), a = h.size → n0 ≤ a → Ext h h' → P a h' → Go l Z n0 R K Q h' (a :: sf) (k + dk) (j + dj) pc' ls (.ref a :: st')) : Go l Z n0 R K Q h sf k j pc ls st := by
  obtain ⟨p, e, s, m, args, below, meth, c⟩ := K
  intro vm0 k0 T locs X eT hS hk hC hSf hF hO
  obtain ⟨H1, H2, H3, H4, H5, H6, H7, H8, a0, hw, hEL, hat⟩ := H
  obtain ⟨T', h', X', eT', E, hP, st⟩ := step p e (s.setVm vm0) m args below meth c T locs a0 hw X H1 H2 (State.Warmed39.trans H6 hS.1) ((hS.1.alike.findClass _ _).trans H5) eT
  obtain ⟨s₂, o, h1, h2⟩ := r h.size h' rfl (hO.1 ▸ hO.2.1) E hP vm0 k0 T' locs X' eT' hS (Nat.le_trans hk E.1) (hC.trans (CHr.ext E hC.1)) ((hSf.ext E hC.1).cons (hnew _ _ hP) (Safe.ext E hC.1 (Safe.new (Nat.le_refl _)))) hF (hO.ext E)
  exact ⟨s₂, o, st _ h1, h2⟩
/-- a step that writes one slot of a cell that is new since n0 -/
theorem Go.ofWr {st' : List Value} {a : Addr} {sl : Nat} {v : Value} (H : Ok Z K own bytes maxL ret nm) (ha : n0 ≤ a) (hs : a ∈ sf) (step : ∀ (p : Program) (e : Env) (s : State) (m : MethodId) (args : Array Value) (below : List Frame) (meth : Method) (c : Code) (T : State) (locs : List Loc) (a0 : Array Value), (∀ d ∈ tables_1, d.before a0 Z = true) → Stand p l e R s m args below meth c T locs k j → p.tables.exec = Jvm.exec → c.code = bytes → Z.Warmed39 s.vm → s.vm.findClass own = some m.cls → meth.name = nm → T.heap = h →
      ∃ T' h', Stand p l e R s m args below meth c T' (locs ++ [⟨a, sl⟩]) k j ∧ T'.heap = h' ∧ Wr h h' a sl v ∧ ∀ target, Steps p.tables e below (T'.setTop (mkF m pc' ls st')) target → Steps p.tables e below (T.setTop (mkF m pc ls st)) target)
    (r : ∀ (h' : Heap), Wr h h' a sl v → Go l Z n0 R K Q h' sf k j pc' ls st') : Go l Z n0 R K Q h sf k j pc ls st := by
  obtain ⟨p, e, s, m, args, below, meth, c⟩ := K
  intro vm0 k0 T locs X eT hS hk hC hSf hF hO
  obtain ⟨H1, H2, H3, H4, H5, H6, H7, H8, a0, hw, hEL, hat⟩ := H
  obtain ⟨T', h', X', eT', W, st⟩ := step p e (s.setVm vm0) m args below meth c T locs a0 hw X H1 H2 (State.Warmed39.trans H6 hS.1) ((hS.1.alike.findClass _ _).trans H5) H7 eT
  have hsz := W.size
  obtain ⟨s₂, o, h1, h2⟩ := r h' W vm0 k0 T' _ X' eT' hS (by rw [hsz]; exact hk) (hC.trans (CHr.wr W (hSf a hs).2 hC.1)) (fun x q => ⟨by rw [hsz]; exact (hSf x q).1, Safe.wr W (hSf a hs).2 hC.1 (hSf x q).2⟩) (Fr.snoc X' hF ha) (hO.wr W ha)
  exact ⟨s₂, o, st _ h1, h2⟩
/-- a step that may write any slots of one cell that is new since n0 -/
theorem Go.ofKeep {st' : List Value} {b : Addr} {P : Heap → Prop} (H : Ok Z K own bytes maxL ret nm) (ha : n0 ≤ b) (hs : b ∈ sf) (step : ∀ (p : Program) (e : Env) (s : State) (m : MethodId) (args : Array Value) (below : List Frame) (meth : Method) (c : Code) (T : State) (locs : List Loc) (a0 : Array Value), (∀ d ∈ tables_1, d.before a0 Z = true) → Stand p l e R s m args below meth c T locs k j → p.tables.exec = Jvm.exec → c.code = bytes → c.maxLocals = maxL → Z.Warmed39 s.vm → s.vm.findClass own = some m.cls → T.heap = h → Fr n0 locs →
      ∃ T' h' L, Stand p l e R s m args below meth c T' L k j ∧ T'.heap = h' ∧ Fr n0 L ∧ Keep h h' [b] ∧ P h' ∧ ∀ target, Steps p.tables e below (T'.setTop (mkF m pc' ls st')) target → Steps p.tables e below (T.setTop (mkF m pc ls st)) target)
    (r : ∀ (h' : Heap), Keep h h' [b] → P h' → Go l Z n0 R K Q h' sf k j pc' ls st') : Go l Z n0 R K Q h sf k j pc ls st := by
  obtain ⟨p, e, s, m, args, below, meth, c⟩ := K
  intro vm0 k0 T locs X eT hS hk hC hSf hF hO
  obtain ⟨H1, H2, H3, H4, H5, H6, H7, H8, a0, hw, hEL, hat⟩ := H
  obtain ⟨T', h', L, X', eT', hL, hK, hP, st⟩ := step p e (s.setVm vm0) m args below meth c T locs a0 hw X H1 H2 H3 (State.Warmed39.trans H6 hS.1) ((hS.1.alike.findClass _ _).trans H5) eT hF
  have hsafe : ∀ x ∈ [b], Safe Z consts_1 vm0 h x := allS (hSf b hs).2 all0
  obtain ⟨s₂, o, h1, h2⟩ := r h' hK hP vm0 k0 T' L X' eT' hS (Nat.le_trans hk hK.1) (hC.trans (CHr.keep hK hsafe hC.1)) (fun x q => ⟨Nat.lt_of_lt_of_le (hSf x q).1 hK.1, Safe.keep hK hsafe hC.1 (hSf x q).2⟩) hL (hO.keep hK (allS ha all0))
  exact ⟨s₂, o, st _ h1, h2⟩
theorem Ctr.backS {p : Program} {e : Env} {s : State} {args : Array Value} {below : List Frame} {vm0 : Vm} {a0 : Array Value} {y : MethodName} {ybytes : ByteArray} {ymaxL : Nat} {yret : Option FieldType} {rm : Room} {as : Array Value} {Qc : Option Value → Heap → List Addr → Prop} {sfc : List Addr} {W : Nat} (ct : Ctr l Z n0 y ybytes ymaxL yret rm as h sfc Qc) (hO : Old Z n0 h)
    (hZ : Z.Warmed39 vm0) (hEL : EW Z a0 consts_1) (hC : CHv Z consts_1 vm0 h) (hSf : Sfs Z vm0 h sfc) (wc : (Jvm.Cond.code y ybytes ymaxL yret).before a0 Z = true) (wz : (Jvm.Cond.initialized y.cls).before a0 Z = true) (hfr : rm.frames + 1 ≤ R.frames) (hlo : W + (ymaxL + 11) + rm.locals ≤ R.locals) :
    BackS l R p e below (s.setVm vm0) args y 3 W (fun A a => a = as ∧ A.U.heap = h ∧ A.cells + rm.cells ≤ R.cells ∧ A.slots + rm.slots ≤ R.slots)
      (fun A _ v B => ∃ L, Fnl Z n0 Qc v B.U L ∧ B.locs = A.locs ++ L ∧ B.cells = A.cells + rm.cells ∧ B.slots = A.slots + rm.slots ∧ CHr Z consts_1 vm0 h B.U.vm B.U.heap) := by
  refine BackS.of_freeW (bytes := ybytes) (maxL := ymaxL) (ret := yret) (E := fun _ U o t L k n => (k = rm.cells ∧ n = rm.slots) ∧ (∃ v, o = .returned v ∧ Fnl Z n0 Qc v t L) ∧ CHr Z consts_1 U.vm U.heap t.vm t.heap) (ct hO []) hfr hlo ?_ ?_ (fun _ _ _ _ _ _ _ _ _ => trivial) ?_ ?_
  · intro m meth c A a Y hp
    have hU : Z.Warmed39 A.U.vm := wtrans (s := s.setVm vm0) hZ Y.warmed
    exact ⟨by show (Jvm.Cond.and _ .tt).before a A.U = true; rw [Cond.before_and, mv hU wc]; rfl, mv hU wc, mv hU wz, hp.2.2.1, hp.2.2.2⟩
  · intro m meth c A a g mk Y hp
    have q := CHv.at Y hZ hEL hC
    exact ⟨hp.1, wtrans (s := s.setVm vm0) hZ Y.warmed, hp.2.1, q.1, hSf.chr q⟩
  · rintro a U o t ⟨v, L, h1, h2, h3, h4⟩
    exact ⟨L, _, _, h4, ⟨rfl, rfl⟩, ⟨v, h1, h2⟩, h3⟩
  · rintro m meth c A a g mk v t L k n Y hp - - ⟨⟨rfl, rfl⟩, ⟨v', e3, e4⟩, e5⟩
    cases e3
    refine ⟨L, e4, rfl, rfl, rfl, (CHv.at Y hZ hEL hC).trans ?_⟩
    rw [← hp.2.1]; exact e5
/-- a call, by whatever law of calls -/
theorem Go.ofCall {y : MethodName} {ybytes : ByteArray} {ymaxL : Nat} {yret : Option FieldType} {rm : Room} {as : Array Value} {Qc : Option Value → Heap → List Addr → Prop} {sfc : List Addr} {rest : List Value} {W : Nat} (H : Ok Z K own bytes maxL ret nm) (ct : Ctr l Z n0 y ybytes ymaxL yret rm as h sfc Qc) (hsf : ∀ x ∈ sfc, x ∈ sf)
    (hc : Jvm.Cond.code y ybytes ymaxL yret ∈ tables_1) (hi : Jvm.Cond.initialized y.cls ∈ tables_1) (hfr : rm.frames + 1 ≤ R.frames) (hlo : W + (ymaxL + 11) + rm.locals ≤ R.locals) (hce : k + rm.cells ≤ R.cells) (hsl : j + rm.slots ≤ R.slots)
    (law : ∀ (p : Program) (e : Env) (s : State) (m : MethodId) (args : Array Value) (below : List Frame) (meth : Method) (c : Code) (T : State) (locs : List Loc) (a0 : Array Value), (∀ d ∈ tables_1, d.before a0 Z = true) → Stand p l e R s m args below meth c T locs k j → p.tables.exec = Jvm.exec → c.code = bytes → c.maxLocals = maxL → Z.Warmed39 s.vm → s.vm.findClass own = some m.cls → T.heap = h →
      ∀ (Pre : Pt → Array Value → Prop) (Post : Pt → Array Value → Option Value → Pt → Prop), BackS l R p e below s args y 3 W Pre Post → (∀ vm₁, s.WarmedH vm₁ → Pre ⟨T.setVm vm₁, locs, k, j⟩ as) →
      ∃ (v : Option Value) (vm₁ : Vm) (B : Pt), Stand p l e R (s.setVm B.U.vm) m args below meth c B.U B.locs B.cells B.slots ∧ s.Since B.U.vm B.U.heap.size ∧ T.heap.size ≤ B.U.heap.size ∧ Post ⟨T.setVm vm₁, locs, k, j⟩ as v B ∧ ∀ target, Steps p.tables e below (B.U.setTop (mkF m pc' ls (v.toList ++ rest))) target → Steps p.tables e below (T.setTop (mkF m pc ls st)) target)
    (r : ∀ (v : Option Value) (h' : Heap) (sn : List Addr), Qc v h' sn → Go l Z n0 R K Q h' (sn ++ sf) (k + rm.cells) (j + rm.slots) pc' ls (v.toList ++ rest)) : Go l Z n0 R K Q h sf k j pc ls st := by
  obtain ⟨p, e, s, m, args, below, meth, c⟩ := K
  intro vm0 k0 T locs X eT hS hk hC hSf hF hO
  obtain ⟨H1, H2, H3, H4, H5, H6, H7, H8, a0, hw, hEL, hat⟩ := H
  have hZ0 : Z.Warmed39 (s.setVm vm0).vm := State.Warmed39.trans H6 hS.1
  have hown0 : (s.setVm vm0).vm.findClass own = some m.cls := (hS.1.alike.findClass _ _).trans H5
  have hB := Ctr.backS (p := p) (e := e) (s := s) (args := args) (below := below) (R := R) (W := W) (vm0 := vm0) ct hO hZ0 hEL hC.1 (fun x q => hSf x (hsf x q)) (hw _ hc) (hw _ hi) hfr hlo
  obtain ⟨v, vm₁, B, X', hS2, hgr, ⟨L, ⟨⟨sn, hq, hsn⟩, hFL, hO'⟩, e1, e2, e3, e4⟩, stp⟩ := law p e (s.setVm vm0) m args below meth c T locs a0 hw X H1 H2 H3 hZ0 hown0 eT _ _ hB (fun vm₁ _ => ⟨rfl, eT, hce, hsl⟩)
  obtain ⟨U, Lc, kc, jc⟩ := B
  dsimp only [Pt.U, Pt.locs, Pt.cells, Pt.slots] at X' hS2 hgr hq hsn hO' e1 e2 e3 e4 stp
  subst e1 e2 e3
  rw [eT] at hgr
  obtain ⟨X2, hS3, -, -⟩ := rebS hS hk X' hS2 hgr hZ0 hown0
  obtain ⟨s₂, o, h1, h2⟩ := r v _ sn hq U.vm _ U _ X2 rfl hS3 (Nat.le_refl _) (hC.trans e4) (hsn.app (hSf.chr e4)) (hF.app hFL) hO'
  exact ⟨s₂, o, stp _ h1, h2⟩
theorem Go.callS {y : MethodName} {ybytes : ByteArray} {ymaxL : Nat} {yret : Option FieldType} {rm : Room} {Qc : Option Value → Heap → List Addr → Prop} {sfc : List Addr} {rest : List Value} (W : Nat) {idx : Nat} (argsL : List Value) {ps : List FieldType} {rt : Option FieldType} (H : Ok Z K own bytes maxL ret nm) (d : decode bytes pc = .ok (.invokestatic idx, 3)) (hp : pc + 3 = pc')
    (hl : Jvm.Cond.methodLink own idx y ∈ tables_1) (hst : Jvm.Cond.static y ∈ tables_1) (hi : Jvm.Cond.initialized y.cls ∈ tables_1) (hc : Jvm.Cond.code y ybytes ymaxL yret ∈ tables_1) (hpd : parseMethodDescriptor y.desc = some ⟨ps, rt⟩)
    (ct : Ctr l Z n0 y ybytes ymaxL yret rm argsL.toArray h sfc Qc) (hsf : ∀ x ∈ sfc, x ∈ sf) (hlen : argsL.length = ps.length) (hsz : ls.size = maxL) (hstk : st = argsL.reverse ++ rest) (hW : (rest.map fun v => v.category).sum ≤ W)
    (hfr : rm.frames + 1 ≤ R.frames) (hlo : W + (ymaxL + 11) + rm.locals ≤ R.locals) (hce : k + rm.cells ≤ R.cells) (hsl : j + rm.slots ≤ R.slots) (hy : y.cls ≠ "java/lang/invoke/MethodHandle" ∧ y.cls ≠ "java/lang/invoke/VarHandle")
    (r : ∀ (v : Option Value) (h' : Heap) (sn : List Addr), Qc v h' sn → Go l Z n0 R K Q h' (sn ++ sf) (k + rm.cells) (j + rm.slots) pc' ls (v.toList ++ rest)) : Go l Z n0 R K Q h sf k j pc ls st := by
  subst hp
  refine Go.ofCall (W := W) (rest := rest) H ct hsf hc hi hfr hlo hce hsl ?_ r
  intro p e s m args below meth c T locs a0 hw X hx hby hml hZ hown eT Pre Post hB hpre
  obtain ⟨v, vm₁, B, -, X', hS2, hgr, hpost, stp⟩ := Jvm.RoadKit.callSS X hx (y := y) hown (mvT hZ (hw _ hl)) (mvT hZ (hw _ hst)) (mvT hZ (hw _ hi)) (mvT hZ (hw _ hc)) hy hB (g := mkF m pc ls st) rfl (by rw [hml]; exact hsz) (argsL := argsL) (rest := rest) (lenOf hpd hlen) hstk (by show 2 * 0 + _ ≤ _; simpa using hW) (hb hby d) hpre
  exact ⟨v, vm₁, B, X', hS2, hgr, hpost, fun t ht => stp.trans ht⟩
theorem Go.callI {y : MethodName} {ybytes : ByteArray} {ymaxL : Nat} {rm : Room} {Qc : Option Value → Heap → List Addr → Prop} {sfc : List Addr} {rest : List Value} (W : Nat) {idx : Nat} {a : Addr} (argsL : List Value) {ps : List FieldType} {rt : Option FieldType} (H : Ok Z K own bytes maxL ret nm) (d : decode bytes pc = .ok (.invokespecial idx, 3)) (hp : pc + 3 = pc') (hy1 : y.name = "<init>")
    (hl : Jvm.Cond.methodLink own idx y ∈ tables_1) (hst : Jvm.Cond.instanceMethod y ∈ tables_1) (hi : Jvm.Cond.initialized y.cls ∈ tables_1) (hc : Jvm.Cond.code y ybytes ymaxL none ∈ tables_1) (hpd : parseMethodDescriptor y.desc = some ⟨ps, rt⟩)
    (ct : Ctr l Z n0 y ybytes ymaxL none rm (.ref a :: argsL).toArray h sfc Qc) (hsf : ∀ x ∈ sfc, x ∈ sf) (hlen : argsL.length = ps.length) (hsz : ls.size = maxL) (hstk : st = argsL.reverse ++ .ref a :: rest) (hW : (rest.map fun v => v.category).sum ≤ W)
    (hfr : rm.frames + 1 ≤ R.frames) (hlo : W + (ymaxL + 11) + rm.locals ≤ R.locals) (hce : k + rm.cells ≤ R.cells) (hsl : j + rm.slots ≤ R.slots) (hy : y.cls ≠ "java/lang/invoke/MethodHandle" ∧ y.cls ≠ "java/lang/invoke/VarHandle")
    (r : ∀ (v : Option Value) (h' : Heap) (sn : List Addr), Qc v h' sn → Go l Z n0 R K Q h' (sn ++ sf) (k + rm.cells) (j + rm.slots) pc' ls (v.toList ++ rest)) : Go l Z n0 R K Q h sf k j pc ls st := by
  subst hp
  refine Go.ofCall (W := W) (rest := rest) H ct hsf hc hi hfr hlo hce hsl ?_ r
  intro p e s m args below meth c T locs a0 hw X hx hby hml hZ hown eT Pre Post hB hpre
  obtain ⟨v, vm₁, B, -, X', hS2, hgr, hpost, stp⟩ := X.specialBackS hx (y := y) hy1 hown (mvT hZ (hw _ hl)) (mvT hZ (hw _ hst)) (mvT hZ (hw _ hc)) hy hB (g := mkF m pc ls st) rfl (by rw [hml]; exact hsz) (Steps.refl _) (a := a) (argsL := argsL) (rest := rest) (lenOf hpd hlen) hstk (by show 2 * 0 + _ ≤ _; simpa using hW) (hb hby d) hpre
  exact ⟨v, vm₁, B, X', hS2, hgr, hpost, fun t ht => stp.trans ht⟩
theorem Go.callV {y : MethodName} {C : String} {ybytes : ByteArray} {ymaxL : Nat} {yret : Option FieldType} {rm : Room} {Qc : Option Value → Heap → List Addr → Prop} {sfc : List Addr} {rest : List Value} (W : Nat) {idx : Nat} {a : Addr} (argsL : List Value) {ps : List FieldType} {rt : Option FieldType} (H : Ok Z K own bytes maxL ret nm) (d : decode bytes pc = .ok (.invokevirtual idx, 3)) (hp : pc + 3 = pc') (E : Exa Z h a C)
    (hl : Jvm.Cond.methodLink own idx y ∈ tables_1) (hde : Jvm.Cond.declares y ∈ tables_1) (hse : Jvm.Cond.selects C y y ∈ tables_1) (hst : Jvm.Cond.instanceMethod y ∈ tables_1) (hi : Jvm.Cond.initialized y.cls ∈ tables_1) (hc : Jvm.Cond.code y ybytes ymaxL yret ∈ tables_1) (hpd : parseMethodDescriptor y.desc = some ⟨ps, rt⟩)
    (ct : Ctr l Z n0 y ybytes ymaxL yret rm (.ref a :: argsL).toArray h sfc Qc) (hsf : ∀ x ∈ sfc, x ∈ sf) (hlen : argsL.length = ps.length) (hsz : ls.size = maxL) (hstk : st = argsL.reverse ++ .ref a :: rest) (hW : (rest.map fun v => v.category).sum ≤ W)
    (hfr : rm.frames + 1 ≤ R.frames) (hlo : W + (ymaxL + 11) + rm.locals ≤ R.locals) (hce : k + rm.cells ≤ R.cells) (hsl : j + rm.slots ≤ R.slots) (hy : y.cls ≠ "java/lang/invoke/MethodHandle" ∧ y.cls ≠ "java/lang/invoke/VarHandle")
    (r : ∀ (v : Option Value) (h' : Heap) (sn : List Addr), Qc v h' sn → Go l Z n0 R K Q h' (sn ++ sf) (k + rm.cells) (j + rm.slots) pc' ls (v.toList ++ rest)) : Go l Z n0 R K Q h sf k j pc ls st := by
  subst hp
  refine Go.ofCall (W := W) (rest := rest) H ct hsf hc hi hfr hlo hce hsl ?_ r
  intro p e s m args below meth c T locs a0 hw X hx hby hml hZ hown eT Pre Post hB hpre
  obtain ⟨cq, kq, qa, qb, qc⟩ := isOf hZ eT E
  obtain ⟨v, vm₁, B, -, X', hS2, hgr, hpost, stp⟩ := X.virtualBackS hx (y := y) (z := y) hown (mvT hZ (hw _ hl)) (mvT hZ (hw _ hde)) (notFace_of_selects (args := #[]) (mvT hZ (hw _ hse))) (mvT hZ (hw _ hse)) (mvT hZ (hw _ hst)) hy hB qa qc (g := mkF m pc ls st) rfl (by rw [hml]; exact hsz) (Steps.refl _) (argsL := argsL) (rest := rest) (lenOf hpd hlen) hstk (by show 2 * 0 + _ ≤ _; simpa using hW) (hb hby d) hpre
  exact ⟨v, vm₁, B, X', hS2, hgr, hpost, fun t ht => stp.trans ht⟩
theorem Go.ret0 {sn : List Addr} {v : Option Value} (H : Ok Z K own bytes maxL ret nm) (hv : ret = none → v = none) (hq : Q v h sn) (hs : ∀ x ∈ sn, x ∈ sf) (hk : k ≤ R.cells) (hj : j ≤ R.slots)
    (step : ∀ (p : Program) (e : Env) (s : State) (m : MethodId) (args : Array Value) (below : List Frame) (meth : Method) (c : Code) (T : State) (locs : List Loc) (fs : List Frame), Stand p l e R s m args below meth c T locs k j → p.tables.exec = Jvm.exec → c.code = bytes → meth.sig.returnType = ret →
      (∀ (f : JFrame) (acts : List Action), f.method = m → f.locked = none → f.entered = [] → (doReturn e (T.setTop f) acts v).1 = T.setFrames fs) → Steps p.tables e below (T.setTop (mkF m pc ls st)) (T.setFrames fs)) : Go l Z n0 R K Q h sf k j pc ls st := by
  obtain ⟨p, e, s, m, args, below, meth, c⟩ := K
  intro vm0 k0 T locs X eT hS hk0 hC hSf hF hO
  obtain ⟨H1, H2, H3, H4, H5, H6, H7, H8, a0, hw, hEL, hat⟩ := H
  have hZ0 : Z.Warmed39 vm0 := State.Warmed39.trans H6 hS.1
  obtain ⟨fs, hr, hrun, hended, g1, g2, g3, g4⟩ := X.leaveW hS (by rw [eT]; exact hk0) (v := v) (fun q => hv (H4.symm.trans q)) H8
  have q := CHv.at X hZ0 hEL hC.1
  have hCe : CHr Z consts_1 s.vm s.heap T.vm T.heap := by rw [eT]; exact hC.trans q
  refine ⟨_, _, step p e (s.setVm vm0) m args below meth c T locs fs X H1 H2 H4 hr, hrun, hended, v, locs, rfl, ⟨⟨sn, ?_, ?_⟩, hF, ?_⟩, hCe, ⟨g1, g2, g3, g4.mono hk hj⟩⟩
  · show Q v T.heap sn
    rw [eT]; exact hq
  · show Sfs Z T.vm T.heap sn
    rw [eT]; exact Sfs.chr q (fun x hx => hSf x (hs x hx))
  · show Old Z n0 T.heap
    rw [eT]; exact hO
end Kit
section Steps1
variable {l : Launch} {Z : State} {n0 : Nat} {R : Room} {K : Cx} {Q : Option Value → Heap → List Addr → Prop} {h : Heap} {sf : List Addr} {k j pc pc' : Nat} {ls ls' : Array Slot} {st : List Value} {own : String} {bytes : ByteArray} {maxL : Nat} {ret : Option FieldType} {nm : String}
theorem Go.aload {i : Nat} {v : Value} (H : Ok Z K own bytes maxL ret nm) (d : decode bytes pc = .ok (.aload i, 2)) (hp : pc + 2 = pc') (hl : ls[i]? = some (.val v)) (hv : v.isRef = true) (r : Go l Z n0 R K Q h sf k j pc' ls (v :: st)) : Go l Z n0 R K Q h sf k j pc ls st := by
  subst hp
  exact Go.of H (fun p e below T t m c hA hx hby hr => XS.aload hA hx rfl (hb hby d) hl hv hr) r
theorem Go.aloadN {i : Fin 4} {v : Value} (H : Ok Z K own bytes maxL ret nm) (d : decode bytes pc = .ok (.aload_n i, 1)) (hp : pc + 1 = pc') (hl : ls[i.val]? = some (.val v)) (hv : v.isRef = true) (r : Go l Z n0 R K Q h sf k j pc' ls (v :: st)) : Go l Z n0 R K Q h sf k j pc ls st := by
  subst hp
  exact Go.of H (fun p e below T t m c hA hx hby hr => XS.aloadN hA hx rfl (hb hby d) hl hv hr) r
theorem Go.iload {i : Nat} {v : Int32} (H : Ok Z K own bytes maxL ret nm) (d : decode bytes pc = .ok (.iload i, 2)) (hp : pc + 2 = pc') (hl : ls[i]? = some (.val (.int v))) (r : Go l Z n0 R K Q h sf k j pc' ls (.int v :: st)) : Go l Z n0 R K Q h sf k j pc ls st := by
  subst hp
  exact Go.of H (fun p e below T t m c hA hx hby hr => XS.iload hA hx rfl (hb hby d) hl hr) r
theorem Go.iloadN {i : Fin 4} {v : Int32} (H : Ok Z K own bytes maxL ret nm) (d : decode bytes pc = .ok (.iload_n i, 1)) (hp : pc + 1 = pc') (hl : ls[i.val]? = some (.val (.int v))) (r : Go l Z n0 R K Q h sf k j pc' ls (.int v :: st)) : Go l Z n0 R K Q h sf k j pc ls st := by
  subst hp
  exact Go.of H (fun p e below T t m c hA hx hby hr => XS.iloadN hA hx rfl (hb hby d) hl hr) r
theorem Go.lload {i : Nat} {v : Int64} (H : Ok Z K own bytes maxL ret nm) (d : decode bytes pc = .ok (.lload i, 2)) (hp : pc + 2 = pc') (hl : ls[i]? = some (.val (.long v))) (r : Go l Z n0 R K Q h sf k j pc' ls (.long v :: st)) : Go l Z n0 R K Q h sf k j pc ls st := by
  subst hp
  exact Go.of H (fun p e below T t m c hA hx hby hr => XS.lload hA hx rfl (hb hby d) hl hr) r
theorem Go.lloadN {i : Fin 4} {v : Int64} (H : Ok Z K own bytes maxL ret nm) (d : decode bytes pc = .ok (.lload_n i, 1)) (hp : pc + 1 = pc') (hl : ls[i.val]? = some (.val (.long v))) (r : Go l Z n0 R K Q h sf k j pc' ls (.long v :: st)) : Go l Z n0 R K Q h sf k j pc ls st := by
  subst hp
  exact Go.of H (fun p e below T t m c hA hx hby hr => XS.lloadN hA hx rfl (hb hby d) hl hr) r
theorem Go.istore {i : Nat} {x : Int32} (H : Ok Z K own bytes maxL ret nm) (d : decode bytes pc = .ok (.istore i, 2)) (hp : pc + 2 = pc') (hl : storeLocals ls i (.int x) = some ls') (r : Go l Z n0 R K Q h sf k j pc' ls' st) : Go l Z n0 R K Q h sf k j pc ls (.int x :: st) := by
  subst hp
  exact Go.of H (fun p e below T t m c hA hx hby hr => XS.istore hA hx rfl (hb hby d) rfl hl hr) r
theorem Go.istoreN {i : Fin 4} {x : Int32} (H : Ok Z K own bytes maxL ret nm) (d : decode bytes pc = .ok (.istore_n i, 1)) (hp : pc + 1 = pc') (hl : storeLocals ls i.val (.int x) = some ls') (r : Go l Z n0 R K Q h sf k j pc' ls' st) : Go l Z n0 R K Q h sf k j pc ls (.int x :: st) := by
  subst hp
  exact Go.of H (fun p e below T t m c hA hx hby hr => XS.istoreN hA hx rfl (hb hby d) rfl hl hr) r
theorem Go.lstore {i : Nat} {x : Int64} (H : Ok Z K own bytes maxL ret nm) (d : decode bytes pc = .ok (.lstore i, 2)) (hp : pc + 2 = pc') (hl : storeLocals ls i (.long x) = some ls') (r : Go l Z n0 R K Q h sf k j pc' ls' st) : Go l Z n0 R K Q h sf k j pc ls (.long x :: st) := by
  subst hp
  exact Go.of H (fun p e below T t m c hA hx hby hr => XS.lstore hA hx rfl (hb hby d) rfl hl hr) r
theorem Go.lstoreN {i : Fin 4} {x : Int64} (H : Ok Z K own bytes maxL ret nm) (d : decode bytes pc = .ok (.lstore_n i, 1)) (hp : pc + 1 = pc') (hl : storeLocals ls i.val (.long x) = some ls') (r : Go l Z n0 R K Q h sf k j pc' ls' st) : Go l Z n0 R K Q h sf k j pc ls (.long x :: st) := by
  subst hp
  exact Go.of H (fun p e below T t m c hA hx hby hr => XS.lstoreN hA hx rfl (hb hby d) rfl hl hr) r
theorem Go.astore {i : Nat} {x : Value} (H : Ok Z K own bytes maxL ret nm) (d : decode bytes pc = .ok (.astore i, 2)) (hp : pc + 2 = pc') (hv : x.isRef = true) (hl : storeLocals ls i x = some ls') (r : Go l Z n0 R K Q h sf k j pc' ls' st) : Go l Z n0 R K Q h sf k j pc ls (x :: st) := by
  subst hp
  exact Go.of H (fun p e below T t m c hA hx hby hr => XS.astore hA hx rfl (hb hby d) rfl hv hl hr) r
theorem Go.astoreN {i : Fin 4} {x : Value} (H : Ok Z K own bytes maxL ret nm) (d : decode bytes pc = .ok (.astore_n i, 1)) (hp : pc + 1 = pc') (hv : x.isRef = true) (hl : storeLocals ls i.val x = some ls') (r : Go l Z n0 R K Q h sf k j pc' ls' st) : Go l Z n0 R K Q h sf k j pc ls (x :: st) := by
  subst hp
  exact Go.of H (fun p e below T t m c hA hx hby hr => XS.astoreN hA hx rfl (hb hby d) rfl hv hl hr) r
theorem Go.iconst {i : Int} (v : Int32) (H : Ok Z K own bytes maxL ret nm) (d : decode bytes pc = .ok (.iconst i, 1)) (hp : pc + 1 = pc') (hv : Int32.ofInt i = v) (r : Go l Z n0 R K Q h sf k j pc' ls (.int v :: st)) : Go l Z n0 R K Q h sf k j pc ls st := by
  subst hp
  exact Go.of H (fun p e below T t m c hA hx hby hr => XS.iconst hA hx rfl (hb hby d) (hv ▸ hr)) r
theorem Go.bipush {i : Int} (v : Int32) (H : Ok Z K own bytes maxL ret nm) (d : decode bytes pc = .ok (.bipush i, 2)) (hp : pc + 2 = pc') (hv : (Int8.ofInt i).toInt32 = v) (r : Go l Z n0 R K Q h sf k j pc' ls (.int v :: st)) : Go l Z n0 R K Q h sf k j pc ls st := by
  subst hp
  exact Go.of H (fun p e below T t m c hA hx hby hr => XS.bipush hA hx rfl (hb hby d) (hv ▸ hr)) r
theorem Go.sipush {i : Int} (v : Int32) (H : Ok Z K own bytes maxL ret nm) (d : decode bytes pc = .ok (.sipush i, 3)) (hp : pc + 3 = pc') (hv : (Int16.ofInt i).toInt32 = v) (r : Go l Z n0 R K Q h sf k j pc' ls (.int v :: st)) : Go l Z n0 R K Q h sf k j pc ls st := by
  subst hp
  exact Go.of H (fun p e below T t m c hA hx hby hr => XS.sipush hA hx rfl (hb hby d) (hv ▸ hr)) r
theorem Go.lconst {i : Fin 2} (v : Int64) (H : Ok Z K own bytes maxL ret nm) (d : decode bytes pc = .ok (.lconst i, 1)) (hp : pc + 1 = pc') (hv : Int64.ofNat i.val = v) (r : Go l Z n0 R K Q h sf k j pc' ls (.long v :: st)) : Go l Z n0 R K Q h sf k j pc ls st := by
  subst hp
  exact Go.of H (fun p e below T t m c hA hx hby hr => XS.lconst hA hx rfl (hb hby d) (hv ▸ hr)) r
theorem Go.aconstNull  (H : Ok Z K own bytes maxL ret nm) (d : decode bytes pc = .ok (.aconst_null, 1)) (hp : pc + 1 = pc')  (r : Go l Z n0 R K Q h sf k j pc' ls (.null :: st)) : Go l Z n0 R K Q h sf k j pc ls st := by
  subst hp
  exact Go.of H (fun p e below T t m c hA hx hby hr => XS.aconstNull hA hx rfl (hb hby d) hr) r
theorem Go.iadd {x y : Int32} (H : Ok Z K own bytes maxL ret nm) (d : decode bytes pc = .ok (.iadd, 1)) (hp : pc + 1 = pc')  (r : Go l Z n0 R K Q h sf k j pc' ls (.int (x + y) :: st)) : Go l Z n0 R K Q h sf k j pc ls (.int y :: .int x :: st) := by
  subst hp
  exact Go.of H (fun p e below T t m c hA hx hby hr => XS.iadd hA hx rfl (hb hby d) rfl hr) r
theorem Go.isub {x y : Int32} (H : Ok Z K own bytes maxL ret nm) (d : decode bytes pc = .ok (.isub, 1)) (hp : pc + 1 = pc')  (r : Go l Z n0 R K Q h sf k j pc' ls (.int (x - y) :: st)) : Go l Z n0 R K Q h sf k j pc ls (.int y :: .int x :: st) := by
  subst hp
  exact Go.of H (fun p e below T t m c hA hx hby hr => XS.isub hA hx rfl (hb hby d) rfl hr) r
theorem Go.imul {x y : Int32} (H : Ok Z K own bytes maxL ret nm) (d : decode bytes pc = .ok (.imul, 1)) (hp : pc + 1 = pc')  (r : Go l Z n0 R K Q h sf k j pc' ls (.int (x * y) :: st)) : Go l Z n0 R K Q h sf k j pc ls (.int y :: .int x :: st) := by
  subst hp
  exact Go.of H (fun p e below T t m c hA hx hby hr => XS.imul hA hx rfl (hb hby d) rfl hr) r
theorem Go.iand {x y : Int32} (H : Ok Z K own bytes maxL ret nm) (d : decode bytes pc = .ok (.iand, 1)) (hp : pc + 1 = pc')  (r : Go l Z n0 R K Q h sf k j pc' ls (.int (x &&& y) :: st)) : Go l Z n0 R K Q h sf k j pc ls (.int y :: .int x :: st) := by
  subst hp
  exact Go.of H (fun p e below T t m c hA hx hby hr => XS.iand hA hx rfl (hb hby d) rfl hr) r
theorem Go.ior {x y : Int32} (H : Ok Z K own bytes maxL ret nm) (d : decode bytes pc = .ok (.ior, 1)) (hp : pc + 1 = pc')  (r : Go l Z n0 R K Q h sf k j pc' ls (.int (x ||| y) :: st)) : Go l Z n0 R K Q h sf k j pc ls (.int y :: .int x :: st) := by
  subst hp
  exact Go.of H (fun p e below T t m c hA hx hby hr => XS.ior hA hx rfl (hb hby d) rfl hr) r
theorem Go.ixor {x y : Int32} (H : Ok Z K own bytes maxL ret nm) (d : decode bytes pc = .ok (.ixor, 1)) (hp : pc + 1 = pc')  (r : Go l Z n0 R K Q h sf k j pc' ls (.int (x ^^^ y) :: st)) : Go l Z n0 R K Q h sf k j pc ls (.int y :: .int x :: st) := by
  subst hp
  exact Go.of H (fun p e below T t m c hA hx hby hr => XS.ixor hA hx rfl (hb hby d) rfl hr) r
theorem Go.ladd {x y : Int64} (H : Ok Z K own bytes maxL ret nm) (d : decode bytes pc = .ok (.ladd, 1)) (hp : pc + 1 = pc')  (r : Go l Z n0 R K Q h sf k j pc' ls (.long (x + y) :: st)) : Go l Z n0 R K Q h sf k j pc ls (.long y :: .long x :: st) := by
  subst hp
  exact Go.of H (fun p e below T t m c hA hx hby hr => XS.ladd hA hx rfl (hb hby d) rfl hr) r
theorem Go.lsub {x y : Int64} (H : Ok Z K own bytes maxL ret nm) (d : decode bytes pc = .ok (.lsub, 1)) (hp : pc + 1 = pc')  (r : Go l Z n0 R K Q h sf k j pc' ls (.long (x - y) :: st)) : Go l Z n0 R K Q h sf k j pc ls (.long y :: .long x :: st) := by
  subst hp
  exact Go.of H (fun p e below T t m c hA hx hby hr => XS.lsub hA hx rfl (hb hby d) rfl hr) r
theorem Go.lmul {x y : Int64} (H : Ok Z K own bytes maxL ret nm) (d : decode bytes pc = .ok (.lmul, 1)) (hp : pc + 1 = pc')  (r : Go l Z n0 R K Q h sf k j pc' ls (.long (x * y) :: st)) : Go l Z n0 R K Q h sf k j pc ls (.long y :: .long x :: st) := by
  subst hp
  exact Go.of H (fun p e below T t m c hA hx hby hr => XS.lmul hA hx rfl (hb hby d) rfl hr) r
theorem Go.land {x y : Int64} (H : Ok Z K own bytes maxL ret nm) (d : decode bytes pc = .ok (.land, 1)) (hp : pc + 1 = pc')  (r : Go l Z n0 R K Q h sf k j pc' ls (.long (x &&& y) :: st)) : Go l Z n0 R K Q h sf k j pc ls (.long y :: .long x :: st) := by
  subst hp
  exact Go.of H (fun p e below T t m c hA hx hby hr => XS.land hA hx rfl (hb hby d) rfl hr) r
theorem Go.lor {x y : Int64} (H : Ok Z K own bytes maxL ret nm) (d : decode bytes pc = .ok (.lor, 1)) (hp : pc + 1 = pc')  (r : Go l Z n0 R K Q h sf k j pc' ls (.long (x ||| y) :: st)) : Go l Z n0 R K Q h sf k j pc ls (.long y :: .long x :: st) := by
  subst hp
  exact Go.of H (fun p e below T t m c hA hx hby hr => XS.lor hA hx rfl (hb hby d) rfl hr) r
theorem Go.lxor {x y : Int64} (H : Ok Z K own bytes maxL ret nm) (d : decode bytes pc = .ok (.lxor, 1)) (hp : pc + 1 = pc')  (r : Go l Z n0 R K Q h sf k j pc' ls (.long (x ^^^ y) :: st)) : Go l Z n0 R K Q h sf k j pc ls (.long y :: .long x :: st) := by
  subst hp
  exact Go.of H (fun p e below T t m c hA hx hby hr => XS.lxor hA hx rfl (hb hby d) rfl hr) r
theorem Go.ishl {x y : Int32} (H : Ok Z K own bytes maxL ret nm) (d : decode bytes pc = .ok (.ishl, 1)) (hp : pc + 1 = pc')  (r : Go l Z n0 R K Q h sf k j pc' ls (.int (x <<< (y &&& 31)) :: st)) : Go l Z n0 R K Q h sf k j pc ls (.int y :: .int x :: st) := by
  subst hp
  exact Go.of H (fun p e below T t m c hA hx hby hr => XS.ishl hA hx rfl (hb hby d) rfl hr) r
theorem Go.ishr {x y : Int32} (H : Ok Z K own bytes maxL ret nm) (d : decode bytes pc = .ok (.ishr, 1)) (hp : pc + 1 = pc')  (r : Go l Z n0 R K Q h sf k j pc' ls (.int (x >>> (y &&& 31)) :: st)) : Go l Z n0 R K Q h sf k j pc ls (.int y :: .int x :: st) := by
  subst hp
  exact Go.of H (fun p e below T t m c hA hx hby hr => XS.ishr hA hx rfl (hb hby d) rfl hr) r
theorem Go.iushr {x y : Int32} (H : Ok Z K own bytes maxL ret nm) (d : decode bytes pc = .ok (.iushr, 1)) (hp : pc + 1 = pc')  (r : Go l Z n0 R K Q h sf k j pc' ls (.int ((x.toUInt32 >>> (y &&& 31).toUInt32).toInt32) :: st)) : Go l Z n0 R K Q h sf k j pc ls (.int y :: .int x :: st) := by
  subst hp
  exact Go.of H (fun p e below T t m c hA hx hby hr => XS.iushr hA hx rfl (hb hby d) rfl hr) r
theorem Go.lshl {x : Int64} {y : Int32} (H : Ok Z K own bytes maxL ret nm) (d : decode bytes pc = .ok (.lshl, 1)) (hp : pc + 1 = pc')  (r : Go l Z n0 R K Q h sf k j pc' ls (.long (x <<< (y &&& 0x3f).toInt64) :: st)) : Go l Z n0 R K Q h sf k j pc ls (.int y :: .long x :: st) := by
  subst hp
  exact Go.of H (fun p e below T t m c hA hx hby hr => XS.lshl hA hx rfl (hb hby d) rfl hr) r
theorem Go.lshr {x : Int64} {y : Int32} (H : Ok Z K own bytes maxL ret nm) (d : decode bytes pc = .ok (.lshr, 1)) (hp : pc + 1 = pc')  (r : Go l Z n0 R K Q h sf k j pc' ls (.long (x >>> (y &&& 0x3f).toInt64) :: st)) : Go l Z n0 R K Q h sf k j pc ls (.int y :: .long x :: st) := by
  subst hp
  exact Go.of H (fun p e below T t m c hA hx hby hr => XS.lshr hA hx rfl (hb hby d) rfl hr) r
theorem Go.lushr {x : Int64} {y : Int32} (H : Ok Z K own bytes maxL ret nm) (d : decode bytes pc = .ok (.lushr, 1)) (hp : pc + 1 = pc')  (r : Go l Z n0 R K Q h sf k j pc' ls (.long ((x.toUInt64 >>> (y &&& 0x3f).toInt64.toUInt64).toInt64) :: st)) : Go l Z n0 R K Q h sf k j pc ls (.int y :: .long x :: st) := by
  subst hp
  exact Go.of H (fun p e below T t m c hA hx hby hr => XS.lushr hA hx rfl (hb hby d) rfl hr) r
theorem Go.idiv {x y : Int32} (H : Ok Z K own bytes maxL ret nm) (d : decode bytes pc = .ok (.idiv, 1)) (hp : pc + 1 = pc') (hy : y ≠ 0) (r : Go l Z n0 R K Q h sf k j pc' ls (.int (x / y) :: st)) : Go l Z n0 R K Q h sf k j pc ls (.int y :: .int x :: st) := by
  subst hp
  exact Go.of H (fun p e below T t m c hA hx hby hr => XS.idiv hA hx rfl (hb hby d) rfl hy hr) r
theorem Go.irem {x y : Int32} (H : Ok Z K own bytes maxL ret nm) (d : decode bytes pc = .ok (.irem, 1)) (hp : pc + 1 = pc') (hy : y ≠ 0) (r : Go l Z n0 R K Q h sf k j pc' ls (.int (x % y) :: st)) : Go l Z n0 R K Q h sf k j pc ls (.int y :: .int x :: st) := by
  subst hp
  exact Go.of H (fun p e below T t m c hA hx hby hr => XS.irem hA hx rfl (hb hby d) rfl hy (by rw [irem_eq_mod x y]; exact hr)) r
theorem Go.ldiv {x y : Int64} (H : Ok Z K own bytes maxL ret nm) (d : decode bytes pc = .ok (.ldiv, 1)) (hp : pc + 1 = pc') (hy : y ≠ 0) (r : Go l Z n0 R K Q h sf k j pc' ls (.long (x / y) :: st)) : Go l Z n0 R K Q h sf k j pc ls (.long y :: .long x :: st) := by
  subst hp
  exact Go.of H (fun p e below T t m c hA hx hby hr => XS.ldiv hA hx rfl (hb hby d) rfl hy hr) r
theorem Go.lrem {x y : Int64} (H : Ok Z K own bytes maxL ret nm) (d : decode bytes pc = .ok (.lrem, 1)) (hp : pc + 1 = pc') (hy : y ≠ 0) (r : Go l Z n0 R K Q h sf k j pc' ls (.long (x % y) :: st)) : Go l Z n0 R K Q h sf k j pc ls (.long y :: .long x :: st) := by
  subst hp
  exact Go.of H (fun p e below T t m c hA hx hby hr => XS.lrem hA hx rfl (hb hby d) rfl hy (by rw [lrem_mod x y]; exact hr)) r
theorem Go.ineg {x : Int32} (H : Ok Z K own bytes maxL ret nm) (d : decode bytes pc = .ok (.ineg, 1)) (hp : pc + 1 = pc')  (r : Go l Z n0 R K Q h sf k j pc' ls (.int (-x) :: st)) : Go l Z n0 R K Q h sf k j pc ls (.int x :: st) := by
  subst hp
  exact Go.of H (fun p e below T t m c hA hx hby hr => XS.ineg hA hx rfl (hb hby d) rfl hr) r
theorem Go.lneg {x : Int64} (H : Ok Z K own bytes maxL ret nm) (d : decode bytes pc = .ok (.lneg, 1)) (hp : pc + 1 = pc')  (r : Go l Z n0 R K Q h sf k j pc' ls (.long (-x) :: st)) : Go l Z n0 R K Q h sf k j pc ls (.long x :: st) := by
  subst hp
  exact Go.of H (fun p e below T t m c hA hx hby hr => XS.lneg hA hx rfl (hb hby d) rfl hr) r
theorem Go.i2c {x : Int32} (H : Ok Z K own bytes maxL ret nm) (d : decode bytes pc = .ok (.i2c, 1)) (hp : pc + 1 = pc')  (r : Go l Z n0 R K Q h sf k j pc' ls (.int (nar .char x) :: st)) : Go l Z n0 R K Q h sf k j pc ls (.int x :: st) := by
  subst hp
  exact Go.of H (fun p e below T t m c hA hx hby hr => XS.i2c hA hx rfl (hb hby d) rfl hr) r
theorem Go.i2b {x : Int32} (H : Ok Z K own bytes maxL ret nm) (d : decode bytes pc = .ok (.i2b, 1)) (hp : pc + 1 = pc')  (r : Go l Z n0 R K Q h sf k j pc' ls (.int (nar .byte x) :: st)) : Go l Z n0 R K Q h sf k j pc ls (.int x :: st) := by
  subst hp
  exact Go.of H (fun p e below T t m c hA hx hby hr => XS.i2b hA hx rfl (hb hby d) rfl hr) r
theorem Go.i2s {x : Int32} (H : Ok Z K own bytes maxL ret nm) (d : decode bytes pc = .ok (.i2s, 1)) (hp : pc + 1 = pc')  (r : Go l Z n0 R K Q h sf k j pc' ls (.int (nar .short x) :: st)) : Go l Z n0 R K Q h sf k j pc ls (.int x :: st) := by
  subst hp
  exact Go.of H (fun p e below T t m c hA hx hby hr => XS.i2s hA hx rfl (hb hby d) rfl hr) r
theorem Go.i2l {x : Int32} (H : Ok Z K own bytes maxL ret nm) (d : decode bytes pc = .ok (.i2l, 1)) (hp : pc + 1 = pc')  (r : Go l Z n0 R K Q h sf k j pc' ls (.long x.toInt64 :: st)) : Go l Z n0 R K Q h sf k j pc ls (.int x :: st) := by
  subst hp
  exact Go.of H (fun p e below T t m c hA hx hby hr => XS.i2l hA hx rfl (hb hby d) rfl hr) r
theorem Go.l2i {x : Int64} (H : Ok Z K own bytes maxL ret nm) (d : decode bytes pc = .ok (.l2i, 1)) (hp : pc + 1 = pc')  (r : Go l Z n0 R K Q h sf k j pc' ls (.int x.toInt32 :: st)) : Go l Z n0 R K Q h sf k j pc ls (.long x :: st) := by
  subst hp
  exact Go.of H (fun p e below T t m c hA hx hby hr => XS.l2i hA hx rfl (hb hby d) rfl hr) r
theorem Go.lcmp {x y : Int64} (H : Ok Z K own bytes maxL ret nm) (d : decode bytes pc = .ok (.lcmp, 1)) (hp : pc + 1 = pc')  (r : Go l Z n0 R K Q h sf k j pc' ls (.int (lcmpW x y) :: st)) : Go l Z n0 R K Q h sf k j pc ls (.long y :: .long x :: st) := by
  subst hp
  exact Go.of H (fun p e below T t m c hA hx hby hr => XS.lcmp hA hx rfl (hb hby d) rfl hr) r
theorem Go.iinc {i : Nat} {cst : Int} {x : Int32} (v : Int32) (H : Ok Z K own bytes maxL ret nm) (d : decode bytes pc = .ok (.iinc i cst, 3)) (hp : pc + 3 = pc') (hl : ls[i]? = some (.val (.int x))) (hv : Int32.ofInt cst = v) (hl' : storeLocals ls i (.int (x + v)) = some ls') (r : Go l Z n0 R K Q h sf k j pc' ls' st) : Go l Z n0 R K Q h sf k j pc ls st := by
  subst hp
  exact Go.of H (fun p e below T t m c hA hx hby hr => XS.iinc hA hx rfl (hb hby d) hl (by rw [hv]; exact hl') hr) r
theorem Go.dup {x : Value} (H : Ok Z K own bytes maxL ret nm) (d : decode bytes pc = .ok (.dup, 1)) (hp : pc + 1 = pc') (hc : x.category = 1) (r : Go l Z n0 R K Q h sf k j pc' ls (x :: x :: st)) : Go l Z n0 R K Q h sf k j pc ls (x :: st) := by
  subst hp
  exact Go.of H (fun p e below T t m c hA hx hby hr => XS.dup hA hx rfl (hb hby d) rfl hc hr) r
theorem Go.pop {x : Value} (H : Ok Z K own bytes maxL ret nm) (d : decode bytes pc = .ok (.pop, 1)) (hp : pc + 1 = pc') (hc : x.category = 1) (r : Go l Z n0 R K Q h sf k j pc' ls st) : Go l Z n0 R K Q h sf k j pc ls (x :: st) := by
  subst hp
  exact Go.of H (fun p e below T t m c hA hx hby hr => XS.pop hA hx rfl (hb hby d) rfl hc hr) r
theorem Go.dupX1 {x y : Value} (H : Ok Z K own bytes maxL ret nm) (d : decode bytes pc = .ok (.dup_x1, 1)) (hp : pc + 1 = pc') (hc : x.category = 1) (hc' : y.category = 1) (r : Go l Z n0 R K Q h sf k j pc' ls (x :: y :: x :: st)) : Go l Z n0 R K Q h sf k j pc ls (x :: y :: st) := by
  subst hp
  exact Go.of H (fun p e below T t m c hA hx hby hr => XT.dupX1 hA hx rfl (hb hby d) rfl hc hc' hr) r
theorem Go.dup2 {x y : Value} (H : Ok Z K own bytes maxL ret nm) (d : decode bytes pc = .ok (.dup2, 1)) (hp : pc + 1 = pc') (hc : x.category = 1) (hc' : y.category = 1) (r : Go l Z n0 R K Q h sf k j pc' ls (x :: y :: x :: y :: st)) : Go l Z n0 R K Q h sf k j pc ls (x :: y :: st) := by
  subst hp
  exact Go.of H (fun p e below T t m c hA hx hby hr => XT.dup2 hA hx rfl (hb hby d) rfl hc hc' hr) r
theorem Go.goto {o : Int} (H : Ok Z K own bytes maxL ret nm) (d : decode bytes pc = .ok (.goto o, 3)) (ho : 0 ≤ (pc : Int) + o) (hp : ((pc : Int) + o).toNat = pc') (r : Go l Z n0 R K Q h sf k j pc' ls st) : Go l Z n0 R K Q h sf k j pc ls st := Go.of H (fun p e below T t m c hA hx hby hr => XS.goto hA hx rfl (pc0 := pc) (pc' := pc') rfl (hb hby d) ho hp hr) r
theorem Go.icmpY {cd : ClassFile.Cond} {x y : Int32} {o : Int} (H : Ok Z K own bytes maxL ret nm) (d : decode bytes pc = .ok (.if_icmp cd o, 3)) (hc : if_icmp.holds cd x y = true) (ho : 0 ≤ (pc : Int) + o) (hp : ((pc : Int) + o).toNat = pc') (r : Go l Z n0 R K Q h sf k j pc' ls st) : Go l Z n0 R K Q h sf k j pc ls (.int y :: .int x :: st) := Go.of H (fun p e below T t m c hA hx hby hr => XS.icmpYes hA hx rfl (pc0 := pc) (pc' := pc') rfl (hb hby d) rfl hc ho hp hr) r
theorem Go.icmpN {cd : ClassFile.Cond} {x y : Int32} {o : Int} (H : Ok Z K own bytes maxL ret nm) (d : decode bytes pc = .ok (.if_icmp cd o, 3)) (hc : if_icmp.holds cd x y = false) (hp : pc + 3 = pc') (r : Go l Z n0 R K Q h sf k j pc' ls st) : Go l Z n0 R K Q h sf k j pc ls (.int y :: .int x :: st) := by
  subst hp
  exact Go.of H (fun p e below T t m c hA hx hby hr => XS.icmpNo hA hx rfl (hb hby d) rfl hc hr) r
theorem Go.ifY {cd : ClassFile.Cond} {x : Int32} {o : Int} (H : Ok Z K own bytes maxL ret nm) (d : decode bytes pc = .ok (.ifCond cd o, 3)) (hc : if_icmp.holds cd x 0 = true) (ho : 0 ≤ (pc : Int) + o) (hp : ((pc : Int) + o).toNat = pc') (r : Go l Z n0 R K Q h sf k j pc' ls st) : Go l Z n0 R K Q h sf k j pc ls (.int x :: st) := Go.of H (fun p e below T t m c hA hx hby hr => XS.ifYes hA hx rfl (pc0 := pc) (pc' := pc') rfl (hb hby d) rfl ((if0 _ _).trans hc) ho hp hr) r
theorem Go.ifN {cd : ClassFile.Cond} {x : Int32} {o : Int} (H : Ok Z K own bytes maxL ret nm) (d : decode bytes pc = .ok (.ifCond cd o, 3)) (hc : if_icmp.holds cd x 0 = false) (hp : pc + 3 = pc') (r : Go l Z n0 R K Q h sf k j pc' ls st) : Go l Z n0 R K Q h sf k j pc ls (.int x :: st) := by
  subst hp
  exact Go.of H (fun p e below T t m c hA hx hby hr => XS.ifNo hA hx rfl (hb hby d) rfl ((if0 _ _).trans hc) hr) r
theorem Go.ifnullY {o : Int} (H : Ok Z K own bytes maxL ret nm) (d : decode bytes pc = .ok (.ifnull o, 3)) (ho : 0 ≤ (pc : Int) + o) (hp : ((pc : Int) + o).toNat = pc') (r : Go l Z n0 R K Q h sf k j pc' ls st) : Go l Z n0 R K Q h sf k j pc ls (.null :: st) := Go.of H (fun p e below T t m c hA hx hby hr => XS.ifnullYes hA hx rfl (pc0 := pc) (pc' := pc') rfl (hb hby d) rfl ho hp hr) r
theorem Go.ifnullN {b : Addr} {o : Int} (H : Ok Z K own bytes maxL ret nm) (d : decode bytes pc = .ok (.ifnull o, 3)) (hp : pc + 3 = pc') (r : Go l Z n0 R K Q h sf k j pc' ls st) : Go l Z n0 R K Q h sf k j pc ls (.ref b :: st) := by
  subst hp
  exact Go.of H (fun p e below T t m c hA hx hby hr => XS.ifnullNo hA hx rfl (hb hby d) rfl hr) r
theorem Go.ifnonnullY {b : Addr} {o : Int} (H : Ok Z K own bytes maxL ret nm) (d : decode bytes pc = .ok (.ifnonnull o, 3)) (ho : 0 ≤ (pc : Int) + o) (hp : ((pc : Int) + o).toNat = pc') (r : Go l Z n0 R K Q h sf k j pc' ls st) : Go l Z n0 R K Q h sf k j pc ls (.ref b :: st) := Go.of H (fun p e below T t m c hA hx hby hr => XS.ifnonnullYes hA hx rfl (pc0 := pc) (pc' := pc') rfl (hb hby d) rfl ho hp hr) r
theorem Go.ifnonnullN {o : Int} (H : Ok Z K own bytes maxL ret nm) (d : decode bytes pc = .ok (.ifnonnull o, 3)) (hp : pc + 3 = pc') (r : Go l Z n0 R K Q h sf k j pc' ls st) : Go l Z n0 R K Q h sf k j pc ls (.null :: st) := by
  subst hp
  exact Go.of H (fun p e below T t m c hA hx hby hr => XS.ifnonnullNo hA hx rfl (hb hby d) rfl hr) r
theorem Go.acmpY {cd : ClassFile.ACond} {x y : Value} {o : Int} (H : Ok Z K own bytes maxL ret nm) (d : decode bytes pc = .ok (.if_acmp cd o, 3)) (h1 : x.isRef = true) (h2 : y.isRef = true) (hc : XT.acmp cd x y = true) (ho : 0 ≤ (pc : Int) + o) (hp : ((pc : Int) + o).toNat = pc') (r : Go l Z n0 R K Q h sf k j pc' ls st) : Go l Z n0 R K Q h sf k j pc ls (y :: x :: st) := Go.of H (fun p e below T t m c hA hx hby hr => XT.acmpYes hA hx rfl (pc0 := pc) (pc' := pc') rfl (hb hby d) rfl h1 h2 hc ho hp hr) r
theorem Go.acmpN {cd : ClassFile.ACond} {x y : Value} {o : Int} (H : Ok Z K own bytes maxL ret nm) (d : decode bytes pc = .ok (.if_acmp cd o, 3)) (h1 : x.isRef = true) (h2 : y.isRef = true) (hc : XT.acmp cd x y = false) (hp : pc + 3 = pc') (r : Go l Z n0 R K Q h sf k j pc' ls st) : Go l Z n0 R K Q h sf k j pc ls (y :: x :: st) := by
  subst hp
  exact Go.of H (fun p e below T t m c hA hx hby hr => XT.acmpNo hA hx rfl (hb hby d) rfl h1 h2 hc hr) r
theorem Go.ldcInt {idx : Nat} {v : Int32} (H : Ok Z K own bytes maxL ret nm) (d : decode bytes pc = .ok (.ldc idx, 2)) (hp : pc + 2 = pc') (w : Jvm.Cond.constant own idx v ∈ tables_1) (r : Go l Z n0 R K Q h sf k j pc' ls (.int v :: st)) : Go l Z n0 R K Q h sf k j pc ls st := by
  subst hp
  refine Go.of2 H ?_ r
  intro p e s m args below meth c T locs a0 hw X hx hby hml hZ hown eT hO
  exact ⟨T, X, eT, fun t hr => X.ldcInt hx hown (mvT hZ (hw _ w)) (g := mkF m pc ls st) rfl (hb hby d) t hr⟩
theorem Go.ldcWInt {idx : Nat} {v : Int32} (H : Ok Z K own bytes maxL ret nm) (d : decode bytes pc = .ok (.ldc_w idx, 3)) (hp : pc + 3 = pc') (w : Jvm.Cond.constant own idx v ∈ tables_1) (r : Go l Z n0 R K Q h sf k j pc' ls (.int v :: st)) : Go l Z n0 R K Q h sf k j pc ls st := by
  subst hp
  refine Go.of2 H ?_ r
  intro p e s m args below meth c T locs a0 hw X hx hby hml hZ hown eT hO
  exact ⟨T, X, eT, fun t hr => X.ldcwInt hx hown (mvT hZ (hw _ w)) (g := mkF m pc ls st) rfl (hb hby d) t hr⟩
theorem Go.ldc2 {idx : Nat} {v : Int64} (H : Ok Z K own bytes maxL ret nm) (d : decode bytes pc = .ok (.ldc2_w idx, 3)) (hp : pc + 3 = pc') (w : Jvm.Cond.constantLong own idx v ∈ tables_1) (r : Go l Z n0 R K Q h sf k j pc' ls (.long v :: st)) : Go l Z n0 R K Q h sf k j pc ls st := by
  subst hp
  refine Go.of2 H ?_ r
  intro p e s m args below meth c T locs a0 hw X hx hby hml hZ hown eT hO
  exact ⟨T, X, eT, fun t hr => X.ldc2Long hx hown (mvT hZ (hw _ w)) (g := mkF m pc ls st) rfl (hb hby d) t hr⟩
theorem Go.getfield {idx : Nat} {O n d' : String} {a : Addr} {v : Value} (H : Ok Z K own bytes maxL ret nm) (d : decode bytes pc = .ok (.getfield idx, 3)) (hp : pc + 3 = pc') (w : Jvm.Cond.fieldLink own idx O n d' ∈ tables_1) (F : Fld Z h a O n d' v) (r : Go l Z n0 R K Q h sf k j pc' ls (v :: st)) : Go l Z n0 R K Q h sf k j pc ls (.ref a :: st) := by
  subst hp
  refine Go.of2 H ?_ r
  intro p e s m args below meth c T locs a0 hw X hx hby hml hZ hown eT hO
  exact getF X hx hZ hown (host := "") (Or.inl (hw _ w)) Via.refl eT F (g := mkF m pc ls (.ref a :: st)) rfl rfl (hb hby d)
theorem Go.getstatic {idx : Nat} {O n d' : String} {v : Value} (H : Ok Z K own bytes maxL ret nm) (d : decode bytes pc = .ok (.getstatic idx, 3)) (hp : pc + 3 = pc') (w : Jvm.Cond.fieldLink own idx O n d' ∈ tables_1) (F : Sta Z Z.heap O n d' v) (r : Go l Z n0 R K Q h sf k j pc' ls (v :: st)) : Go l Z n0 R K Q h sf k j pc ls st := by
  subst hp
  refine Go.of2 H ?_ r
  intro p e s m args below meth c T locs a0 hw X hx hby hml hZ hown eT hO
  exact getS (host := "") X hx hZ hown (hw _ w) Via.refl eT (F.ext hO.2) (g := mkF m pc ls st) rfl (hb hby d)
theorem Go.checkcast {idx : Nat} {C : String} {a : Addr} (H : Ok Z K own bytes maxL ret nm) (d : decode bytes pc = .ok (.checkcast idx, 3)) (hp : pc + 3 = pc') (w : Jvm.Cond.classLink own idx C ∈ tables_1) (F : Ins Z h a C true) (r : Go l Z n0 R K Q h sf k j pc' ls (.ref a :: st)) : Go l Z n0 R K Q h sf k j pc ls (.ref a :: st) := by
  subst hp
  refine Go.of2 H ?_ r
  intro p e s m args below meth c T locs a0 hw X hx hby hml hZ hown eT hO
  exact castY X hx hZ hown (hw _ w) eT F (g := mkF m pc ls (.ref a :: st)) rfl rfl (hb hby d)
theorem Go.instanceofY {idx : Nat} {C : String} {a : Addr} (H : Ok Z K own bytes maxL ret nm) (d : decode bytes pc = .ok (.instanceof idx, 3)) (hp : pc + 3 = pc') (w : Jvm.Cond.classLink own idx C ∈ tables_1) (F : Ins Z h a C true) (r : Go l Z n0 R K Q h sf k j pc' ls (.int 1 :: st)) : Go l Z n0 R K Q h sf k j pc ls (.ref a :: st) := by
  subst hp
  refine Go.of2 H ?_ r
  intro p e s m args below meth c T locs a0 hw X hx hby hml hZ hown eT hO
  exact instY X hx hZ hown (hw _ w) eT F (g := mkF m pc ls (.ref a :: st)) rfl rfl (hb hby d)
theorem Go.initObj {idx : Nat} {a : Addr} (H : Ok Z K own bytes maxL ret nm) (d : decode bytes pc = .ok (.invokespecial idx, 3)) (hp : pc + 3 = pc') (w1 : Jvm.Cond.methodLink own idx Lib.objectInit ∈ tables_1) (w2 : Jvm.Cond.instanceMethod Lib.objectInit ∈ tables_1) (w3 : Jvm.Cond.code Lib.objectInit ⟨#[0xb1]⟩ 1 none ∈ tables_1) (W : Nat) (hsz : ls.size = maxL) (hW : (st.map fun v => v.category).sum ≤ W) (hf : 1 ≤ R.frames) (hlo : W + 12 ≤ R.locals) (r : Go l Z n0 R K Q h sf k j pc' ls st) : Go l Z n0 R K Q h sf k j pc ls (.ref a :: st) := by
  subst hp
  refine Go.of2 H ?_ r
  intro p e s m args below meth c T locs a0 hw X hx hby hml hZ hown eT hO
  exact initO X hx hZ hown (hw _ w1) (hw _ w2) (hw _ w3) eT (g := mkF m pc ls (.ref a :: st)) rfl (by rw [hml]; exact hsz) rfl (hb hby d) hf (W := W) (by show 2 * 0 + _ ≤ _; simpa using hW) hlo
end Steps1
/-- an array whose components are just these ints -/
def Vec (Z : State) (h : Heap) (a : Addr) (ty : FieldType) (vs : List Int32) : Prop := ∃ c : Cell, Arr Z h a c ty ∧ c.slots.toList = vs.map Value.int ∧ ∀ v ∈ vs, fits ty (.int v) = true
section Vecs
variable {Z : State} {h h' : Heap} {a b : Addr} {ty : FieldType} {vs : List Int32} {ws : List Addr}
theorem Vec.lt (F : Vec Z h a ty vs) : a < h.size := by obtain ⟨c, A, -⟩ := F; exact A.lt
theorem Vec.ext (F : Vec Z h a ty vs) (E : Ext h h') : Vec Z h' a ty vs := by obtain ⟨c, A, q⟩ := F; exact ⟨c, A.ext E, q⟩
theorem Vec.keep (F : Vec Z h a ty vs) (K : Keep h h' ws) (q : a ∉ ws) : Vec Z h' a ty vs := by obtain ⟨c, A, r⟩ := F; exact ⟨c, ⟨K.2.1 a c A.1 q, A.2⟩, r⟩
theorem Vec.size {c : Cell} (q : c.slots.toList = vs.map Value.int) : c.slots.size = vs.length := by rw [← Array.length_toList, q, List.length_map]
theorem Vec.get {c : Cell} (q : c.slots.toList = vs.map Value.int) {i : Nat} {v : Int32} (hv : vs[i]? = some v) : c.slots[i]? = some (.int v) := by
  rw [← Array.getElem?_toList, q, List.getElem?_map, hv]; rfl
theorem Vec.set {i : Nat} {v : Int32} (F : Vec Z h a ty vs) (W : Wr h h' a i (.int v)) (hv : fits ty (.int v) = true) : Vec Z h' a ty (vs.set i v) := by
  obtain ⟨c, A, q, hf⟩ := F
  refine ⟨_, A.same W, ?_, fun u hu => (List.mem_or_eq_of_mem_set hu).elim (hf u) (fun e => e ▸ hv)⟩
  rw [List.map_set, ← q]
  show (c.slots.setIfInBounds i _).toList = _
  rw [Array.toList_setIfInBounds]
theorem Vec.ne {ty' : FieldType} {vs' : List Int32} (F : Vec Z h a ty vs) (G : Vec Z h b ty' vs') (hn : ty ≠ ty') : a ≠ b := fun e => by
  subst e
  obtain ⟨c, ⟨h1, ⟨-, k, g1, comp, g2⟩, -⟩, -, -⟩ := F
  obtain ⟨c', ⟨h1', ⟨-, k', g1', comp', g2'⟩, -⟩, -, -⟩ := G
  cases h1.symm.trans h1'
  cases g1.symm.trans g1'
  rw [g2] at g2'
  cases g2'
  exact hn rfl
theorem Vec.neExa {C : String} {x : Addr} {n : Nat} (F : Vec Z h a ty vs) (G : Exa Z h x C) (w : Wds Z) (hi : Jvm.Cond.instantiable C n ∈ tables_1) : a ≠ x := by
  obtain ⟨c, A, -⟩ := F
  obtain ⟨a0, hw⟩ := w.w
  exact (ne_arr G (hw _ hi) A).symm
end Vecs
section Steps2
variable {l : Launch} {Z : State} {n0 : Nat} {R : Room} {K : Cx} {Q : Option Value → Heap → List Addr → Prop} {h : Heap} {sf : List Addr} {k j pc pc' : Nat} {ls ls' : Array Slot} {st : List Value} {own : String} {bytes : ByteArray} {maxL : Nat} {ret : Option FieldType} {nm : String}
theorem Go.caload {a : Addr} {i : Int32} {v : Int32} {vs : List Int32} (H : Ok Z K own bytes maxL ret nm) (d : decode bytes pc = .ok (.caload, 1)) (hp : pc + 1 = pc') (F : Vec Z h a .char vs) (n : Nat) (hi : i.toNatClampNeg = n) (h0 : ¬ i < 0) (hv : vs[n]? = some v) (r : Go l Z n0 R K Q h sf k j pc' ls (.int v :: st)) : Go l Z n0 R K Q h sf k j pc ls (.int i :: .ref a :: st) := by
  subst hp
  refine Go.of2 H ?_ r
  intro p e s m args below meth c T locs a0 hw X hx hby hml hZ hown eT hO
  obtain ⟨c', A, q, -⟩ := F
  refine ⟨T, X, eT, fun t hr => X.caload hx (j := i) (v := .int v) (by rw [eT]; exact A.1) (State.isArrayOf_alike hZ.alike A.2.1) A.2.2 ?_ (by rw [hi]; exact Vec.get q hv) (g := mkF m pc ls (.int i :: .ref a :: st)) rfl rfl (hb hby d) t hr⟩
  rw [Vec.size q, hi]
  have := (List.getElem?_eq_some_iff.mp hv).1
  rintro (q | q)
  · exact h0 q
  · omega
theorem Go.baload {a : Addr} {i : Int32} {v : Int32} {vs : List Int32} (H : Ok Z K own bytes maxL ret nm) (d : decode bytes pc = .ok (.baload, 1)) (hp : pc + 1 = pc') (F : Vec Z h a .byte vs) (n : Nat) (hi : i.toNatClampNeg = n) (h0 : ¬ i < 0) (hv : vs[n]? = some v) (r : Go l Z n0 R K Q h sf k j pc' ls (.int v :: st)) : Go l Z n0 R K Q h sf k j pc ls (.int i :: .ref a :: st) := by
  subst hp
  refine Go.of2 H ?_ r
  intro p e s m args below meth c T locs a0 hw X hx hby hml hZ hown eT hO
  obtain ⟨c', A, q, -⟩ := F
  refine ⟨T, X, eT, fun t hr => X.baloadBytes hx (j := i) (v := .int v) (by rw [eT]; exact A.1) (State.isArrayOf_alike hZ.alike A.2.1) A.2.2 ?_ (by rw [hi]; exact Vec.get q hv) (g := mkF m pc ls (.int i :: .ref a :: st)) rfl rfl (hb hby d) t hr⟩
  rw [Vec.size q, hi]
  have := (List.getElem?_eq_some_iff.mp hv).1
  rintro (q | q)
  · exact h0 q
  · omega
theorem Go.iaload {a : Addr} {i : Int32} {v : Int32} {vs : List Int32} (H : Ok Z K own bytes maxL ret nm) (d : decode bytes pc = .ok (.iaload, 1)) (hp : pc + 1 = pc') (F : Vec Z h a .int vs) (n : Nat) (hi : i.toNatClampNeg = n) (h0 : ¬ i < 0) (hv : vs[n]? = some v) (r : Go l Z n0 R K Q h sf k j pc' ls (.int v :: st)) : Go l Z n0 R K Q h sf k j pc ls (.int i :: .ref a :: st) := by
  subst hp
  refine Go.of2 H ?_ r
  intro p e s m args below meth c T locs a0 hw X hx hby hml hZ hown eT hO
  obtain ⟨c', A, q, -⟩ := F
  refine ⟨T, X, eT, fun t hr => X.iaload hx (j := i) (v := .int v) (by rw [eT]; exact A.1) (State.isArrayOf_alike hZ.alike A.2.1) A.2.2 ?_ (by rw [hi]; exact Vec.get q hv) (g := mkF m pc ls (.int i :: .ref a :: st)) rfl rfl (hb hby d) t hr⟩
  rw [Vec.size q, hi]
  have := (List.getElem?_eq_some_iff.mp hv).1
  rintro (q | q)
  · exact h0 q
  · omega
theorem Go.arraylength {a : Addr} {ty : FieldType} {vs : List Int32} (v : Int32) (H : Ok Z K own bytes maxL ret nm) (d : decode bytes pc = .ok (.arraylength, 1)) (hp : pc + 1 = pc') (F : Vec Z h a ty vs) (hv : vs.length.toInt32 = v) (r : Go l Z n0 R K Q h sf k j pc' ls (.int v :: st)) : Go l Z n0 R K Q h sf k j pc ls (.ref a :: st) := by
  subst hp
  refine Go.of2 H ?_ r
  intro p e s m args below meth c T locs a0 hw X hx hby hml hZ hown eT hO
  obtain ⟨c', A, q, -⟩ := F
  refine ⟨T, X, eT, fun t hr => X.arraylength hx (by rw [eT]; exact A.1) (State.isArrayOf_alike hZ.alike A.2.1) (g := mkF m pc ls (.ref a :: st)) rfl rfl (hb hby d) t ?_⟩
  rw [Vec.size q, hv]; exact hr
theorem Go.castore {a : Addr} {i x : Int32} {vs : List Int32} (v : Int32) (H : Ok Z K own bytes maxL ret nm) (d : decode bytes pc = .ok (.castore, 1)) (hp : pc + 1 = pc') (F : Vec Z h a .char vs) (n : Nat) (hi : i.toNatClampNeg = n) (h0 : ¬ i < 0) (hn : n < vs.length) (hx : nar .char x = v) (ha : n0 ≤ a) (hs : a ∈ sf) (r : ∀ h', Keep h h' [a] → Vec Z h' a .char (vs.set n v) → Go l Z n0 R K Q h' sf k j pc' ls st) : Go l Z n0 R K Q h sf k j pc ls (.int x :: .int i :: .ref a :: st) := by
  subst hp hx
  refine Go.ofWr (a := a) (sl := i.toNatClampNeg) (v := .int (nar .char x)) H ha hs ?_ (fun h' W => r h' (Keep.of_wr W) (by rw [← hi]; exact F.set W (fits_nar_char _)))
  intro p e s m args below meth c T locs a0 hw X hx hby hZ hown hnm eT
  obtain ⟨c', A, q, -⟩ := F
  refine stC X hx hZ eT A (j := i) ?_ (g := mkF m pc ls (.int x :: .int i :: .ref a :: st)) rfl rfl (hb hby d)
  rw [Vec.size q, hi]
  rintro (q | q)
  · exact h0 q
  · omega
theorem Go.bastore {a : Addr} {i x : Int32} {vs : List Int32} (v : Int32) (H : Ok Z K own bytes maxL ret nm) (d : decode bytes pc = .ok (.bastore, 1)) (hp : pc + 1 = pc') (F : Vec Z h a .byte vs) (n : Nat) (hi : i.toNatClampNeg = n) (h0 : ¬ i < 0) (hn : n < vs.length) (hx : nar .byte x = v) (ha : n0 ≤ a) (hs : a ∈ sf) (r : ∀ h', Keep h h' [a] → Vec Z h' a .byte (vs.set n v) → Go l Z n0 R K Q h' sf k j pc' ls st) : Go l Z n0 R K Q h sf k j pc ls (.int x :: .int i :: .ref a :: st) := by
  subst hp hx
  refine Go.ofWr (a := a) (sl := i.toNatClampNeg) (v := .int (nar .byte x)) H ha hs ?_ (fun h' W => r h' (Keep.of_wr W) (by rw [← hi]; exact F.set W (fits_nar_byte _)))
  intro p e s m args below meth c T locs a0 hw X hx hby hZ hown hnm eT
  obtain ⟨c', A, q, -⟩ := F
  refine stB X hx hZ eT A (j := i) ?_ (g := mkF m pc ls (.int x :: .int i :: .ref a :: st)) rfl rfl (hb hby d)
  rw [Vec.size q, hi]
  rintro (q | q)
  · exact h0 q
  · omega
theorem Go.newarray {aty : ArrayType} {n : Int32} (N : Nat) (cap : Nat) (H : Ok Z K own bytes maxL ret nm) (d : decode bytes pc = .ok (.newarray aty, 2)) (hp : pc + 2 = pc') (w : Jvm.Cond.arrayClass (newarray.typeOf aty) ∈ tables_1) (hd : defaultValue (newarray.typeOf aty) = .int 0) (hft : fits (newarray.typeOf aty) (.int 0) = true) (hn : ¬ n < 0) (hN : n.toNatClampNeg = N) (hcap : N ≤ cap) (hb' : cap * 8 ≤ 536870912) (hce : k + 1 ≤ R.cells) (hsl : j + cap ≤ R.slots)
    (r : ∀ a h', a = h.size → n0 ≤ a → Ext h h' → Vec Z h' a (newarray.typeOf aty) (List.replicate N 0) → Go l Z n0 R K Q h' (a :: sf) (k + 1) (j + cap) pc' ls (.ref a :: st)) : Go l Z n0 R K Q h sf k j pc ls (.int n :: st) := by
  subst hp hN
  refine Go.ofNew (P := fun a h' => Vec Z h' a (newarray.typeOf aty) (List.replicate n.toNatClampNeg 0)) H ?_ (fun a h' F => F.lt) r
  intro p e s m args below meth c T locs a0 hw X hx hby hZ hown eT
  obtain ⟨T', h', cA, X', eT', E, A, stp⟩ := newP X hx hZ (hw _ w) eT (g := mkF m pc ls (.int n :: st)) rfl (hb hby d) rfl hn (cap := cap) hcap hb' hce hsl
  refine ⟨T', h', X', eT', E, ⟨_, A, ?_, fun v hv => by rw [List.eq_of_mem_replicate hv]; exact hft⟩, stp⟩
  simp [newA, hd]
theorem Go.new {C : String} {idx n : Nat} (H : Ok Z K own bytes maxL ret nm) (d : decode bytes pc = .ok (.new idx, 3)) (hp : pc + 3 = pc') (w : Jvm.Cond.classLink own idx C ∈ tables_1) (wi : Jvm.Cond.instantiable C n ∈ tables_1) (wz : Jvm.Cond.initialized C ∈ tables_1) (hce : k + 1 ≤ R.cells) (hsl : j + n ≤ R.slots)
    (r : ∀ a h', a = h.size → n0 ≤ a → Ext h h' → Exa Z h' a C → (∀ {O nm d : String} {ty : FieldType}, (Jvm.Cond.lays C O nm d ∈ tables_1 ∨ Jvm.Cond.laysFinal C O nm d ∈ tables_1) → parseFieldDescriptor d = some ty → Fld Z h' a O nm d (defaultValue ty)) → Go l Z n0 R K Q h' (a :: sf) (k + 1) (j + n) pc' ls (.ref a :: st)) : Go l Z n0 R K Q h sf k j pc ls st := by
  subst hp
  refine Go.ofNew (P := fun a h' => Exa Z h' a C ∧ (∀ {O nm d : String} {ty : FieldType}, (Jvm.Cond.lays C O nm d ∈ tables_1 ∨ Jvm.Cond.laysFinal C O nm d ∈ tables_1) → parseFieldDescriptor d = some ty → Fld Z h' a O nm d (defaultValue ty))) H ?_ (fun a h' F => F.1.lt) (fun a h' e1 e2 E hP => r a h' e1 e2 E hP.1 hP.2)
  intro p e s m args below meth c T locs a0 hw X hx hby hZ hown eT
  obtain ⟨T', h', X', eT', E, A, D, -, stp⟩ := newO X hx hZ hown (hw _ w) (hw _ wi) (hw _ wz) eT (g := mkF m pc ls st) rfl (hb hby d) hce hsl
  exact ⟨T', h', X', eT', E, ⟨A, fun L ht => D (L.imp (hw _) (hw _)) ht⟩, stp⟩
theorem Go.putfield {idx kk : Nat} {C O n d' : String} {ty : FieldType} {a : Addr} {x v old : Value} (H : Ok Z K own bytes maxL ret nm) (d : decode bytes pc = .ok (.putfield idx, 3)) (hp : pc + 3 = pc') (w : Jvm.Cond.fieldLink own idx O n d' ∈ tables_1) (F : Fld Z h a O n d' old) (E : Exa Z h a C) (L : Jvm.Cond.lays C O n d' ∈ tables_1 ∨ (Jvm.Cond.laysFinal C O n d' ∈ tables_1 ∧ own = O ∧ nm = "<init>")) (wi : Jvm.Cond.instantiable C kk ∈ tables_1) (hty : parseFieldDescriptor d' = some ty) (hn : narrow ty x = v) (hf : fits ty v = true) (ha : n0 ≤ a) (hs : a ∈ sf)
    (r : ∀ h', Wr h h' a (Jvm.RoadKit.slotOf Z O n d') v → Go l Z n0 R K Q h' sf k j pc' ls st) : Go l Z n0 R K Q h sf k j pc ls (x :: .ref a :: st) := by
  subst hp
  refine Go.ofWr (a := a) (sl := Jvm.RoadKit.slotOf Z O n d') (v := v) H ha hs ?_ r
  intro p e s m args below meth c T locs a0 hw X hx hby hZ hown hnm eT
  exact putFN X hx hZ hown (hw _ w) Via.refl eT F E (L.imp (hw _) (fun q => ⟨hw _ q.1, q.2.1, hnm.trans q.2.2⟩)) (hw _ wi) hty hn hf (g := mkF m pc ls (x :: .ref a :: st)) rfl rfl (hb hby d)
theorem Go.ireturn {x : Int32} {t : FieldType} (v : Int32) (sn : List Addr) (H : Ok Z K own bytes maxL (some t) nm) (d : decode bytes pc = .ok (.ireturn, 1)) (ht : t = .boolean ∨ t = .byte ∨ t = .char ∨ t = .short) (hv : nar t x = v) (hq : Q (some (.int v)) h sn) (hs : ∀ y ∈ sn, y ∈ sf) (hk : k ≤ R.cells) (hj : j ≤ R.slots) : Go l Z n0 R K Q h sf k j pc ls (.int x :: st) := by
  subst hv
  exact Go.ret0 H (v := some (.int (nar t x))) (fun q => nomatch q) hq hs hk hj (fun p e s m args below meth c T locs fs X hx hby hret hl => retN X hx hret ht (hb hby d) hl)
theorem Go.ireturnI {x : Int32} (sn : List Addr) (H : Ok Z K own bytes maxL (some .int) nm) (d : decode bytes pc = .ok (.ireturn, 1)) (hq : Q (some (.int x)) h sn) (hs : ∀ y ∈ sn, y ∈ sf) (hk : k ≤ R.cells) (hj : j ≤ R.slots) : Go l Z n0 R K Q h sf k j pc ls (.int x :: st) := by
  exact Go.ret0 H (v := some (.int x)) (fun q => nomatch q) hq hs hk hj (fun p e s m args below meth c T locs fs X hx hby hret hl => retOut X hx hret rfl (Or.inl ⟨rfl, Or.inl rfl, _, rfl⟩) (hb hby d) hl)
theorem Go.lreturn {x : Int64} (sn : List Addr) (H : Ok Z K own bytes maxL (some .long) nm) (d : decode bytes pc = .ok (.lreturn, 1)) (hq : Q (some (.long x)) h sn) (hs : ∀ y ∈ sn, y ∈ sf) (hk : k ≤ R.cells) (hj : j ≤ R.slots) : Go l Z n0 R K Q h sf k j pc ls (.long x :: st) := by
  exact Go.ret0 H (v := some (.long x)) (fun q => nomatch q) hq hs hk hj (fun p e s m args below meth c T locs fs X hx hby hret hl => retOut X hx hret rfl (Or.inr (Or.inl ⟨rfl, rfl, _, rfl⟩)) (hb hby d) hl)
theorem Go.areturn {x : Value} {t : FieldType} (sn : List Addr) (H : Ok Z K own bytes maxL (some t) nm) (d : decode bytes pc = .ok (.areturn, 1)) (ht : t.isReference = true) (hx : x.isRef = true) (hn : narrow t x = x) (hq : Q (some x) h sn) (hs : ∀ y ∈ sn, y ∈ sf) (hk : k ≤ R.cells) (hj : j ≤ R.slots) : Go l Z n0 R K Q h sf k j pc ls (x :: st) := by
  exact Go.ret0 H (v := some x) (fun q => nomatch q) hq hs hk hj (fun p e s m args below meth c T locs fs X hx' hby hret hl => retOut X hx' hret hn (Or.inr (Or.inr (Or.inr (Or.inr ⟨rfl, ht, hx⟩)))) (hb hby d) hl)
theorem Go.return_ (sn : List Addr) (H : Ok Z K own bytes maxL none nm) (d : decode bytes pc = .ok (.return_, 1)) (hq : Q none h sn) (hs : ∀ y ∈ sn, y ∈ sf) (hk : k ≤ R.cells) (hj : j ≤ R.slots) : Go l Z n0 R K Q h sf k j pc ls [] := by
  exact Go.ret0 H (v := none) (fun _ => rfl) hq hs hk hj (fun p e s m args below meth c T locs fs X hx hby hret hl => X.returnOut hx hret (hb hby d) hl)
theorem own_toarv {Z : State} {h : Heap} {a : Addr} {ty : FieldType} {vs : List Int32} (F : Vec Z h a ty vs) (hn : vs.length < 2 ^ 31) : ∃ kc, Arv Z h a kc ty vs.length.toInt32 (vs.map Value.int) (.int 0) := by
  obtain ⟨c, A, q, hf⟩ := F
  have hs := Vec.size q
  have e : vs.length.toInt32.toNatClampNeg = vs.length := by rw [Int32.toNatClampNeg, len_toInt hn]; simp
  have hg : ∀ i, i < vs.length → (vs.map Value.int).getD i (.int 0) = .int (vs.getD i 0) := fun i hi => by simp [List.getD, hi]
  refine ⟨c.cls, c, A, rfl, by rw [hs, e], by rw [Int32.lt_iff_toInt_lt, len_toInt hn]; simp, fun i hi => ?_, fun i hi => ?_⟩
  · rw [hg i (by omega)]
    exact Vec.get q (by simp [List.getD, show i < vs.length by omega])
  · rw [hg i (by omega)]
    exact hf _ (by have : i < vs.length := by omega
                   simp [List.getD, this])
theorem own_ofarv {Z : State} {h : Heap} {b : Addr} {k : ClassId} {ty : FieldType} {z : Int32} {bs : List Int32} (F : Arv Z h b k ty z (bs.map Value.int) (.int 0)) (hz : z.toNatClampNeg = bs.length) : Vec Z h b ty bs := by
  obtain ⟨c, A, -, S, -, H, G⟩ := F
  refine ⟨c, A, ?_, fun v hv => ?_⟩
  · apply List.ext_getElem?
    intro i
    rw [Array.getElem?_toList]
    by_cases hi : i < c.slots.size
    · have hb : i < bs.length := by omega
      rw [H i hi]; simp [List.getD, hb]
    · rw [Array.getElem?_eq_none (by omega), List.getElem?_eq_none (by simp; omega)]
  · obtain ⟨i, hi, rfl⟩ := List.mem_iff_getElem.mp hv
    have := G i (by omega)
    simpa [List.getD, hi] using this
/-- System.arraycopy between two arrays of one primitive kind; sp, dp, nn: the two places and how many -/
theorem Go.arraycopy {idx : Nat} {a b : Addr} {ty : FieldType} {us vs : List Int32} {sp dp nn : Int32} (S D N : Nat) (H : Ok Z K own bytes maxL ret nm) (d : decode bytes pc = .ok (.invokestatic idx, 3)) (hp : pc + 3 = pc') (w1 : Jvm.Cond.methodLink own idx Jvm.Stand.acN ∈ tables_1) (w2 : Jvm.Cond.native Jvm.Stand.acN ∈ tables_1) (w3 : Jvm.Cond.static Jvm.Stand.acN ∈ tables_1) (w4 : Jvm.Cond.initialized "java/lang/System" ∈ tables_1)
    (A : Vec Z h a ty us) (B : Vec Z h b ty vs) (hu : us.length < 2 ^ 31) (hv : vs.length < 2 ^ 31) (hty : refKind ty = false) (hS : sp.toNatClampNeg = S) (hD : dp.toNatClampNeg = D) (hN : nn.toNatClampNeg = N) (h1 : ¬ sp < 0) (h2 : ¬ dp < 0) (h3 : ¬ nn < 0) (h4 : S + N ≤ us.length) (h5 : D + N ≤ vs.length) (ha : n0 ≤ b) (hs : b ∈ sf) (W : Nat) (hsz : ls.size = maxL) (hW : (st.map fun v => v.category).sum ≤ W) (hf : 1 ≤ R.frames) (hlo : W + (nativeFrameWords "java/lang/System" "arraycopy" 5 + 11) ≤ R.locals)
    (r : ∀ h', Keep h h' [b] → Vec Z h' b ty (vs.take D ++ (us.drop S).take N ++ vs.drop (D + N)) → Go l Z n0 R K Q h' sf k j pc' ls st) : Go l Z n0 R K Q h sf k j pc ls (.int nn :: .int dp :: .ref b :: .int sp :: .ref a :: st) := by
  subst hp hS hD hN
  refine Go.ofKeep (b := b) (P := fun h' => Vec Z h' b ty (vs.take dp.toNatClampNeg ++ (us.drop sp.toNatClampNeg).take nn.toNatClampNeg ++ vs.drop (dp.toNatClampNeg + nn.toNatClampNeg))) H ha hs ?_ r
  intro p e s m args below meth c T locs a0 hw X hx hby hml hZ hown eT hF
  obtain ⟨ka, A'⟩ := own_toarv A hu
  obtain ⟨kb, B'⟩ := own_toarv B hv
  have eu : us.length.toInt32.toNatClampNeg = us.length := by rw [Int32.toNatClampNeg, len_toInt hu]; simp
  have ev : vs.length.toInt32.toNatClampNeg = vs.length := by rw [Int32.toNatClampNeg, len_toInt hv]; simp
  have hus : ((us.drop sp.toNatClampNeg).take nn.toNatClampNeg).map Value.int = (List.range nn.toNatClampNeg).map fun i => (us.map Value.int).getD (sp.toNatClampNeg + i) (.int 0) := by
    apply List.ext_getElem
    · simp; omega
    · intro i g1 g2
      simp only [List.length_map, List.length_take, List.length_drop] at g1
      have g3 : sp.toNatClampNeg + i < us.length := by omega
      simp [List.getD, g3]
  obtain ⟨T', h', L, X', eT', hL, hK, V, stp⟩ := cpA X hx hZ hown (hw _ w1) (hw _ w2) (hw _ w3) (hw _ w4) eT A' B' (Or.inl ⟨rfl, hty⟩) h1 h2 h3 (by rw [eu]; exact h4) (by rw [ev]; exact h5) hus (by simpa using h5) hF ha (g := mkF m pc ls (.int nn :: .int dp :: .ref b :: .int sp :: .ref a :: st)) rfl (by rw [hml]; exact hsz) rfl (hb hby d) hf (W := W) (by show 2 * 0 + _ ≤ _; simpa using hW) hlo
  refine ⟨T', h', L, X', eT', hL, hK, own_ofarv (by rw [List.map_append, List.map_append, List.map_take, List.map_drop]; exact V) ?_, stp⟩
  rw [ev]; simp; omega
end Steps2
/-! numbers and strings -/
theorem own_ins {Z : State} {h : Heap} {a : Addr} {C D : String} (W : Wds Z) (F : Exa Z h a C) (w : Jvm.Cond.castable C D ∈ tables_1) : Ins Z h a D true := by
  obtain ⟨a0, hw⟩ := W.w; exact Ins.of_exa F (hw _ w)
theorem own_sne {Z : State} {C O n d O' n' d' : String} {t t' : FieldType} (W : Wds Z) (L : Jvm.Cond.lays C O n d ∈ tables_1 ∨ Jvm.Cond.laysFinal C O n d ∈ tables_1) (L' : Jvm.Cond.lays C O' n' d' ∈ tables_1 ∨ Jvm.Cond.laysFinal C O' n' d' ∈ tables_1) (hn : n ≠ n') (ht : parseFieldDescriptor d = some t) (ht' : parseFieldDescriptor d' = some t') : Jvm.RoadKit.slotOf Z O n d ≠ Jvm.RoadKit.slotOf Z O' n' d' := by
  obtain ⟨a0, hw⟩ := W.w
  exact slot_ne (a0 := a0) (C := C) (L.imp (hw _) (hw _)) (L'.imp (hw _) (hw _)) hn ht ht'
theorem own_len {n : Nat} (h : n < 2 ^ 31) : n.toInt32.toInt = n := len_toInt h
theorem own_lt {i n : Nat} (hn : n < 2 ^ 31) (h : i < n) : i.toInt32 < n.toInt32 := by
  rw [Int32.lt_iff_toInt_lt, own_len hn, own_len (by omega)]; omega
theorem own_nlt {i n : Nat} (hi : i < 2 ^ 31) (h : n ≤ i) : ¬ i.toInt32 < n.toInt32 := by
  rw [Int32.lt_iff_toInt_lt, own_len hi, own_len (by omega)]; omega
theorem own_n0 {i : Nat} (h : i < 2 ^ 31) : ¬ i.toInt32 < 0 := by
  rw [Int32.lt_iff_toInt_lt, own_len h]; simp
theorem own_cl {i : Nat} (h : i < 2 ^ 31) : i.toInt32.toNatClampNeg = i := by
  rw [Int32.toNatClampNeg, own_len h]; simp
theorem own_s (i : Nat) : i.toInt32 + 1 = (i + 1).toInt32 := (Int32.ofNat_add i 1).symm
theorem own_ne0 {n : Nat} (hn : n < 2 ^ 31) (h : 0 < n) : ¬ n.toInt32 = 0 := fun e => by
  have := congrArg Int32.toInt e; rw [own_len hn] at this; simp at this; omega
def isL (c : Int32) : Prop := 0 ≤ c.toInt ∧ c.toInt ≤ 255
def isC (c : Int32) : Prop := 0 ≤ c.toInt ∧ c.toInt ≤ 65535
theorem isL.c {c : Int32} (h : isL c) : isC c := ⟨h.1, by have := h.2; omega⟩
theorem own_char {x : Int32} (h : isC x) : nar .char x = x := Int32.toInt_inj.mp (by have := c_i2c x; obtain ⟨h1, h2⟩ := h; simp only [nar]; omega)
theorem own_isC (x : Int32) : isC (nar .char x) := by have := c_i2c x; simp only [nar]; exact ⟨this.2.1, by omega⟩
theorem own_nn {x : Int32} : nar .char (nar .char x) = nar .char x := own_char (own_isC x)
theorem own_nb {x : Int32} : nar .byte (nar .byte x) = nar .byte x := by
  have h1 := c_i2b x
  have h2 := c_i2b (nar .byte x)
  simp only [nar] at *
  exact Int32.toInt_inj.mp (by omega)
theorem own_back {c : Int32} (h : isL c) : nar .char (nar .byte c &&& 255) = c := by
  have h1 := c_i2b c
  have h2 := c_mask (nar .byte c) 255 8 (by decide) (by decide)
  have h3 := c_i2c (nar .byte c &&& 255)
  obtain ⟨g1, g2⟩ := h
  simp only [nar] at *
  exact Int32.toInt_inj.mp (by omega)
theorem own_le255 {c : Int32} (h : isL c) : ¬ (255 : Int32) < c := by
  rw [Int32.lt_iff_toInt_lt]; have := h.2; simp only [Int32.reduceToInt]; omega
theorem own_cat {f : Value} (h : f.isRef = true) : f.category = 1 := by rcases ref_cases h with rfl | ⟨a, rfl⟩ <;> rfl
theorem own_ext {h h' : Heap} (K : Keep h h' []) : Ext h h' := ⟨K.1, fun a c q => K.2.1 a c q nin0⟩
theorem own_keep {h h' : Heap} {ws : List Addr} (E : Ext h h') : Keep h h' ws := (Keep.refl _ _).ext E
theorem Exa.ltb {Z : State} {h : Heap} {a : Addr} {C : String} (F : Exa Z h a C) : a < h.size := F.lt
/-- a Latin-1 String x whose bytes lie at b -/
def Str (Z : State) (h : Heap) (x b : Addr) (cs : List Int32) : Prop := Exa Z h x "java/lang/String" ∧ Fld Z h x "java/lang/String" "value" "[B" (.ref b) ∧ Fld Z h x "java/lang/String" "coder" "B" (.int 0) ∧ Vec Z h b .byte (cs.map (nar .byte)) ∧ (∀ c ∈ cs, isL c) ∧ cs.length < 2 ^ 31
section StrF
variable {Z : State} {h h' : Heap} {x b : Addr} {cs : List Int32} {ws : List Addr}
theorem Str.lt (F : Str Z h x b cs) : x < h.size := F.1.lt
theorem Str.ltb (F : Str Z h x b cs) : b < h.size := F.2.2.2.1.lt
theorem Str.ext (F : Str Z h x b cs) (E : Ext h h') : Str Z h' x b cs := ⟨F.1.ext E, F.2.1.ext E, F.2.2.1.ext E, F.2.2.2.1.ext E, F.2.2.2.2⟩
theorem Str.keep (F : Str Z h x b cs) (K : Keep h h' ws) (q : x ∉ ws) (q' : b ∉ ws) : Str Z h' x b cs := ⟨F.1.keep K, F.2.1.keep K q, F.2.2.1.keep K q, F.2.2.2.1.keep K q', F.2.2.2.2⟩
end StrF
theorem own_and255 (y : Int32) : isL (nar .char (y &&& 255)) := by
  have h1 := c_and y 255 (by decide)
  have h2 : (255 : Int32).toInt = 255 := by decide
  have h3 : nar .char (y &&& 255) = y &&& 255 := own_char ⟨h1.1, by omega⟩
  rw [h3]; exact ⟨h1.1, by omega⟩
theorem own_an {P : Int32 → Prop} : ∀ c ∈ ([] : List Int32), P c := fun _ q => nomatch q
theorem own_ac {P : Int32 → Prop} {a : Int32} {t : List Int32} (h : P a) (r : ∀ c ∈ t, P c) : ∀ c ∈ a :: t, P c := fun c q => by
  rcases List.mem_cons.mp q with rfl | q
  · exact h
  · exact r c q
theorem own_narR {t : FieldType} {v : Value} (h : v.isRef = true) : narrow t v = v := by rcases ref_cases h with rfl | ⟨a, rfl⟩ <;> cases t <;> rfl
theorem own_fitR {t : FieldType} {v : Value} (h : v.isRef = true) (ht : t.isReference = true) : fits t v = true := by rcases ref_cases h with rfl | ⟨a, rfl⟩ <;> cases t <;> first | rfl | (cases ht)
theorem Fld.det {Z : State} {h : Heap} {a : Addr} {C n d : String} {v w : Value} (F : Fld Z h a C n d v) (G : Fld Z h a C n d w) : v = w := Decidable.byContradiction fun q => (F.ne G q) rfl
theorem Vec.det {Z : State} {h : Heap} {a : Addr} {ty ty' : FieldType} {vs ws : List Int32} (F : Vec Z h a ty vs) (G : Vec Z h a ty' ws) : vs = ws := by
  obtain ⟨c, A, q, -⟩ := F
  obtain ⟨c', A', q', -⟩ := G
  cases A.1.symm.trans A'.1
  have e := q.symm.trans q'
  exact (List.map_inj_right (fun a b e => by cases e; rfl)).mp e
theorem own_inj {c d : Int32} (h : isL c) (g : isL d) (e : nar .byte c = nar .byte d) : c = d := by rw [← own_back h, ← own_back g, e]
theorem own_mapinj : ∀ {cs ds : List Int32}, (∀ c ∈ cs, isL c) → (∀ d ∈ ds, isL d) → cs.map (nar .byte) = ds.map (nar .byte) → cs = ds
  | [], [], _, _, _ => rfl
  | [], _ :: _, _, _, e => by cases e
  | _ :: _, [], _, _, e => by cases e
  | c :: cs, d :: ds, h, g, e => by
    simp only [List.map_cons, List.cons.injEq] at e
    rw [own_inj (h c (by simp)) (g d (by simp)) e.1, own_mapinj (fun c q => h c (by simp [q])) (fun c q => g c (by simp [q])) e.2]
theorem Str.det {Z : State} {h : Heap} {x b b' : Addr} {cs ds : List Int32} (F : Str Z h x b cs) (G : Str Z h x b' ds) : cs = ds := by
  have e := Fld.det F.2.1 G.2.1
  cases e
  exact own_mapinj F.2.2.2.2.1 G.2.2.2.2.1 (F.2.2.2.1.det G.2.2.2.1)
theorem Go.ldcS {l : Launch} {Z : State} {n0 : Nat} {R : Room} {K : Cx} {Q : Option Value → Heap → List Addr → Prop} {h : Heap} {sf : List Addr} {k j pc pc' : Nat} {ls : Array Slot} {st : List Value} {own : String} {bytes : ByteArray} {maxL : Nat} {ret : Option FieldType} {nm : String} {idx : Nat} {text : String} (cs : List Int32) (zl : Int32) (n : Nat)
    (H : Ok Z K own bytes maxL ret nm) (d : decode bytes pc = .ok (.ldc idx, 2)) (hp : pc + 2 = pc') (w : Jvm.Cond.stringLink own idx text ∈ tables_1) (hm : (own, idx) ∈ consts_1) (ht : (∀ c ∈ text.toList, c.toNat < 256) ∧ text.toList.map (fun c => Value.int (Jvm.Lit.byteI c.toNat.toUInt16)) = (cs.map (nar .byte)).map Value.int) (hL : ∀ c ∈ cs, isL c) (hz : ¬ zl < 0) (hl : zl.toNatClampNeg = cs.length) (hn : 4 * text.toList.length ≤ n) (hbig : n ≤ 536870912) (hc : k + 2 ≤ R.cells) (hsl : j + (n + 4) ≤ R.slots)
    (r : ∀ a b h', Ext h h' → Str Z h' a b cs → (∀ x ∈ sf, x ≠ a ∧ x ≠ b) → Go l Z n0 R K Q h' sf (k + 2) (j + (n + 4)) pc' ls (.ref a :: st)) : Go l Z n0 R K Q h sf k j pc ls st := by
  subst hp
  obtain ⟨p, e, s, m, args, below, meth, c⟩ := K
  intro vm0 k0 T locs X eT hS hk hC hSf hF hO
  obtain ⟨H1, H2, H3, H4, H5, H6, H7, H8, a0, hw, hEL, hat⟩ := H
  have hZ0 : Z.Warmed39 vm0 := State.Warmed39.trans H6 hS.1
  have hown0 : vm0.findClass own = some m.cls := (hS.1.alike.findClass _ _).trans H5
  obtain ⟨a, T', h', k1, b, kc, X', eT', E, hS', hk', hZ', hown', A, Fc, Fv, V, la, lb, hC', -, hne, stp⟩ := ldcCH X H1 hZ0 hown0 (hw _ w) hat eT hS hk hEL hm hC.1 (vs := (cs.map (nar .byte)).map Value.int) (z := zl) ht hz (by simp [hl]) (g := mkF m pc ls st) rfl (hb H2 d) hn hbig hc hsl
  have hS2 := hSf.chr hC'
  have hlen := (back32 hz).2
  obtain ⟨s₂, o, h1, h2⟩ := r a b h' E ⟨A, Fv, Fc, own_ofarv V (by simp [hl]), hL, by omega⟩ (fun x hx => hne x (hS2 x hx).2) T'.vm k1 T' locs X' eT' hS' hk' (hC.trans hC') hS2 hF (hO.ext E)
  exact ⟨s₂, o, stp _ h1, h2⟩
def Sx (Z : State) (z : Int32) (f : Value) : Prop := Wds Z ∧ ¬ z = 0 ∧ Sta Z Z.heap "java/lang/String" "COMPACT_STRINGS" "Z" (.int z) ∧ f.isRef = true ∧ Sta Z Z.heap "jdk/internal/util/Preconditions" "SIOOBE_FORMATTER" "Ljava/util/function/BiFunction;" f
def chF (x : Int32) : Int32 := if (((x.toUInt32 >>> ((8 : Int32) &&& 31).toUInt32).toInt32) &&& (3 : Int32)) = (0 : Int32) then (47 : Int32) else (nar .char (x &&& (255 : Int32)))
theorem d1_0 : decode method_2_code 0 = .ok (.iload_n 0, 1) := by decide +kernel
theorem d1_1 : decode method_2_code 1 = .ok (.bipush 8, 2) := by decide +kernel
theorem d1_3 : decode method_2_code 3 = .ok (.iushr, 1) := by decide +kernel
theorem d1_4 : decode method_2_code 4 = .ok (.iconst 3, 1) := by decide +kernel
theorem d1_5 : decode method_2_code 5 = .ok (.iand, 1) := by decide +kernel
theorem d1_6 : decode method_2_code 6 = .ok (.ifCond .ne 8, 3) := by decide +kernel
theorem d1_9 : decode method_2_code 9 = .ok (.bipush 47, 2) := by decide +kernel
theorem d1_11 : decode method_2_code 11 = .ok (.goto 9, 3) := by decide +kernel
theorem d1_20 : decode method_2_code 20 = .ok (.ireturn, 1) := by decide +kernel
theorem d1_14 : decode method_2_code 14 = .ok (.iload_n 0, 1) := by decide +kernel
theorem d1_15 : decode method_2_code 15 = .ok (.sipush 255, 3) := by decide +kernel
theorem d1_18 : decode method_2_code 18 = .ok (.iand, 1) := by decide +kernel
theorem d1_19 : decode method_2_code 19 = .ok (.i2c, 1) := by decide +kernel
abbrev N0 : MethodName := ⟨"com/example/cairnstore/cairnstore/ocfl/EntryTreeParentPinLaw", "ch", "(I)C"⟩
theorem pn_N0 : plainName N0.cls = true := by first | (simp [plainName, overriddenIn]; done) | decide +kernel

abbrev rm_ch : Room := { frames := 0, cells := 0, slots := 0, locals := 0 }
set_option maxRecDepth 65536 in
set_option maxHeartbeats 4000000 in
theorem ct_ch (l : Launch) {Z : State} {n0 : Nat} {z : Int32} {f : Value} (W : Sx Z z f) (x : Int32) (h : Heap) :
    Ctr l Z n0 N0 method_2_code 1 (some .char) rm_ch #[(.int x)] h [] (fun v h' sn => v = some (.int (chF x)) ∧ h = h' ∧ sn = []) := by
  refine Ctr.of_go (ls := #[.val (.int x)]) W.1 (plainFor_of_name pn_N0) (fun m => by first | (simp [entryFrame, mkF, argsToLocals, Value.category]; done) | rfl) (fun K H => ?_)
  refine Go.iloadN H d1_0 rfl rfl ?_
  refine Go.bipush (8 : Int32) H d1_1 rfl rfl ?_
  refine Go.iushr H d1_3 rfl ?_
  refine Go.iconst (3 : Int32) H d1_4 rfl rfl ?_
  refine Go.iand H d1_5 rfl ?_
  by_cases c1 : (((x.toUInt32 >>> ((8 : Int32) &&& 31).toUInt32).toInt32) &&& (3 : Int32)) = (0 : Int32)
  ·
    refine Go.ifN H d1_6 (teq c1).2 rfl ?_
    refine Go.bipush (47 : Int32) H d1_9 rfl rfl ?_
    refine Go.goto (pc' := 20) H d1_11 (by decide) (by decide) ?_
    exact Go.ireturn (47 : Int32) [] H d1_20 (by simp) (by decide) ⟨congrArg (fun q => some (Value.int q)) (show (47 : Int32) = chF x from Eq.symm (by rw [chF, if_pos c1])), rfl, rfl⟩ all0 (by decide) (by decide)
  ·
    refine Go.ifY (pc' := 14) H d1_6 (feq c1).2 (by decide) (by decide) ?_
    refine Go.iloadN H d1_14 rfl rfl ?_
    refine Go.sipush (255 : Int32) H d1_15 rfl rfl ?_
    refine Go.iand H d1_18 rfl ?_
    refine Go.i2c H d1_19 rfl ?_
    exact Go.ireturn (nar .char (x &&& (255 : Int32))) [] H d1_20 (by simp) own_nn ⟨congrArg (fun q => some (Value.int q)) (show (nar .char (x &&& (255 : Int32))) = chF x from Eq.symm (by rw [chF, if_neg c1])), rfl, rfl⟩ all0 (by decide) (by decide)
theorem chF_l (x : Int32) : isL (chF x) := by
  unfold chF
  split
  · exact ⟨by decide, by decide⟩
  · exact own_and255 _
theorem chF_c (x : Int32) : nar .char (chF x) = chF x := own_char (chF_l x).c
theorem d18_3 : decode jdk_52_method_21_code 3 = .ok (.iload 5, 2) := by decide +kernel
theorem d18_5 : decode jdk_52_method_21_code 5 = .ok (.iload 4, 2) := by decide +kernel
theorem d18_7 : decode jdk_52_method_21_code 7 = .ok (.if_icmp .ge 37, 3) := by decide +kernel
theorem d18_44 : decode jdk_52_method_21_code 44 = .ok (.iload 4, 2) := by decide +kernel
theorem d18_46 : decode jdk_52_method_21_code 46 = .ok (.ireturn, 1) := by decide +kernel
theorem d18_10 : decode jdk_52_method_21_code 10 = .ok (.aload_n 0, 1) := by decide +kernel
theorem d18_11 : decode jdk_52_method_21_code 11 = .ok (.iload_n 1, 1) := by decide +kernel
theorem d18_12 : decode jdk_52_method_21_code 12 = .ok (.caload, 1) := by decide +kernel
theorem d18_13 : decode jdk_52_method_21_code 13 = .ok (.istore 6, 2) := by decide +kernel
theorem d18_15 : decode jdk_52_method_21_code 15 = .ok (.iload 6, 2) := by decide +kernel
theorem d18_17 : decode jdk_52_method_21_code 17 = .ok (.sipush 255, 3) := by decide +kernel
theorem d18_20 : decode jdk_52_method_21_code 20 = .ok (.if_icmp .le 6, 3) := by decide +kernel
theorem d18_26 : decode jdk_52_method_21_code 26 = .ok (.aload_n 2, 1) := by decide +kernel
theorem d18_27 : decode jdk_52_method_21_code 27 = .ok (.iload_n 3, 1) := by decide +kernel
theorem d18_28 : decode jdk_52_method_21_code 28 = .ok (.iload 6, 2) := by decide +kernel
theorem d18_30 : decode jdk_52_method_21_code 30 = .ok (.i2b, 1) := by decide +kernel
theorem d18_31 : decode jdk_52_method_21_code 31 = .ok (.bastore, 1) := by decide +kernel
theorem d18_32 : decode jdk_52_method_21_code 32 = .ok (.iinc 1 1, 3) := by decide +kernel
theorem d18_35 : decode jdk_52_method_21_code 35 = .ok (.iinc 3 1, 3) := by decide +kernel
theorem d18_38 : decode jdk_52_method_21_code 38 = .ok (.iinc 5 1, 3) := by decide +kernel
theorem d18_41 : decode jdk_52_method_21_code 41 = .ok (.goto (-38), 3) := by decide +kernel
abbrev N1 : MethodName := ⟨"java/lang/StringUTF16", "compress", "([CI[BII)I"⟩

theorem own_full {Z : State} {h : Heap} {d : Addr} {cs : List Int32} {i : Nat} (e : i = cs.length) (F : Vec Z h d .byte ((cs.take i).map (nar .byte) ++ List.replicate 0 0)) : Vec Z h d .byte (cs.map (nar .byte)) := by
  subst e; simpa using F
theorem own_fill {cs : List Int32} {g : Int32 → Int32} {i m : Nat} {c : Int32} (hc : cs[i]? = some c) : ((cs.take i).map g ++ List.replicate (m + 1) 0).set i (g c) = (cs.take (i + 1)).map g ++ List.replicate m 0 := by
  have hl : i < cs.length := (List.getElem?_eq_some_iff.mp hc).1
  have h1 : ((cs.take i).map g).length = i := by simp; omega
  rw [List.set_append_right _ _ (by omega), h1, Nat.sub_self, List.replicate_succ, List.set_cons_zero, List.take_add_one, hc]; simp
set_option maxRecDepth 65536 in
theorem lp_cmp5 (l : Launch) {Z : State} {n0 : Nat} (a d : Addr) (cs : List Int32) (h0 : Heap) (hL : ∀ c ∈ cs, isL c) (hn : cs.length < 2 ^ 31) (zd : n0 ≤ d) (hne : a ≠ d) {R : Room} {K : Cx} (H : Ok Z K "java/lang/StringUTF16" jdk_52_method_21_code 7 (some .int) "compress") :
    ∀ (m i : Nat), i + m = cs.length → ∀ (h : Heap) (s6 : Slot), One s6 → Vec Z h a .char cs → Vec Z h d .byte ((cs.take i).map (nar .byte) ++ List.replicate m 0) → Keep h0 h [d] →
      Go l Z n0 R K (fun v h' sn => v = some (.int cs.length.toInt32) ∧ Keep h0 h' [d] ∧ Vec Z h' d .byte (cs.map (nar .byte)) ∧ sn = []) h [d] 0 0 3 #[.val (.ref a), .val (.int i.toInt32), .val (.ref d), .val (.int i.toInt32), .val (.int cs.length.toInt32), .val (.int i.toInt32), s6] [] := by
  intro m
  induction m with
  | zero =>
    intro i hi h s6 h6 Fa Fd KK
    refine Go.iload H d18_3 rfl rfl ?_
    refine Go.iload H d18_5 rfl rfl ?_
    refine Go.icmpY (pc' := 44) H d18_7 (flt (own_nlt (by omega) (by omega))).2.1 (by decide) (by decide) ?_
    refine Go.iload H d18_44 rfl rfl ?_
    exact Go.ireturnI [] H d18_46 ⟨rfl, KK, own_full (by omega) Fd, rfl⟩ all0 (Nat.zero_le _) (Nat.zero_le _)
  | succ m ih =>
    intro i hi h s6 h6 Fa Fd KK
    have hlt : i < cs.length := by omega
    obtain ⟨c, hc⟩ : ∃ c, cs[i]? = some c := ⟨_, List.getElem?_eq_getElem hlt⟩
    have hLc : isL c := hL c (List.mem_of_getElem? hc)
    refine Go.iload H d18_3 rfl rfl ?_
    refine Go.iload H d18_5 rfl rfl ?_
    refine Go.icmpN H d18_7 (tlt (own_lt hn hlt)).2.1 rfl ?_
    refine Go.aloadN H d18_10 rfl rfl rfl ?_
    refine Go.iloadN H d18_11 rfl rfl ?_
    refine Go.caload (v := c) H d18_12 rfl Fa i (own_cl (by omega)) (own_n0 (by omega)) hc ?_
    refine Go.istore (ls' := #[.val (.ref a), .val (.int i.toInt32), .val (.ref d), .val (.int i.toInt32), .val (.int cs.length.toInt32), .val (.int i.toInt32), .val (.int c)]) H d18_13 rfl (XS.store1 rfl h6 rfl) ?_
    refine Go.iload H d18_15 rfl rfl ?_
    refine Go.sipush (255 : Int32) H d18_17 rfl rfl ?_
    refine Go.icmpY (pc' := 26) H d18_20 (flt (own_le255 hLc)).2.2.2 (by decide) (by decide) ?_
    refine Go.aloadN H d18_26 rfl rfl rfl ?_
    refine Go.iloadN H d18_27 rfl rfl ?_
    refine Go.iload H d18_28 rfl rfl ?_
    refine Go.i2b H d18_30 rfl ?_
    refine Go.bastore (nar .byte c) H d18_31 rfl Fd i (own_cl (by omega)) (own_n0 (by omega)) (by simp; omega) own_nb zd (by simp) ?_
    intro h1 K2 F3
    replace Fa := Fa.keep K2 (ninS hne nin0)
    replace KK := KK.trans K2 (allS (Or.inl (by simp)) all0)
    refine Go.iinc (ls' := #[.val (.ref a), .val (.int (i.toInt32 + (1 : Int32))), .val (.ref d), .val (.int i.toInt32), .val (.int cs.length.toInt32), .val (.int i.toInt32), .val (.int c)]) (1 : Int32) H d18_32 rfl rfl rfl rfl ?_
    refine Go.iinc (ls' := #[.val (.ref a), .val (.int (i.toInt32 + (1 : Int32))), .val (.ref d), .val (.int (i.toInt32 + (1 : Int32))), .val (.int cs.length.toInt32), .val (.int i.toInt32), .val (.int c)]) (1 : Int32) H d18_35 rfl rfl rfl rfl ?_
    refine Go.iinc (ls' := #[.val (.ref a), .val (.int (i.toInt32 + (1 : Int32))), .val (.ref d), .val (.int (i.toInt32 + (1 : Int32))), .val (.int cs.length.toInt32), .val (.int (i.toInt32 + (1 : Int32))), .val (.int c)]) (1 : Int32) H d18_38 rfl rfl rfl rfl ?_
    refine Go.goto (pc' := 3) H d18_41 (by decide) (by decide) ?_
    rw [own_fill hc] at F3
    rw [own_s i]
    exact ih (i + 1) (by omega) _ _ (One.val rfl) Fa F3 KK
theorem d18_0 : decode jdk_52_method_21_code 0 = .ok (.iconst 0, 1) := by decide +kernel
theorem d18_1 : decode jdk_52_method_21_code 1 = .ok (.istore 5, 2) := by decide +kernel
theorem pn_N1 : plainName N1.cls = true := by first | (simp [plainName, overriddenIn]; done) | decide +kernel

abbrev rm_cmp5 : Room := { frames := 0, cells := 0, slots := 0, locals := 0 }
set_option maxRecDepth 65536 in
set_option maxHeartbeats 4000000 in
theorem ct_cmp5 (l : Launch) {Z : State} {n0 : Nat} {z : Int32} {f : Value} (W : Sx Z z f) (a d : Addr) (cs : List Int32) (h : Heap) (Fa : Vec Z h a .char cs) (Fd : Vec Z h d .byte (List.replicate cs.length 0)) (hL : ∀ c ∈ cs, isL c) (hn : cs.length < 2 ^ 31) (zd : n0 ≤ d) (hne : a ≠ d) :
    Ctr l Z n0 N1 jdk_52_method_21_code 7 (some .int) rm_cmp5 #[(.ref a), (.int (0 : Int32)), (.ref d), (.int (0 : Int32)), (.int cs.length.toInt32)] h [d] (fun v h' sn => v = some (.int cs.length.toInt32) ∧ Keep h h' [d] ∧ Vec Z h' d .byte (cs.map (nar .byte)) ∧ sn = []) := by
  refine Ctr.of_go (ls := #[.val (.ref a), .val (.int (0 : Int32)), .val (.ref d), .val (.int (0 : Int32)), .val (.int cs.length.toInt32), .unset, .unset]) W.1 (plainFor_of_name pn_N1) (fun m => by first | (simp [entryFrame, mkF, argsToLocals, Value.category]; done) | rfl) (fun K H => ?_)
  refine Go.iconst (0 : Int32) H d18_0 rfl rfl ?_
  refine Go.istore (ls' := #[.val (.ref a), .val (.int (0 : Int32)), .val (.ref d), .val (.int (0 : Int32)), .val (.int cs.length.toInt32), .val (.int (0 : Int32)), .unset]) H d18_1 rfl rfl ?_
  exact lp_cmp5 l a d cs h hL hn zd hne H cs.length 0 (by omega) h _ One.u Fa (by simpa using Fd) (Keep.refl _ _)
theorem d17_0 : decode jdk_52_method_16_code 0 = .ok (.iload_n 2, 1) := by decide +kernel
theorem d17_1 : decode jdk_52_method_16_code 1 = .ok (.newarray .byte, 2) := by decide +kernel
theorem w23 : Jvm.Cond.arrayClass Jvm.ClassFile.FieldType.byte ∈ tables_1 := List.mem_of_getElem? (i := 23) rfl
theorem d17_3 : decode jdk_52_method_16_code 3 = .ok (.astore_n 3, 1) := by decide +kernel
theorem d17_4 : decode jdk_52_method_16_code 4 = .ok (.aload_n 0, 1) := by decide +kernel
theorem d17_5 : decode jdk_52_method_16_code 5 = .ok (.iload_n 1, 1) := by decide +kernel
theorem d17_6 : decode jdk_52_method_16_code 6 = .ok (.aload_n 3, 1) := by decide +kernel
theorem d17_7 : decode jdk_52_method_16_code 7 = .ok (.iconst 0, 1) := by decide +kernel
theorem d17_8 : decode jdk_52_method_16_code 8 = .ok (.iload_n 2, 1) := by decide +kernel
theorem d17_9 : decode jdk_52_method_16_code 9 = .ok (.invokestatic 115, 3) := by decide +kernel
theorem w87 : Jvm.Cond.code N1 jdk_52_method_21_code (7 : Nat) (Option.some Jvm.ClassFile.FieldType.int) ∈ tables_1 := List.mem_of_getElem? (i := 87) rfl
theorem w83 : Jvm.Cond.initialized "java/lang/StringUTF16" ∈ tables_1 := List.mem_of_getElem? (i := 83) rfl
theorem pd_N1 : parseMethodDescriptor N1.desc = some ⟨[(.array .char), .int, (.array .byte), .int, .int], (some .int)⟩ := by decide +kernel
theorem nh_N1 : N1.cls ≠ "java/lang/invoke/MethodHandle" ∧ N1.cls ≠ "java/lang/invoke/VarHandle" := by decide
theorem w85 : Jvm.Cond.methodLink "java/lang/StringUTF16" (115 : Nat) N1 ∈ tables_1 := List.mem_of_getElem? (i := 85) rfl
theorem w86 : Jvm.Cond.static N1 ∈ tables_1 := List.mem_of_getElem? (i := 86) rfl
theorem d17_12 : decode jdk_52_method_16_code 12 = .ok (.istore 4, 2) := by decide +kernel
theorem d17_14 : decode jdk_52_method_16_code 14 = .ok (.iload 4, 2) := by decide +kernel
theorem d17_16 : decode jdk_52_method_16_code 16 = .ok (.iload_n 2, 1) := by decide +kernel
theorem d17_17 : decode jdk_52_method_16_code 17 = .ok (.if_icmp .eq 40, 3) := by decide +kernel
theorem d17_57 : decode jdk_52_method_16_code 57 = .ok (.aload_n 3, 1) := by decide +kernel
theorem d17_58 : decode jdk_52_method_16_code 58 = .ok (.areturn, 1) := by decide +kernel
abbrev N2 : MethodName := ⟨"java/lang/StringUTF16", "compress", "([CII)[B"⟩

abbrev rm_cmp3 : Room := { frames := 1, cells := 1, slots := 4, locals := 18 }
set_option maxRecDepth 65536 in
set_option maxHeartbeats 4000000 in
theorem ct_cmp3 (l : Launch) {Z : State} {n0 : Nat} {z : Int32} {f : Value} (W : Sx Z z f) (a : Addr) (cs : List Int32) (h : Heap) (Fa : Vec Z h a .char cs) (hL : ∀ c ∈ cs, isL c) (hn : cs.length ≤ 4) :
    Ctr l Z n0 N2 jdk_52_method_16_code 6 (some (.array .byte)) rm_cmp3 #[(.ref a), (.int (0 : Int32)), (.int cs.length.toInt32)] h [] (fun v h' sn => ∃ b, v = some (.ref b) ∧ Ext h h' ∧ h.size ≤ b ∧ Vec Z h' b .byte (cs.map (nar .byte)) ∧ sn = []) := by
  refine Ctr.of_go (ls := #[.val (.ref a), .val (.int (0 : Int32)), .val (.int cs.length.toInt32), .unset, .unset, .unset]) W.1 (plainFor_of_name pn_N1) (fun m => by first | (simp [entryFrame, mkF, argsToLocals, Value.category]; done) | rfl) (fun K H => ?_)
  have KK : Keep h h [] := Keep.refl _ _
  refine Go.iloadN H d17_0 rfl rfl ?_
  refine Go.newarray cs.length 4 H d17_1 rfl w23 rfl (by decide) (own_n0 (by omega)) (own_cl (by omega)) hn (by decide) (by decide) (by decide) ?_
  intro a1 h2 g3 z4 E5 F6
  have ne7 : a ≠ a1 := Nat.ne_of_lt (Nat.lt_of_lt_of_le Fa.lt (Nat.le_of_eq g3.symm))
  have sz8 := Nat.le_trans KK.1 (Nat.le_of_eq g3.symm)
  replace Fa := Fa.ext E5
  replace KK := KK.ext E5
  show Go _ _ _ _ _ _ h2 [a1] 1 4 3 #[.val (.ref a), .val (.int (0 : Int32)), .val (.int cs.length.toInt32), .unset, .unset, .unset] [(.ref a1)]
  refine Go.astoreN (ls' := #[.val (.ref a), .val (.int (0 : Int32)), .val (.int cs.length.toInt32), .val (.ref a1), .unset, .unset]) H d17_3 rfl rfl rfl ?_
  refine Go.aloadN H d17_4 rfl rfl rfl ?_
  refine Go.iloadN H d17_5 rfl rfl ?_
  refine Go.aloadN H d17_6 rfl rfl rfl ?_
  refine Go.iconst (0 : Int32) H d17_7 rfl rfl ?_
  refine Go.iloadN H d17_8 rfl rfl ?_
  refine Go.callS (rest := []) 0 [(.ref a), (.int (0 : Int32)), (.ref a1), (.int (0 : Int32)), (.int cs.length.toInt32)] H d17_9 rfl w85 w86 w83 w87 pd_N1 (ct_cmp5 l W a a1 cs h2 Fa F6 hL (by omega) z4 ne7) (by simp) rfl rfl rfl (Nat.le_of_eq rfl) (by decide) (by decide) (by decide) (by decide) nh_N1 ?_
  rintro _ h9 _ ⟨rfl, K10, F11, rfl⟩
  replace Fa := Fa.keep K10 (ninS ne7 nin0)
  replace KK := KK.trans K10 (allS (Or.inr sz8) all0)
  show Go _ _ _ _ _ _ h9 [a1] 1 4 12 #[.val (.ref a), .val (.int (0 : Int32)), .val (.int cs.length.toInt32), .val (.ref a1), .unset, .unset] [(.int cs.length.toInt32)]
  refine Go.istore (ls' := #[.val (.ref a), .val (.int (0 : Int32)), .val (.int cs.length.toInt32), .val (.ref a1), .val (.int cs.length.toInt32), .unset]) H d17_12 rfl rfl ?_
  refine Go.iload H d17_14 rfl rfl ?_
  refine Go.iloadN H d17_16 rfl rfl ?_
  refine Go.icmpY (pc' := 57) H d17_17 (teq rfl).1 (by decide) (by decide) ?_
  refine Go.aloadN H d17_57 rfl rfl rfl ?_
  exact Go.areturn [] H d17_58 rfl rfl (own_narR rfl) ⟨_, rfl, own_ext KK, Nat.le_of_eq g3.symm, F11, rfl⟩ all0 (by decide) (by decide)
theorem own_cod (x : Int32) : nar .byte (((x - x).toUInt32 >>> ((31 : Int32) &&& 31).toUInt32).toInt32) = 0 := by rw [Int32.sub_self]; decide
theorem d19_0 : decode jdk_52_method_15_code 0 = .ok (.iload_n 1, 1) := by decide +kernel
theorem d19_1 : decode jdk_52_method_15_code 1 = .ok (.aload_n 0, 1) := by decide +kernel
theorem d19_2 : decode jdk_52_method_15_code 2 = .ok (.arraylength, 1) := by decide +kernel
theorem d19_3 : decode jdk_52_method_15_code 3 = .ok (.isub, 1) := by decide +kernel
theorem d19_4 : decode jdk_52_method_15_code 4 = .ok (.bipush 31, 2) := by decide +kernel
theorem d19_6 : decode jdk_52_method_15_code 6 = .ok (.iushr, 1) := by decide +kernel
theorem d19_7 : decode jdk_52_method_15_code 7 = .ok (.i2b, 1) := by decide +kernel
theorem d19_8 : decode jdk_52_method_15_code 8 = .ok (.ireturn, 1) := by decide +kernel
abbrev N3 : MethodName := ⟨"java/lang/StringUTF16", "coderFromArrayLen", "([BI)B"⟩

abbrev rm_codl : Room := { frames := 0, cells := 0, slots := 0, locals := 0 }
set_option maxRecDepth 65536 in
set_option maxHeartbeats 4000000 in
theorem ct_codl (l : Launch) {Z : State} {n0 : Nat} {z : Int32} {f : Value} (W : Sx Z z f) (b : Addr) (bs : List Int32) (n : Int32) (h : Heap) (Fb : Vec Z h b .byte bs) (hb : bs.length.toInt32 = n) :
    Ctr l Z n0 N3 jdk_52_method_15_code 2 (some .byte) rm_codl #[(.ref b), (.int n)] h [] (fun v h' sn => v = some (.int 0) ∧ h = h' ∧ sn = []) := by
  refine Ctr.of_go (ls := #[.val (.ref b), .val (.int n)]) W.1 (plainFor_of_name pn_N1) (fun m => by first | (simp [entryFrame, mkF, argsToLocals, Value.category]; done) | rfl) (fun K H => ?_)
  refine Go.iloadN H d19_0 rfl rfl ?_
  refine Go.aloadN H d19_1 rfl rfl rfl ?_
  refine Go.arraylength n H d19_2 rfl Fb hb ?_
  refine Go.isub H d19_3 rfl ?_
  refine Go.bipush (31 : Int32) H d19_4 rfl rfl ?_
  refine Go.iushr H d19_6 rfl ?_
  refine Go.i2b H d19_7 rfl ?_
  exact Go.ireturn (0 : Int32) [] H d19_8 (by simp) (own_nb.trans (own_cod _)) ⟨rfl, rfl, rfl⟩ all0 (by decide) (by decide)
theorem w9 : Jvm.Cond.instantiable "java/lang/String" (4 : Nat) ∈ tables_1 := List.mem_of_getElem? (i := 9) rfl
theorem d4_0 : decode jdk_42_method_149_code 0 = .ok (.aload_n 0, 1) := by decide +kernel
theorem d4_1 : decode jdk_42_method_149_code 1 = .ok (.invokespecial 1, 3) := by decide +kernel
abbrev N4 : MethodName := ⟨"java/lang/Object", "<init>", "()V"⟩
theorem w19 : Jvm.Cond.methodLink "java/lang/String" (1 : Nat) N4 ∈ tables_1 := List.mem_of_getElem? (i := 19) rfl
theorem w20 : Jvm.Cond.instanceMethod N4 ∈ tables_1 := List.mem_of_getElem? (i := 20) rfl
theorem w21 : Jvm.Cond.code N4 object_method_1_code (1 : Nat) (Option.none : Option Jvm.ClassFile.FieldType) ∈ tables_1 := List.mem_of_getElem? (i := 21) rfl
theorem d4_4 : decode jdk_42_method_149_code 4 = .ok (.iload_n 3, 1) := by decide +kernel
theorem d4_5 : decode jdk_42_method_149_code 5 = .ok (.ifCond .ne 22, 3) := by decide +kernel
theorem d4_8 : decode jdk_42_method_149_code 8 = .ok (.aload_n 0, 1) := by decide +kernel
theorem d4_9 : decode jdk_42_method_149_code 9 = .ok (.ldc 7, 2) := by decide +kernel
theorem lt_0 : (∀ c ∈ ("" : String).toList, c.toNat < 256) ∧ ("" : String).toList.map (fun c => Value.int (Jvm.Lit.byteI c.toNat.toUInt16)) = ((([] : List Int32)).map (nar .byte)).map Value.int := by decide +kernel
theorem lt_0_l : ∀ c ∈ ([] : List Int32), isL c := own_an
theorem cm_0 : ("java/lang/String", 7) ∈ consts_1 := by decide
theorem w22 : Jvm.Cond.stringLink "java/lang/String" (7 : Nat) "" ∈ tables_1 := List.mem_of_getElem? (i := 22) rfl
theorem d4_11 : decode jdk_42_method_149_code 11 = .ok (.getfield 9, 3) := by decide +kernel
theorem w28 : Jvm.Cond.fieldLink "java/lang/String" (9 : Nat) "java/lang/String" "value" "[B" ∈ tables_1 := List.mem_of_getElem? (i := 28) rfl
theorem d4_14 : decode jdk_42_method_149_code 14 = .ok (.putfield 9, 3) := by decide +kernel
theorem w24 : Jvm.Cond.laysFinal "java/lang/String" "java/lang/String" "value" "[B" ∈ tables_1 := List.mem_of_getElem? (i := 24) rfl
theorem w25 : Jvm.Cond.laysFinal "java/lang/String" "java/lang/String" "coder" "B" ∈ tables_1 := List.mem_of_getElem? (i := 25) rfl
theorem d4_17 : decode jdk_42_method_149_code 17 = .ok (.aload_n 0, 1) := by decide +kernel
theorem d4_18 : decode jdk_42_method_149_code 18 = .ok (.ldc 7, 2) := by decide +kernel
theorem d4_20 : decode jdk_42_method_149_code 20 = .ok (.getfield 15, 3) := by decide +kernel
theorem w29 : Jvm.Cond.fieldLink "java/lang/String" (15 : Nat) "java/lang/String" "coder" "B" ∈ tables_1 := List.mem_of_getElem? (i := 29) rfl
theorem d4_23 : decode jdk_42_method_149_code 23 = .ok (.putfield 15, 3) := by decide +kernel
theorem d4_26 : decode jdk_42_method_149_code 26 = .ok (.return_, 1) := by decide +kernel
theorem d4_27 : decode jdk_42_method_149_code 27 = .ok (.getstatic 38, 3) := by decide +kernel
theorem w49 : Jvm.Cond.fieldLink "java/lang/String" (38 : Nat) "java/lang/String" "COMPACT_STRINGS" "Z" ∈ tables_1 := List.mem_of_getElem? (i := 49) rfl
theorem d4_30 : decode jdk_42_method_149_code 30 = .ok (.ifCond .eq 28, 3) := by decide +kernel
theorem d4_33 : decode jdk_42_method_149_code 33 = .ok (.aload_n 1, 1) := by decide +kernel
theorem d4_34 : decode jdk_42_method_149_code 34 = .ok (.iload_n 2, 1) := by decide +kernel
theorem d4_35 : decode jdk_42_method_149_code 35 = .ok (.iload_n 3, 1) := by decide +kernel
theorem d4_36 : decode jdk_42_method_149_code 36 = .ok (.invokestatic 177, 3) := by decide +kernel
theorem w84 : Jvm.Cond.code N2 jdk_52_method_16_code (6 : Nat) (Option.some (Jvm.ClassFile.FieldType.array Jvm.ClassFile.FieldType.byte)) ∈ tables_1 := List.mem_of_getElem? (i := 84) rfl
theorem pd_N2 : parseMethodDescriptor N2.desc = some ⟨[(.array .char), .int, .int], (some (.array .byte))⟩ := by decide +kernel
theorem w81 : Jvm.Cond.methodLink "java/lang/String" (177 : Nat) N2 ∈ tables_1 := List.mem_of_getElem? (i := 81) rfl
theorem w82 : Jvm.Cond.static N2 ∈ tables_1 := List.mem_of_getElem? (i := 82) rfl
theorem d4_39 : decode jdk_42_method_149_code 39 = .ok (.astore 5, 2) := by decide +kernel
theorem d4_41 : decode jdk_42_method_149_code 41 = .ok (.aload_n 0, 1) := by decide +kernel
theorem d4_42 : decode jdk_42_method_149_code 42 = .ok (.aload 5, 2) := by decide +kernel
theorem d4_44 : decode jdk_42_method_149_code 44 = .ok (.iload_n 3, 1) := by decide +kernel
theorem d4_45 : decode jdk_42_method_149_code 45 = .ok (.invokestatic 47, 3) := by decide +kernel
theorem w90 : Jvm.Cond.code N3 jdk_52_method_15_code (2 : Nat) (Option.some Jvm.ClassFile.FieldType.byte) ∈ tables_1 := List.mem_of_getElem? (i := 90) rfl
theorem pd_N3 : parseMethodDescriptor N3.desc = some ⟨[(.array .byte), .int], (some .byte)⟩ := by decide +kernel
theorem w88 : Jvm.Cond.methodLink "java/lang/String" (47 : Nat) N3 ∈ tables_1 := List.mem_of_getElem? (i := 88) rfl
theorem w89 : Jvm.Cond.static N3 ∈ tables_1 := List.mem_of_getElem? (i := 89) rfl
theorem d4_48 : decode jdk_42_method_149_code 48 = .ok (.putfield 15, 3) := by decide +kernel
theorem d4_51 : decode jdk_42_method_149_code 51 = .ok (.aload_n 0, 1) := by decide +kernel
theorem d4_52 : decode jdk_42_method_149_code 52 = .ok (.aload 5, 2) := by decide +kernel
theorem d4_54 : decode jdk_42_method_149_code 54 = .ok (.putfield 9, 3) := by decide +kernel
theorem d4_57 : decode jdk_42_method_149_code 57 = .ok (.return_, 1) := by decide +kernel
abbrev N5 : MethodName := ⟨"java/lang/String", "<init>", "([CIILjava/lang/Void;)V"⟩
theorem pn_N5 : plainName N5.cls = true := by first | (simp [plainName, overriddenIn]; done) | decide +kernel

abbrev rm_new4 : Room := { frames := 2, cells := 4, slots := 8, locals := 35 }
set_option maxRecDepth 65536 in
set_option maxHeartbeats 4000000 in
theorem ct_new4 (l : Launch) {Z : State} {n0 : Nat} {z : Int32} {f : Value} (W : Sx Z z f) (x a : Addr) (cs : List Int32) (h : Heap) (A : Exa Z h x "java/lang/String") (Fv : Fld Z h x "java/lang/String" "value" "[B" .null) (Fc : Fld Z h x "java/lang/String" "coder" "B" (.int 0)) (Fa : Vec Z h a .char cs) (hL : ∀ c ∈ cs, isL c) (hn : cs.length ≤ 4) (zx : n0 ≤ x) :
    Ctr l Z n0 N5 jdk_42_method_149_code 6 none rm_new4 #[(.ref x), (.ref a), (.int (0 : Int32)), (.int cs.length.toInt32), .null] h [x] (fun v h' sn => v = none ∧ Keep h h' [x] ∧ (∃ b, Str Z h' x b cs) ∧ sn = []) := by
  refine Ctr.of_go (ls := #[.val (.ref x), .val (.ref a), .val (.int (0 : Int32)), .val (.int cs.length.toInt32), .val .null, .unset]) W.1 (plainFor_of_name pn_N5) (fun m => by first | (simp [entryFrame, mkF, argsToLocals, Value.category]; done) | rfl) (fun K H => ?_)
  have KK : Keep h h [x] := Keep.refl _ _
  have hax : a ≠ x := Vec.neExa Fa A W.1 w9
  refine Go.aloadN H d4_0 rfl rfl rfl ?_
  refine Go.initObj H d4_1 rfl w19 w20 w21 0 rfl (Nat.le_of_eq rfl) (by decide) (by decide) ?_
  refine Go.iloadN H d4_4 rfl rfl ?_
  by_cases c1 : cs = []
  ·
    refine Go.ifN H d4_5 (teq (by rw [c1]; rfl)).2 rfl ?_
    refine Go.aloadN H d4_8 rfl rfl rfl ?_
    refine Go.ldcS ([] : List Int32) (0 : Int32) 0 H d4_9 rfl w22 cm_0 lt_0 lt_0_l (by decide) (by decide) (by decide) (by decide) (by decide) (by decide) ?_
    intro a2 b3 h4 E5 S6 q7
    replace A := A.ext E5
    replace Fv := Fv.ext E5
    replace Fc := Fc.ext E5
    replace Fa := Fa.ext E5
    replace KK := KK.ext E5
    have ne8 : x ≠ a2 := (q7 x (by simp)).1
    have ne9 : x ≠ b3 := (q7 x (by simp)).2
    show Go _ _ _ _ _ _ h4 [x] 2 4 11 #[.val (.ref x), .val (.ref a), .val (.int (0 : Int32)), .val (.int cs.length.toInt32), .val .null, .unset] [(.ref a2), (.ref x)]
    refine Go.getfield H d4_11 rfl w28 S6.2.1 ?_
    refine Go.putfield (v := (.ref b3)) H d4_14 rfl w28 Fv A (Or.inr ⟨w24, rfl, rfl⟩) w9 (ty := (.array .byte)) (by decide) rfl rfl zx (by simp) ?_
    intro h10 Wr11
    have F12 := Fv.same Wr11
    have K13 := Keep.of_wr Wr11
    replace A := A.wr Wr11
    replace Fc := Fc.other Wr11 (Or.inr (own_sne W.1 (Or.inr w25) (Or.inr w24) (by decide) (t := .byte) (t' := (.array .byte)) (by decide) (by decide)))
    replace Fa := Fa.keep K13 (ninS hax nin0)
    replace S6 := S6.keep K13 (ninS (Ne.symm ne8) nin0) (ninS (Ne.symm ne9) nin0)
    replace KK := KK.wr Wr11 (Or.inl (by simp))
    refine Go.aloadN H d4_17 rfl rfl rfl ?_
    refine Go.ldcS ([] : List Int32) (0 : Int32) 0 H d4_18 rfl w22 cm_0 lt_0 lt_0_l (by decide) (by decide) (by decide) (by decide) (by decide) (by decide) ?_
    intro a14 b15 h16 E17 S18 q19
    replace A := A.ext E17
    replace Fc := Fc.ext E17
    replace Fa := Fa.ext E17
    replace S6 := S6.ext E17
    replace F12 := F12.ext E17
    replace KK := KK.ext E17
    have ne20 : x ≠ a14 := (q19 x (by simp)).1
    have ne21 : x ≠ b15 := (q19 x (by simp)).2
    show Go _ _ _ _ _ _ h16 [x] 4 8 20 #[.val (.ref x), .val (.ref a), .val (.int (0 : Int32)), .val (.int cs.length.toInt32), .val .null, .unset] [(.ref a14), (.ref x)]
    refine Go.getfield H d4_20 rfl w29 S18.2.2.1 ?_
    refine Go.putfield (v := (.int (0 : Int32))) H d4_23 rfl w29 Fc A (Or.inr ⟨w25, rfl, rfl⟩) w9 (ty := .byte) (by decide) (by decide) (by decide) zx (by simp) ?_
    intro h22 Wr23
    have F24 := Fc.same Wr23
    have K25 := Keep.of_wr Wr23
    replace A := A.wr Wr23
    replace Fa := Fa.keep K25 (ninS hax nin0)
    replace S6 := S6.keep K25 (ninS (Ne.symm ne8) nin0) (ninS (Ne.symm ne9) nin0)
    replace F12 := F12.other Wr23 (Or.inr (own_sne W.1 (Or.inr w24) (Or.inr w25) (by decide) (t := (.array .byte)) (t' := .byte) (by decide) (by decide)))
    replace S18 := S18.keep K25 (ninS (Ne.symm ne20) nin0) (ninS (Ne.symm ne21) nin0)
    replace KK := KK.wr Wr23 (Or.inl (by simp))
    exact Go.return_ [] H d4_26 ⟨rfl, KK, ⟨_, A, F12, F24, (by rw [c1]; exact S6.2.2.2.1), hL, by omega⟩, rfl⟩ all0 (by decide) (by decide)
  ·
    refine Go.ifY (pc' := 27) H d4_5 (feq (own_ne0 (by omega) (List.length_pos_iff.mpr c1))).2 (by decide) (by decide) ?_
    refine Go.getstatic H d4_27 rfl w49 W.2.2.1 ?_
    refine Go.ifN H d4_30 (feq W.2.1).1 rfl ?_
    refine Go.aloadN H d4_33 rfl rfl rfl ?_
    refine Go.iloadN H d4_34 rfl rfl ?_
    refine Go.iloadN H d4_35 rfl rfl ?_
    refine Go.callS (rest := []) 0 [(.ref a), (.int (0 : Int32)), (.int cs.length.toInt32)] H d4_36 rfl w81 w82 w83 w84 pd_N2 (ct_cmp3 l W a cs h Fa hL hn) all0 rfl rfl rfl (Nat.le_of_eq rfl) (by decide) (by decide) (by decide) (by decide) nh_N1 ?_
    rintro _ h27 _ ⟨b26, rfl, E28, g29, F30, rfl⟩
    have ne31 : x ≠ b26 := Nat.ne_of_lt (Nat.lt_of_lt_of_le A.lt g29)
    have ne32 : a ≠ b26 := Nat.ne_of_lt (Nat.lt_of_lt_of_le Fa.lt g29)
    replace A := A.ext E28
    replace Fv := Fv.ext E28
    replace Fc := Fc.ext E28
    replace Fa := Fa.ext E28
    replace KK := KK.ext E28
    show Go _ _ _ _ _ _ h27 [x] 1 4 39 #[.val (.ref x), .val (.ref a), .val (.int (0 : Int32)), .val (.int cs.length.toInt32), .val .null, .unset] [(.ref b26)]
    refine Go.astore (ls' := #[.val (.ref x), .val (.ref a), .val (.int (0 : Int32)), .val (.int cs.length.toInt32), .val .null, .val (.ref b26)]) H d4_39 rfl rfl rfl ?_
    refine Go.aloadN H d4_41 rfl rfl rfl ?_
    refine Go.aload H d4_42 rfl rfl rfl ?_
    refine Go.iloadN H d4_44 rfl rfl ?_
    refine Go.callS (rest := [(.ref x)]) 1 [(.ref b26), (.int cs.length.toInt32)] H d4_45 rfl w88 w89 w83 w90 pd_N3 (ct_codl l W b26 _ cs.length.toInt32 h27 F30 (by rw [List.length_map])) all0 rfl rfl rfl (Nat.le_of_eq rfl) (by decide) (by decide) (by decide) (by decide) nh_N1 ?_
    rintro _ _ _ ⟨rfl, rfl, rfl⟩
    show Go _ _ _ _ _ _ h27 [x] 1 4 48 #[.val (.ref x), .val (.ref a), .val (.int (0 : Int32)), .val (.int cs.length.toInt32), .val .null, .val (.ref b26)] [(.int (0 : Int32)), (.ref x)]
    refine Go.putfield (v := (.int (0 : Int32))) H d4_48 rfl w29 Fc A (Or.inr ⟨w25, rfl, rfl⟩) w9 (ty := .byte) (by decide) (by decide) (by decide) zx (by simp) ?_
    intro h33 Wr34
    have F35 := Fc.same Wr34
    have K36 := Keep.of_wr Wr34
    replace A := A.wr Wr34
    replace Fv := Fv.other Wr34 (Or.inr (own_sne W.1 (Or.inr w24) (Or.inr w25) (by decide) (t := (.array .byte)) (t' := .byte) (by decide) (by decide)))
    replace Fa := Fa.keep K36 (ninS hax nin0)
    replace F30 := F30.keep K36 (ninS (Ne.symm ne31) nin0)
    replace KK := KK.wr Wr34 (Or.inl (by simp))
    refine Go.aloadN H d4_51 rfl rfl rfl ?_
    refine Go.aload H d4_52 rfl rfl rfl ?_
    refine Go.putfield (v := (.ref b26)) H d4_54 rfl w28 Fv A (Or.inr ⟨w24, rfl, rfl⟩) w9 (ty := (.array .byte)) (by decide) rfl rfl zx (by simp) ?_
    intro h37 Wr38
    have F39 := Fv.same Wr38
    have K40 := Keep.of_wr Wr38
    replace A := A.wr Wr38
    replace Fa := Fa.keep K40 (ninS hax nin0)
    replace F30 := F30.keep K40 (ninS (Ne.symm ne31) nin0)
    replace F35 := F35.other Wr38 (Or.inr (own_sne W.1 (Or.inr w25) (Or.inr w24) (by decide) (t := .byte) (t' := (.array .byte)) (by decide) (by decide)))
    replace KK := KK.wr Wr38 (Or.inl (by simp))
    exact Go.return_ [] H d4_57 ⟨rfl, KK, ⟨_, A, F39, F35, F30, hL, by omega⟩, rfl⟩ all0 (by decide) (by decide)
theorem d3_0 : decode jdk_42_method_3_code 0 = .ok (.aload_n 0, 1) := by decide +kernel
theorem d3_1 : decode jdk_42_method_3_code 1 = .ok (.aload_n 1, 1) := by decide +kernel
theorem d3_2 : decode jdk_42_method_3_code 2 = .ok (.iconst 0, 1) := by decide +kernel
theorem d3_3 : decode jdk_42_method_3_code 3 = .ok (.aload_n 1, 1) := by decide +kernel
theorem d3_4 : decode jdk_42_method_3_code 4 = .ok (.arraylength, 1) := by decide +kernel
theorem d3_5 : decode jdk_42_method_3_code 5 = .ok (.aconst_null, 1) := by decide +kernel
theorem d3_6 : decode jdk_42_method_3_code 6 = .ok (.invokespecial 27, 3) := by decide +kernel
theorem w18 : Jvm.Cond.code N5 jdk_42_method_149_code (6 : Nat) (Option.none : Option Jvm.ClassFile.FieldType) ∈ tables_1 := List.mem_of_getElem? (i := 18) rfl
theorem w10 : Jvm.Cond.initialized "java/lang/String" ∈ tables_1 := List.mem_of_getElem? (i := 10) rfl
theorem pd_N5 : parseMethodDescriptor N5.desc = some ⟨[(.array .char), .int, .int, (.object "java/lang/Void")], none⟩ := by decide +kernel
theorem nh_N5 : N5.cls ≠ "java/lang/invoke/MethodHandle" ∧ N5.cls ≠ "java/lang/invoke/VarHandle" := by decide
theorem w15 : Jvm.Cond.methodLink "java/lang/String" (27 : Nat) N5 ∈ tables_1 := List.mem_of_getElem? (i := 15) rfl
theorem w16 : Jvm.Cond.instanceMethod N5 ∈ tables_1 := List.mem_of_getElem? (i := 16) rfl
theorem d3_9 : decode jdk_42_method_3_code 9 = .ok (.return_, 1) := by decide +kernel
abbrev N6 : MethodName := ⟨"java/lang/String", "<init>", "([C)V"⟩

abbrev rm_new1 : Room := { frames := 3, cells := 4, slots := 8, locals := 52 }
set_option maxRecDepth 65536 in
set_option maxHeartbeats 4000000 in
theorem ct_new1 (l : Launch) {Z : State} {n0 : Nat} {z : Int32} {f : Value} (W : Sx Z z f) (x a : Addr) (cs : List Int32) (h : Heap) (A : Exa Z h x "java/lang/String") (Fv : Fld Z h x "java/lang/String" "value" "[B" .null) (Fc : Fld Z h x "java/lang/String" "coder" "B" (.int 0)) (Fa : Vec Z h a .char cs) (hL : ∀ c ∈ cs, isL c) (hn : cs.length ≤ 4) (zx : n0 ≤ x) :
    Ctr l Z n0 N6 jdk_42_method_3_code 2 none rm_new1 #[(.ref x), (.ref a)] h [x] (fun v h' sn => v = none ∧ Keep h h' [x] ∧ (∃ b, Str Z h' x b cs) ∧ sn = []) := by
  refine Ctr.of_go (ls := #[.val (.ref x), .val (.ref a)]) W.1 (plainFor_of_name pn_N5) (fun m => by first | (simp [entryFrame, mkF, argsToLocals, Value.category]; done) | rfl) (fun K H => ?_)
  have hax : a ≠ x := Vec.neExa Fa A W.1 w9
  refine Go.aloadN H d3_0 rfl rfl rfl ?_
  refine Go.aloadN H d3_1 rfl rfl rfl ?_
  refine Go.iconst (0 : Int32) H d3_2 rfl rfl ?_
  refine Go.aloadN H d3_3 rfl rfl rfl ?_
  refine Go.arraylength cs.length.toInt32 H d3_4 rfl Fa rfl ?_
  refine Go.aconstNull H d3_5 rfl ?_
  refine Go.callI (rest := []) 0 [(.ref a), (.int (0 : Int32)), (.int cs.length.toInt32), .null] H d3_6 rfl rfl w15 w16 w10 w18 pd_N5 (ct_new4 l W x a cs h A Fv Fc Fa hL hn  zx) (by simp) rfl rfl rfl (Nat.le_of_eq rfl) (by decide) (by decide) (by decide) (by decide) nh_N5 ?_
  rintro _ h1 _ ⟨rfl, K2, ⟨b3, S5⟩, rfl⟩
  replace Fa := Fa.keep K2 (ninS hax nin0)
  show Go _ _ _ _ _ _ h1 [x] 4 8 9 #[.val (.ref x), .val (.ref a)] []
  exact Go.return_ [] H d3_9 ⟨rfl, K2, ⟨_, S5⟩, rfl⟩ all0 (by decide) (by decide)
theorem d11_0 : decode jdk_42_method_154_code 0 = .ok (.getstatic 38, 3) := by decide +kernel
theorem d11_3 : decode jdk_42_method_154_code 3 = .ok (.ifCond .eq 14, 3) := by decide +kernel
theorem d11_6 : decode jdk_42_method_154_code 6 = .ok (.aload_n 0, 1) := by decide +kernel
theorem d11_7 : decode jdk_42_method_154_code 7 = .ok (.getfield 15, 3) := by decide +kernel
theorem d11_10 : decode jdk_42_method_154_code 10 = .ok (.ifCond .ne 7, 3) := by decide +kernel
theorem d11_13 : decode jdk_42_method_154_code 13 = .ok (.iconst 1, 1) := by decide +kernel
theorem d11_14 : decode jdk_42_method_154_code 14 = .ok (.goto 4, 3) := by decide +kernel
theorem d11_18 : decode jdk_42_method_154_code 18 = .ok (.ireturn, 1) := by decide +kernel
abbrev N7 : MethodName := ⟨"java/lang/String", "isLatin1", "()Z"⟩

abbrev rm_isl : Room := { frames := 0, cells := 0, slots := 0, locals := 0 }
set_option maxRecDepth 65536 in
set_option maxHeartbeats 4000000 in
theorem ct_isl (l : Launch) {Z : State} {n0 : Nat} {z : Int32} {f : Value} (W : Sx Z z f) (x b : Addr) (cs : List Int32) (h : Heap) (S : Str Z h x b cs) :
    Ctr l Z n0 N7 jdk_42_method_154_code 1 (some .boolean) rm_isl #[(.ref x)] h [] (fun v h' sn => v = some (.int 1) ∧ h = h' ∧ sn = []) := by
  refine Ctr.of_go (ls := #[.val (.ref x)]) W.1 (plainFor_of_name pn_N5) (fun m => by first | (simp [entryFrame, mkF, argsToLocals, Value.category]; done) | rfl) (fun K H => ?_)
  obtain ⟨A, Fv, Fc, Fb, hL, hn⟩ := S
  refine Go.getstatic H d11_0 rfl w49 W.2.2.1 ?_
  refine Go.ifN H d11_3 (feq W.2.1).1 rfl ?_
  refine Go.aloadN H d11_6 rfl rfl rfl ?_
  refine Go.getfield H d11_7 rfl w29 Fc ?_
  refine Go.ifN H d11_10 (by decide) rfl ?_
  refine Go.iconst (1 : Int32) H d11_13 rfl rfl ?_
  refine Go.goto (pc' := 18) H d11_14 (by decide) (by decide) ?_
  exact Go.ireturn (1 : Int32) [] H d11_18 (by simp) (by decide) ⟨rfl, rfl, rfl⟩ all0 (by decide) (by decide)
theorem d9_0 : decode jdk_42_method_152_code 0 = .ok (.getstatic 38, 3) := by decide +kernel
theorem d9_3 : decode jdk_42_method_152_code 3 = .ok (.ifCond .eq 10, 3) := by decide +kernel
theorem d9_6 : decode jdk_42_method_152_code 6 = .ok (.aload_n 0, 1) := by decide +kernel
theorem d9_7 : decode jdk_42_method_152_code 7 = .ok (.getfield 15, 3) := by decide +kernel
theorem d9_10 : decode jdk_42_method_152_code 10 = .ok (.goto 4, 3) := by decide +kernel
theorem d9_14 : decode jdk_42_method_152_code 14 = .ok (.ireturn, 1) := by decide +kernel
abbrev N8 : MethodName := ⟨"java/lang/String", "coder", "()B"⟩

abbrev rm_cod : Room := { frames := 0, cells := 0, slots := 0, locals := 0 }
set_option maxRecDepth 65536 in
set_option maxHeartbeats 4000000 in
theorem ct_cod (l : Launch) {Z : State} {n0 : Nat} {z : Int32} {f : Value} (W : Sx Z z f) (x b : Addr) (cs : List Int32) (h : Heap) (S : Str Z h x b cs) :
    Ctr l Z n0 N8 jdk_42_method_152_code 1 (some .byte) rm_cod #[(.ref x)] h [] (fun v h' sn => v = some (.int 0) ∧ h = h' ∧ sn = []) := by
  refine Ctr.of_go (ls := #[.val (.ref x)]) W.1 (plainFor_of_name pn_N5) (fun m => by first | (simp [entryFrame, mkF, argsToLocals, Value.category]; done) | rfl) (fun K H => ?_)
  obtain ⟨A, Fv, Fc, Fb, hL, hn⟩ := S
  refine Go.getstatic H d9_0 rfl w49 W.2.2.1 ?_
  refine Go.ifN H d9_3 (feq W.2.1).1 rfl ?_
  refine Go.aloadN H d9_6 rfl rfl rfl ?_
  refine Go.getfield H d9_7 rfl w29 Fc ?_
  refine Go.goto (pc' := 14) H d9_10 (by decide) (by decide) ?_
  exact Go.ireturn (0 : Int32) [] H d9_14 (by simp) (by decide) ⟨rfl, rfl, rfl⟩ all0 (by decide) (by decide)
theorem own_shr0 (x : Int32) : x >>> ((0 : Int32) &&& 31) = x := Int32.toInt_inj.mp (by rw [c_ishr x 0 0 (by decide)]; simp)
theorem d8_0 : decode jdk_42_method_54_code 0 = .ok (.aload_n 0, 1) := by decide +kernel
theorem d8_1 : decode jdk_42_method_54_code 1 = .ok (.getfield 9, 3) := by decide +kernel
theorem d8_4 : decode jdk_42_method_54_code 4 = .ok (.arraylength, 1) := by decide +kernel
theorem d8_5 : decode jdk_42_method_54_code 5 = .ok (.aload_n 0, 1) := by decide +kernel
theorem d8_6 : decode jdk_42_method_54_code 6 = .ok (.invokevirtual 335, 3) := by decide +kernel
theorem w48 : Jvm.Cond.code N8 jdk_42_method_152_code (1 : Nat) (Option.some Jvm.ClassFile.FieldType.byte) ∈ tables_1 := List.mem_of_getElem? (i := 48) rfl
theorem pd_N8 : parseMethodDescriptor N8.desc = some ⟨[], (some .byte)⟩ := by decide +kernel
theorem w44 : Jvm.Cond.methodLink "java/lang/String" (335 : Nat) N8 ∈ tables_1 := List.mem_of_getElem? (i := 44) rfl
theorem w45 : Jvm.Cond.declares N8 ∈ tables_1 := List.mem_of_getElem? (i := 45) rfl
theorem w47 : Jvm.Cond.selects "java/lang/String" N8 N8 ∈ tables_1 := List.mem_of_getElem? (i := 47) rfl
theorem w46 : Jvm.Cond.instanceMethod N8 ∈ tables_1 := List.mem_of_getElem? (i := 46) rfl
theorem d8_9 : decode jdk_42_method_54_code 9 = .ok (.ishr, 1) := by decide +kernel
theorem d8_10 : decode jdk_42_method_54_code 10 = .ok (.ireturn, 1) := by decide +kernel
abbrev N9 : MethodName := ⟨"java/lang/String", "length", "()I"⟩

abbrev rm_len : Room := { frames := 1, cells := 0, slots := 0, locals := 13 }
set_option maxRecDepth 65536 in
set_option maxHeartbeats 4000000 in
theorem ct_len (l : Launch) {Z : State} {n0 : Nat} {z : Int32} {f : Value} (W : Sx Z z f) (x b : Addr) (cs : List Int32) (h : Heap) (S : Str Z h x b cs) :
    Ctr l Z n0 N9 jdk_42_method_54_code 1 (some .int) rm_len #[(.ref x)] h [] (fun v h' sn => v = some (.int cs.length.toInt32) ∧ h = h' ∧ sn = []) := by
  refine Ctr.of_go (ls := #[.val (.ref x)]) W.1 (plainFor_of_name pn_N5) (fun m => by first | (simp [entryFrame, mkF, argsToLocals, Value.category]; done) | rfl) (fun K H => ?_)
  have S0 := S
  obtain ⟨A, Fv, Fc, Fb, hL, hn⟩ := S
  refine Go.aloadN H d8_0 rfl rfl rfl ?_
  refine Go.getfield H d8_1 rfl w28 Fv ?_
  refine Go.arraylength cs.length.toInt32 H d8_4 rfl Fb (by rw [List.length_map]) ?_
  refine Go.aloadN H d8_5 rfl rfl rfl ?_
  refine Go.callV (rest := [(.int cs.length.toInt32)]) 1 [] H d8_6 rfl A w44 w45 w47 w46 w10 w48 pd_N8 (ct_cod l W x b cs h S0) all0 rfl rfl rfl (Nat.le_of_eq rfl) (by decide) (by decide) (by decide) (by decide) nh_N5 ?_
  rintro _ _ _ ⟨rfl, rfl, rfl⟩
  show Go _ _ _ _ _ _ h [] 0 0 9 #[.val (.ref x)] [(.int (0 : Int32)), (.int cs.length.toInt32)]
  refine Go.ishr H d8_9 rfl ?_
  exact Go.ireturnI [] H d8_10 ⟨by rw [own_shr0], rfl, rfl⟩ all0 (by decide) (by decide)
theorem own_eqt {u v : List Int32} {i : Nat} (hl : u.length = v.length) (e : u.take i = v.take i) {p q : Int32} (h1 : u[i]? = some p) (h2 : v[i]? = some q) (hpq : p = q) : u.take (i + 1) = v.take (i + 1) := by
  rw [List.take_add_one, List.take_add_one, h1, h2, hpq, e]
theorem d16_9 : decode jdk_43_method_13_code 9 = .ok (.iload_n 2, 1) := by decide +kernel
theorem d16_10 : decode jdk_43_method_13_code 10 = .ok (.aload_n 0, 1) := by decide +kernel
theorem d16_11 : decode jdk_43_method_13_code 11 = .ok (.arraylength, 1) := by decide +kernel
theorem d16_12 : decode jdk_43_method_13_code 12 = .ok (.if_icmp .ge 20, 3) := by decide +kernel
theorem d16_32 : decode jdk_43_method_13_code 32 = .ok (.iconst 1, 1) := by decide +kernel
theorem d16_33 : decode jdk_43_method_13_code 33 = .ok (.ireturn, 1) := by decide +kernel
theorem d16_15 : decode jdk_43_method_13_code 15 = .ok (.aload_n 0, 1) := by decide +kernel
theorem d16_16 : decode jdk_43_method_13_code 16 = .ok (.iload_n 2, 1) := by decide +kernel
theorem d16_17 : decode jdk_43_method_13_code 17 = .ok (.baload, 1) := by decide +kernel
theorem d16_18 : decode jdk_43_method_13_code 18 = .ok (.aload_n 1, 1) := by decide +kernel
theorem d16_19 : decode jdk_43_method_13_code 19 = .ok (.iload_n 2, 1) := by decide +kernel
theorem d16_20 : decode jdk_43_method_13_code 20 = .ok (.baload, 1) := by decide +kernel
theorem d16_21 : decode jdk_43_method_13_code 21 = .ok (.if_icmp .eq 5, 3) := by decide +kernel
theorem d16_26 : decode jdk_43_method_13_code 26 = .ok (.iinc 2 1, 3) := by decide +kernel
theorem d16_29 : decode jdk_43_method_13_code 29 = .ok (.goto (-20), 3) := by decide +kernel
theorem d16_24 : decode jdk_43_method_13_code 24 = .ok (.iconst 0, 1) := by decide +kernel
theorem d16_25 : decode jdk_43_method_13_code 25 = .ok (.ireturn, 1) := by decide +kernel

set_option maxRecDepth 65536 in
theorem lp_leq (l : Launch) {Z : State} {n0 : Nat} {h : Heap} (a b : Addr) (u w : List Int32) (Fa : Vec Z h a .byte u) (Fb : Vec Z h b .byte w) (hu : u.length < 2 ^ 31) (hl : u.length = w.length) {R : Room} {K : Cx} (H : Ok Z K "java/lang/StringLatin1" jdk_43_method_13_code 3 (some .boolean) "equals") :
    ∀ (m i : Nat), i + m = u.length → u.take i = w.take i → Go l Z n0 R K (fun x h' sn => x = some (.int (if u = w then 1 else 0)) ∧ h = h' ∧ sn = []) h [] 0 0 9 #[.val (.ref a), .val (.ref b), .val (.int i.toInt32)] [] := by
  intro m
  induction m with
  | zero =>
    intro i hi he
    refine Go.iloadN H d16_9 rfl rfl ?_
    refine Go.aloadN H d16_10 rfl rfl rfl ?_
    refine Go.arraylength u.length.toInt32 H d16_11 rfl Fa rfl ?_
    refine Go.icmpY (pc' := 32) H d16_12 (flt (own_nlt (by omega) (by omega))).2.1 (by decide) (by decide) ?_
    refine Go.iconst (1 : Int32) H d16_32 rfl rfl ?_
    exact Go.ireturn 1 [] H d16_33 (by simp) (by decide) ⟨by rw [if_pos (by rw [List.take_of_length_le (by omega), List.take_of_length_le (by omega)] at he; exact he)], rfl, rfl⟩ all0 (Nat.zero_le _) (Nat.zero_le _)
  | succ m ih =>
    intro i hi he
    have hlt : i < u.length := by omega
    obtain ⟨p, hp⟩ : ∃ p, u[i]? = some p := ⟨_, List.getElem?_eq_getElem hlt⟩
    obtain ⟨q, hq⟩ : ∃ q, w[i]? = some q := ⟨_, List.getElem?_eq_getElem (by omega)⟩
    refine Go.iloadN H d16_9 rfl rfl ?_
    refine Go.aloadN H d16_10 rfl rfl rfl ?_
    refine Go.arraylength u.length.toInt32 H d16_11 rfl Fa rfl ?_
    refine Go.icmpN H d16_12 (tlt (own_lt hu hlt)).2.1 rfl ?_
    refine Go.aloadN H d16_15 rfl rfl rfl ?_
    refine Go.iloadN H d16_16 rfl rfl ?_
    refine Go.baload (v := p) H d16_17 rfl Fa i (own_cl (by omega)) (own_n0 (by omega)) hp ?_
    refine Go.aloadN H d16_18 rfl rfl rfl ?_
    refine Go.iloadN H d16_19 rfl rfl ?_
    refine Go.baload (v := q) H d16_20 rfl Fb i (own_cl (by omega)) (own_n0 (by omega)) hq ?_
    by_cases c1 : p = q
    ·
      refine Go.icmpY (pc' := 26) H d16_21 (teq c1).1 (by decide) (by decide) ?_
      refine Go.iinc (ls' := #[.val (.ref a), .val (.ref b), .val (.int (i.toInt32 + (1 : Int32)))]) (1 : Int32) H d16_26 rfl rfl rfl rfl ?_
      refine Go.goto (pc' := 9) H d16_29 (by decide) (by decide) ?_
      rw [own_s i]
      exact ih (i + 1) (by omega) (own_eqt hl he hp hq c1)
    ·
      refine Go.icmpN H d16_21 (feq c1).1 rfl ?_
      refine Go.iconst (0 : Int32) H d16_24 rfl rfl ?_
      exact Go.ireturn 0 [] H d16_25 (by simp) (by decide) ⟨by rw [if_neg (fun e => c1 (Option.some.inj (hp.symm.trans ((congrArg (fun z : List Int32 => z[i]?) e).trans hq))))], rfl, rfl⟩ all0 (Nat.zero_le _) (Nat.zero_le _)
theorem own_ofinj {i n : Nat} (hi : i < 2 ^ 31) (hn : n < 2 ^ 31) (e : i.toInt32 = n.toInt32) : i = n := by
  have := congrArg Int32.toInt e; rw [own_len hi, own_len hn] at this; omega
theorem d16_0 : decode jdk_43_method_13_code 0 = .ok (.aload_n 0, 1) := by decide +kernel
theorem d16_1 : decode jdk_43_method_13_code 1 = .ok (.arraylength, 1) := by decide +kernel
theorem d16_2 : decode jdk_43_method_13_code 2 = .ok (.aload_n 1, 1) := by decide +kernel
theorem d16_3 : decode jdk_43_method_13_code 3 = .ok (.arraylength, 1) := by decide +kernel
theorem d16_4 : decode jdk_43_method_13_code 4 = .ok (.if_icmp .ne 30, 3) := by decide +kernel
theorem d16_7 : decode jdk_43_method_13_code 7 = .ok (.iconst 0, 1) := by decide +kernel
theorem d16_8 : decode jdk_43_method_13_code 8 = .ok (.istore_n 2, 1) := by decide +kernel
theorem d16_34 : decode jdk_43_method_13_code 34 = .ok (.iconst 0, 1) := by decide +kernel
theorem d16_35 : decode jdk_43_method_13_code 35 = .ok (.ireturn, 1) := by decide +kernel
abbrev N10 : MethodName := ⟨"java/lang/StringLatin1", "equals", "([B[B)Z"⟩
theorem pn_N10 : plainName N10.cls = true := by first | (simp [plainName, overriddenIn]; done) | decide +kernel

abbrev rm_leq : Room := { frames := 0, cells := 0, slots := 0, locals := 0 }
set_option maxRecDepth 65536 in
set_option maxHeartbeats 4000000 in
theorem ct_leq (l : Launch) {Z : State} {n0 : Nat} {z : Int32} {f : Value} (W : Sx Z z f) (a b : Addr) (u w : List Int32) (h : Heap) (Fa : Vec Z h a .byte u) (Fb : Vec Z h b .byte w) (hu : u.length < 2 ^ 31) (hv : w.length < 2 ^ 31) :
    Ctr l Z n0 N10 jdk_43_method_13_code 3 (some .boolean) rm_leq #[(.ref a), (.ref b)] h [] (fun v h' sn => v = some (.int (if u = w then 1 else 0)) ∧ h = h' ∧ sn = []) := by
  refine Ctr.of_go (ls := #[.val (.ref a), .val (.ref b), .unset]) W.1 (plainFor_of_name pn_N10) (fun m => by first | (simp [entryFrame, mkF, argsToLocals, Value.category]; done) | rfl) (fun K H => ?_)
  refine Go.aloadN H d16_0 rfl rfl rfl ?_
  refine Go.arraylength u.length.toInt32 H d16_1 rfl Fa rfl ?_
  refine Go.aloadN H d16_2 rfl rfl rfl ?_
  refine Go.arraylength w.length.toInt32 H d16_3 rfl Fb rfl ?_
  by_cases c1 : u.length = w.length
  ·
    refine Go.icmpN H d16_4 (teq (congrArg Nat.toInt32 c1)).2 rfl ?_
    refine Go.iconst (0 : Int32) H d16_7 rfl rfl ?_
    refine Go.istoreN (ls' := #[.val (.ref a), .val (.ref b), .val (.int (0 : Int32))]) H d16_8 rfl rfl ?_
    exact lp_leq l a b u w Fa Fb hu c1 H u.length 0 (by omega) rfl
  ·
    refine Go.icmpY (pc' := 34) H d16_4 (feq (fun e => c1 (own_ofinj hu hv e))).2 (by decide) (by decide) ?_
    refine Go.iconst (0 : Int32) H d16_34 rfl rfl ?_
    exact Go.ireturn 0 [] H d16_35 (by simp) (by decide) ⟨by rw [if_neg (fun e => c1 (congrArg List.length e))], rfl, rfl⟩ all0 (by decide) (by decide)
theorem d15_0 : decode jdk_42_method_66_code 0 = .ok (.aload_n 0, 1) := by decide +kernel
theorem d15_1 : decode jdk_42_method_66_code 1 = .ok (.aload_n 1, 1) := by decide +kernel
theorem d15_2 : decode jdk_42_method_66_code 2 = .ok (.if_acmp .ne 5, 3) := by decide +kernel
theorem d15_5 : decode jdk_42_method_66_code 5 = .ok (.iconst 1, 1) := by decide +kernel
theorem d15_6 : decode jdk_42_method_66_code 6 = .ok (.ireturn, 1) := by decide +kernel
theorem d15_7 : decode jdk_42_method_66_code 7 = .ok (.aload_n 1, 1) := by decide +kernel
theorem d15_8 : decode jdk_42_method_66_code 8 = .ok (.instanceof 10, 3) := by decide +kernel
theorem w77 : Jvm.Cond.classLink "java/lang/String" (10 : Nat) "java/lang/String" ∈ tables_1 := List.mem_of_getElem? (i := 77) rfl
theorem d15_11 : decode jdk_42_method_66_code 11 = .ok (.ifCond .eq 43, 3) := by decide +kernel
theorem d15_14 : decode jdk_42_method_66_code 14 = .ok (.aload_n 1, 1) := by decide +kernel
theorem d15_15 : decode jdk_42_method_66_code 15 = .ok (.checkcast 10, 3) := by decide +kernel
theorem d15_18 : decode jdk_42_method_66_code 18 = .ok (.astore_n 2, 1) := by decide +kernel
theorem d15_19 : decode jdk_42_method_66_code 19 = .ok (.getstatic 38, 3) := by decide +kernel
theorem d15_22 : decode jdk_42_method_66_code 22 = .ok (.ifCond .eq 14, 3) := by decide +kernel
theorem d15_25 : decode jdk_42_method_66_code 25 = .ok (.aload_n 0, 1) := by decide +kernel
theorem d15_26 : decode jdk_42_method_66_code 26 = .ok (.getfield 15, 3) := by decide +kernel
theorem d15_29 : decode jdk_42_method_66_code 29 = .ok (.aload_n 2, 1) := by decide +kernel
theorem d15_30 : decode jdk_42_method_66_code 30 = .ok (.getfield 15, 3) := by decide +kernel
theorem d15_33 : decode jdk_42_method_66_code 33 = .ok (.if_icmp .ne 21, 3) := by decide +kernel
theorem d15_36 : decode jdk_42_method_66_code 36 = .ok (.aload_n 0, 1) := by decide +kernel
theorem d15_37 : decode jdk_42_method_66_code 37 = .ok (.getfield 9, 3) := by decide +kernel
theorem d15_40 : decode jdk_42_method_66_code 40 = .ok (.aload_n 2, 1) := by decide +kernel
theorem d15_41 : decode jdk_42_method_66_code 41 = .ok (.getfield 9, 3) := by decide +kernel
theorem d15_44 : decode jdk_42_method_66_code 44 = .ok (.invokestatic 541, 3) := by decide +kernel
theorem w80 : Jvm.Cond.code N10 jdk_43_method_13_code (3 : Nat) (Option.some Jvm.ClassFile.FieldType.boolean) ∈ tables_1 := List.mem_of_getElem? (i := 80) rfl
theorem w62 : Jvm.Cond.initialized "java/lang/StringLatin1" ∈ tables_1 := List.mem_of_getElem? (i := 62) rfl
theorem pd_N10 : parseMethodDescriptor N10.desc = some ⟨[(.array .byte), (.array .byte)], (some .boolean)⟩ := by decide +kernel
theorem nh_N10 : N10.cls ≠ "java/lang/invoke/MethodHandle" ∧ N10.cls ≠ "java/lang/invoke/VarHandle" := by decide
theorem w78 : Jvm.Cond.methodLink "java/lang/String" (541 : Nat) N10 ∈ tables_1 := List.mem_of_getElem? (i := 78) rfl
theorem w79 : Jvm.Cond.static N10 ∈ tables_1 := List.mem_of_getElem? (i := 79) rfl
theorem d15_47 : decode jdk_42_method_66_code 47 = .ok (.ifCond .eq 7, 3) := by decide +kernel
theorem d15_50 : decode jdk_42_method_66_code 50 = .ok (.iconst 1, 1) := by decide +kernel
theorem d15_51 : decode jdk_42_method_66_code 51 = .ok (.goto 4, 3) := by decide +kernel
theorem d15_55 : decode jdk_42_method_66_code 55 = .ok (.ireturn, 1) := by decide +kernel
theorem d15_54 : decode jdk_42_method_66_code 54 = .ok (.iconst 0, 1) := by decide +kernel
abbrev N11 : MethodName := ⟨"java/lang/String", "equals", "(Ljava/lang/Object;)Z"⟩

abbrev rm_eq : Room := { frames := 1, cells := 0, slots := 0, locals := 14 }
set_option maxRecDepth 65536 in
set_option maxHeartbeats 4000000 in
theorem ct_eq (l : Launch) {Z : State} {n0 : Nat} {z : Int32} {f : Value} (W : Sx Z z f) (x b y d : Addr) (cs ds : List Int32) (h : Heap) (S : Str Z h x b cs) (S2 : Str Z h y d ds) :
    Ctr l Z n0 N11 jdk_42_method_66_code 3 (some .boolean) rm_eq #[(.ref x), (.ref y)] h [] (fun v h' sn => v = some (.int (if cs = ds then 1 else 0)) ∧ h = h' ∧ sn = []) := by
  refine Ctr.of_go (ls := #[.val (.ref x), .val (.ref y), .unset]) W.1 (plainFor_of_name pn_N5) (fun m => by first | (simp [entryFrame, mkF, argsToLocals, Value.category]; done) | rfl) (fun K H => ?_)
  have S0 := S
  have S20 := S2
  obtain ⟨A, Fv, Fc, Fb, hL, hn⟩ := S
  obtain ⟨A2, Fv2, Fc2, Fb2, hL2, hn2⟩ := S2
  refine Go.aloadN H d15_0 rfl rfl rfl ?_
  refine Go.aloadN H d15_1 rfl rfl rfl ?_
  by_cases c1 : x = y
  ·
    subst c1
    refine Go.acmpN H d15_2 rfl rfl (by simp [XT.acmp]) rfl ?_
    refine Go.iconst (1 : Int32) H d15_5 rfl rfl ?_
    exact Go.ireturn (1 : Int32) [] H d15_6 (by simp) (by decide) ⟨by rw [if_pos (S0.det S20)], rfl, rfl⟩ all0 (by decide) (by decide)
  ·
    refine Go.acmpY (pc' := 7) H d15_2 rfl rfl (by simp [XT.acmp, c1]) (by decide) (by decide) ?_
    refine Go.aloadN H d15_7 rfl rfl rfl ?_
    refine Go.instanceofY H d15_8 rfl w77 (Ins.self A2) ?_
    refine Go.ifN H d15_11 (by decide) rfl ?_
    refine Go.aloadN H d15_14 rfl rfl rfl ?_
    refine Go.checkcast H d15_15 rfl w77 (Ins.self A2) ?_
    refine Go.astoreN (ls' := #[.val (.ref x), .val (.ref y), .val (.ref y)]) H d15_18 rfl rfl rfl ?_
    refine Go.getstatic H d15_19 rfl w49 W.2.2.1 ?_
    refine Go.ifN H d15_22 (feq W.2.1).1 rfl ?_
    refine Go.aloadN H d15_25 rfl rfl rfl ?_
    refine Go.getfield H d15_26 rfl w29 Fc ?_
    refine Go.aloadN H d15_29 rfl rfl rfl ?_
    refine Go.getfield H d15_30 rfl w29 Fc2 ?_
    refine Go.icmpN H d15_33 (by decide) rfl ?_
    refine Go.aloadN H d15_36 rfl rfl rfl ?_
    refine Go.getfield H d15_37 rfl w28 Fv ?_
    refine Go.aloadN H d15_40 rfl rfl rfl ?_
    refine Go.getfield H d15_41 rfl w28 Fv2 ?_
    refine Go.callS (rest := []) 0 [(.ref b), (.ref d)] H d15_44 rfl w78 w79 w62 w80 pd_N10 (ct_leq l W b d _ _ h Fb Fb2 (by rw [List.length_map]; omega) (by rw [List.length_map]; omega)) all0 rfl rfl rfl (Nat.le_of_eq rfl) (by decide) (by decide) (by decide) (by decide) nh_N10 ?_
    rintro _ _ _ ⟨rfl, rfl, rfl⟩
    show Go _ _ _ _ _ _ h [] 0 0 47 #[.val (.ref x), .val (.ref y), .val (.ref y)] [(.int (if cs.map (nar .byte) = ds.map (nar .byte) then (1 : Int32) else 0))]
    by_cases c2 : cs = ds
    ·
      refine Go.ifN H d15_47 (feq (by rw [if_pos (congrArg _ c2)]; decide)).1 rfl ?_
      refine Go.iconst (1 : Int32) H d15_50 rfl rfl ?_
      refine Go.goto (pc' := 55) H d15_51 (by decide) (by decide) ?_
      exact Go.ireturn (1 : Int32) [] H d15_55 (by simp) (by decide) ⟨by rw [if_pos c2], rfl, rfl⟩ all0 (by decide) (by decide)
    ·
      refine Go.ifY (pc' := 54) H d15_47 (teq (by rw [if_neg (fun e => c2 (own_mapinj hL hL2 e))])).1 (by decide) (by decide) ?_
      refine Go.iconst (0 : Int32) H d15_54 rfl rfl ?_
      exact Go.ireturn (0 : Int32) [] H d15_55 (by simp) (by decide) ⟨by rw [if_neg c2], rfl, rfl⟩ all0 (by decide) (by decide)
def minF (a : Int32) (b : Int32) : Int32 := if b < a then b else a
theorem d14_0 : decode jdk_29_method_69_code 0 = .ok (.iload_n 0, 1) := by decide +kernel
theorem d14_1 : decode jdk_29_method_69_code 1 = .ok (.iload_n 1, 1) := by decide +kernel
theorem d14_2 : decode jdk_29_method_69_code 2 = .ok (.if_icmp .gt 7, 3) := by decide +kernel
theorem d14_9 : decode jdk_29_method_69_code 9 = .ok (.iload_n 1, 1) := by decide +kernel
theorem d14_10 : decode jdk_29_method_69_code 10 = .ok (.ireturn, 1) := by decide +kernel
theorem d14_5 : decode jdk_29_method_69_code 5 = .ok (.iload_n 0, 1) := by decide +kernel
theorem d14_6 : decode jdk_29_method_69_code 6 = .ok (.goto 4, 3) := by decide +kernel
abbrev N12 : MethodName := ⟨"java/lang/Math", "min", "(II)I"⟩
theorem pf_N12 : plainFor N12 = true := by decide +kernel

abbrev rm_min : Room := { frames := 0, cells := 0, slots := 0, locals := 0 }
set_option maxRecDepth 65536 in
set_option maxHeartbeats 4000000 in
theorem ct_min (l : Launch) {Z : State} {n0 : Nat} {z : Int32} {f : Value} (W : Sx Z z f) (a : Int32) (b : Int32) (h : Heap) :
    Ctr l Z n0 N12 jdk_29_method_69_code 2 (some .int) rm_min #[(.int a), (.int b)] h [] (fun v h' sn => v = some (.int (minF a b)) ∧ h = h' ∧ sn = []) := by
  refine Ctr.of_go (ls := #[.val (.int a), .val (.int b)]) W.1 pf_N12 (fun m => by first | (simp [entryFrame, mkF, argsToLocals, Value.category]; done) | rfl) (fun K H => ?_)
  refine Go.iloadN H d14_0 rfl rfl ?_
  refine Go.iloadN H d14_1 rfl rfl ?_
  by_cases c1 : b < a
  ·
    refine Go.icmpY (pc' := 9) H d14_2 (tlt c1).2.2.1 (by decide) (by decide) ?_
    refine Go.iloadN H d14_9 rfl rfl ?_
    exact Go.ireturnI [] H d14_10 ⟨congrArg (fun q => some (Value.int q)) (show b = minF a b from Eq.symm (by rw [minF, if_pos c1])), rfl, rfl⟩ all0 (by decide) (by decide)
  ·
    refine Go.icmpN H d14_2 (flt c1).2.2.1 rfl ?_
    refine Go.iloadN H d14_5 rfl rfl ?_
    refine Go.goto (pc' := 10) H d14_6 (by decide) (by decide) ?_
    exact Go.ireturnI [] H d14_10 ⟨congrArg (fun q => some (Value.int q)) (show a = minF a b from Eq.symm (by rw [minF, if_neg c1])), rfl, rfl⟩ all0 (by decide) (by decide)
theorem minF_s (a : Int32) : minF a a = a := by unfold minF; split <;> rfl
theorem d22_0 : decode jdk_41_method_12_code 0 = .ok (.iload_n 0, 1) := by decide +kernel
theorem d22_1 : decode jdk_41_method_12_code 1 = .ok (.ifCond .lt 13, 3) := by decide +kernel
theorem d22_4 : decode jdk_41_method_12_code 4 = .ok (.iload_n 0, 1) := by decide +kernel
theorem d22_5 : decode jdk_41_method_12_code 5 = .ok (.iload_n 1, 1) := by decide +kernel
theorem d22_6 : decode jdk_41_method_12_code 6 = .ok (.if_icmp .gt 8, 3) := by decide +kernel
theorem d22_9 : decode jdk_41_method_12_code 9 = .ok (.iload_n 1, 1) := by decide +kernel
theorem d22_10 : decode jdk_41_method_12_code 10 = .ok (.iload_n 2, 1) := by decide +kernel
theorem d22_11 : decode jdk_41_method_12_code 11 = .ok (.if_icmp .le 11, 3) := by decide +kernel
theorem d22_22 : decode jdk_41_method_12_code 22 = .ok (.iload_n 0, 1) := by decide +kernel
theorem d22_23 : decode jdk_41_method_12_code 23 = .ok (.ireturn, 1) := by decide +kernel
abbrev N13 : MethodName := ⟨"jdk/internal/util/Preconditions", "checkFromToIndex", "(IIILjava/util/function/BiFunction;)I"⟩
theorem pn_N13 : plainName N13.cls = true := by first | (simp [plainName, overriddenIn]; done) | decide +kernel

abbrev rm_cft : Room := { frames := 0, cells := 0, slots := 0, locals := 0 }
set_option maxRecDepth 65536 in
set_option maxHeartbeats 4000000 in
theorem ct_cft (l : Launch) {Z : State} {n0 : Nat} {z : Int32} {f : Value} (W : Sx Z z f) (i n m : Int32) (h : Heap) (h0 : ¬ i < 0) (hi : ¬ n < i) (hm : ¬ m < n) :
    Ctr l Z n0 N13 jdk_41_method_12_code 4 (some .int) rm_cft #[(.int i), (.int n), (.int m), f] h [] (fun v h' sn => v = some (.int i) ∧ h = h' ∧ sn = []) := by
  refine Ctr.of_go (ls := #[.val (.int i), .val (.int n), .val (.int m), .val f]) W.1 (plainFor_of_name pn_N13) (fun m => (by rcases ref_cases W.2.2.2.1 with q | ⟨fa, q⟩ <;> rw [q] <;> rfl)) (fun K H => ?_)
  refine Go.iloadN H d22_0 rfl rfl ?_
  refine Go.ifN H d22_1 (flt h0).1 rfl ?_
  refine Go.iloadN H d22_4 rfl rfl ?_
  refine Go.iloadN H d22_5 rfl rfl ?_
  refine Go.icmpN H d22_6 (flt hi).2.2.1 rfl ?_
  refine Go.iloadN H d22_9 rfl rfl ?_
  refine Go.iloadN H d22_10 rfl rfl ?_
  refine Go.icmpY (pc' := 22) H d22_11 (flt hm).2.2.2 (by decide) (by decide) ?_
  refine Go.iloadN H d22_22 rfl rfl ?_
  exact Go.ireturnI [] H d22_23 ⟨rfl, rfl, rfl⟩ all0 (by decide) (by decide)
theorem d21_0 : decode jdk_42_method_158_code 0 = .ok (.iload_n 0, 1) := by decide +kernel
theorem d21_1 : decode jdk_42_method_158_code 1 = .ok (.iload_n 1, 1) := by decide +kernel
theorem d21_2 : decode jdk_42_method_158_code 2 = .ok (.iload_n 2, 1) := by decide +kernel
theorem d21_3 : decode jdk_42_method_158_code 3 = .ok (.getstatic 1053, 3) := by decide +kernel
theorem w99 : Jvm.Cond.fieldLink "java/lang/String" (1053 : Nat) "jdk/internal/util/Preconditions" "SIOOBE_FORMATTER" "Ljava/util/function/BiFunction;" ∈ tables_1 := List.mem_of_getElem? (i := 99) rfl
theorem d21_6 : decode jdk_42_method_158_code 6 = .ok (.invokestatic 1062, 3) := by decide +kernel
theorem w103 : Jvm.Cond.code N13 jdk_41_method_12_code (4 : Nat) (Option.some Jvm.ClassFile.FieldType.int) ∈ tables_1 := List.mem_of_getElem? (i := 103) rfl
theorem w100 : Jvm.Cond.initialized "jdk/internal/util/Preconditions" ∈ tables_1 := List.mem_of_getElem? (i := 100) rfl
theorem pd_N13 : parseMethodDescriptor N13.desc = some ⟨[.int, .int, .int, (.object "java/util/function/BiFunction")], (some .int)⟩ := by decide +kernel
theorem nh_N13 : N13.cls ≠ "java/lang/invoke/MethodHandle" ∧ N13.cls ≠ "java/lang/invoke/VarHandle" := by decide
theorem w101 : Jvm.Cond.methodLink "java/lang/String" (1062 : Nat) N13 ∈ tables_1 := List.mem_of_getElem? (i := 101) rfl
theorem w102 : Jvm.Cond.static N13 ∈ tables_1 := List.mem_of_getElem? (i := 102) rfl
theorem d21_9 : decode jdk_42_method_158_code 9 = .ok (.pop, 1) := by decide +kernel
theorem d21_10 : decode jdk_42_method_158_code 10 = .ok (.return_, 1) := by decide +kernel
abbrev N14 : MethodName := ⟨"java/lang/String", "checkBoundsBeginEnd", "(III)V"⟩

abbrev rm_cbb : Room := { frames := 1, cells := 0, slots := 0, locals := 15 }
set_option maxRecDepth 65536 in
set_option maxHeartbeats 4000000 in
theorem ct_cbb (l : Launch) {Z : State} {n0 : Nat} {z : Int32} {f : Value} (W : Sx Z z f) (i n m : Int32) (h : Heap) (h0 : ¬ i < 0) (hi : ¬ n < i) (hm : ¬ m < n) :
    Ctr l Z n0 N14 jdk_42_method_158_code 3 none rm_cbb #[(.int i), (.int n), (.int m)] h [] (fun v h' sn => v = none ∧ h = h' ∧ sn = []) := by
  refine Ctr.of_go (ls := #[.val (.int i), .val (.int n), .val (.int m)]) W.1 (plainFor_of_name pn_N5) (fun m => by first | (simp [entryFrame, mkF, argsToLocals, Value.category]; done) | rfl) (fun K H => ?_)
  refine Go.iloadN H d21_0 rfl rfl ?_
  refine Go.iloadN H d21_1 rfl rfl ?_
  refine Go.iloadN H d21_2 rfl rfl ?_
  refine Go.getstatic H d21_3 rfl w99 W.2.2.2.2 ?_
  refine Go.callS (rest := []) 0 [(.int i), (.int n), (.int m), f] H d21_6 rfl w101 w102 w100 w103 pd_N13 (ct_cft l W i n m h h0 hi hm) all0 rfl rfl rfl (Nat.le_of_eq rfl) (by decide) (by decide) (by decide) (by decide) nh_N13 ?_
  rintro _ _ _ ⟨rfl, rfl, rfl⟩
  show Go _ _ _ _ _ _ h [] 0 0 9 #[.val (.int i), .val (.int n), .val (.int m)] [(.int i)]
  refine Go.pop H d21_9 rfl rfl ?_
  exact Go.return_ [] H d21_10 ⟨rfl, rfl, rfl⟩ all0 (by decide) (by decide)
theorem d26_0 : decode jdk_65_method_131_code 0 = .ok (.iload_n 1, 1) := by decide +kernel
theorem d26_1 : decode jdk_65_method_131_code 1 = .ok (.iload_n 0, 1) := by decide +kernel
theorem d26_2 : decode jdk_65_method_131_code 2 = .ok (.if_icmp .ge 35, 3) := by decide +kernel
theorem d26_37 : decode jdk_65_method_131_code 37 = .ok (.return_, 1) := by decide +kernel
abbrev N15 : MethodName := ⟨"java/util/Arrays", "checkLength", "(II)V"⟩
theorem pn_N15 : plainName N15.cls = true := by first | (simp [plainName, overriddenIn]; done) | decide +kernel

abbrev rm_ccl : Room := { frames := 0, cells := 0, slots := 0, locals := 0 }
set_option maxRecDepth 65536 in
set_option maxHeartbeats 4000000 in
theorem ct_ccl (l : Launch) {Z : State} {n0 : Nat} {z : Int32} {f : Value} (W : Sx Z z f) (n : Int32) (h : Heap) (h0 : ¬ n < 0) :
    Ctr l Z n0 N15 jdk_65_method_131_code 2 none rm_ccl #[(.int (0 : Int32)), (.int n)] h [] (fun v h' sn => v = none ∧ h = h' ∧ sn = []) := by
  refine Ctr.of_go (ls := #[.val (.int (0 : Int32)), .val (.int n)]) W.1 (plainFor_of_name pn_N15) (fun m => by first | (simp [entryFrame, mkF, argsToLocals, Value.category]; done) | rfl) (fun K H => ?_)
  refine Go.iloadN H d26_0 rfl rfl ?_
  refine Go.iloadN H d26_1 rfl rfl ?_
  refine Go.icmpY (pc' := 37) H d26_2 (flt h0).2.1 (by decide) (by decide) ?_
  exact Go.return_ [] H d26_37 ⟨rfl, rfl, rfl⟩ all0 (by decide) (by decide)
theorem own_min {n k : Nat} (hn : n < 2 ^ 31) (hk : k < n) : minF n.toInt32 k.toInt32 = k.toInt32 := by
  unfold minF; rw [if_pos (own_lt hn hk)]
theorem d25_0 : decode jdk_65_method_133_code 0 = .ok (.iload_n 1, 1) := by decide +kernel
theorem d25_1 : decode jdk_65_method_133_code 1 = .ok (.iload_n 2, 1) := by decide +kernel
theorem d25_2 : decode jdk_65_method_133_code 2 = .ok (.invokestatic 343, 3) := by decide +kernel
theorem w117 : Jvm.Cond.code N15 jdk_65_method_131_code (2 : Nat) (Option.none : Option Jvm.ClassFile.FieldType) ∈ tables_1 := List.mem_of_getElem? (i := 117) rfl
theorem w110 : Jvm.Cond.initialized "java/util/Arrays" ∈ tables_1 := List.mem_of_getElem? (i := 110) rfl
theorem pd_N15 : parseMethodDescriptor N15.desc = some ⟨[.int, .int], none⟩ := by decide +kernel
theorem nh_N15 : N15.cls ≠ "java/lang/invoke/MethodHandle" ∧ N15.cls ≠ "java/lang/invoke/VarHandle" := by decide
theorem w115 : Jvm.Cond.methodLink "java/util/Arrays" (343 : Nat) N15 ∈ tables_1 := List.mem_of_getElem? (i := 115) rfl
theorem w116 : Jvm.Cond.static N15 ∈ tables_1 := List.mem_of_getElem? (i := 116) rfl
theorem d25_5 : decode jdk_65_method_133_code 5 = .ok (.iload_n 2, 1) := by decide +kernel
theorem d25_6 : decode jdk_65_method_133_code 6 = .ok (.iload_n 1, 1) := by decide +kernel
theorem d25_7 : decode jdk_65_method_133_code 7 = .ok (.isub, 1) := by decide +kernel
theorem d25_8 : decode jdk_65_method_133_code 8 = .ok (.istore_n 3, 1) := by decide +kernel
theorem d25_9 : decode jdk_65_method_133_code 9 = .ok (.iload_n 3, 1) := by decide +kernel
theorem d25_10 : decode jdk_65_method_133_code 10 = .ok (.newarray .byte, 2) := by decide +kernel
theorem d25_12 : decode jdk_65_method_133_code 12 = .ok (.astore 4, 2) := by decide +kernel
theorem d25_14 : decode jdk_65_method_133_code 14 = .ok (.aload_n 0, 1) := by decide +kernel
theorem d25_15 : decode jdk_65_method_133_code 15 = .ok (.iload_n 1, 1) := by decide +kernel
theorem d25_16 : decode jdk_65_method_133_code 16 = .ok (.aload 4, 2) := by decide +kernel
theorem d25_18 : decode jdk_65_method_133_code 18 = .ok (.iconst 0, 1) := by decide +kernel
theorem d25_19 : decode jdk_65_method_133_code 19 = .ok (.aload_n 0, 1) := by decide +kernel
theorem d25_20 : decode jdk_65_method_133_code 20 = .ok (.arraylength, 1) := by decide +kernel
theorem d25_21 : decode jdk_65_method_133_code 21 = .ok (.iload_n 1, 1) := by decide +kernel
theorem d25_22 : decode jdk_65_method_133_code 22 = .ok (.isub, 1) := by decide +kernel
theorem d25_23 : decode jdk_65_method_133_code 23 = .ok (.iload_n 3, 1) := by decide +kernel
theorem d25_24 : decode jdk_65_method_133_code 24 = .ok (.invokestatic 304, 3) := by decide +kernel
theorem w70 : Jvm.Cond.code N12 jdk_29_method_69_code (2 : Nat) (Option.some Jvm.ClassFile.FieldType.int) ∈ tables_1 := List.mem_of_getElem? (i := 70) rfl
theorem w69 : Jvm.Cond.initialized "java/lang/Math" ∈ tables_1 := List.mem_of_getElem? (i := 69) rfl
theorem pd_N12 : parseMethodDescriptor N12.desc = some ⟨[.int, .int], (some .int)⟩ := by decide +kernel
theorem nh_N12 : N12.cls ≠ "java/lang/invoke/MethodHandle" ∧ N12.cls ≠ "java/lang/invoke/VarHandle" := by decide
theorem w118 : Jvm.Cond.methodLink "java/util/Arrays" (304 : Nat) N12 ∈ tables_1 := List.mem_of_getElem? (i := 118) rfl
theorem w68 : Jvm.Cond.static N12 ∈ tables_1 := List.mem_of_getElem? (i := 68) rfl
theorem d25_27 : decode jdk_65_method_133_code 27 = .ok (.invokestatic 150, 3) := by decide +kernel
abbrev N16 : MethodName := ⟨"java/lang/System", "arraycopy", "(Ljava/lang/Object;ILjava/lang/Object;II)V"⟩
theorem w119 : Jvm.Cond.methodLink "java/util/Arrays" (150 : Nat) N16 ∈ tables_1 := List.mem_of_getElem? (i := 119) rfl
theorem w122 : Jvm.Cond.native N16 ∈ tables_1 := List.mem_of_getElem? (i := 122) rfl
theorem w120 : Jvm.Cond.static N16 ∈ tables_1 := List.mem_of_getElem? (i := 120) rfl
theorem w121 : Jvm.Cond.initialized "java/lang/System" ∈ tables_1 := List.mem_of_getElem? (i := 121) rfl
theorem d25_30 : decode jdk_65_method_133_code 30 = .ok (.aload 4, 2) := by decide +kernel
theorem d25_32 : decode jdk_65_method_133_code 32 = .ok (.areturn, 1) := by decide +kernel
abbrev N17 : MethodName := ⟨"java/util/Arrays", "copyOfRangeByte", "([BII)[B"⟩

abbrev rm_crb : Room := { frames := 1, cells := 1, slots := 4, locals := 27 }
set_option maxRecDepth 65536 in
set_option maxHeartbeats 4000000 in
theorem ct_crb (l : Launch) {Z : State} {n0 : Nat} {z : Int32} {f : Value} (W : Sx Z z f) (b : Addr) (bs : List Int32) (k : Nat) (h : Heap) (Fb : Vec Z h b .byte bs) (hb : bs.length ≤ 4) (hk : k < bs.length) (hp : 0 < k) :
    Ctr l Z n0 N17 jdk_65_method_133_code 5 (some (.array .byte)) rm_crb #[(.ref b), (.int (0 : Int32)), (.int k.toInt32)] h [] (fun v h' sn => ∃ d, v = some (.ref d) ∧ Ext h h' ∧ h.size ≤ d ∧ Vec Z h' d .byte (bs.take k) ∧ sn = []) := by
  refine Ctr.of_go (ls := #[.val (.ref b), .val (.int (0 : Int32)), .val (.int k.toInt32), .unset, .unset]) W.1 (plainFor_of_name pn_N15) (fun m => by first | (simp [entryFrame, mkF, argsToLocals, Value.category]; done) | rfl) (fun K H => ?_)
  have KK : Keep h h [] := Keep.refl _ _
  refine Go.iloadN H d25_0 rfl rfl ?_
  refine Go.iloadN H d25_1 rfl rfl ?_
  refine Go.callS (rest := []) 0 [(.int (0 : Int32)), (.int k.toInt32)] H d25_2 rfl w115 w116 w110 w117 pd_N15 (ct_ccl l W k.toInt32 h (own_n0 (by omega))) all0 rfl rfl rfl (Nat.le_of_eq rfl) (by decide) (by decide) (by decide) (by decide) nh_N15 ?_
  rintro _ _ _ ⟨rfl, rfl, rfl⟩
  show Go _ _ _ _ _ _ h [] 0 0 5 #[.val (.ref b), .val (.int (0 : Int32)), .val (.int k.toInt32), .unset, .unset] []
  refine Go.iloadN H d25_5 rfl rfl ?_
  refine Go.iloadN H d25_6 rfl rfl ?_
  refine Go.isub H d25_7 rfl ?_
  rw [Int32.sub_zero]
  refine Go.istoreN (ls' := #[.val (.ref b), .val (.int (0 : Int32)), .val (.int k.toInt32), .val (.int k.toInt32), .unset]) H d25_8 rfl rfl ?_
  refine Go.iloadN H d25_9 rfl rfl ?_
  refine Go.newarray k 4 H d25_10 rfl w23 rfl (by decide) (own_n0 (by omega)) (own_cl (by omega)) (by omega) (by decide) (by decide) (by decide) ?_
  intro a1 h2 g3 z4 E5 F6
  have ne7 : b ≠ a1 := Nat.ne_of_lt (Nat.lt_of_lt_of_le Fb.lt (Nat.le_of_eq g3.symm))
  have sz8 := Nat.le_trans KK.1 (Nat.le_of_eq g3.symm)
  replace Fb := Fb.ext E5
  replace KK := KK.ext E5
  show Go _ _ _ _ _ _ h2 [a1] 1 4 12 #[.val (.ref b), .val (.int (0 : Int32)), .val (.int k.toInt32), .val (.int k.toInt32), .unset] [(.ref a1)]
  refine Go.astore (ls' := #[.val (.ref b), .val (.int (0 : Int32)), .val (.int k.toInt32), .val (.int k.toInt32), .val (.ref a1)]) H d25_12 rfl rfl rfl ?_
  refine Go.aloadN H d25_14 rfl rfl rfl ?_
  refine Go.iloadN H d25_15 rfl rfl ?_
  refine Go.aload H d25_16 rfl rfl rfl ?_
  refine Go.iconst (0 : Int32) H d25_18 rfl rfl ?_
  refine Go.aloadN H d25_19 rfl rfl rfl ?_
  refine Go.arraylength bs.length.toInt32 H d25_20 rfl Fb rfl ?_
  refine Go.iloadN H d25_21 rfl rfl ?_
  refine Go.isub H d25_22 rfl ?_
  rw [Int32.sub_zero]
  refine Go.iloadN H d25_23 rfl rfl ?_
  refine Go.callS (rest := [(.int (0 : Int32)), (.ref a1), (.int (0 : Int32)), (.ref b)]) 4 [(.int bs.length.toInt32), (.int k.toInt32)] H d25_24 rfl w118 w68 w69 w70 pd_N12 (ct_min l W bs.length.toInt32 k.toInt32 h2) all0 rfl rfl rfl (Nat.le_of_eq rfl) (by decide) (by decide) (by decide) (by decide) nh_N12 ?_
  rintro _ _ _ ⟨rfl, rfl, rfl⟩
  show Go _ _ _ _ _ _ h2 [a1] 1 4 27 #[.val (.ref b), .val (.int (0 : Int32)), .val (.int k.toInt32), .val (.int k.toInt32), .val (.ref a1)] [(.int (minF bs.length.toInt32 k.toInt32)), (.int (0 : Int32)), (.ref a1), (.int (0 : Int32)), (.ref b)]
  rw [own_min (by omega) hk]
  refine Go.arraycopy 0 0 k H d25_27 rfl w119 w122 w120 w121 Fb F6 (by omega) (by simp; omega) rfl (by decide) (by decide) (own_cl (by omega)) (by decide) (by decide) (own_n0 (by omega)) (by omega) (by simp) z4 (by simp) 0 rfl (Nat.le_of_eq rfl) (by decide) (by decide) ?_
  intro h9 K10 F11
  replace Fb := Fb.keep K10 (ninS ne7 nin0)
  replace KK := KK.trans K10 (allS (Or.inr sz8) all0)
  refine Go.aload H d25_30 rfl rfl rfl ?_
  exact Go.areturn [] H d25_32 rfl rfl (own_narR rfl) ⟨_, rfl, own_ext KK, Nat.le_of_eq g3.symm, by simpa using F11, rfl⟩ all0 (by decide) (by decide)
theorem d24_0 : decode jdk_65_method_132_code 0 = .ok (.iload_n 1, 1) := by decide +kernel
theorem d24_1 : decode jdk_65_method_132_code 1 = .ok (.ifCond .ne 9, 3) := by decide +kernel
theorem d24_4 : decode jdk_65_method_132_code 4 = .ok (.iload_n 2, 1) := by decide +kernel
theorem d24_5 : decode jdk_65_method_132_code 5 = .ok (.aload_n 0, 1) := by decide +kernel
theorem d24_6 : decode jdk_65_method_132_code 6 = .ok (.arraylength, 1) := by decide +kernel
theorem d24_7 : decode jdk_65_method_132_code 7 = .ok (.if_icmp .eq 10, 3) := by decide +kernel
theorem d24_10 : decode jdk_65_method_132_code 10 = .ok (.aload_n 0, 1) := by decide +kernel
theorem d24_11 : decode jdk_65_method_132_code 11 = .ok (.iload_n 1, 1) := by decide +kernel
theorem d24_12 : decode jdk_65_method_132_code 12 = .ok (.iload_n 2, 1) := by decide +kernel
theorem d24_13 : decode jdk_65_method_132_code 13 = .ok (.invokestatic 339, 3) := by decide +kernel
theorem w114 : Jvm.Cond.code N17 jdk_65_method_133_code (5 : Nat) (Option.some (Jvm.ClassFile.FieldType.array Jvm.ClassFile.FieldType.byte)) ∈ tables_1 := List.mem_of_getElem? (i := 114) rfl
theorem pd_N17 : parseMethodDescriptor N17.desc = some ⟨[(.array .byte), .int, .int], (some (.array .byte))⟩ := by decide +kernel
theorem w112 : Jvm.Cond.methodLink "java/util/Arrays" (339 : Nat) N17 ∈ tables_1 := List.mem_of_getElem? (i := 112) rfl
theorem w113 : Jvm.Cond.static N17 ∈ tables_1 := List.mem_of_getElem? (i := 113) rfl
theorem d24_16 : decode jdk_65_method_132_code 16 = .ok (.areturn, 1) := by decide +kernel
abbrev N18 : MethodName := ⟨"java/util/Arrays", "copyOfRange", "([BII)[B"⟩

abbrev rm_cor : Room := { frames := 2, cells := 1, slots := 4, locals := 43 }
set_option maxRecDepth 65536 in
set_option maxHeartbeats 4000000 in
theorem ct_cor (l : Launch) {Z : State} {n0 : Nat} {z : Int32} {f : Value} (W : Sx Z z f) (b : Addr) (bs : List Int32) (k : Nat) (h : Heap) (Fb : Vec Z h b .byte bs) (hb : bs.length ≤ 4) (hk : k < bs.length) (hp : 0 < k) :
    Ctr l Z n0 N18 jdk_65_method_132_code 3 (some (.array .byte)) rm_cor #[(.ref b), (.int (0 : Int32)), (.int k.toInt32)] h [] (fun v h' sn => ∃ d, v = some (.ref d) ∧ Ext h h' ∧ h.size ≤ d ∧ Vec Z h' d .byte (bs.take k) ∧ sn = []) := by
  refine Ctr.of_go (ls := #[.val (.ref b), .val (.int (0 : Int32)), .val (.int k.toInt32)]) W.1 (plainFor_of_name pn_N15) (fun m => by first | (simp [entryFrame, mkF, argsToLocals, Value.category]; done) | rfl) (fun K H => ?_)
  refine Go.iloadN H d24_0 rfl rfl ?_
  refine Go.ifN H d24_1 (by decide) rfl ?_
  refine Go.iloadN H d24_4 rfl rfl ?_
  refine Go.aloadN H d24_5 rfl rfl rfl ?_
  refine Go.arraylength bs.length.toInt32 H d24_6 rfl Fb rfl ?_
  refine Go.icmpN H d24_7 (feq (fun e => absurd (own_ofinj (by omega) (by omega) e) (by omega))).1 rfl ?_
  refine Go.aloadN H d24_10 rfl rfl rfl ?_
  refine Go.iloadN H d24_11 rfl rfl ?_
  refine Go.iloadN H d24_12 rfl rfl ?_
  refine Go.callS (rest := []) 0 [(.ref b), (.int (0 : Int32)), (.int k.toInt32)] H d24_13 rfl w112 w113 w110 w114 pd_N17 (ct_crb l W b _ k h Fb hb hk hp) all0 rfl rfl rfl (Nat.le_of_eq rfl) (by decide) (by decide) (by decide) (by decide) nh_N15 ?_
  rintro _ h2 _ ⟨d1, rfl, E3, g4, F5, rfl⟩
  have ne6 : b ≠ d1 := Nat.ne_of_lt (Nat.lt_of_lt_of_le Fb.lt g4)
  replace Fb := Fb.ext E3
  show Go _ _ _ _ _ _ h2 [] 1 4 16 #[.val (.ref b), .val (.int (0 : Int32)), .val (.int k.toInt32)] [(.ref d1)]
  exact Go.areturn [] H d24_16 rfl rfl (own_narR rfl) ⟨_, rfl, E3, g4, F5, rfl⟩ all0 (by decide) (by decide)
theorem d27_0 : decode jdk_42_method_151_code 0 = .ok (.aload_n 0, 1) := by decide +kernel
theorem d27_1 : decode jdk_42_method_151_code 1 = .ok (.invokespecial 1, 3) := by decide +kernel
theorem d27_4 : decode jdk_42_method_151_code 4 = .ok (.aload_n 0, 1) := by decide +kernel
theorem d27_5 : decode jdk_42_method_151_code 5 = .ok (.aload_n 1, 1) := by decide +kernel
theorem d27_6 : decode jdk_42_method_151_code 6 = .ok (.putfield 9, 3) := by decide +kernel
theorem d27_9 : decode jdk_42_method_151_code 9 = .ok (.aload_n 0, 1) := by decide +kernel
theorem d27_10 : decode jdk_42_method_151_code 10 = .ok (.iload_n 2, 1) := by decide +kernel
theorem d27_11 : decode jdk_42_method_151_code 11 = .ok (.putfield 15, 3) := by decide +kernel
theorem d27_14 : decode jdk_42_method_151_code 14 = .ok (.return_, 1) := by decide +kernel
abbrev N19 : MethodName := ⟨"java/lang/String", "<init>", "([BB)V"⟩

abbrev rm_nbb : Room := { frames := 1, cells := 0, slots := 0, locals := 12 }
set_option maxRecDepth 65536 in
set_option maxHeartbeats 4000000 in
theorem ct_nbb (l : Launch) {Z : State} {n0 : Nat} {z : Int32} {f : Value} (W : Sx Z z f) (x b : Addr) (cs : List Int32) (h : Heap) (A : Exa Z h x "java/lang/String") (Fv : Fld Z h x "java/lang/String" "value" "[B" .null) (Fc : Fld Z h x "java/lang/String" "coder" "B" (.int 0)) (Fb : Vec Z h b .byte (cs.map (nar .byte))) (hL : ∀ c ∈ cs, isL c) (hn : cs.length ≤ 4) (zx : n0 ≤ x) :
    Ctr l Z n0 N19 jdk_42_method_151_code 3 none rm_nbb #[(.ref x), (.ref b), (.int (0 : Int32))] h [x] (fun v h' sn => v = none ∧ Keep h h' [x] ∧ Str Z h' x b cs ∧ sn = []) := by
  refine Ctr.of_go (ls := #[.val (.ref x), .val (.ref b), .val (.int (0 : Int32))]) W.1 (plainFor_of_name pn_N5) (fun m => by first | (simp [entryFrame, mkF, argsToLocals, Value.category]; done) | rfl) (fun K H => ?_)
  have KK : Keep h h [x] := Keep.refl _ _
  have hbx : b ≠ x := Vec.neExa Fb A W.1 w9
  refine Go.aloadN H d27_0 rfl rfl rfl ?_
  refine Go.initObj H d27_1 rfl w19 w20 w21 0 rfl (Nat.le_of_eq rfl) (by decide) (by decide) ?_
  refine Go.aloadN H d27_4 rfl rfl rfl ?_
  refine Go.aloadN H d27_5 rfl rfl rfl ?_
  refine Go.putfield (v := (.ref b)) H d27_6 rfl w28 Fv A (Or.inr ⟨w24, rfl, rfl⟩) w9 (ty := (.array .byte)) (by decide) rfl rfl zx (by simp) ?_
  intro h1 Wr2
  have F3 := Fv.same Wr2
  have K4 := Keep.of_wr Wr2
  replace A := A.wr Wr2
  replace Fc := Fc.other Wr2 (Or.inr (own_sne W.1 (Or.inr w25) (Or.inr w24) (by decide) (t := .byte) (t' := (.array .byte)) (by decide) (by decide)))
  replace Fb := Fb.keep K4 (ninS hbx nin0)
  replace KK := KK.wr Wr2 (Or.inl (by simp))
  refine Go.aloadN H d27_9 rfl rfl rfl ?_
  refine Go.iloadN H d27_10 rfl rfl ?_
  refine Go.putfield (v := (.int (0 : Int32))) H d27_11 rfl w29 Fc A (Or.inr ⟨w25, rfl, rfl⟩) w9 (ty := .byte) (by decide) (by decide) (by decide) zx (by simp) ?_
  intro h5 Wr6
  have F7 := Fc.same Wr6
  have K8 := Keep.of_wr Wr6
  replace A := A.wr Wr6
  replace Fb := Fb.keep K8 (ninS hbx nin0)
  replace F3 := F3.other Wr6 (Or.inr (own_sne W.1 (Or.inr w24) (Or.inr w25) (by decide) (t := (.array .byte)) (t' := .byte) (by decide) (by decide)))
  replace KK := KK.wr Wr6 (Or.inl (by simp))
  exact Go.return_ [] H d27_14 ⟨rfl, KK, ⟨A, F3, F7, Fb, hL, by omega⟩, rfl⟩ all0 (by decide) (by decide)
theorem d23_0 : decode jdk_43_method_47_code 0 = .ok (.iload_n 2, 1) := by decide +kernel
theorem d23_1 : decode jdk_43_method_47_code 1 = .ok (.ifCond .ne 6, 3) := by decide +kernel
theorem d23_4 : decode jdk_43_method_47_code 4 = .ok (.ldc 151, 2) := by decide +kernel
theorem cm_1 : ("java/lang/StringLatin1", 151) ∈ consts_1 := by decide
theorem w126 : Jvm.Cond.stringLink "java/lang/StringLatin1" (151 : Nat) "" ∈ tables_1 := List.mem_of_getElem? (i := 126) rfl
theorem d23_6 : decode jdk_43_method_47_code 6 = .ok (.areturn, 1) := by decide +kernel
theorem d23_7 : decode jdk_43_method_47_code 7 = .ok (.new 1, 3) := by decide +kernel
theorem w107 : Jvm.Cond.classLink "java/lang/StringLatin1" (1 : Nat) "java/lang/String" ∈ tables_1 := List.mem_of_getElem? (i := 107) rfl
theorem d23_10 : decode jdk_43_method_47_code 10 = .ok (.dup, 1) := by decide +kernel
theorem d23_11 : decode jdk_43_method_47_code 11 = .ok (.aload_n 0, 1) := by decide +kernel
theorem d23_12 : decode jdk_43_method_47_code 12 = .ok (.iload_n 1, 1) := by decide +kernel
theorem d23_13 : decode jdk_43_method_47_code 13 = .ok (.iload_n 1, 1) := by decide +kernel
theorem d23_14 : decode jdk_43_method_47_code 14 = .ok (.iload_n 2, 1) := by decide +kernel
theorem d23_15 : decode jdk_43_method_47_code 15 = .ok (.iadd, 1) := by decide +kernel
theorem d23_16 : decode jdk_43_method_47_code 16 = .ok (.invokestatic 232, 3) := by decide +kernel
theorem w111 : Jvm.Cond.code N18 jdk_65_method_132_code (3 : Nat) (Option.some (Jvm.ClassFile.FieldType.array Jvm.ClassFile.FieldType.byte)) ∈ tables_1 := List.mem_of_getElem? (i := 111) rfl
theorem pd_N18 : parseMethodDescriptor N18.desc = some ⟨[(.array .byte), .int, .int], (some (.array .byte))⟩ := by decide +kernel
theorem w108 : Jvm.Cond.methodLink "java/lang/StringLatin1" (232 : Nat) N18 ∈ tables_1 := List.mem_of_getElem? (i := 108) rfl
theorem w109 : Jvm.Cond.static N18 ∈ tables_1 := List.mem_of_getElem? (i := 109) rfl
theorem d23_19 : decode jdk_43_method_47_code 19 = .ok (.iconst 0, 1) := by decide +kernel
theorem d23_20 : decode jdk_43_method_47_code 20 = .ok (.invokespecial 112, 3) := by decide +kernel
theorem w125 : Jvm.Cond.code N19 jdk_42_method_151_code (3 : Nat) (Option.none : Option Jvm.ClassFile.FieldType) ∈ tables_1 := List.mem_of_getElem? (i := 125) rfl
theorem pd_N19 : parseMethodDescriptor N19.desc = some ⟨[(.array .byte), .byte], none⟩ := by decide +kernel
theorem w123 : Jvm.Cond.methodLink "java/lang/StringLatin1" (112 : Nat) N19 ∈ tables_1 := List.mem_of_getElem? (i := 123) rfl
theorem w124 : Jvm.Cond.instanceMethod N19 ∈ tables_1 := List.mem_of_getElem? (i := 124) rfl
theorem d23_23 : decode jdk_43_method_47_code 23 = .ok (.areturn, 1) := by decide +kernel
abbrev N20 : MethodName := ⟨"java/lang/StringLatin1", "newString", "([BII)Ljava/lang/String;"⟩

abbrev rm_nst : Room := { frames := 3, cells := 2, slots := 8, locals := 59 }
set_option maxRecDepth 65536 in
set_option maxHeartbeats 4000000 in
theorem ct_nst (l : Launch) {Z : State} {n0 : Nat} {z : Int32} {f : Value} (W : Sx Z z f) (b : Addr) (cs : List Int32) (k : Nat) (h : Heap) (Fb : Vec Z h b .byte (cs.map (nar .byte))) (hL : ∀ c ∈ cs, isL c) (hn : cs.length ≤ 4) (hk : k < cs.length) :
    Ctr l Z n0 N20 jdk_43_method_47_code 3 (some (.object "java/lang/String")) rm_nst #[(.ref b), (.int (0 : Int32)), (.int k.toInt32)] h [] (fun v h' sn => ∃ a b', v = some (.ref a) ∧ Ext h h' ∧ Str Z h' a b' (cs.take k) ∧ sn = []) := by
  refine Ctr.of_go (ls := #[.val (.ref b), .val (.int (0 : Int32)), .val (.int k.toInt32)]) W.1 (plainFor_of_name pn_N10) (fun m => by first | (simp [entryFrame, mkF, argsToLocals, Value.category]; done) | rfl) (fun K H => ?_)
  have KK : Keep h h [] := Keep.refl _ _
  refine Go.iloadN H d23_0 rfl rfl ?_
  by_cases c1 : k = 0
  ·
    refine Go.ifN H d23_1 (teq (by rw [c1]; rfl)).2 rfl ?_
    refine Go.ldcS ([] : List Int32) (0 : Int32) 0 H d23_4 rfl w126 cm_1 lt_0 lt_0_l (by decide) (by decide) (by decide) (by decide) (by decide) (by decide) ?_
    intro a2 b3 h4 E5 S6 q7
    replace Fb := Fb.ext E5
    replace KK := KK.ext E5
    show Go _ _ _ _ _ _ h4 [] 2 4 6 #[.val (.ref b), .val (.int (0 : Int32)), .val (.int k.toInt32)] [(.ref a2)]
    exact Go.areturn [] H d23_6 rfl rfl (own_narR rfl) ⟨_, _, rfl, own_ext KK, (by rw [c1, List.take_zero]; exact S6), rfl⟩ all0 (by decide) (by decide)
  ·
    refine Go.ifY (pc' := 7) H d23_1 (feq (own_ne0 (by omega) (by omega))).2 (by decide) (by decide) ?_
    refine Go.new H d23_7 rfl w107 w9 w10 (by decide) (by decide) ?_
    intro a8 h9 g10 z11 E12 A13 D14
    have ne15 : b ≠ a8 := Nat.ne_of_lt (Nat.lt_of_lt_of_le Fb.lt (Nat.le_of_eq g10.symm))
    have sz16 := Nat.le_trans KK.1 (Nat.le_of_eq g10.symm)
    replace Fb := Fb.ext E12
    replace KK := KK.ext E12
    have F17 : Fld Z h9 a8 "java/lang/String" "value" "[B" .null := D14 (Or.inr w24) (ty := (.array .byte)) (by decide)
    have F18 : Fld Z h9 a8 "java/lang/String" "coder" "B" (.int (0 : Int32)) := D14 (Or.inr w25) (ty := .byte) (by decide)
    show Go _ _ _ _ _ _ h9 [a8] 1 4 10 #[.val (.ref b), .val (.int (0 : Int32)), .val (.int k.toInt32)] [(.ref a8)]
    refine Go.dup H d23_10 rfl rfl ?_
    refine Go.aloadN H d23_11 rfl rfl rfl ?_
    refine Go.iloadN H d23_12 rfl rfl ?_
    refine Go.iloadN H d23_13 rfl rfl ?_
    refine Go.iloadN H d23_14 rfl rfl ?_
    refine Go.iadd H d23_15 rfl ?_
    rw [Int32.zero_add]
    refine Go.callS (rest := [(.ref a8), (.ref a8)]) 2 [(.ref b), (.int (0 : Int32)), (.int k.toInt32)] H d23_16 rfl w108 w109 w110 w111 pd_N18 (ct_cor l W b _ k h9 Fb (by rw [List.length_map]; exact hn) (by rw [List.length_map]; exact hk) (by omega)) all0 rfl rfl rfl (Nat.le_of_eq rfl) (by decide) (by decide) (by decide) (by decide) nh_N15 ?_
    rintro _ h20 _ ⟨d19, rfl, E21, g22, F23, rfl⟩
    have ne24 : b ≠ d19 := Nat.ne_of_lt (Nat.lt_of_lt_of_le Fb.lt g22)
    have ne25 : a8 ≠ d19 := Nat.ne_of_lt (Nat.lt_of_lt_of_le A13.lt g22)
    replace Fb := Fb.ext E21
    replace A13 := A13.ext E21
    replace F17 := F17.ext E21
    replace F18 := F18.ext E21
    replace KK := KK.ext E21
    show Go _ _ _ _ _ _ h20 [a8] 2 8 19 #[.val (.ref b), .val (.int (0 : Int32)), .val (.int k.toInt32)] [(.ref d19), (.ref a8), (.ref a8)]
    refine Go.iconst (0 : Int32) H d23_19 rfl rfl ?_
    refine Go.callI (rest := [(.ref a8)]) 1 [(.ref d19), (.int (0 : Int32))] H d23_20 rfl rfl w123 w124 w10 w125 pd_N19 (ct_nbb l W a8 d19 (cs.take k) h20 A13 F17 F18 (by rw [List.map_take]; exact F23) (fun c q => hL c (List.mem_of_mem_take q)) (by rw [List.length_take]; omega) z11) (by simp) rfl rfl rfl (Nat.le_of_eq rfl) (by decide) (by decide) (by decide) (by decide) nh_N5 ?_
    rintro _ h26 _ ⟨rfl, K27, S28, rfl⟩
    replace Fb := Fb.keep K27 (ninS ne15 nin0)
    replace KK := KK.trans K27 (allS (Or.inr sz16) all0)
    show Go _ _ _ _ _ _ h26 [a8] 2 8 23 #[.val (.ref b), .val (.int (0 : Int32)), .val (.int k.toInt32)] [(.ref a8)]
    exact Go.areturn [] H d23_23 rfl rfl (own_narR rfl) ⟨_, _, rfl, own_ext KK, S28, rfl⟩ all0 (by decide) (by decide)
theorem d20_0 : decode jdk_42_method_92_code 0 = .ok (.aload_n 0, 1) := by decide +kernel
theorem d20_1 : decode jdk_42_method_92_code 1 = .ok (.invokevirtual 505, 3) := by decide +kernel
theorem w43 : Jvm.Cond.code N9 jdk_42_method_54_code (1 : Nat) (Option.some Jvm.ClassFile.FieldType.int) ∈ tables_1 := List.mem_of_getElem? (i := 43) rfl
theorem pd_N9 : parseMethodDescriptor N9.desc = some ⟨[], (some .int)⟩ := by decide +kernel
theorem w39 : Jvm.Cond.methodLink "java/lang/String" (505 : Nat) N9 ∈ tables_1 := List.mem_of_getElem? (i := 39) rfl
theorem w40 : Jvm.Cond.declares N9 ∈ tables_1 := List.mem_of_getElem? (i := 40) rfl
theorem w42 : Jvm.Cond.selects "java/lang/String" N9 N9 ∈ tables_1 := List.mem_of_getElem? (i := 42) rfl
theorem w41 : Jvm.Cond.instanceMethod N9 ∈ tables_1 := List.mem_of_getElem? (i := 41) rfl
theorem d20_4 : decode jdk_42_method_92_code 4 = .ok (.istore_n 3, 1) := by decide +kernel
theorem d20_5 : decode jdk_42_method_92_code 5 = .ok (.iload_n 1, 1) := by decide +kernel
theorem d20_6 : decode jdk_42_method_92_code 6 = .ok (.iload_n 2, 1) := by decide +kernel
theorem d20_7 : decode jdk_42_method_92_code 7 = .ok (.iload_n 3, 1) := by decide +kernel
theorem d20_8 : decode jdk_42_method_92_code 8 = .ok (.invokestatic 521, 3) := by decide +kernel
theorem w98 : Jvm.Cond.code N14 jdk_42_method_158_code (3 : Nat) (Option.none : Option Jvm.ClassFile.FieldType) ∈ tables_1 := List.mem_of_getElem? (i := 98) rfl
theorem pd_N14 : parseMethodDescriptor N14.desc = some ⟨[.int, .int, .int], none⟩ := by decide +kernel
theorem w96 : Jvm.Cond.methodLink "java/lang/String" (521 : Nat) N14 ∈ tables_1 := List.mem_of_getElem? (i := 96) rfl
theorem w97 : Jvm.Cond.static N14 ∈ tables_1 := List.mem_of_getElem? (i := 97) rfl
theorem d20_11 : decode jdk_42_method_92_code 11 = .ok (.iload_n 1, 1) := by decide +kernel
theorem d20_12 : decode jdk_42_method_92_code 12 = .ok (.ifCond .ne 10, 3) := by decide +kernel
theorem d20_15 : decode jdk_42_method_92_code 15 = .ok (.iload_n 2, 1) := by decide +kernel
theorem d20_16 : decode jdk_42_method_92_code 16 = .ok (.iload_n 3, 1) := by decide +kernel
theorem d20_17 : decode jdk_42_method_92_code 17 = .ok (.if_icmp .ne 5, 3) := by decide +kernel
theorem d20_22 : decode jdk_42_method_92_code 22 = .ok (.iload_n 2, 1) := by decide +kernel
theorem d20_23 : decode jdk_42_method_92_code 23 = .ok (.iload_n 1, 1) := by decide +kernel
theorem d20_24 : decode jdk_42_method_92_code 24 = .ok (.isub, 1) := by decide +kernel
theorem d20_25 : decode jdk_42_method_92_code 25 = .ok (.istore 4, 2) := by decide +kernel
theorem d20_27 : decode jdk_42_method_92_code 27 = .ok (.aload_n 0, 1) := by decide +kernel
theorem d20_28 : decode jdk_42_method_92_code 28 = .ok (.invokevirtual 492, 3) := by decide +kernel
theorem w59 : Jvm.Cond.code N7 jdk_42_method_154_code (1 : Nat) (Option.some Jvm.ClassFile.FieldType.boolean) ∈ tables_1 := List.mem_of_getElem? (i := 59) rfl
theorem pd_N7 : parseMethodDescriptor N7.desc = some ⟨[], (some .boolean)⟩ := by decide +kernel
theorem w55 : Jvm.Cond.methodLink "java/lang/String" (492 : Nat) N7 ∈ tables_1 := List.mem_of_getElem? (i := 55) rfl
theorem w56 : Jvm.Cond.declares N7 ∈ tables_1 := List.mem_of_getElem? (i := 56) rfl
theorem w58 : Jvm.Cond.selects "java/lang/String" N7 N7 ∈ tables_1 := List.mem_of_getElem? (i := 58) rfl
theorem w57 : Jvm.Cond.instanceMethod N7 ∈ tables_1 := List.mem_of_getElem? (i := 57) rfl
theorem d20_31 : decode jdk_42_method_92_code 31 = .ok (.ifCond .eq 16, 3) := by decide +kernel
theorem d20_34 : decode jdk_42_method_92_code 34 = .ok (.aload_n 0, 1) := by decide +kernel
theorem d20_35 : decode jdk_42_method_92_code 35 = .ok (.getfield 9, 3) := by decide +kernel
theorem d20_38 : decode jdk_42_method_92_code 38 = .ok (.iload_n 1, 1) := by decide +kernel
theorem d20_39 : decode jdk_42_method_92_code 39 = .ok (.iload 4, 2) := by decide +kernel
theorem d20_41 : decode jdk_42_method_92_code 41 = .ok (.invokestatic 685, 3) := by decide +kernel
theorem w106 : Jvm.Cond.code N20 jdk_43_method_47_code (3 : Nat) (Option.some (Jvm.ClassFile.FieldType.object "java/lang/String")) ∈ tables_1 := List.mem_of_getElem? (i := 106) rfl
theorem pd_N20 : parseMethodDescriptor N20.desc = some ⟨[(.array .byte), .int, .int], (some (.object "java/lang/String"))⟩ := by decide +kernel
theorem w104 : Jvm.Cond.methodLink "java/lang/String" (685 : Nat) N20 ∈ tables_1 := List.mem_of_getElem? (i := 104) rfl
theorem w105 : Jvm.Cond.static N20 ∈ tables_1 := List.mem_of_getElem? (i := 105) rfl
theorem d20_44 : decode jdk_42_method_92_code 44 = .ok (.goto 13, 3) := by decide +kernel
theorem d20_57 : decode jdk_42_method_92_code 57 = .ok (.areturn, 1) := by decide +kernel
abbrev N21 : MethodName := ⟨"java/lang/String", "substring", "(II)Ljava/lang/String;"⟩

abbrev rm_sub : Room := { frames := 4, cells := 2, slots := 8, locals := 73 }
set_option maxRecDepth 65536 in
set_option maxHeartbeats 4000000 in
theorem ct_sub (l : Launch) {Z : State} {n0 : Nat} {z : Int32} {f : Value} (W : Sx Z z f) (x b : Addr) (cs : List Int32) (k : Nat) (h : Heap) (S : Str Z h x b cs) (hn : cs.length ≤ 4) (hk : k < cs.length) :
    Ctr l Z n0 N21 jdk_42_method_92_code 5 (some (.object "java/lang/String")) rm_sub #[(.ref x), (.int (0 : Int32)), (.int k.toInt32)] h [] (fun v h' sn => ∃ a b', v = some (.ref a) ∧ Ext h h' ∧ Str Z h' a b' (cs.take k) ∧ sn = []) := by
  refine Ctr.of_go (ls := #[.val (.ref x), .val (.int (0 : Int32)), .val (.int k.toInt32), .unset, .unset]) W.1 (plainFor_of_name pn_N5) (fun m => by first | (simp [entryFrame, mkF, argsToLocals, Value.category]; done) | rfl) (fun K H => ?_)
  have S0 := S
  obtain ⟨A, Fv, Fc, Fb, hL, hn0⟩ := S
  refine Go.aloadN H d20_0 rfl rfl rfl ?_
  refine Go.callV (rest := []) 0 [] H d20_1 rfl A w39 w40 w42 w41 w10 w43 pd_N9 (ct_len l W x b cs h S0) all0 rfl rfl rfl (Nat.le_of_eq rfl) (by decide) (by decide) (by decide) (by decide) nh_N5 ?_
  rintro _ _ _ ⟨rfl, rfl, rfl⟩
  show Go _ _ _ _ _ _ h [] 0 0 4 #[.val (.ref x), .val (.int (0 : Int32)), .val (.int k.toInt32), .unset, .unset] [(.int cs.length.toInt32)]
  refine Go.istoreN (ls' := #[.val (.ref x), .val (.int (0 : Int32)), .val (.int k.toInt32), .val (.int cs.length.toInt32), .unset]) H d20_4 rfl rfl ?_
  refine Go.iloadN H d20_5 rfl rfl ?_
  refine Go.iloadN H d20_6 rfl rfl ?_
  refine Go.iloadN H d20_7 rfl rfl ?_
  refine Go.callS (rest := []) 0 [(.int (0 : Int32)), (.int k.toInt32), (.int cs.length.toInt32)] H d20_8 rfl w96 w97 w10 w98 pd_N14 (ct_cbb l W (0 : Int32) k.toInt32 cs.length.toInt32 h (by decide) (own_n0 (by omega)) (own_nlt (by omega) (by omega))) all0 rfl rfl rfl (Nat.le_of_eq rfl) (by decide) (by decide) (by decide) (by decide) nh_N5 ?_
  rintro _ _ _ ⟨rfl, rfl, rfl⟩
  show Go _ _ _ _ _ _ h [] 0 0 11 #[.val (.ref x), .val (.int (0 : Int32)), .val (.int k.toInt32), .val (.int cs.length.toInt32), .unset] []
  refine Go.iloadN H d20_11 rfl rfl ?_
  refine Go.ifN H d20_12 (by decide) rfl ?_
  refine Go.iloadN H d20_15 rfl rfl ?_
  refine Go.iloadN H d20_16 rfl rfl ?_
  refine Go.icmpY (pc' := 22) H d20_17 (feq (fun e => absurd (own_ofinj (by omega) (by omega) e) (by omega))).2 (by decide) (by decide) ?_
  refine Go.iloadN H d20_22 rfl rfl ?_
  refine Go.iloadN H d20_23 rfl rfl ?_
  refine Go.isub H d20_24 rfl ?_
  rw [Int32.sub_zero]
  refine Go.istore (ls' := #[.val (.ref x), .val (.int (0 : Int32)), .val (.int k.toInt32), .val (.int cs.length.toInt32), .val (.int k.toInt32)]) H d20_25 rfl rfl ?_
  refine Go.aloadN H d20_27 rfl rfl rfl ?_
  refine Go.callV (rest := []) 0 [] H d20_28 rfl A w55 w56 w58 w57 w10 w59 pd_N7 (ct_isl l W x b cs h S0) all0 rfl rfl rfl (Nat.le_of_eq rfl) (by decide) (by decide) (by decide) (by decide) nh_N5 ?_
  rintro _ _ _ ⟨rfl, rfl, rfl⟩
  show Go _ _ _ _ _ _ h [] 0 0 31 #[.val (.ref x), .val (.int (0 : Int32)), .val (.int k.toInt32), .val (.int cs.length.toInt32), .val (.int k.toInt32)] [(.int (1 : Int32))]
  refine Go.ifN H d20_31 (by decide) rfl ?_
  refine Go.aloadN H d20_34 rfl rfl rfl ?_
  refine Go.getfield H d20_35 rfl w28 Fv ?_
  refine Go.iloadN H d20_38 rfl rfl ?_
  refine Go.iload H d20_39 rfl rfl ?_
  refine Go.callS (rest := []) 0 [(.ref b), (.int (0 : Int32)), (.int k.toInt32)] H d20_41 rfl w104 w105 w62 w106 pd_N20 (ct_nst l W b cs k h Fb hL hn hk) all0 rfl rfl rfl (Nat.le_of_eq rfl) (by decide) (by decide) (by decide) (by decide) nh_N10 ?_
  rintro _ h3 _ ⟨a1, b2, rfl, E4, S5, rfl⟩
  replace A := A.ext E4
  replace Fv := Fv.ext E4
  replace Fc := Fc.ext E4
  replace Fb := Fb.ext E4
  show Go _ _ _ _ _ _ h3 [] 2 8 44 #[.val (.ref x), .val (.int (0 : Int32)), .val (.int k.toInt32), .val (.int cs.length.toInt32), .val (.int k.toInt32)] [(.ref a1)]
  refine Go.goto (pc' := 57) H d20_44 (by decide) (by decide) ?_
  exact Go.areturn [] H d20_57 rfl rfl (own_narR rfl) ⟨_, _, rfl, E4, S5, rfl⟩ all0 (by decide) (by decide)
theorem d2_0 : decode method_3_code 0 = .ok (.iload_n 0, 1) := by decide +kernel
theorem d2_1 : decode method_3_code 1 = .ok (.ifCond .gt 14, 3) := by decide +kernel
theorem d2_4 : decode method_3_code 4 = .ok (.new 7, 3) := by decide +kernel
theorem w8 : Jvm.Cond.classLink "com/example/cairnstore/cairnstore/ocfl/EntryTreeParentPinLaw" (7 : Nat) "java/lang/String" ∈ tables_1 := List.mem_of_getElem? (i := 8) rfl
theorem d2_7 : decode method_3_code 7 = .ok (.dup, 1) := by decide +kernel
theorem d2_8 : decode method_3_code 8 = .ok (.iconst 0, 1) := by decide +kernel
theorem d2_9 : decode method_3_code 9 = .ok (.newarray .char, 2) := by decide +kernel
theorem w11 : Jvm.Cond.arrayClass Jvm.ClassFile.FieldType.char ∈ tables_1 := List.mem_of_getElem? (i := 11) rfl
theorem d2_11 : decode method_3_code 11 = .ok (.invokespecial 9, 3) := by decide +kernel
theorem w14 : Jvm.Cond.code N6 jdk_42_method_3_code (2 : Nat) (Option.none : Option Jvm.ClassFile.FieldType) ∈ tables_1 := List.mem_of_getElem? (i := 14) rfl
theorem pd_N6 : parseMethodDescriptor N6.desc = some ⟨[(.array .char)], none⟩ := by decide +kernel
theorem w12 : Jvm.Cond.methodLink "com/example/cairnstore/cairnstore/ocfl/EntryTreeParentPinLaw" (9 : Nat) N6 ∈ tables_1 := List.mem_of_getElem? (i := 12) rfl
theorem w13 : Jvm.Cond.instanceMethod N6 ∈ tables_1 := List.mem_of_getElem? (i := 13) rfl
theorem d2_14 : decode method_3_code 14 = .ok (.areturn, 1) := by decide +kernel
abbrev N22 : MethodName := ⟨"com/example/cairnstore/cairnstore/ocfl/EntryTreeParentPinLaw", "mk", "(ICCCC)Ljava/lang/String;"⟩

abbrev rm_mk0 : Room := { frames := 4, cells := 6, slots := 12, locals := 66 }
set_option maxRecDepth 65536 in
set_option maxHeartbeats 4000000 in
theorem ct_mk0 (l : Launch) {Z : State} {n0 : Nat} {z : Int32} {f : Value} (W : Sx Z z f) (c0 c1 c2 c3 : Int32) (h : Heap) (k0 : isL c0) (k1 : isL c1) (k2 : isL c2) (k3 : isL c3) :
    Ctr l Z n0 N22 method_3_code 5 (some (.object "java/lang/String")) rm_mk0 #[(.int (0 : Int32)), (.int c0), (.int c1), (.int c2), (.int c3)] h [] (fun v h' sn => ∃ a b, v = some (.ref a) ∧ Ext h h' ∧ h.size ≤ a ∧ Str Z h' a b ([] : List Int32) ∧ sn = []) := by
  refine Ctr.of_go (ls := #[.val (.int (0 : Int32)), .val (.int c0), .val (.int c1), .val (.int c2), .val (.int c3)]) W.1 (plainFor_of_name pn_N0) (fun m => by first | (simp [entryFrame, mkF, argsToLocals, Value.category]; done) | rfl) (fun K H => ?_)
  have KK : Keep h h [] := Keep.refl _ _
  refine Go.iloadN H d2_0 rfl rfl ?_
  refine Go.ifN H d2_1 (by decide) rfl ?_
  refine Go.new H d2_4 rfl w8 w9 w10 (by decide) (by decide) ?_
  intro a1 h2 g3 z4 E5 A6 D7
  have sz8 := Nat.le_trans KK.1 (Nat.le_of_eq g3.symm)
  replace KK := KK.ext E5
  have F9 : Fld Z h2 a1 "java/lang/String" "value" "[B" .null := D7 (Or.inr w24) (ty := (.array .byte)) (by decide)
  have F10 : Fld Z h2 a1 "java/lang/String" "coder" "B" (.int (0 : Int32)) := D7 (Or.inr w25) (ty := .byte) (by decide)
  show Go _ _ _ _ _ _ h2 [a1] 1 4 7 #[.val (.int (0 : Int32)), .val (.int c0), .val (.int c1), .val (.int c2), .val (.int c3)] [(.ref a1)]
  refine Go.dup H d2_7 rfl rfl ?_
  refine Go.iconst (0 : Int32) H d2_8 rfl rfl ?_
  refine Go.newarray 0 0 H d2_9 rfl w11 rfl (by decide) (by decide) (by decide) (by decide) (by decide) (by decide) (by decide) ?_
  intro a11 h12 g13 z14 E15 F16
  have ne17 : a1 ≠ a11 := Nat.ne_of_lt (Nat.lt_of_lt_of_le A6.lt (Nat.le_of_eq g13.symm))
  have sz18 := Nat.le_trans KK.1 (Nat.le_of_eq g13.symm)
  replace A6 := A6.ext E15
  replace F9 := F9.ext E15
  replace F10 := F10.ext E15
  replace KK := KK.ext E15
  replace F16 : Vec Z h12 a11 .char [] := F16
  show Go _ _ _ _ _ _ h12 [a11, a1] 2 4 11 #[.val (.int (0 : Int32)), .val (.int c0), .val (.int c1), .val (.int c2), .val (.int c3)] [(.ref a11), (.ref a1), (.ref a1)]
  refine Go.callI (rest := [(.ref a1)]) 1 [(.ref a11)] H d2_11 rfl rfl w12 w13 w10 w14 pd_N6 (ct_new1 l W a1 a11 ([] : List Int32) h12 A6 F9 F10 F16 own_an (Nat.le_of_ble_eq_true rfl)  z4) (by simp) rfl rfl rfl (Nat.le_of_eq rfl) (by decide) (by decide) (by decide) (by decide) nh_N5 ?_
  rintro _ h19 _ ⟨rfl, K20, ⟨b21, S23⟩, rfl⟩
  replace F16 := F16.keep K20 (ninS (Ne.symm ne17) nin0)
  replace KK := KK.trans K20 (allS (Or.inr sz8) all0)
  show Go _ _ _ _ _ _ h19 [a11, a1] 6 12 14 #[.val (.int (0 : Int32)), .val (.int c0), .val (.int c1), .val (.int c2), .val (.int c3)] [(.ref a1)]
  exact Go.areturn [] H d2_14 rfl rfl (own_narR rfl) ⟨_, _, rfl, own_ext KK, Nat.le_of_eq g3.symm, S23, rfl⟩ all0 (by decide) (by decide)
theorem d2_15 : decode method_3_code 15 = .ok (.iload_n 0, 1) := by decide +kernel
theorem d2_16 : decode method_3_code 16 = .ok (.iconst 1, 1) := by decide +kernel
theorem d2_17 : decode method_3_code 17 = .ok (.if_icmp .ne 18, 3) := by decide +kernel
theorem d2_20 : decode method_3_code 20 = .ok (.new 7, 3) := by decide +kernel
theorem d2_23 : decode method_3_code 23 = .ok (.dup, 1) := by decide +kernel
theorem d2_24 : decode method_3_code 24 = .ok (.iconst 1, 1) := by decide +kernel
theorem d2_25 : decode method_3_code 25 = .ok (.newarray .char, 2) := by decide +kernel
theorem d2_27 : decode method_3_code 27 = .ok (.dup, 1) := by decide +kernel
theorem d2_28 : decode method_3_code 28 = .ok (.iconst 0, 1) := by decide +kernel
theorem d2_29 : decode method_3_code 29 = .ok (.iload_n 1, 1) := by decide +kernel
theorem d2_30 : decode method_3_code 30 = .ok (.castore, 1) := by decide +kernel
theorem d2_31 : decode method_3_code 31 = .ok (.invokespecial 9, 3) := by decide +kernel
theorem d2_34 : decode method_3_code 34 = .ok (.areturn, 1) := by decide +kernel

abbrev rm_mk1 : Room := { frames := 4, cells := 6, slots := 13, locals := 66 }
set_option maxRecDepth 65536 in
set_option maxHeartbeats 4000000 in
theorem ct_mk1 (l : Launch) {Z : State} {n0 : Nat} {z : Int32} {f : Value} (W : Sx Z z f) (c0 c1 c2 c3 : Int32) (h : Heap) (k0 : isL c0) (k1 : isL c1) (k2 : isL c2) (k3 : isL c3) :
    Ctr l Z n0 N22 method_3_code 5 (some (.object "java/lang/String")) rm_mk1 #[(.int (1 : Int32)), (.int c0), (.int c1), (.int c2), (.int c3)] h [] (fun v h' sn => ∃ a b, v = some (.ref a) ∧ Ext h h' ∧ h.size ≤ a ∧ Str Z h' a b [c0] ∧ sn = []) := by
  refine Ctr.of_go (ls := #[.val (.int (1 : Int32)), .val (.int c0), .val (.int c1), .val (.int c2), .val (.int c3)]) W.1 (plainFor_of_name pn_N0) (fun m => by first | (simp [entryFrame, mkF, argsToLocals, Value.category]; done) | rfl) (fun K H => ?_)
  have KK : Keep h h [] := Keep.refl _ _
  refine Go.iloadN H d2_0 rfl rfl ?_
  refine Go.ifY (pc' := 15) H d2_1 (by decide) (by decide) (by decide) ?_
  refine Go.iloadN H d2_15 rfl rfl ?_
  refine Go.iconst (1 : Int32) H d2_16 rfl rfl ?_
  refine Go.icmpN H d2_17 (by decide) rfl ?_
  refine Go.new H d2_20 rfl w8 w9 w10 (by decide) (by decide) ?_
  intro a1 h2 g3 z4 E5 A6 D7
  have sz8 := Nat.le_trans KK.1 (Nat.le_of_eq g3.symm)
  replace KK := KK.ext E5
  have F9 : Fld Z h2 a1 "java/lang/String" "value" "[B" .null := D7 (Or.inr w24) (ty := (.array .byte)) (by decide)
  have F10 : Fld Z h2 a1 "java/lang/String" "coder" "B" (.int (0 : Int32)) := D7 (Or.inr w25) (ty := .byte) (by decide)
  show Go _ _ _ _ _ _ h2 [a1] 1 4 23 #[.val (.int (1 : Int32)), .val (.int c0), .val (.int c1), .val (.int c2), .val (.int c3)] [(.ref a1)]
  refine Go.dup H d2_23 rfl rfl ?_
  refine Go.iconst (1 : Int32) H d2_24 rfl rfl ?_
  refine Go.newarray 1 1 H d2_25 rfl w11 rfl (by decide) (by decide) (by decide) (by decide) (by decide) (by decide) (by decide) ?_
  intro a11 h12 g13 z14 E15 F16
  have ne17 : a1 ≠ a11 := Nat.ne_of_lt (Nat.lt_of_lt_of_le A6.lt (Nat.le_of_eq g13.symm))
  have sz18 := Nat.le_trans KK.1 (Nat.le_of_eq g13.symm)
  replace A6 := A6.ext E15
  replace F9 := F9.ext E15
  replace F10 := F10.ext E15
  replace KK := KK.ext E15
  replace F16 : Vec Z h12 a11 .char [(0 : Int32)] := F16
  show Go _ _ _ _ _ _ h12 [a11, a1] 2 5 27 #[.val (.int (1 : Int32)), .val (.int c0), .val (.int c1), .val (.int c2), .val (.int c3)] [(.ref a11), (.ref a1), (.ref a1)]
  refine Go.dup H d2_27 rfl rfl ?_
  refine Go.iconst (0 : Int32) H d2_28 rfl rfl ?_
  refine Go.iloadN H d2_29 rfl rfl ?_
  refine Go.castore c0 H d2_30 rfl F16 0 (by decide) (by decide) (Nat.le_of_ble_eq_true rfl) (own_char k0.c) z14 (by simp) ?_
  intro h19 K20 F21
  replace A6 := A6.keep K20
  replace F9 := F9.keep K20 (ninS ne17 nin0)
  replace F10 := F10.keep K20 (ninS ne17 nin0)
  replace KK := KK.trans K20 (allS (Or.inr sz18) all0)
  replace F21 : Vec Z h19 a11 .char [c0] := F21
  refine Go.callI (rest := [(.ref a1)]) 1 [(.ref a11)] H d2_31 rfl rfl w12 w13 w10 w14 pd_N6 (ct_new1 l W a1 a11 [c0] h19 A6 F9 F10 F21 (own_ac k0 own_an) (Nat.le_of_ble_eq_true rfl)  z4) (by simp) rfl rfl rfl (Nat.le_of_eq rfl) (by decide) (by decide) (by decide) (by decide) nh_N5 ?_
  rintro _ h22 _ ⟨rfl, K23, ⟨b24, S26⟩, rfl⟩
  replace F21 := F21.keep K23 (ninS (Ne.symm ne17) nin0)
  replace KK := KK.trans K23 (allS (Or.inr sz8) all0)
  show Go _ _ _ _ _ _ h22 [a11, a1] 6 13 34 #[.val (.int (1 : Int32)), .val (.int c0), .val (.int c1), .val (.int c2), .val (.int c3)] [(.ref a1)]
  exact Go.areturn [] H d2_34 rfl rfl (own_narR rfl) ⟨_, _, rfl, own_ext KK, Nat.le_of_eq g3.symm, S26, rfl⟩ all0 (by decide) (by decide)
theorem d2_35 : decode method_3_code 35 = .ok (.iload_n 0, 1) := by decide +kernel
theorem d2_36 : decode method_3_code 36 = .ok (.iconst 2, 1) := by decide +kernel
theorem d2_37 : decode method_3_code 37 = .ok (.if_icmp .ne 22, 3) := by decide +kernel
theorem d2_40 : decode method_3_code 40 = .ok (.new 7, 3) := by decide +kernel
theorem d2_43 : decode method_3_code 43 = .ok (.dup, 1) := by decide +kernel
theorem d2_44 : decode method_3_code 44 = .ok (.iconst 2, 1) := by decide +kernel
theorem d2_45 : decode method_3_code 45 = .ok (.newarray .char, 2) := by decide +kernel
theorem d2_47 : decode method_3_code 47 = .ok (.dup, 1) := by decide +kernel
theorem d2_48 : decode method_3_code 48 = .ok (.iconst 0, 1) := by decide +kernel
theorem d2_49 : decode method_3_code 49 = .ok (.iload_n 1, 1) := by decide +kernel
theorem d2_50 : decode method_3_code 50 = .ok (.castore, 1) := by decide +kernel
theorem d2_51 : decode method_3_code 51 = .ok (.dup, 1) := by decide +kernel
theorem d2_52 : decode method_3_code 52 = .ok (.iconst 1, 1) := by decide +kernel
theorem d2_53 : decode method_3_code 53 = .ok (.iload_n 2, 1) := by decide +kernel
theorem d2_54 : decode method_3_code 54 = .ok (.castore, 1) := by decide +kernel
theorem d2_55 : decode method_3_code 55 = .ok (.invokespecial 9, 3) := by decide +kernel
theorem d2_58 : decode method_3_code 58 = .ok (.areturn, 1) := by decide +kernel

abbrev rm_mk2 : Room := { frames := 4, cells := 6, slots := 14, locals := 66 }
set_option maxRecDepth 65536 in
set_option maxHeartbeats 4000000 in
theorem ct_mk2 (l : Launch) {Z : State} {n0 : Nat} {z : Int32} {f : Value} (W : Sx Z z f) (c0 c1 c2 c3 : Int32) (h : Heap) (k0 : isL c0) (k1 : isL c1) (k2 : isL c2) (k3 : isL c3) :
    Ctr l Z n0 N22 method_3_code 5 (some (.object "java/lang/String")) rm_mk2 #[(.int (2 : Int32)), (.int c0), (.int c1), (.int c2), (.int c3)] h [] (fun v h' sn => ∃ a b, v = some (.ref a) ∧ Ext h h' ∧ h.size ≤ a ∧ Str Z h' a b [c0, c1] ∧ sn = []) := by
  refine Ctr.of_go (ls := #[.val (.int (2 : Int32)), .val (.int c0), .val (.int c1), .val (.int c2), .val (.int c3)]) W.1 (plainFor_of_name pn_N0) (fun m => by first | (simp [entryFrame, mkF, argsToLocals, Value.category]; done) | rfl) (fun K H => ?_)
  have KK : Keep h h [] := Keep.refl _ _
  refine Go.iloadN H d2_0 rfl rfl ?_
  refine Go.ifY (pc' := 15) H d2_1 (by decide) (by decide) (by decide) ?_
  refine Go.iloadN H d2_15 rfl rfl ?_
  refine Go.iconst (1 : Int32) H d2_16 rfl rfl ?_
  refine Go.icmpY (pc' := 35) H d2_17 (by decide) (by decide) (by decide) ?_
  refine Go.iloadN H d2_35 rfl rfl ?_
  refine Go.iconst (2 : Int32) H d2_36 rfl rfl ?_
  refine Go.icmpN H d2_37 (by decide) rfl ?_
  refine Go.new H d2_40 rfl w8 w9 w10 (by decide) (by decide) ?_
  intro a1 h2 g3 z4 E5 A6 D7
  have sz8 := Nat.le_trans KK.1 (Nat.le_of_eq g3.symm)
  replace KK := KK.ext E5
  have F9 : Fld Z h2 a1 "java/lang/String" "value" "[B" .null := D7 (Or.inr w24) (ty := (.array .byte)) (by decide)
  have F10 : Fld Z h2 a1 "java/lang/String" "coder" "B" (.int (0 : Int32)) := D7 (Or.inr w25) (ty := .byte) (by decide)
  show Go _ _ _ _ _ _ h2 [a1] 1 4 43 #[.val (.int (2 : Int32)), .val (.int c0), .val (.int c1), .val (.int c2), .val (.int c3)] [(.ref a1)]
  refine Go.dup H d2_43 rfl rfl ?_
  refine Go.iconst (2 : Int32) H d2_44 rfl rfl ?_
  refine Go.newarray 2 2 H d2_45 rfl w11 rfl (by decide) (by decide) (by decide) (by decide) (by decide) (by decide) (by decide) ?_
  intro a11 h12 g13 z14 E15 F16
  have ne17 : a1 ≠ a11 := Nat.ne_of_lt (Nat.lt_of_lt_of_le A6.lt (Nat.le_of_eq g13.symm))
  have sz18 := Nat.le_trans KK.1 (Nat.le_of_eq g13.symm)
  replace A6 := A6.ext E15
  replace F9 := F9.ext E15
  replace F10 := F10.ext E15
  replace KK := KK.ext E15
  replace F16 : Vec Z h12 a11 .char [(0 : Int32), (0 : Int32)] := F16
  show Go _ _ _ _ _ _ h12 [a11, a1] 2 6 47 #[.val (.int (2 : Int32)), .val (.int c0), .val (.int c1), .val (.int c2), .val (.int c3)] [(.ref a11), (.ref a1), (.ref a1)]
  refine Go.dup H d2_47 rfl rfl ?_
  refine Go.iconst (0 : Int32) H d2_48 rfl rfl ?_
  refine Go.iloadN H d2_49 rfl rfl ?_
  refine Go.castore c0 H d2_50 rfl F16 0 (by decide) (by decide) (Nat.le_of_ble_eq_true rfl) (own_char k0.c) z14 (by simp) ?_
  intro h19 K20 F21
  replace A6 := A6.keep K20
  replace F9 := F9.keep K20 (ninS ne17 nin0)
  replace F10 := F10.keep K20 (ninS ne17 nin0)
  replace KK := KK.trans K20 (allS (Or.inr sz18) all0)
  replace F21 : Vec Z h19 a11 .char [c0, (0 : Int32)] := F21
  refine Go.dup H d2_51 rfl rfl ?_
  refine Go.iconst (1 : Int32) H d2_52 rfl rfl ?_
  refine Go.iloadN H d2_53 rfl rfl ?_
  refine Go.castore c1 H d2_54 rfl F21 1 (by decide) (by decide) (Nat.le_of_ble_eq_true rfl) (own_char k1.c) z14 (by simp) ?_
  intro h22 K23 F24
  replace A6 := A6.keep K23
  replace F9 := F9.keep K23 (ninS ne17 nin0)
  replace F10 := F10.keep K23 (ninS ne17 nin0)
  replace KK := KK.trans K23 (allS (Or.inr sz18) all0)
  replace F24 : Vec Z h22 a11 .char [c0, c1] := F24
  refine Go.callI (rest := [(.ref a1)]) 1 [(.ref a11)] H d2_55 rfl rfl w12 w13 w10 w14 pd_N6 (ct_new1 l W a1 a11 [c0, c1] h22 A6 F9 F10 F24 (own_ac k0 (own_ac k1 own_an)) (Nat.le_of_ble_eq_true rfl)  z4) (by simp) rfl rfl rfl (Nat.le_of_eq rfl) (by decide) (by decide) (by decide) (by decide) nh_N5 ?_
  rintro _ h25 _ ⟨rfl, K26, ⟨b27, S29⟩, rfl⟩
  replace F24 := F24.keep K26 (ninS (Ne.symm ne17) nin0)
  replace KK := KK.trans K26 (allS (Or.inr sz8) all0)
  show Go _ _ _ _ _ _ h25 [a11, a1] 6 14 58 #[.val (.int (2 : Int32)), .val (.int c0), .val (.int c1), .val (.int c2), .val (.int c3)] [(.ref a1)]
  exact Go.areturn [] H d2_58 rfl rfl (own_narR rfl) ⟨_, _, rfl, own_ext KK, Nat.le_of_eq g3.symm, S29, rfl⟩ all0 (by decide) (by decide)
theorem d2_59 : decode method_3_code 59 = .ok (.iload_n 0, 1) := by decide +kernel
theorem d2_60 : decode method_3_code 60 = .ok (.iconst 3, 1) := by decide +kernel
theorem d2_61 : decode method_3_code 61 = .ok (.if_icmp .ne 26, 3) := by decide +kernel
theorem d2_64 : decode method_3_code 64 = .ok (.new 7, 3) := by decide +kernel
theorem d2_67 : decode method_3_code 67 = .ok (.dup, 1) := by decide +kernel
theorem d2_68 : decode method_3_code 68 = .ok (.iconst 3, 1) := by decide +kernel
theorem d2_69 : decode method_3_code 69 = .ok (.newarray .char, 2) := by decide +kernel
theorem d2_71 : decode method_3_code 71 = .ok (.dup, 1) := by decide +kernel
theorem d2_72 : decode method_3_code 72 = .ok (.iconst 0, 1) := by decide +kernel
theorem d2_73 : decode method_3_code 73 = .ok (.iload_n 1, 1) := by decide +kernel
theorem d2_74 : decode method_3_code 74 = .ok (.castore, 1) := by decide +kernel
theorem d2_75 : decode method_3_code 75 = .ok (.dup, 1) := by decide +kernel
theorem d2_76 : decode method_3_code 76 = .ok (.iconst 1, 1) := by decide +kernel
theorem d2_77 : decode method_3_code 77 = .ok (.iload_n 2, 1) := by decide +kernel
theorem d2_78 : decode method_3_code 78 = .ok (.castore, 1) := by decide +kernel
theorem d2_79 : decode method_3_code 79 = .ok (.dup, 1) := by decide +kernel
theorem d2_80 : decode method_3_code 80 = .ok (.iconst 2, 1) := by decide +kernel
theorem d2_81 : decode method_3_code 81 = .ok (.iload_n 3, 1) := by decide +kernel
theorem d2_82 : decode method_3_code 82 = .ok (.castore, 1) := by decide +kernel
theorem d2_83 : decode method_3_code 83 = .ok (.invokespecial 9, 3) := by decide +kernel
theorem d2_86 : decode method_3_code 86 = .ok (.areturn, 1) := by decide +kernel

abbrev rm_mk3 : Room := { frames := 4, cells := 6, slots := 15, locals := 66 }
set_option maxRecDepth 65536 in
set_option maxHeartbeats 4000000 in
theorem ct_mk3 (l : Launch) {Z : State} {n0 : Nat} {z : Int32} {f : Value} (W : Sx Z z f) (c0 c1 c2 c3 : Int32) (h : Heap) (k0 : isL c0) (k1 : isL c1) (k2 : isL c2) (k3 : isL c3) :
    Ctr l Z n0 N22 method_3_code 5 (some (.object "java/lang/String")) rm_mk3 #[(.int (3 : Int32)), (.int c0), (.int c1), (.int c2), (.int c3)] h [] (fun v h' sn => ∃ a b, v = some (.ref a) ∧ Ext h h' ∧ h.size ≤ a ∧ Str Z h' a b [c0, c1, c2] ∧ sn = []) := by
  refine Ctr.of_go (ls := #[.val (.int (3 : Int32)), .val (.int c0), .val (.int c1), .val (.int c2), .val (.int c3)]) W.1 (plainFor_of_name pn_N0) (fun m => by first | (simp [entryFrame, mkF, argsToLocals, Value.category]; done) | rfl) (fun K H => ?_)
  have KK : Keep h h [] := Keep.refl _ _
  refine Go.iloadN H d2_0 rfl rfl ?_
  refine Go.ifY (pc' := 15) H d2_1 (by decide) (by decide) (by decide) ?_
  refine Go.iloadN H d2_15 rfl rfl ?_
  refine Go.iconst (1 : Int32) H d2_16 rfl rfl ?_
  refine Go.icmpY (pc' := 35) H d2_17 (by decide) (by decide) (by decide) ?_
  refine Go.iloadN H d2_35 rfl rfl ?_
  refine Go.iconst (2 : Int32) H d2_36 rfl rfl ?_
  refine Go.icmpY (pc' := 59) H d2_37 (by decide) (by decide) (by decide) ?_
  refine Go.iloadN H d2_59 rfl rfl ?_
  refine Go.iconst (3 : Int32) H d2_60 rfl rfl ?_
  refine Go.icmpN H d2_61 (by decide) rfl ?_
  refine Go.new H d2_64 rfl w8 w9 w10 (by decide) (by decide) ?_
  intro a1 h2 g3 z4 E5 A6 D7
  have sz8 := Nat.le_trans KK.1 (Nat.le_of_eq g3.symm)
  replace KK := KK.ext E5
  have F9 : Fld Z h2 a1 "java/lang/String" "value" "[B" .null := D7 (Or.inr w24) (ty := (.array .byte)) (by decide)
  have F10 : Fld Z h2 a1 "java/lang/String" "coder" "B" (.int (0 : Int32)) := D7 (Or.inr w25) (ty := .byte) (by decide)
  show Go _ _ _ _ _ _ h2 [a1] 1 4 67 #[.val (.int (3 : Int32)), .val (.int c0), .val (.int c1), .val (.int c2), .val (.int c3)] [(.ref a1)]
  refine Go.dup H d2_67 rfl rfl ?_
  refine Go.iconst (3 : Int32) H d2_68 rfl rfl ?_
  refine Go.newarray 3 3 H d2_69 rfl w11 rfl (by decide) (by decide) (by decide) (by decide) (by decide) (by decide) (by decide) ?_
  intro a11 h12 g13 z14 E15 F16
  have ne17 : a1 ≠ a11 := Nat.ne_of_lt (Nat.lt_of_lt_of_le A6.lt (Nat.le_of_eq g13.symm))
  have sz18 := Nat.le_trans KK.1 (Nat.le_of_eq g13.symm)
  replace A6 := A6.ext E15
  replace F9 := F9.ext E15
  replace F10 := F10.ext E15
  replace KK := KK.ext E15
  replace F16 : Vec Z h12 a11 .char [(0 : Int32), (0 : Int32), (0 : Int32)] := F16
  show Go _ _ _ _ _ _ h12 [a11, a1] 2 7 71 #[.val (.int (3 : Int32)), .val (.int c0), .val (.int c1), .val (.int c2), .val (.int c3)] [(.ref a11), (.ref a1), (.ref a1)]
  refine Go.dup H d2_71 rfl rfl ?_
  refine Go.iconst (0 : Int32) H d2_72 rfl rfl ?_
  refine Go.iloadN H d2_73 rfl rfl ?_
  refine Go.castore c0 H d2_74 rfl F16 0 (by decide) (by decide) (Nat.le_of_ble_eq_true rfl) (own_char k0.c) z14 (by simp) ?_
  intro h19 K20 F21
  replace A6 := A6.keep K20
  replace F9 := F9.keep K20 (ninS ne17 nin0)
  replace F10 := F10.keep K20 (ninS ne17 nin0)
  replace KK := KK.trans K20 (allS (Or.inr sz18) all0)
  replace F21 : Vec Z h19 a11 .char [c0, (0 : Int32), (0 : Int32)] := F21
  refine Go.dup H d2_75 rfl rfl ?_
  refine Go.iconst (1 : Int32) H d2_76 rfl rfl ?_
  refine Go.iloadN H d2_77 rfl rfl ?_
  refine Go.castore c1 H d2_78 rfl F21 1 (by decide) (by decide) (Nat.le_of_ble_eq_true rfl) (own_char k1.c) z14 (by simp) ?_
  intro h22 K23 F24
  replace A6 := A6.keep K23
  replace F9 := F9.keep K23 (ninS ne17 nin0)
  replace F10 := F10.keep K23 (ninS ne17 nin0)
  replace KK := KK.trans K23 (allS (Or.inr sz18) all0)
  replace F24 : Vec Z h22 a11 .char [c0, c1, (0 : Int32)] := F24
  refine Go.dup H d2_79 rfl rfl ?_
  refine Go.iconst (2 : Int32) H d2_80 rfl rfl ?_
  refine Go.iloadN H d2_81 rfl rfl ?_
  refine Go.castore c2 H d2_82 rfl F24 2 (by decide) (by decide) (Nat.le_of_ble_eq_true rfl) (own_char k2.c) z14 (by simp) ?_
  intro h25 K26 F27
  replace A6 := A6.keep K26
  replace F9 := F9.keep K26 (ninS ne17 nin0)
  replace F10 := F10.keep K26 (ninS ne17 nin0)
  replace KK := KK.trans K26 (allS (Or.inr sz18) all0)
  replace F27 : Vec Z h25 a11 .char [c0, c1, c2] := F27
  refine Go.callI (rest := [(.ref a1)]) 1 [(.ref a11)] H d2_83 rfl rfl w12 w13 w10 w14 pd_N6 (ct_new1 l W a1 a11 [c0, c1, c2] h25 A6 F9 F10 F27 (own_ac k0 (own_ac k1 (own_ac k2 own_an))) (Nat.le_of_ble_eq_true rfl)  z4) (by simp) rfl rfl rfl (Nat.le_of_eq rfl) (by decide) (by decide) (by decide) (by decide) nh_N5 ?_
  rintro _ h28 _ ⟨rfl, K29, ⟨b30, S32⟩, rfl⟩
  replace F27 := F27.keep K29 (ninS (Ne.symm ne17) nin0)
  replace KK := KK.trans K29 (allS (Or.inr sz8) all0)
  show Go _ _ _ _ _ _ h28 [a11, a1] 6 15 86 #[.val (.int (3 : Int32)), .val (.int c0), .val (.int c1), .val (.int c2), .val (.int c3)] [(.ref a1)]
  exact Go.areturn [] H d2_86 rfl rfl (own_narR rfl) ⟨_, _, rfl, own_ext KK, Nat.le_of_eq g3.symm, S32, rfl⟩ all0 (by decide) (by decide)
theorem d2_87 : decode method_3_code 87 = .ok (.new 7, 3) := by decide +kernel
theorem d2_90 : decode method_3_code 90 = .ok (.dup, 1) := by decide +kernel
theorem d2_91 : decode method_3_code 91 = .ok (.iconst 4, 1) := by decide +kernel
theorem d2_92 : decode method_3_code 92 = .ok (.newarray .char, 2) := by decide +kernel
theorem d2_94 : decode method_3_code 94 = .ok (.dup, 1) := by decide +kernel
theorem d2_95 : decode method_3_code 95 = .ok (.iconst 0, 1) := by decide +kernel
theorem d2_96 : decode method_3_code 96 = .ok (.iload_n 1, 1) := by decide +kernel
theorem d2_97 : decode method_3_code 97 = .ok (.castore, 1) := by decide +kernel
theorem d2_98 : decode method_3_code 98 = .ok (.dup, 1) := by decide +kernel
theorem d2_99 : decode method_3_code 99 = .ok (.iconst 1, 1) := by decide +kernel
theorem d2_100 : decode method_3_code 100 = .ok (.iload_n 2, 1) := by decide +kernel
theorem d2_101 : decode method_3_code 101 = .ok (.castore, 1) := by decide +kernel
theorem d2_102 : decode method_3_code 102 = .ok (.dup, 1) := by decide +kernel
theorem d2_103 : decode method_3_code 103 = .ok (.iconst 2, 1) := by decide +kernel
theorem d2_104 : decode method_3_code 104 = .ok (.iload_n 3, 1) := by decide +kernel
theorem d2_105 : decode method_3_code 105 = .ok (.castore, 1) := by decide +kernel
theorem d2_106 : decode method_3_code 106 = .ok (.dup, 1) := by decide +kernel
theorem d2_107 : decode method_3_code 107 = .ok (.iconst 3, 1) := by decide +kernel
theorem d2_108 : decode method_3_code 108 = .ok (.iload 4, 2) := by decide +kernel
theorem d2_110 : decode method_3_code 110 = .ok (.castore, 1) := by decide +kernel
theorem d2_111 : decode method_3_code 111 = .ok (.invokespecial 9, 3) := by decide +kernel
theorem d2_114 : decode method_3_code 114 = .ok (.areturn, 1) := by decide +kernel

abbrev rm_mk4 : Room := { frames := 4, cells := 6, slots := 16, locals := 66 }
set_option maxRecDepth 65536 in
set_option maxHeartbeats 4000000 in
theorem ct_mk4 (l : Launch) {Z : State} {n0 : Nat} {z : Int32} {f : Value} (W : Sx Z z f) (c0 c1 c2 c3 : Int32) (h : Heap) (k0 : isL c0) (k1 : isL c1) (k2 : isL c2) (k3 : isL c3) :
    Ctr l Z n0 N22 method_3_code 5 (some (.object "java/lang/String")) rm_mk4 #[(.int (4 : Int32)), (.int c0), (.int c1), (.int c2), (.int c3)] h [] (fun v h' sn => ∃ a b, v = some (.ref a) ∧ Ext h h' ∧ h.size ≤ a ∧ Str Z h' a b [c0, c1, c2, c3] ∧ sn = []) := by
  refine Ctr.of_go (ls := #[.val (.int (4 : Int32)), .val (.int c0), .val (.int c1), .val (.int c2), .val (.int c3)]) W.1 (plainFor_of_name pn_N0) (fun m => by first | (simp [entryFrame, mkF, argsToLocals, Value.category]; done) | rfl) (fun K H => ?_)
  have KK : Keep h h [] := Keep.refl _ _
  refine Go.iloadN H d2_0 rfl rfl ?_
  refine Go.ifY (pc' := 15) H d2_1 (by decide) (by decide) (by decide) ?_
  refine Go.iloadN H d2_15 rfl rfl ?_
  refine Go.iconst (1 : Int32) H d2_16 rfl rfl ?_
  refine Go.icmpY (pc' := 35) H d2_17 (by decide) (by decide) (by decide) ?_
  refine Go.iloadN H d2_35 rfl rfl ?_
  refine Go.iconst (2 : Int32) H d2_36 rfl rfl ?_
  refine Go.icmpY (pc' := 59) H d2_37 (by decide) (by decide) (by decide) ?_
  refine Go.iloadN H d2_59 rfl rfl ?_
  refine Go.iconst (3 : Int32) H d2_60 rfl rfl ?_
  refine Go.icmpY (pc' := 87) H d2_61 (by decide) (by decide) (by decide) ?_
  refine Go.new H d2_87 rfl w8 w9 w10 (by decide) (by decide) ?_
  intro a1 h2 g3 z4 E5 A6 D7
  have sz8 := Nat.le_trans KK.1 (Nat.le_of_eq g3.symm)
  replace KK := KK.ext E5
  have F9 : Fld Z h2 a1 "java/lang/String" "value" "[B" .null := D7 (Or.inr w24) (ty := (.array .byte)) (by decide)
  have F10 : Fld Z h2 a1 "java/lang/String" "coder" "B" (.int (0 : Int32)) := D7 (Or.inr w25) (ty := .byte) (by decide)
  show Go _ _ _ _ _ _ h2 [a1] 1 4 90 #[.val (.int (4 : Int32)), .val (.int c0), .val (.int c1), .val (.int c2), .val (.int c3)] [(.ref a1)]
  refine Go.dup H d2_90 rfl rfl ?_
  refine Go.iconst (4 : Int32) H d2_91 rfl rfl ?_
  refine Go.newarray 4 4 H d2_92 rfl w11 rfl (by decide) (by decide) (by decide) (by decide) (by decide) (by decide) (by decide) ?_
  intro a11 h12 g13 z14 E15 F16
  have ne17 : a1 ≠ a11 := Nat.ne_of_lt (Nat.lt_of_lt_of_le A6.lt (Nat.le_of_eq g13.symm))
  have sz18 := Nat.le_trans KK.1 (Nat.le_of_eq g13.symm)
  replace A6 := A6.ext E15
  replace F9 := F9.ext E15
  replace F10 := F10.ext E15
  replace KK := KK.ext E15
  replace F16 : Vec Z h12 a11 .char [(0 : Int32), (0 : Int32), (0 : Int32), (0 : Int32)] := F16
  show Go _ _ _ _ _ _ h12 [a11, a1] 2 8 94 #[.val (.int (4 : Int32)), .val (.int c0), .val (.int c1), .val (.int c2), .val (.int c3)] [(.ref a11), (.ref a1), (.ref a1)]
  refine Go.dup H d2_94 rfl rfl ?_
  refine Go.iconst (0 : Int32) H d2_95 rfl rfl ?_
  refine Go.iloadN H d2_96 rfl rfl ?_
  refine Go.castore c0 H d2_97 rfl F16 0 (by decide) (by decide) (Nat.le_of_ble_eq_true rfl) (own_char k0.c) z14 (by simp) ?_
  intro h19 K20 F21
  replace A6 := A6.keep K20
  replace F9 := F9.keep K20 (ninS ne17 nin0)
  replace F10 := F10.keep K20 (ninS ne17 nin0)
  replace KK := KK.trans K20 (allS (Or.inr sz18) all0)
  replace F21 : Vec Z h19 a11 .char [c0, (0 : Int32), (0 : Int32), (0 : Int32)] := F21
  refine Go.dup H d2_98 rfl rfl ?_
  refine Go.iconst (1 : Int32) H d2_99 rfl rfl ?_
  refine Go.iloadN H d2_100 rfl rfl ?_
  refine Go.castore c1 H d2_101 rfl F21 1 (by decide) (by decide) (Nat.le_of_ble_eq_true rfl) (own_char k1.c) z14 (by simp) ?_
  intro h22 K23 F24
  replace A6 := A6.keep K23
  replace F9 := F9.keep K23 (ninS ne17 nin0)
  replace F10 := F10.keep K23 (ninS ne17 nin0)
  replace KK := KK.trans K23 (allS (Or.inr sz18) all0)
  replace F24 : Vec Z h22 a11 .char [c0, c1, (0 : Int32), (0 : Int32)] := F24
  refine Go.dup H d2_102 rfl rfl ?_
  refine Go.iconst (2 : Int32) H d2_103 rfl rfl ?_
  refine Go.iloadN H d2_104 rfl rfl ?_
  refine Go.castore c2 H d2_105 rfl F24 2 (by decide) (by decide) (Nat.le_of_ble_eq_true rfl) (own_char k2.c) z14 (by simp) ?_
  intro h25 K26 F27
  replace A6 := A6.keep K26
  replace F9 := F9.keep K26 (ninS ne17 nin0)
  replace F10 := F10.keep K26 (ninS ne17 nin0)
  replace KK := KK.trans K26 (allS (Or.inr sz18) all0)
  replace F27 : Vec Z h25 a11 .char [c0, c1, c2, (0 : Int32)] := F27
  refine Go.dup H d2_106 rfl rfl ?_
  refine Go.iconst (3 : Int32) H d2_107 rfl rfl ?_
  refine Go.iload H d2_108 rfl rfl ?_
  refine Go.castore c3 H d2_110 rfl F27 3 (by decide) (by decide) (Nat.le_of_ble_eq_true rfl) (own_char k3.c) z14 (by simp) ?_
  intro h28 K29 F30
  replace A6 := A6.keep K29
  replace F9 := F9.keep K29 (ninS ne17 nin0)
  replace F10 := F10.keep K29 (ninS ne17 nin0)
  replace KK := KK.trans K29 (allS (Or.inr sz18) all0)
  replace F30 : Vec Z h28 a11 .char [c0, c1, c2, c3] := F30
  refine Go.callI (rest := [(.ref a1)]) 1 [(.ref a11)] H d2_111 rfl rfl w12 w13 w10 w14 pd_N6 (ct_new1 l W a1 a11 [c0, c1, c2, c3] h28 A6 F9 F10 F30 (own_ac k0 (own_ac k1 (own_ac k2 (own_ac k3 own_an)))) (Nat.le_of_ble_eq_true rfl)  z4) (by simp) rfl rfl rfl (Nat.le_of_eq rfl) (by decide) (by decide) (by decide) (by decide) nh_N5 ?_
  rintro _ h31 _ ⟨rfl, K32, ⟨b33, S35⟩, rfl⟩
  replace F30 := F30.keep K32 (ninS (Ne.symm ne17) nin0)
  replace KK := KK.trans K32 (allS (Or.inr sz8) all0)
  show Go _ _ _ _ _ _ h31 [a11, a1] 6 16 114 #[.val (.int (4 : Int32)), .val (.int c0), .val (.int c1), .val (.int c2), .val (.int c3)] [(.ref a1)]
  exact Go.areturn [] H d2_114 rfl rfl (own_narR rfl) ⟨_, _, rfl, own_ext KK, Nat.le_of_eq g3.symm, S35, rfl⟩ all0 (by decide) (by decide)
def canF (x : Int32) : Int32 := if x < (0 : Int32) then (0 : Int32) else if (255 : Int32) < x then (0 : Int32) else (1 : Int32)
theorem d13_0 : decode jdk_43_method_4_code 0 = .ok (.iload_n 0, 1) := by decide +kernel
theorem d13_1 : decode jdk_43_method_4_code 1 = .ok (.ifCond .lt 14, 3) := by decide +kernel
theorem d13_15 : decode jdk_43_method_4_code 15 = .ok (.iconst 0, 1) := by decide +kernel
theorem d13_16 : decode jdk_43_method_4_code 16 = .ok (.ireturn, 1) := by decide +kernel
theorem d13_4 : decode jdk_43_method_4_code 4 = .ok (.iload_n 0, 1) := by decide +kernel
theorem d13_5 : decode jdk_43_method_4_code 5 = .ok (.sipush 255, 3) := by decide +kernel
theorem d13_8 : decode jdk_43_method_4_code 8 = .ok (.if_icmp .gt 7, 3) := by decide +kernel
theorem d13_11 : decode jdk_43_method_4_code 11 = .ok (.iconst 1, 1) := by decide +kernel
theorem d13_12 : decode jdk_43_method_4_code 12 = .ok (.goto 4, 3) := by decide +kernel
abbrev N23 : MethodName := ⟨"java/lang/StringLatin1", "canEncode", "(I)Z"⟩

abbrev rm_can : Room := { frames := 0, cells := 0, slots := 0, locals := 0 }
set_option maxRecDepth 65536 in
set_option maxHeartbeats 4000000 in
theorem ct_can (l : Launch) {Z : State} {n0 : Nat} {z : Int32} {f : Value} (W : Sx Z z f) (x : Int32) (h : Heap) :
    Ctr l Z n0 N23 jdk_43_method_4_code 1 (some .boolean) rm_can #[(.int x)] h [] (fun v h' sn => v = some (.int (canF x)) ∧ h = h' ∧ sn = []) := by
  refine Ctr.of_go (ls := #[.val (.int x)]) W.1 (plainFor_of_name pn_N10) (fun m => by first | (simp [entryFrame, mkF, argsToLocals, Value.category]; done) | rfl) (fun K H => ?_)
  refine Go.iloadN H d13_0 rfl rfl ?_
  by_cases c1 : x < (0 : Int32)
  ·
    refine Go.ifY (pc' := 15) H d13_1 (tlt c1).1 (by decide) (by decide) ?_
    refine Go.iconst (0 : Int32) H d13_15 rfl rfl ?_
    exact Go.ireturn (0 : Int32) [] H d13_16 (by simp) (by decide) ⟨congrArg (fun q => some (Value.int q)) (show (0 : Int32) = canF x from Eq.symm (by rw [canF, if_pos c1])), rfl, rfl⟩ all0 (by decide) (by decide)
  ·
    refine Go.ifN H d13_1 (flt c1).1 rfl ?_
    refine Go.iloadN H d13_4 rfl rfl ?_
    refine Go.sipush (255 : Int32) H d13_5 rfl rfl ?_
    by_cases c2 : (255 : Int32) < x
    ·
      refine Go.icmpY (pc' := 15) H d13_8 (tlt c2).2.2.1 (by decide) (by decide) ?_
      refine Go.iconst (0 : Int32) H d13_15 rfl rfl ?_
      exact Go.ireturn (0 : Int32) [] H d13_16 (by simp) (by decide) ⟨congrArg (fun q => some (Value.int q)) (show (0 : Int32) = canF x from Eq.symm (by rw [canF, if_neg c1, if_pos c2])), rfl, rfl⟩ all0 (by decide) (by decide)
    ·
      refine Go.icmpN H d13_8 (flt c2).2.2.1 rfl ?_
      refine Go.iconst (1 : Int32) H d13_11 rfl rfl ?_
      refine Go.goto (pc' := 16) H d13_12 (by decide) (by decide) ?_
      exact Go.ireturn (1 : Int32) [] H d13_16 (by simp) (by decide) ⟨congrArg (fun q => some (Value.int q)) (show (1 : Int32) = canF x from Eq.symm (by rw [canF, if_neg c1, if_neg c2])), rfl, rfl⟩ all0 (by decide) (by decide)
def lastN (cs : List Int32) : Nat → Int32
  | 0 => -1
  | m + 1 => if cs[m]? = some 47 then m.toInt32 else lastN cs m
theorem own_pred (m : Nat) : (m + 1).toInt32 - 1 = m.toInt32 := by rw [← own_s]; grind
theorem own_m1 (x : Int32) : x + (-1) = x - 1 := by grind
theorem own_47 {cs : List Int32} (hL : ∀ c ∈ cs, isL c) {m : Nat} {p : Int32} (hp : (cs.map (nar .byte))[m]? = some p) : (p = nar .byte 47 ↔ cs[m]? = some 47) := by
  rw [List.getElem?_map] at hp
  cases hc : cs[m]? with
  | none => rw [hc] at hp; cases hp
  | some c =>
    rw [hc] at hp; cases hp
    constructor
    · intro e; rw [own_inj (hL c (List.mem_of_getElem? hc)) ⟨by decide, by decide⟩ e]
    · intro e; cases e; rfl
theorem d12_18 : decode jdk_43_method_27_code 18 = .ok (.iload_n 3, 1) := by decide +kernel
theorem d12_19 : decode jdk_43_method_27_code 19 = .ok (.ifCond .lt 19, 3) := by decide +kernel
theorem d12_38 : decode jdk_43_method_27_code 38 = .ok (.iconst (-1), 1) := by decide +kernel
theorem d12_39 : decode jdk_43_method_27_code 39 = .ok (.ireturn, 1) := by decide +kernel
theorem d12_22 : decode jdk_43_method_27_code 22 = .ok (.aload_n 0, 1) := by decide +kernel
theorem d12_23 : decode jdk_43_method_27_code 23 = .ok (.iload_n 3, 1) := by decide +kernel
theorem d12_24 : decode jdk_43_method_27_code 24 = .ok (.baload, 1) := by decide +kernel
theorem d12_25 : decode jdk_43_method_27_code 25 = .ok (.iload_n 1, 1) := by decide +kernel
theorem d12_26 : decode jdk_43_method_27_code 26 = .ok (.i2b, 1) := by decide +kernel
theorem d12_27 : decode jdk_43_method_27_code 27 = .ok (.if_icmp .ne 5, 3) := by decide +kernel
theorem d12_30 : decode jdk_43_method_27_code 30 = .ok (.iload_n 3, 1) := by decide +kernel
theorem d12_31 : decode jdk_43_method_27_code 31 = .ok (.ireturn, 1) := by decide +kernel
theorem d12_32 : decode jdk_43_method_27_code 32 = .ok (.iinc 3 (-1), 3) := by decide +kernel
theorem d12_35 : decode jdk_43_method_27_code 35 = .ok (.goto (-17), 3) := by decide +kernel

set_option maxRecDepth 65536 in
theorem lp_lil (l : Launch) {Z : State} {n0 : Nat} {h : Heap} (a : Addr) (cs : List Int32) (j : Int32) (Fa : Vec Z h a .byte (cs.map (nar .byte))) (hL : ∀ c ∈ cs, isL c) (hn : cs.length < 2 ^ 31) {R : Room} {K : Cx} (H : Ok Z K "java/lang/StringLatin1" jdk_43_method_27_code 4 (some .int) "lastIndexOf") :
    ∀ (m : Nat), m ≤ cs.length → ∀ o : Int32, o = m.toInt32 - 1 → Go l Z n0 R K (fun x h' sn => x = some (.int (lastN cs m)) ∧ h = h' ∧ sn = []) h [] 0 0 18 #[.val (.ref a), .val (.int 47), .val (.int j), .val (.int o)] [] := by
  intro m
  induction m with
  | zero =>
    intro hm o ho
    refine Go.iloadN H d12_18 rfl rfl ?_
    refine Go.ifY (pc' := 38) H d12_19 (tlt (by rw [ho]; decide)).1 (by decide) (by decide) ?_
    refine Go.iconst (-1 : Int32) H d12_38 rfl rfl ?_
    exact Go.ireturnI [] H d12_39 ⟨rfl, rfl, rfl⟩ all0 (Nat.zero_le _) (Nat.zero_le _)
  | succ m ih =>
    intro hm o ho
    rw [own_pred] at ho
    obtain ⟨p, hp⟩ : ∃ p, (cs.map (nar .byte))[m]? = some p := ⟨_, List.getElem?_eq_getElem (by rw [List.length_map]; omega)⟩
    refine Go.iloadN H d12_18 rfl rfl ?_
    refine Go.ifN H d12_19 (flt (by rw [ho]; exact own_n0 (by omega))).1 rfl ?_
    refine Go.aloadN H d12_22 rfl rfl rfl ?_
    refine Go.iloadN H d12_23 rfl rfl ?_
    refine Go.baload (v := p) H d12_24 rfl Fa m (by rw [ho]; exact own_cl (by omega)) (by rw [ho]; exact own_n0 (by omega)) hp ?_
    refine Go.iloadN H d12_25 rfl rfl ?_
    refine Go.i2b H d12_26 rfl ?_
    by_cases c1 : p = (nar .byte (47 : Int32))
    ·
      refine Go.icmpN H d12_27 (teq c1).2 rfl ?_
      refine Go.iloadN H d12_30 rfl rfl ?_
      exact Go.ireturnI [] H d12_31 ⟨by rw [lastN, if_pos ((own_47 hL hp).mp c1), ho], rfl, rfl⟩ all0 (Nat.zero_le _) (Nat.zero_le _)
    ·
      refine Go.icmpY (pc' := 32) H d12_27 (feq c1).2 (by decide) (by decide) ?_
      refine Go.iinc (ls' := #[.val (.ref a), .val (.int (47 : Int32)), .val (.int j), .val (.int (o + (-1 : Int32)))]) (-1 : Int32) H d12_32 rfl rfl rfl rfl ?_
      refine Go.goto (pc' := 18) H d12_35 (by decide) (by decide) ?_
      rw [lastN, if_neg (fun e => c1 ((own_47 hL hp).mpr e))]
      exact ih (by omega) _ (by rw [ho, own_m1])
theorem d12_0 : decode jdk_43_method_27_code 0 = .ok (.iload_n 1, 1) := by decide +kernel
theorem d12_1 : decode jdk_43_method_27_code 1 = .ok (.invokestatic 88, 3) := by decide +kernel
theorem w66 : Jvm.Cond.code N23 jdk_43_method_4_code (1 : Nat) (Option.some Jvm.ClassFile.FieldType.boolean) ∈ tables_1 := List.mem_of_getElem? (i := 66) rfl
theorem pd_N23 : parseMethodDescriptor N23.desc = some ⟨[.int], (some .boolean)⟩ := by decide +kernel
theorem w64 : Jvm.Cond.methodLink "java/lang/StringLatin1" (88 : Nat) N23 ∈ tables_1 := List.mem_of_getElem? (i := 64) rfl
theorem w65 : Jvm.Cond.static N23 ∈ tables_1 := List.mem_of_getElem? (i := 65) rfl
theorem d12_4 : decode jdk_43_method_27_code 4 = .ok (.ifCond .ne 5, 3) := by decide +kernel
theorem d12_9 : decode jdk_43_method_27_code 9 = .ok (.iload_n 2, 1) := by decide +kernel
theorem d12_10 : decode jdk_43_method_27_code 10 = .ok (.aload_n 0, 1) := by decide +kernel
theorem d12_11 : decode jdk_43_method_27_code 11 = .ok (.arraylength, 1) := by decide +kernel
theorem d12_12 : decode jdk_43_method_27_code 12 = .ok (.iconst 1, 1) := by decide +kernel
theorem d12_13 : decode jdk_43_method_27_code 13 = .ok (.isub, 1) := by decide +kernel
theorem d12_14 : decode jdk_43_method_27_code 14 = .ok (.invokestatic 38, 3) := by decide +kernel
theorem w67 : Jvm.Cond.methodLink "java/lang/StringLatin1" (38 : Nat) N12 ∈ tables_1 := List.mem_of_getElem? (i := 67) rfl
theorem d12_17 : decode jdk_43_method_27_code 17 = .ok (.istore_n 3, 1) := by decide +kernel
abbrev N24 : MethodName := ⟨"java/lang/StringLatin1", "lastIndexOf", "([BII)I"⟩

abbrev rm_lil : Room := { frames := 1, cells := 0, slots := 0, locals := 13 }
set_option maxRecDepth 65536 in
set_option maxHeartbeats 4000000 in
theorem ct_lil (l : Launch) {Z : State} {n0 : Nat} {z : Int32} {f : Value} (W : Sx Z z f) (a : Addr) (cs : List Int32) (h : Heap) (Fa : Vec Z h a .byte (cs.map (nar .byte))) (hL : ∀ c ∈ cs, isL c) (hn : cs.length < 2 ^ 31) :
    Ctr l Z n0 N24 jdk_43_method_27_code 4 (some .int) rm_lil #[(.ref a), (.int (47 : Int32)), (.int (cs.length.toInt32 - (1 : Int32)))] h [] (fun v h' sn => v = some (.int (lastN cs cs.length)) ∧ h = h' ∧ sn = []) := by
  refine Ctr.of_go (ls := #[.val (.ref a), .val (.int (47 : Int32)), .val (.int (cs.length.toInt32 - (1 : Int32))), .unset]) W.1 (plainFor_of_name pn_N10) (fun m => by first | (simp [entryFrame, mkF, argsToLocals, Value.category]; done) | rfl) (fun K H => ?_)
  refine Go.iloadN H d12_0 rfl rfl ?_
  refine Go.callS (rest := []) 0 [(.int (47 : Int32))] H d12_1 rfl w64 w65 w62 w66 pd_N23 (ct_can l W (47 : Int32) h) all0 rfl rfl rfl (Nat.le_of_eq rfl) (by decide) (by decide) (by decide) (by decide) nh_N10 ?_
  rintro _ _ _ ⟨rfl, rfl, rfl⟩
  show Go _ _ _ _ _ _ h [] 0 0 4 #[.val (.ref a), .val (.int (47 : Int32)), .val (.int (cs.length.toInt32 - (1 : Int32))), .unset] [(.int (canF (47 : Int32)))]
  refine Go.ifY (pc' := 9) H d12_4 (feq (by decide)).2 (by decide) (by decide) ?_
  refine Go.iloadN H d12_9 rfl rfl ?_
  refine Go.aloadN H d12_10 rfl rfl rfl ?_
  refine Go.arraylength cs.length.toInt32 H d12_11 rfl Fa (by rw [List.length_map]) ?_
  refine Go.iconst (1 : Int32) H d12_12 rfl rfl ?_
  refine Go.isub H d12_13 rfl ?_
  refine Go.callS (rest := []) 0 [(.int (cs.length.toInt32 - (1 : Int32))), (.int (cs.length.toInt32 - (1 : Int32)))] H d12_14 rfl w67 w68 w69 w70 pd_N12 (ct_min l W (cs.length.toInt32 - (1 : Int32)) (cs.length.toInt32 - (1 : Int32)) h) all0 rfl rfl rfl (Nat.le_of_eq rfl) (by decide) (by decide) (by decide) (by decide) nh_N12 ?_
  rintro _ _ _ ⟨rfl, rfl, rfl⟩
  show Go _ _ _ _ _ _ h [] 0 0 17 #[.val (.ref a), .val (.int (47 : Int32)), .val (.int (cs.length.toInt32 - (1 : Int32))), .unset] [(.int (minF (cs.length.toInt32 - (1 : Int32)) (cs.length.toInt32 - (1 : Int32))))]
  rw [minF_s]
  refine Go.istoreN (ls' := #[.val (.ref a), .val (.int (47 : Int32)), .val (.int (cs.length.toInt32 - (1 : Int32))), .val (.int (cs.length.toInt32 - (1 : Int32)))]) H d12_17 rfl rfl ?_
  exact lp_lil l a cs _ Fa hL hn H cs.length (Nat.le_refl _) _ rfl
theorem d10_0 : decode jdk_42_method_83_code 0 = .ok (.aload_n 0, 1) := by decide +kernel
theorem d10_1 : decode jdk_42_method_83_code 1 = .ok (.invokevirtual 492, 3) := by decide +kernel
theorem d10_4 : decode jdk_42_method_83_code 4 = .ok (.ifCond .eq 15, 3) := by decide +kernel
theorem d10_7 : decode jdk_42_method_83_code 7 = .ok (.aload_n 0, 1) := by decide +kernel
theorem d10_8 : decode jdk_42_method_83_code 8 = .ok (.getfield 9, 3) := by decide +kernel
theorem d10_11 : decode jdk_42_method_83_code 11 = .ok (.iload_n 1, 1) := by decide +kernel
theorem d10_12 : decode jdk_42_method_83_code 12 = .ok (.iload_n 2, 1) := by decide +kernel
theorem d10_13 : decode jdk_42_method_83_code 13 = .ok (.invokestatic 644, 3) := by decide +kernel
theorem w63 : Jvm.Cond.code N24 jdk_43_method_27_code (4 : Nat) (Option.some Jvm.ClassFile.FieldType.int) ∈ tables_1 := List.mem_of_getElem? (i := 63) rfl
theorem pd_N24 : parseMethodDescriptor N24.desc = some ⟨[(.array .byte), .int, .int], (some .int)⟩ := by decide +kernel
theorem w60 : Jvm.Cond.methodLink "java/lang/String" (644 : Nat) N24 ∈ tables_1 := List.mem_of_getElem? (i := 60) rfl
theorem w61 : Jvm.Cond.static N24 ∈ tables_1 := List.mem_of_getElem? (i := 61) rfl
theorem d10_16 : decode jdk_42_method_83_code 16 = .ok (.goto 12, 3) := by decide +kernel
theorem d10_28 : decode jdk_42_method_83_code 28 = .ok (.ireturn, 1) := by decide +kernel
abbrev N25 : MethodName := ⟨"java/lang/String", "lastIndexOf", "(II)I"⟩

abbrev rm_li2 : Room := { frames := 2, cells := 0, slots := 0, locals := 28 }
set_option maxRecDepth 65536 in
set_option maxHeartbeats 4000000 in
theorem ct_li2 (l : Launch) {Z : State} {n0 : Nat} {z : Int32} {f : Value} (W : Sx Z z f) (x b : Addr) (cs : List Int32) (h : Heap) (S : Str Z h x b cs) :
    Ctr l Z n0 N25 jdk_42_method_83_code 3 (some .int) rm_li2 #[(.ref x), (.int (47 : Int32)), (.int (cs.length.toInt32 - (1 : Int32)))] h [] (fun v h' sn => v = some (.int (lastN cs cs.length)) ∧ h = h' ∧ sn = []) := by
  refine Ctr.of_go (ls := #[.val (.ref x), .val (.int (47 : Int32)), .val (.int (cs.length.toInt32 - (1 : Int32)))]) W.1 (plainFor_of_name pn_N5) (fun m => by first | (simp [entryFrame, mkF, argsToLocals, Value.category]; done) | rfl) (fun K H => ?_)
  have S0 := S
  obtain ⟨A, Fv, Fc, Fb, hL, hn⟩ := S
  refine Go.aloadN H d10_0 rfl rfl rfl ?_
  refine Go.callV (rest := []) 0 [] H d10_1 rfl A w55 w56 w58 w57 w10 w59 pd_N7 (ct_isl l W x b cs h S0) all0 rfl rfl rfl (Nat.le_of_eq rfl) (by decide) (by decide) (by decide) (by decide) nh_N5 ?_
  rintro _ _ _ ⟨rfl, rfl, rfl⟩
  show Go _ _ _ _ _ _ h [] 0 0 4 #[.val (.ref x), .val (.int (47 : Int32)), .val (.int (cs.length.toInt32 - (1 : Int32)))] [(.int (1 : Int32))]
  refine Go.ifN H d10_4 (by decide) rfl ?_
  refine Go.aloadN H d10_7 rfl rfl rfl ?_
  refine Go.getfield H d10_8 rfl w28 Fv ?_
  refine Go.iloadN H d10_11 rfl rfl ?_
  refine Go.iloadN H d10_12 rfl rfl ?_
  refine Go.callS (rest := []) 0 [(.ref b), (.int (47 : Int32)), (.int (cs.length.toInt32 - (1 : Int32)))] H d10_13 rfl w60 w61 w62 w63 pd_N24 (ct_lil l W b cs h Fb hL hn) all0 rfl rfl rfl (Nat.le_of_eq rfl) (by decide) (by decide) (by decide) (by decide) nh_N10 ?_
  rintro _ _ _ ⟨rfl, rfl, rfl⟩
  show Go _ _ _ _ _ _ h [] 0 0 16 #[.val (.ref x), .val (.int (47 : Int32)), .val (.int (cs.length.toInt32 - (1 : Int32)))] [(.int (lastN cs cs.length))]
  refine Go.goto (pc' := 28) H d10_16 (by decide) (by decide) ?_
  exact Go.ireturnI [] H d10_28 ⟨rfl, rfl, rfl⟩ all0 (by decide) (by decide)
theorem d7_0 : decode jdk_42_method_82_code 0 = .ok (.aload_n 0, 1) := by decide +kernel
theorem d7_1 : decode jdk_42_method_82_code 1 = .ok (.iload_n 1, 1) := by decide +kernel
theorem d7_2 : decode jdk_42_method_82_code 2 = .ok (.aload_n 0, 1) := by decide +kernel
theorem d7_3 : decode jdk_42_method_82_code 3 = .ok (.invokevirtual 505, 3) := by decide +kernel
theorem d7_6 : decode jdk_42_method_82_code 6 = .ok (.iconst 1, 1) := by decide +kernel
theorem d7_7 : decode jdk_42_method_82_code 7 = .ok (.isub, 1) := by decide +kernel
theorem d7_8 : decode jdk_42_method_82_code 8 = .ok (.invokevirtual 641, 3) := by decide +kernel
theorem w54 : Jvm.Cond.code N25 jdk_42_method_83_code (3 : Nat) (Option.some Jvm.ClassFile.FieldType.int) ∈ tables_1 := List.mem_of_getElem? (i := 54) rfl
theorem pd_N25 : parseMethodDescriptor N25.desc = some ⟨[.int, .int], (some .int)⟩ := by decide +kernel
theorem w50 : Jvm.Cond.methodLink "java/lang/String" (641 : Nat) N25 ∈ tables_1 := List.mem_of_getElem? (i := 50) rfl
theorem w51 : Jvm.Cond.declares N25 ∈ tables_1 := List.mem_of_getElem? (i := 51) rfl
theorem w53 : Jvm.Cond.selects "java/lang/String" N25 N25 ∈ tables_1 := List.mem_of_getElem? (i := 53) rfl
theorem w52 : Jvm.Cond.instanceMethod N25 ∈ tables_1 := List.mem_of_getElem? (i := 52) rfl
theorem d7_11 : decode jdk_42_method_82_code 11 = .ok (.ireturn, 1) := by decide +kernel
abbrev N26 : MethodName := ⟨"java/lang/String", "lastIndexOf", "(I)I"⟩

abbrev rm_li1 : Room := { frames := 3, cells := 0, slots := 0, locals := 42 }
set_option maxRecDepth 65536 in
set_option maxHeartbeats 4000000 in
theorem ct_li1 (l : Launch) {Z : State} {n0 : Nat} {z : Int32} {f : Value} (W : Sx Z z f) (x b : Addr) (cs : List Int32) (h : Heap) (S : Str Z h x b cs) :
    Ctr l Z n0 N26 jdk_42_method_82_code 2 (some .int) rm_li1 #[(.ref x), (.int (47 : Int32))] h [] (fun v h' sn => v = some (.int (lastN cs cs.length)) ∧ h = h' ∧ sn = []) := by
  refine Ctr.of_go (ls := #[.val (.ref x), .val (.int (47 : Int32))]) W.1 (plainFor_of_name pn_N5) (fun m => by first | (simp [entryFrame, mkF, argsToLocals, Value.category]; done) | rfl) (fun K H => ?_)
  have S0 := S
  obtain ⟨A, Fv, Fc, Fb, hL, hn⟩ := S
  refine Go.aloadN H d7_0 rfl rfl rfl ?_
  refine Go.iloadN H d7_1 rfl rfl ?_
  refine Go.aloadN H d7_2 rfl rfl rfl ?_
  refine Go.callV (rest := [(.int (47 : Int32)), (.ref x)]) 2 [] H d7_3 rfl A w39 w40 w42 w41 w10 w43 pd_N9 (ct_len l W x b cs h S0) all0 rfl rfl rfl (Nat.le_of_eq rfl) (by decide) (by decide) (by decide) (by decide) nh_N5 ?_
  rintro _ _ _ ⟨rfl, rfl, rfl⟩
  show Go _ _ _ _ _ _ h [] 0 0 6 #[.val (.ref x), .val (.int (47 : Int32))] [(.int cs.length.toInt32), (.int (47 : Int32)), (.ref x)]
  refine Go.iconst (1 : Int32) H d7_6 rfl rfl ?_
  refine Go.isub H d7_7 rfl ?_
  refine Go.callV (rest := []) 0 [(.int (47 : Int32)), (.int (cs.length.toInt32 - (1 : Int32)))] H d7_8 rfl A w50 w51 w53 w52 w10 w54 pd_N25 (ct_li2 l W x b cs h S0) all0 rfl rfl rfl (Nat.le_of_eq rfl) (by decide) (by decide) (by decide) (by decide) nh_N5 ?_
  rintro _ _ _ ⟨rfl, rfl, rfl⟩
  show Go _ _ _ _ _ _ h [] 0 0 11 #[.val (.ref x), .val (.int (47 : Int32))] [(.int (lastN cs cs.length))]
  exact Go.ireturnI [] H d7_11 ⟨rfl, rfl, rfl⟩ all0 (by decide) (by decide)
def parL (cs : List Int32) : Nat → List Int32
  | 0 => []
  | m + 1 => if cs[m]? = some 47 then cs.take m else parL cs m
theorem last_par (cs : List Int32) : ∀ m, m ≤ cs.length → m < 2 ^ 31 → (lastN cs m < 0 ∧ parL cs m = []) ∨ ∃ k, k < cs.length ∧ lastN cs m = k.toInt32 ∧ ¬ k.toInt32 < 0 ∧ parL cs m = cs.take k
  | 0, _, _ => Or.inl ⟨by show (-1 : Int32) < 0; decide, rfl⟩
  | m + 1, h, g => by
    rw [lastN, parL]
    by_cases c : cs[m]? = some 47
    · rw [if_pos c, if_pos c]; exact Or.inr ⟨m, by omega, rfl, own_n0 (by omega), rfl⟩
    · rw [if_neg c, if_neg c]; exact last_par cs m (by omega) (by omega)
theorem d6_0 : decode prog_16_method_11_code 0 = .ok (.aload_n 0, 1) := by decide +kernel
theorem d6_1 : decode prog_16_method_11_code 1 = .ok (.bipush 47, 2) := by decide +kernel
theorem d6_3 : decode prog_16_method_11_code 3 = .ok (.invokevirtual 149, 3) := by decide +kernel
theorem w38 : Jvm.Cond.code N26 jdk_42_method_82_code (2 : Nat) (Option.some Jvm.ClassFile.FieldType.int) ∈ tables_1 := List.mem_of_getElem? (i := 38) rfl
theorem pd_N26 : parseMethodDescriptor N26.desc = some ⟨[.int], (some .int)⟩ := by decide +kernel
theorem w34 : Jvm.Cond.methodLink "com/example/cairnstore/cairnstore/ocfl/EntryTree" (149 : Nat) N26 ∈ tables_1 := List.mem_of_getElem? (i := 34) rfl
theorem w35 : Jvm.Cond.declares N26 ∈ tables_1 := List.mem_of_getElem? (i := 35) rfl
theorem w37 : Jvm.Cond.selects "java/lang/String" N26 N26 ∈ tables_1 := List.mem_of_getElem? (i := 37) rfl
theorem w36 : Jvm.Cond.instanceMethod N26 ∈ tables_1 := List.mem_of_getElem? (i := 36) rfl
theorem d6_6 : decode prog_16_method_11_code 6 = .ok (.istore_n 1, 1) := by decide +kernel
theorem d6_7 : decode prog_16_method_11_code 7 = .ok (.iload_n 1, 1) := by decide +kernel
theorem d6_8 : decode prog_16_method_11_code 8 = .ok (.ifCond .ge 8, 3) := by decide +kernel
theorem d6_11 : decode prog_16_method_11_code 11 = .ok (.ldc 153, 2) := by decide +kernel
theorem cm_2 : ("com/example/cairnstore/cairnstore/ocfl/EntryTree", 153) ∈ consts_1 := by decide
theorem w71 : Jvm.Cond.stringLink "com/example/cairnstore/cairnstore/ocfl/EntryTree" (153 : Nat) "" ∈ tables_1 := List.mem_of_getElem? (i := 71) rfl
theorem d6_13 : decode prog_16_method_11_code 13 = .ok (.goto 9, 3) := by decide +kernel
theorem d6_22 : decode prog_16_method_11_code 22 = .ok (.areturn, 1) := by decide +kernel
theorem d6_16 : decode prog_16_method_11_code 16 = .ok (.aload_n 0, 1) := by decide +kernel
theorem d6_17 : decode prog_16_method_11_code 17 = .ok (.iconst 0, 1) := by decide +kernel
theorem d6_18 : decode prog_16_method_11_code 18 = .ok (.iload_n 1, 1) := by decide +kernel
theorem d6_19 : decode prog_16_method_11_code 19 = .ok (.invokevirtual 155, 3) := by decide +kernel
theorem w95 : Jvm.Cond.code N21 jdk_42_method_92_code (5 : Nat) (Option.some (Jvm.ClassFile.FieldType.object "java/lang/String")) ∈ tables_1 := List.mem_of_getElem? (i := 95) rfl
theorem pd_N21 : parseMethodDescriptor N21.desc = some ⟨[.int, .int], (some (.object "java/lang/String"))⟩ := by decide +kernel
theorem w91 : Jvm.Cond.methodLink "com/example/cairnstore/cairnstore/ocfl/EntryTree" (155 : Nat) N21 ∈ tables_1 := List.mem_of_getElem? (i := 91) rfl
theorem w92 : Jvm.Cond.declares N21 ∈ tables_1 := List.mem_of_getElem? (i := 92) rfl
theorem w94 : Jvm.Cond.selects "java/lang/String" N21 N21 ∈ tables_1 := List.mem_of_getElem? (i := 94) rfl
theorem w93 : Jvm.Cond.instanceMethod N21 ∈ tables_1 := List.mem_of_getElem? (i := 93) rfl
abbrev N27 : MethodName := ⟨"com/example/cairnstore/cairnstore/ocfl/EntryTree", "parent", "(Ljava/lang/String;)Ljava/lang/String;"⟩
theorem pn_N27 : plainName N27.cls = true := by first | (simp [plainName, overriddenIn]; done) | decide +kernel

abbrev rm_par : Room := { frames := 5, cells := 2, slots := 8, locals := 89 }
set_option maxRecDepth 65536 in
set_option maxHeartbeats 4000000 in
theorem ct_par (l : Launch) {Z : State} {n0 : Nat} {z : Int32} {f : Value} (W : Sx Z z f) (x b : Addr) (cs : List Int32) (h : Heap) (S : Str Z h x b cs) (hn : cs.length ≤ 4) :
    Ctr l Z n0 N27 prog_16_method_11_code 2 (some (.object "java/lang/String")) rm_par #[(.ref x)] h [] (fun v h' sn => ∃ a b', v = some (.ref a) ∧ Ext h h' ∧ Str Z h' a b' (parL cs cs.length) ∧ sn = []) := by
  refine Ctr.of_go (ls := #[.val (.ref x), .unset]) W.1 (plainFor_of_name pn_N27) (fun m => by first | (simp [entryFrame, mkF, argsToLocals, Value.category]; done) | rfl) (fun K H => ?_)
  have KK : Keep h h [] := Keep.refl _ _
  refine Go.aloadN H d6_0 rfl rfl rfl ?_
  refine Go.bipush (47 : Int32) H d6_1 rfl rfl ?_
  refine Go.callV (rest := []) 0 [(.int (47 : Int32))] H d6_3 rfl S.1 w34 w35 w37 w36 w10 w38 pd_N26 (ct_li1 l W x b cs h S) all0 rfl rfl rfl (Nat.le_of_eq rfl) (by decide) (by decide) (by decide) (by decide) nh_N5 ?_
  rintro _ _ _ ⟨rfl, rfl, rfl⟩
  show Go _ _ _ _ _ _ h [] 0 0 6 #[.val (.ref x), .unset] [(.int (lastN cs cs.length))]
  rcases last_par cs cs.length (Nat.le_refl _) (by omega) with ⟨hl, hpar⟩ | ⟨k, hk, hl, hk0, hpar⟩
  ·
    rw [hpar]
    refine Go.istoreN (ls' := #[.val (.ref x), .val (.int (lastN cs cs.length))]) H d6_6 rfl rfl ?_
    refine Go.iloadN H d6_7 rfl rfl ?_
    refine Go.ifN H d6_8 (tlt hl).2.1 rfl ?_
    refine Go.ldcS ([] : List Int32) (0 : Int32) 0 H d6_11 rfl w71 cm_2 lt_0 lt_0_l (by decide) (by decide) (by decide) (by decide) (by decide) (by decide) ?_
    intro a1 b2 h3 E4 S5 q6
    replace S := S.ext E4
    replace KK := KK.ext E4
    show Go _ _ _ _ _ _ h3 [] 2 4 13 #[.val (.ref x), .val (.int (lastN cs cs.length))] [(.ref a1)]
    refine Go.goto (pc' := 22) H d6_13 (by decide) (by decide) ?_
    exact Go.areturn [] H d6_22 rfl rfl (own_narR rfl) ⟨_, _, rfl, own_ext KK, S5, rfl⟩ all0 (by decide) (by decide)
  ·
    rw [hpar]
    rw [hl]
    refine Go.istoreN (ls' := #[.val (.ref x), .val (.int k.toInt32)]) H d6_6 rfl rfl ?_
    refine Go.iloadN H d6_7 rfl rfl ?_
    refine Go.ifY (pc' := 16) H d6_8 (flt hk0).2.1 (by decide) (by decide) ?_
    refine Go.aloadN H d6_16 rfl rfl rfl ?_
    refine Go.iconst (0 : Int32) H d6_17 rfl rfl ?_
    refine Go.iloadN H d6_18 rfl rfl ?_
    refine Go.callV (rest := []) 0 [(.int (0 : Int32)), (.int k.toInt32)] H d6_19 rfl S.1 w91 w92 w94 w93 w10 w95 pd_N21 (ct_sub l W x b cs k h S hn hk) all0 rfl rfl rfl (Nat.le_of_eq rfl) (by decide) (by decide) (by decide) (by decide) nh_N5 ?_
    rintro _ h9 _ ⟨a7, b8, rfl, E10, S11, rfl⟩
    replace S := S.ext E10
    replace KK := KK.ext E10
    show Go _ _ _ _ _ _ h9 [] 2 8 22 #[.val (.ref x), .val (.int k.toInt32)] [(.ref a7)]
    exact Go.areturn [] H d6_22 rfl rfl (own_narR rfl) ⟨_, _, rfl, own_ext KK, S11, rfl⟩ all0 (by decide) (by decide)
theorem own_mod (len : Int32) : ∃ n : Int32, (len &&& 2147483647) % 5 = n ∧ (n = 0 ∨ n = 1 ∨ n = 2 ∨ n = 3 ∨ n = 4) := by
  have m1 := c_mask len 2147483647 31 (by decide) (by decide)
  have q1 := (c_irem (len &&& 2147483647) 5 5 (by decide)).1 (by omega)
  have k : ∀ (y : Int32) (v : Int), y.toInt = v → v = 0 ∨ v = 1 ∨ v = 2 ∨ v = 3 ∨ v = 4 → y = Int32.ofInt v := fun y v e h => by
    apply Int32.toInt_inj.mp; rcases h with rfl | rfl | rfl | rfl | rfl <;> rw [e] <;> decide
  have h : ((len &&& 2147483647) % 5).toInt = 0 ∨ ((len &&& 2147483647) % 5).toInt = 1 ∨ ((len &&& 2147483647) % 5).toInt = 2 ∨ ((len &&& 2147483647) % 5).toInt = 3 ∨ ((len &&& 2147483647) % 5).toInt = 4 := by omega
  refine ⟨_, rfl, ?_⟩
  rcases h with h | h | h | h | h
  · exact Or.inl (k _ _ h (by omega))
  · exact Or.inr (Or.inl (k _ _ h (by omega)))
  · exact Or.inr (Or.inr (Or.inl (k _ _ h (by omega))))
  · exact Or.inr (Or.inr (Or.inr (Or.inl (k _ _ h (by omega)))))
  · exact Or.inr (Or.inr (Or.inr (Or.inr ((k _ _ h (by omega))))))
theorem w0 : Jvm.Cond.constant "com/example/cairnstore/cairnstore/ocfl/EntryTreeParentPinLaw" (12 : Nat) (2147483647 : Int32) ∈ tables_1 := List.mem_of_getElem? (i := 0) rfl
theorem w4 : Jvm.Cond.code N0 method_2_code (1 : Nat) (Option.some Jvm.ClassFile.FieldType.char) ∈ tables_1 := List.mem_of_getElem? (i := 4) rfl
theorem w3 : Jvm.Cond.initialized "com/example/cairnstore/cairnstore/ocfl/EntryTreeParentPinLaw" ∈ tables_1 := List.mem_of_getElem? (i := 3) rfl
theorem pd_N0 : parseMethodDescriptor N0.desc = some ⟨[.int], (some .char)⟩ := by decide +kernel
theorem nh_N0 : N0.cls ≠ "java/lang/invoke/MethodHandle" ∧ N0.cls ≠ "java/lang/invoke/VarHandle" := by decide
theorem w1 : Jvm.Cond.methodLink "com/example/cairnstore/cairnstore/ocfl/EntryTreeParentPinLaw" (13 : Nat) N0 ∈ tables_1 := List.mem_of_getElem? (i := 1) rfl
theorem w2 : Jvm.Cond.static N0 ∈ tables_1 := List.mem_of_getElem? (i := 2) rfl
theorem w7 : Jvm.Cond.code N22 method_3_code (5 : Nat) (Option.some (Jvm.ClassFile.FieldType.object "java/lang/String")) ∈ tables_1 := List.mem_of_getElem? (i := 7) rfl
theorem pd_N22 : parseMethodDescriptor N22.desc = some ⟨[.int, .char, .char, .char, .char], (some (.object "java/lang/String"))⟩ := by decide +kernel
theorem w5 : Jvm.Cond.methodLink "com/example/cairnstore/cairnstore/ocfl/EntryTreeParentPinLaw" (19 : Nat) N22 ∈ tables_1 := List.mem_of_getElem? (i := 5) rfl
theorem w6 : Jvm.Cond.static N22 ∈ tables_1 := List.mem_of_getElem? (i := 6) rfl
theorem w33 : Jvm.Cond.code N27 prog_16_method_11_code (2 : Nat) (Option.some (Jvm.ClassFile.FieldType.object "java/lang/String")) ∈ tables_1 := List.mem_of_getElem? (i := 33) rfl
theorem w32 : Jvm.Cond.initialized "com/example/cairnstore/cairnstore/ocfl/EntryTree" ∈ tables_1 := List.mem_of_getElem? (i := 32) rfl
theorem pd_N27 : parseMethodDescriptor N27.desc = some ⟨[(.object "java/lang/String")], (some (.object "java/lang/String"))⟩ := by decide +kernel
theorem nh_N27 : N27.cls ≠ "java/lang/invoke/MethodHandle" ∧ N27.cls ≠ "java/lang/invoke/VarHandle" := by decide
theorem w30 : Jvm.Cond.methodLink "com/example/cairnstore/cairnstore/ocfl/EntryTreeParentPinLaw" (23 : Nat) N27 ∈ tables_1 := List.mem_of_getElem? (i := 30) rfl
theorem w31 : Jvm.Cond.static N27 ∈ tables_1 := List.mem_of_getElem? (i := 31) rfl
theorem w76 : Jvm.Cond.code N11 jdk_42_method_66_code (3 : Nat) (Option.some Jvm.ClassFile.FieldType.boolean) ∈ tables_1 := List.mem_of_getElem? (i := 76) rfl
theorem pd_N11 : parseMethodDescriptor N11.desc = some ⟨[(.object "java/lang/Object")], (some .boolean)⟩ := by decide +kernel
theorem w72 : Jvm.Cond.methodLink "com/example/cairnstore/cairnstore/ocfl/EntryTreeParentPinLaw" (29 : Nat) N11 ∈ tables_1 := List.mem_of_getElem? (i := 72) rfl
theorem w73 : Jvm.Cond.declares N11 ∈ tables_1 := List.mem_of_getElem? (i := 73) rfl
theorem w75 : Jvm.Cond.selects "java/lang/String" N11 N11 ∈ tables_1 := List.mem_of_getElem? (i := 75) rfl
theorem w74 : Jvm.Cond.instanceMethod N11 ∈ tables_1 := List.mem_of_getElem? (i := 74) rfl
abbrev N28 : MethodName := ⟨"com/example/cairnstore/cairnstore/ocfl/EntryTreeParentPinLaw", "law", "(IIIII)Z"⟩
set_option maxRecDepth 65536 in
set_option maxHeartbeats 40000000 in
theorem ct_law (l : Launch) {Z : State} {n0 : Nat} {z : Int32} {f : Value} (W : Sx Z z f) (len : Int32) (a : Int32) (b : Int32) (c : Int32) (d : Int32) (h : Heap) : Ctr l Z n0 x code maxLocals ret room_1 #[(.int len), (.int a), (.int b), (.int c), (.int d)] h [] (fun v h' sn => v = some (.int 1) ∧ True) := by
  refine Ctr.of_go (ls := #[.val (.int len), .val (.int a), .val (.int b), .val (.int c), .val (.int d), .unset, .unset, .unset, .unset, .unset, .unset, .unset, .unset, .unset]) W.1 (plainFor_of_name pn_N0) (fun m => by simp [entryFrame, mkF, argsToLocals, Value.category, maxLocals]) (fun K H0 => ?_)
  have H : Ok Z K "com/example/cairnstore/cairnstore/ocfl/EntryTreeParentPinLaw" code 14 (some .boolean) "law" := H0
  obtain ⟨n, hn, hn5⟩ := own_mod len
  refine Go.iloadN H at_0 rfl rfl ?_
  refine Go.ldcInt H at_1 rfl w0 ?_
  refine Go.iand H at_3 rfl ?_
  refine Go.iconst (5 : Int32) H at_4 rfl rfl ?_
  refine Go.irem H at_5 rfl (by decide) ?_
  rw [hn]
  refine Go.istore (ls' := #[.val (.int len), .val (.int a), .val (.int b), .val (.int c), .val (.int d), .val (.int n), .unset, .unset, .unset, .unset, .unset, .unset, .unset, .unset]) H at_6 rfl rfl ?_
  refine Go.iloadN H at_8 rfl rfl ?_
  refine Go.callS (rest := []) 0 [(.int a)] H at_9 rfl w1 w2 w3 w4 pd_N0 (ct_ch l W a h) all0 rfl rfl rfl (Nat.le_of_eq rfl) (by decide) (by decide) (by decide) (by decide) nh_N0 ?_
  rintro _ _ _ ⟨rfl, rfl, rfl⟩
  show Go _ _ _ _ _ _ h [] 0 0 12 #[.val (.int len), .val (.int a), .val (.int b), .val (.int c), .val (.int d), .val (.int n), .unset, .unset, .unset, .unset, .unset, .unset, .unset, .unset] [(.int (chF a))]
  refine Go.istore (ls' := #[.val (.int len), .val (.int a), .val (.int b), .val (.int c), .val (.int d), .val (.int n), .val (.int (chF a)), .unset, .unset, .unset, .unset, .unset, .unset, .unset]) H at_12 rfl rfl ?_
  refine Go.iloadN H at_14 rfl rfl ?_
  refine Go.callS (rest := []) 0 [(.int b)] H at_15 rfl w1 w2 w3 w4 pd_N0 (ct_ch l W b h) all0 rfl rfl rfl (Nat.le_of_eq rfl) (by decide) (by decide) (by decide) (by decide) nh_N0 ?_
  rintro _ _ _ ⟨rfl, rfl, rfl⟩
  show Go _ _ _ _ _ _ h [] 0 0 18 #[.val (.int len), .val (.int a), .val (.int b), .val (.int c), .val (.int d), .val (.int n), .val (.int (chF a)), .unset, .unset, .unset, .unset, .unset, .unset, .unset] [(.int (chF b))]
  refine Go.istore (ls' := #[.val (.int len), .val (.int a), .val (.int b), .val (.int c), .val (.int d), .val (.int n), .val (.int (chF a)), .val (.int (chF b)), .unset, .unset, .unset, .unset, .unset, .unset]) H at_18 rfl rfl ?_
  refine Go.iloadN H at_20 rfl rfl ?_
  refine Go.callS (rest := []) 0 [(.int c)] H at_21 rfl w1 w2 w3 w4 pd_N0 (ct_ch l W c h) all0 rfl rfl rfl (Nat.le_of_eq rfl) (by decide) (by decide) (by decide) (by decide) nh_N0 ?_
  rintro _ _ _ ⟨rfl, rfl, rfl⟩
  show Go _ _ _ _ _ _ h [] 0 0 24 #[.val (.int len), .val (.int a), .val (.int b), .val (.int c), .val (.int d), .val (.int n), .val (.int (chF a)), .val (.int (chF b)), .unset, .unset, .unset, .unset, .unset, .unset] [(.int (chF c))]
  refine Go.istore (ls' := #[.val (.int len), .val (.int a), .val (.int b), .val (.int c), .val (.int d), .val (.int n), .val (.int (chF a)), .val (.int (chF b)), .val (.int (chF c)), .unset, .unset, .unset, .unset, .unset]) H at_24 rfl rfl ?_
  refine Go.iload H at_26 rfl rfl ?_
  refine Go.callS (rest := []) 0 [(.int d)] H at_28 rfl w1 w2 w3 w4 pd_N0 (ct_ch l W d h) all0 rfl rfl rfl (Nat.le_of_eq rfl) (by decide) (by decide) (by decide) (by decide) nh_N0 ?_
  rintro _ _ _ ⟨rfl, rfl, rfl⟩
  show Go _ _ _ _ _ _ h [] 0 0 31 #[.val (.int len), .val (.int a), .val (.int b), .val (.int c), .val (.int d), .val (.int n), .val (.int (chF a)), .val (.int (chF b)), .val (.int (chF c)), .unset, .unset, .unset, .unset, .unset] [(.int (chF d))]
  refine Go.istore (ls' := #[.val (.int len), .val (.int a), .val (.int b), .val (.int c), .val (.int d), .val (.int n), .val (.int (chF a)), .val (.int (chF b)), .val (.int (chF c)), .val (.int (chF d)), .unset, .unset, .unset, .unset]) H at_31 rfl rfl ?_
  rcases hn5 with rfl | rfl | rfl | rfl | rfl
  ·
    show Go _ _ _ _ _ _ h [] 0 0 33 #[.val (.int len), .val (.int a), .val (.int b), .val (.int c), .val (.int d), .val (.int (0 : Int32)), .val (.int (chF a)), .val (.int (chF b)), .val (.int (chF c)), .val (.int (chF d)), .unset, .unset, .unset, .unset] []
    refine Go.iload H at_33 rfl rfl ?_
    refine Go.iload H at_35 rfl rfl ?_
    refine Go.iload H at_37 rfl rfl ?_
    refine Go.iload H at_39 rfl rfl ?_
    refine Go.iload H at_41 rfl rfl ?_
    refine Go.callS (rest := []) 0 [(.int (0 : Int32)), (.int (chF a)), (.int (chF b)), (.int (chF c)), (.int (chF d))] H at_43 rfl w5 w6 w3 w7 pd_N22 (ct_mk0 l W (chF a) (chF b) (chF c) (chF d) h (chF_l _) (chF_l _) (chF_l _) (chF_l _)) all0 rfl rfl rfl (Nat.le_of_eq rfl) (by decide) (by decide) (by decide) (by decide) nh_N0 ?_
    rintro _ h3 _ ⟨a1, b2, rfl, E4, g5, S6, rfl⟩
    show Go _ _ _ _ _ _ h3 [] 6 12 46 #[.val (.int len), .val (.int a), .val (.int b), .val (.int c), .val (.int d), .val (.int (0 : Int32)), .val (.int (chF a)), .val (.int (chF b)), .val (.int (chF c)), .val (.int (chF d)), .unset, .unset, .unset, .unset] [(.ref a1)]
    refine Go.astore (ls' := #[.val (.int len), .val (.int a), .val (.int b), .val (.int c), .val (.int d), .val (.int (0 : Int32)), .val (.int (chF a)), .val (.int (chF b)), .val (.int (chF c)), .val (.int (chF d)), .val (.ref a1), .unset, .unset, .unset]) H at_46 rfl rfl rfl ?_
    refine Go.iconst (-1 : Int32) H at_48 rfl rfl ?_
    refine Go.istore (ls' := #[.val (.int len), .val (.int a), .val (.int b), .val (.int c), .val (.int d), .val (.int (0 : Int32)), .val (.int (chF a)), .val (.int (chF b)), .val (.int (chF c)), .val (.int (chF d)), .val (.ref a1), .val (.int (-1 : Int32)), .unset, .unset]) H at_49 rfl rfl ?_
    refine Go.iload H at_51 rfl rfl ?_
    refine Go.iconst (1 : Int32) H at_53 rfl rfl ?_
    refine Go.icmpY (pc' := 67) H at_54 (by decide) (by decide) (by decide) ?_
    refine Go.iload H at_67 rfl rfl ?_
    refine Go.iconst (2 : Int32) H at_69 rfl rfl ?_
    refine Go.icmpY (pc' := 83) H at_70 (by decide) (by decide) (by decide) ?_
    refine Go.iload H at_83 rfl rfl ?_
    refine Go.iconst (3 : Int32) H at_85 rfl rfl ?_
    refine Go.icmpY (pc' := 99) H at_86 (by decide) (by decide) (by decide) ?_
    refine Go.iload H at_99 rfl rfl ?_
    refine Go.iconst (4 : Int32) H at_101 rfl rfl ?_
    refine Go.icmpY (pc' := 115) H at_102 (by decide) (by decide) (by decide) ?_
    refine Go.iload H at_115 rfl rfl ?_
    refine Go.ifN H at_117 (by decide) rfl ?_
    refine Go.new H at_120 rfl w8 w9 w10 (by decide) (by decide) ?_
    intro a7 h8 g9 z10 E11 A12 D13
    have ne14 : a1 ≠ a7 := Nat.ne_of_lt (Nat.lt_of_lt_of_le S6.lt (Nat.le_of_eq g9.symm))
    have ne15 : b2 ≠ a7 := Nat.ne_of_lt (Nat.lt_of_lt_of_le S6.ltb (Nat.le_of_eq g9.symm))
    replace S6 := S6.ext E11
    have F16 : Fld Z h8 a7 "java/lang/String" "value" "[B" .null := D13 (Or.inr w24) (ty := (.array .byte)) (by decide)
    have F17 : Fld Z h8 a7 "java/lang/String" "coder" "B" (.int (0 : Int32)) := D13 (Or.inr w25) (ty := .byte) (by decide)
    show Go _ _ _ _ _ _ h8 [a7] 7 16 123 #[.val (.int len), .val (.int a), .val (.int b), .val (.int c), .val (.int d), .val (.int (0 : Int32)), .val (.int (chF a)), .val (.int (chF b)), .val (.int (chF c)), .val (.int (chF d)), .val (.ref a1), .val (.int (-1 : Int32)), .unset, .unset] [(.ref a7)]
    refine Go.dup H at_123 rfl rfl ?_
    refine Go.iconst (0 : Int32) H at_124 rfl rfl ?_
    refine Go.newarray 0 0 H at_125 rfl w11 rfl (by decide) (by decide) (by decide) (by decide) (by decide) (by decide) (by decide) ?_
    intro a18 h19 g20 z21 E22 F23
    have ne24 : a1 ≠ a18 := Nat.ne_of_lt (Nat.lt_of_lt_of_le S6.lt (Nat.le_of_eq g20.symm))
    have ne25 : b2 ≠ a18 := Nat.ne_of_lt (Nat.lt_of_lt_of_le S6.ltb (Nat.le_of_eq g20.symm))
    have ne26 : a7 ≠ a18 := Nat.ne_of_lt (Nat.lt_of_lt_of_le A12.lt (Nat.le_of_eq g20.symm))
    replace S6 := S6.ext E22
    replace A12 := A12.ext E22
    replace F16 := F16.ext E22
    replace F17 := F17.ext E22
    replace F23 : Vec Z h19 a18 .char [] := F23
    show Go _ _ _ _ _ _ h19 [a18, a7] 8 16 127 #[.val (.int len), .val (.int a), .val (.int b), .val (.int c), .val (.int d), .val (.int (0 : Int32)), .val (.int (chF a)), .val (.int (chF b)), .val (.int (chF c)), .val (.int (chF d)), .val (.ref a1), .val (.int (-1 : Int32)), .unset, .unset] [(.ref a18), (.ref a7), (.ref a7)]
    refine Go.callI (rest := [(.ref a7)]) 1 [(.ref a18)] H at_127 rfl rfl w12 w13 w10 w14 pd_N6 (ct_new1 l W a7 a18 ([] : List Int32) h19 A12 F16 F17 F23 own_an (Nat.le_of_ble_eq_true rfl)  z10) (by simp) rfl rfl rfl (Nat.le_of_eq rfl) (by decide) (by decide) (by decide) (by decide) nh_N5 ?_
    rintro _ h27 _ ⟨rfl, K28, ⟨b29, S31⟩, rfl⟩
    replace S6 := S6.keep K28 (ninS ne14 nin0) (ninS ne15 nin0)
    replace F23 := F23.keep K28 (ninS (Ne.symm ne26) nin0)
    show Go _ _ _ _ _ _ h27 [a18, a7] 12 24 130 #[.val (.int len), .val (.int a), .val (.int b), .val (.int c), .val (.int d), .val (.int (0 : Int32)), .val (.int (chF a)), .val (.int (chF b)), .val (.int (chF c)), .val (.int (chF d)), .val (.ref a1), .val (.int (-1 : Int32)), .unset, .unset] [(.ref a7)]
    refine Go.goto (pc' := 146) H at_130 (by decide) (by decide) ?_
    refine Go.astore (ls' := #[.val (.int len), .val (.int a), .val (.int b), .val (.int c), .val (.int d), .val (.int (0 : Int32)), .val (.int (chF a)), .val (.int (chF b)), .val (.int (chF c)), .val (.int (chF d)), .val (.ref a1), .val (.int (-1 : Int32)), .val (.ref a7), .unset]) H at_146 rfl rfl rfl ?_
    refine Go.aload H at_148 rfl rfl rfl ?_
    refine Go.callS (rest := []) 0 [(.ref a1)] H at_150 rfl w30 w31 w32 w33 pd_N27 (ct_par l W a1 b2 ([] : List Int32) h27 S6 (Nat.le_of_ble_eq_true rfl)) all0 rfl rfl rfl (Nat.le_of_eq rfl) (by decide) (by decide) (by decide) (by decide) nh_N27 ?_
    rintro _ h34 _ ⟨a32, b33, rfl, E35, S36, rfl⟩
    replace S6 := S6.ext E35
    replace F23 := F23.ext E35
    replace S31 := S31.ext E35
    show Go _ _ _ _ _ _ h34 [a18, a7] 14 32 153 #[.val (.int len), .val (.int a), .val (.int b), .val (.int c), .val (.int d), .val (.int (0 : Int32)), .val (.int (chF a)), .val (.int (chF b)), .val (.int (chF c)), .val (.int (chF d)), .val (.ref a1), .val (.int (-1 : Int32)), .val (.ref a7), .unset] [(.ref a32)]
    refine Go.astore (ls' := #[.val (.int len), .val (.int a), .val (.int b), .val (.int c), .val (.int d), .val (.int (0 : Int32)), .val (.int (chF a)), .val (.int (chF b)), .val (.int (chF c)), .val (.int (chF d)), .val (.ref a1), .val (.int (-1 : Int32)), .val (.ref a7), .val (.ref a32)]) H at_153 rfl rfl rfl ?_
    refine Go.aload H at_155 rfl rfl rfl ?_
    refine Go.aload H at_157 rfl rfl rfl ?_
    refine Go.callV (rest := []) 0 [(.ref a7)] H at_159 rfl S36.1 w72 w73 w75 w74 w10 w76 pd_N11 (ct_eq l W a32 b33 a7 b29 (parL ([] : List Int32) ([] : List Int32).length) ([] : List Int32) h34 S36 S31) all0 rfl rfl rfl (Nat.le_of_eq rfl) (by decide) (by decide) (by decide) (by decide) nh_N5 ?_
    rintro _ _ _ ⟨rfl, rfl, rfl⟩
    show Go _ _ _ _ _ _ h34 [a18, a7] 14 32 162 #[.val (.int len), .val (.int a), .val (.int b), .val (.int c), .val (.int d), .val (.int (0 : Int32)), .val (.int (chF a)), .val (.int (chF b)), .val (.int (chF c)), .val (.int (chF d)), .val (.ref a1), .val (.int (-1 : Int32)), .val (.ref a7), .val (.ref a32)] [(.int (if (parL ([] : List Int32) ([] : List Int32).length) = ([] : List Int32) then (1 : Int32) else 0))]
    exact Go.ireturn 1 [] H at_162 (by simp) (by rw [if_pos (by simp [parL])]; decide) ⟨rfl, trivial⟩ all0 (by decide) (by decide)
  ·
    show Go _ _ _ _ _ _ h [] 0 0 33 #[.val (.int len), .val (.int a), .val (.int b), .val (.int c), .val (.int d), .val (.int (1 : Int32)), .val (.int (chF a)), .val (.int (chF b)), .val (.int (chF c)), .val (.int (chF d)), .unset, .unset, .unset, .unset] []
    refine Go.iload H at_33 rfl rfl ?_
    refine Go.iload H at_35 rfl rfl ?_
    refine Go.iload H at_37 rfl rfl ?_
    refine Go.iload H at_39 rfl rfl ?_
    refine Go.iload H at_41 rfl rfl ?_
    refine Go.callS (rest := []) 0 [(.int (1 : Int32)), (.int (chF a)), (.int (chF b)), (.int (chF c)), (.int (chF d))] H at_43 rfl w5 w6 w3 w7 pd_N22 (ct_mk1 l W (chF a) (chF b) (chF c) (chF d) h (chF_l _) (chF_l _) (chF_l _) (chF_l _)) all0 rfl rfl rfl (Nat.le_of_eq rfl) (by decide) (by decide) (by decide) (by decide) nh_N0 ?_
    rintro _ h39 _ ⟨a37, b38, rfl, E40, g41, S42, rfl⟩
    show Go _ _ _ _ _ _ h39 [] 6 13 46 #[.val (.int len), .val (.int a), .val (.int b), .val (.int c), .val (.int d), .val (.int (1 : Int32)), .val (.int (chF a)), .val (.int (chF b)), .val (.int (chF c)), .val (.int (chF d)), .unset, .unset, .unset, .unset] [(.ref a37)]
    refine Go.astore (ls' := #[.val (.int len), .val (.int a), .val (.int b), .val (.int c), .val (.int d), .val (.int (1 : Int32)), .val (.int (chF a)), .val (.int (chF b)), .val (.int (chF c)), .val (.int (chF d)), .val (.ref a37), .unset, .unset, .unset]) H at_46 rfl rfl rfl ?_
    refine Go.iconst (-1 : Int32) H at_48 rfl rfl ?_
    refine Go.istore (ls' := #[.val (.int len), .val (.int a), .val (.int b), .val (.int c), .val (.int d), .val (.int (1 : Int32)), .val (.int (chF a)), .val (.int (chF b)), .val (.int (chF c)), .val (.int (chF d)), .val (.ref a37), .val (.int (-1 : Int32)), .unset, .unset]) H at_49 rfl rfl ?_
    refine Go.iload H at_51 rfl rfl ?_
    refine Go.iconst (1 : Int32) H at_53 rfl rfl ?_
    refine Go.icmpN H at_54 (by decide) rfl ?_
    refine Go.iload H at_57 rfl rfl ?_
    refine Go.bipush (47 : Int32) H at_59 rfl rfl ?_
    by_cases c43 : (chF a) = (47 : Int32)
    ·
      refine Go.icmpN H at_61 (teq c43).2 rfl ?_
      refine Go.iconst (0 : Int32) H at_64 rfl rfl ?_
      refine Go.istore (ls' := #[.val (.int len), .val (.int a), .val (.int b), .val (.int c), .val (.int d), .val (.int (1 : Int32)), .val (.int (chF a)), .val (.int (chF b)), .val (.int (chF c)), .val (.int (chF d)), .val (.ref a37), .val (.int (0 : Int32)), .unset, .unset]) H at_65 rfl rfl ?_
      refine Go.iload H at_67 rfl rfl ?_
      refine Go.iconst (2 : Int32) H at_69 rfl rfl ?_
      refine Go.icmpY (pc' := 83) H at_70 (by decide) (by decide) (by decide) ?_
      refine Go.iload H at_83 rfl rfl ?_
      refine Go.iconst (3 : Int32) H at_85 rfl rfl ?_
      refine Go.icmpY (pc' := 99) H at_86 (by decide) (by decide) (by decide) ?_
      refine Go.iload H at_99 rfl rfl ?_
      refine Go.iconst (4 : Int32) H at_101 rfl rfl ?_
      refine Go.icmpY (pc' := 115) H at_102 (by decide) (by decide) (by decide) ?_
      refine Go.iload H at_115 rfl rfl ?_
      refine Go.ifY (pc' := 133) H at_117 (by decide) (by decide) (by decide) ?_
      refine Go.iload H at_133 rfl rfl ?_
      refine Go.iload H at_135 rfl rfl ?_
      refine Go.iload H at_137 rfl rfl ?_
      refine Go.iload H at_139 rfl rfl ?_
      refine Go.iload H at_141 rfl rfl ?_
      refine Go.callS (rest := []) 0 [(.int (0 : Int32)), (.int (chF a)), (.int (chF b)), (.int (chF c)), (.int (chF d))] H at_143 rfl w5 w6 w3 w7 pd_N22 (ct_mk0 l W (chF a) (chF b) (chF c) (chF d) h39 (chF_l _) (chF_l _) (chF_l _) (chF_l _)) all0 rfl rfl rfl (Nat.le_of_eq rfl) (by decide) (by decide) (by decide) (by decide) nh_N0 ?_
      rintro _ h46 _ ⟨a44, b45, rfl, E47, g48, S49, rfl⟩
      have ne50 : a37 ≠ a44 := Nat.ne_of_lt (Nat.lt_of_lt_of_le S42.lt g48)
      have ne51 : b38 ≠ a44 := Nat.ne_of_lt (Nat.lt_of_lt_of_le S42.ltb g48)
      replace S42 := S42.ext E47
      show Go _ _ _ _ _ _ h46 [] 12 25 146 #[.val (.int len), .val (.int a), .val (.int b), .val (.int c), .val (.int d), .val (.int (1 : Int32)), .val (.int (chF a)), .val (.int (chF b)), .val (.int (chF c)), .val (.int (chF d)), .val (.ref a37), .val (.int (0 : Int32)), .unset, .unset] [(.ref a44)]
      refine Go.astore (ls' := #[.val (.int len), .val (.int a), .val (.int b), .val (.int c), .val (.int d), .val (.int (1 : Int32)), .val (.int (chF a)), .val (.int (chF b)), .val (.int (chF c)), .val (.int (chF d)), .val (.ref a37), .val (.int (0 : Int32)), .val (.ref a44), .unset]) H at_146 rfl rfl rfl ?_
      refine Go.aload H at_148 rfl rfl rfl ?_
      refine Go.callS (rest := []) 0 [(.ref a37)] H at_150 rfl w30 w31 w32 w33 pd_N27 (ct_par l W a37 b38 [(chF a)] h46 S42 (Nat.le_of_ble_eq_true rfl)) all0 rfl rfl rfl (Nat.le_of_eq rfl) (by decide) (by decide) (by decide) (by decide) nh_N27 ?_
      rintro _ h54 _ ⟨a52, b53, rfl, E55, S56, rfl⟩
      replace S42 := S42.ext E55
      replace S49 := S49.ext E55
      show Go _ _ _ _ _ _ h54 [] 14 33 153 #[.val (.int len), .val (.int a), .val (.int b), .val (.int c), .val (.int d), .val (.int (1 : Int32)), .val (.int (chF a)), .val (.int (chF b)), .val (.int (chF c)), .val (.int (chF d)), .val (.ref a37), .val (.int (0 : Int32)), .val (.ref a44), .unset] [(.ref a52)]
      refine Go.astore (ls' := #[.val (.int len), .val (.int a), .val (.int b), .val (.int c), .val (.int d), .val (.int (1 : Int32)), .val (.int (chF a)), .val (.int (chF b)), .val (.int (chF c)), .val (.int (chF d)), .val (.ref a37), .val (.int (0 : Int32)), .val (.ref a44), .val (.ref a52)]) H at_153 rfl rfl rfl ?_
      refine Go.aload H at_155 rfl rfl rfl ?_
      refine Go.aload H at_157 rfl rfl rfl ?_
      refine Go.callV (rest := []) 0 [(.ref a44)] H at_159 rfl S56.1 w72 w73 w75 w74 w10 w76 pd_N11 (ct_eq l W a52 b53 a44 b45 (parL [(chF a)] [(chF a)].length) ([] : List Int32) h54 S56 S49) all0 rfl rfl rfl (Nat.le_of_eq rfl) (by decide) (by decide) (by decide) (by decide) nh_N5 ?_
      rintro _ _ _ ⟨rfl, rfl, rfl⟩
      show Go _ _ _ _ _ _ h54 [] 14 33 162 #[.val (.int len), .val (.int a), .val (.int b), .val (.int c), .val (.int d), .val (.int (1 : Int32)), .val (.int (chF a)), .val (.int (chF b)), .val (.int (chF c)), .val (.int (chF d)), .val (.ref a37), .val (.int (0 : Int32)), .val (.ref a44), .val (.ref a52)] [(.int (if (parL [(chF a)] [(chF a)].length) = ([] : List Int32) then (1 : Int32) else 0))]
      exact Go.ireturn 1 [] H at_162 (by simp) (by rw [if_pos (by simp [parL, c43])]; decide) ⟨rfl, trivial⟩ all0 (by decide) (by decide)
    ·
      refine Go.icmpY (pc' := 67) H at_61 (feq c43).2 (by decide) (by decide) ?_
      refine Go.iload H at_67 rfl rfl ?_
      refine Go.iconst (2 : Int32) H at_69 rfl rfl ?_
      refine Go.icmpY (pc' := 83) H at_70 (by decide) (by decide) (by decide) ?_
      refine Go.iload H at_83 rfl rfl ?_
      refine Go.iconst (3 : Int32) H at_85 rfl rfl ?_
      refine Go.icmpY (pc' := 99) H at_86 (by decide) (by decide) (by decide) ?_
      refine Go.iload H at_99 rfl rfl ?_
      refine Go.iconst (4 : Int32) H at_101 rfl rfl ?_
      refine Go.icmpY (pc' := 115) H at_102 (by decide) (by decide) (by decide) ?_
      refine Go.iload H at_115 rfl rfl ?_
      refine Go.ifN H at_117 (by decide) rfl ?_
      refine Go.new H at_120 rfl w8 w9 w10 (by decide) (by decide) ?_
      intro a57 h58 g59 z60 E61 A62 D63
      have ne64 : a37 ≠ a57 := Nat.ne_of_lt (Nat.lt_of_lt_of_le S42.lt (Nat.le_of_eq g59.symm))
      have ne65 : b38 ≠ a57 := Nat.ne_of_lt (Nat.lt_of_lt_of_le S42.ltb (Nat.le_of_eq g59.symm))
      replace S42 := S42.ext E61
      have F66 : Fld Z h58 a57 "java/lang/String" "value" "[B" .null := D63 (Or.inr w24) (ty := (.array .byte)) (by decide)
      have F67 : Fld Z h58 a57 "java/lang/String" "coder" "B" (.int (0 : Int32)) := D63 (Or.inr w25) (ty := .byte) (by decide)
      show Go _ _ _ _ _ _ h58 [a57] 7 17 123 #[.val (.int len), .val (.int a), .val (.int b), .val (.int c), .val (.int d), .val (.int (1 : Int32)), .val (.int (chF a)), .val (.int (chF b)), .val (.int (chF c)), .val (.int (chF d)), .val (.ref a37), .val (.int (-1 : Int32)), .unset, .unset] [(.ref a57)]
      refine Go.dup H at_123 rfl rfl ?_
      refine Go.iconst (0 : Int32) H at_124 rfl rfl ?_
      refine Go.newarray 0 0 H at_125 rfl w11 rfl (by decide) (by decide) (by decide) (by decide) (by decide) (by decide) (by decide) ?_
      intro a68 h69 g70 z71 E72 F73
      have ne74 : a37 ≠ a68 := Nat.ne_of_lt (Nat.lt_of_lt_of_le S42.lt (Nat.le_of_eq g70.symm))
      have ne75 : b38 ≠ a68 := Nat.ne_of_lt (Nat.lt_of_lt_of_le S42.ltb (Nat.le_of_eq g70.symm))
      have ne76 : a57 ≠ a68 := Nat.ne_of_lt (Nat.lt_of_lt_of_le A62.lt (Nat.le_of_eq g70.symm))
      replace S42 := S42.ext E72
      replace A62 := A62.ext E72
      replace F66 := F66.ext E72
      replace F67 := F67.ext E72
      replace F73 : Vec Z h69 a68 .char [] := F73
      show Go _ _ _ _ _ _ h69 [a68, a57] 8 17 127 #[.val (.int len), .val (.int a), .val (.int b), .val (.int c), .val (.int d), .val (.int (1 : Int32)), .val (.int (chF a)), .val (.int (chF b)), .val (.int (chF c)), .val (.int (chF d)), .val (.ref a37), .val (.int (-1 : Int32)), .unset, .unset] [(.ref a68), (.ref a57), (.ref a57)]
      refine Go.callI (rest := [(.ref a57)]) 1 [(.ref a68)] H at_127 rfl rfl w12 w13 w10 w14 pd_N6 (ct_new1 l W a57 a68 ([] : List Int32) h69 A62 F66 F67 F73 own_an (Nat.le_of_ble_eq_true rfl)  z60) (by simp) rfl rfl rfl (Nat.le_of_eq rfl) (by decide) (by decide) (by decide) (by decide) nh_N5 ?_
      rintro _ h77 _ ⟨rfl, K78, ⟨b79, S81⟩, rfl⟩
      replace S42 := S42.keep K78 (ninS ne64 nin0) (ninS ne65 nin0)
      replace F73 := F73.keep K78 (ninS (Ne.symm ne76) nin0)
      show Go _ _ _ _ _ _ h77 [a68, a57] 12 25 130 #[.val (.int len), .val (.int a), .val (.int b), .val (.int c), .val (.int d), .val (.int (1 : Int32)), .val (.int (chF a)), .val (.int (chF b)), .val (.int (chF c)), .val (.int (chF d)), .val (.ref a37), .val (.int (-1 : Int32)), .unset, .unset] [(.ref a57)]
      refine Go.goto (pc' := 146) H at_130 (by decide) (by decide) ?_
      refine Go.astore (ls' := #[.val (.int len), .val (.int a), .val (.int b), .val (.int c), .val (.int d), .val (.int (1 : Int32)), .val (.int (chF a)), .val (.int (chF b)), .val (.int (chF c)), .val (.int (chF d)), .val (.ref a37), .val (.int (-1 : Int32)), .val (.ref a57), .unset]) H at_146 rfl rfl rfl ?_
      refine Go.aload H at_148 rfl rfl rfl ?_
      refine Go.callS (rest := []) 0 [(.ref a37)] H at_150 rfl w30 w31 w32 w33 pd_N27 (ct_par l W a37 b38 [(chF a)] h77 S42 (Nat.le_of_ble_eq_true rfl)) all0 rfl rfl rfl (Nat.le_of_eq rfl) (by decide) (by decide) (by decide) (by decide) nh_N27 ?_
      rintro _ h84 _ ⟨a82, b83, rfl, E85, S86, rfl⟩
      replace S42 := S42.ext E85
      replace F73 := F73.ext E85
      replace S81 := S81.ext E85
      show Go _ _ _ _ _ _ h84 [a68, a57] 14 33 153 #[.val (.int len), .val (.int a), .val (.int b), .val (.int c), .val (.int d), .val (.int (1 : Int32)), .val (.int (chF a)), .val (.int (chF b)), .val (.int (chF c)), .val (.int (chF d)), .val (.ref a37), .val (.int (-1 : Int32)), .val (.ref a57), .unset] [(.ref a82)]
      refine Go.astore (ls' := #[.val (.int len), .val (.int a), .val (.int b), .val (.int c), .val (.int d), .val (.int (1 : Int32)), .val (.int (chF a)), .val (.int (chF b)), .val (.int (chF c)), .val (.int (chF d)), .val (.ref a37), .val (.int (-1 : Int32)), .val (.ref a57), .val (.ref a82)]) H at_153 rfl rfl rfl ?_
      refine Go.aload H at_155 rfl rfl rfl ?_
      refine Go.aload H at_157 rfl rfl rfl ?_
      refine Go.callV (rest := []) 0 [(.ref a57)] H at_159 rfl S86.1 w72 w73 w75 w74 w10 w76 pd_N11 (ct_eq l W a82 b83 a57 b79 (parL [(chF a)] [(chF a)].length) ([] : List Int32) h84 S86 S81) all0 rfl rfl rfl (Nat.le_of_eq rfl) (by decide) (by decide) (by decide) (by decide) nh_N5 ?_
      rintro _ _ _ ⟨rfl, rfl, rfl⟩
      show Go _ _ _ _ _ _ h84 [a68, a57] 14 33 162 #[.val (.int len), .val (.int a), .val (.int b), .val (.int c), .val (.int d), .val (.int (1 : Int32)), .val (.int (chF a)), .val (.int (chF b)), .val (.int (chF c)), .val (.int (chF d)), .val (.ref a37), .val (.int (-1 : Int32)), .val (.ref a57), .val (.ref a82)] [(.int (if (parL [(chF a)] [(chF a)].length) = ([] : List Int32) then (1 : Int32) else 0))]
      exact Go.ireturn 1 [] H at_162 (by simp) (by rw [if_pos (by simp [parL, c43])]; decide) ⟨rfl, trivial⟩ all0 (by decide) (by decide)
  ·
    show Go _ _ _ _ _ _ h [] 0 0 33 #[.val (.int len), .val (.int a), .val (.int b), .val (.int c), .val (.int d), .val (.int (2 : Int32)), .val (.int (chF a)), .val (.int (chF b)), .val (.int (chF c)), .val (.int (chF d)), .unset, .unset, .unset, .unset] []
    refine Go.iload H at_33 rfl rfl ?_
    refine Go.iload H at_35 rfl rfl ?_
    refine Go.iload H at_37 rfl rfl ?_
    refine Go.iload H at_39 rfl rfl ?_
    refine Go.iload H at_41 rfl rfl ?_
    refine Go.callS (rest := []) 0 [(.int (2 : Int32)), (.int (chF a)), (.int (chF b)), (.int (chF c)), (.int (chF d))] H at_43 rfl w5 w6 w3 w7 pd_N22 (ct_mk2 l W (chF a) (chF b) (chF c) (chF d) h (chF_l _) (chF_l _) (chF_l _) (chF_l _)) all0 rfl rfl rfl (Nat.le_of_eq rfl) (by decide) (by decide) (by decide) (by decide) nh_N0 ?_
    rintro _ h89 _ ⟨a87, b88, rfl, E90, g91, S92, rfl⟩
    show Go _ _ _ _ _ _ h89 [] 6 14 46 #[.val (.int len), .val (.int a), .val (.int b), .val (.int c), .val (.int d), .val (.int (2 : Int32)), .val (.int (chF a)), .val (.int (chF b)), .val (.int (chF c)), .val (.int (chF d)), .unset, .unset, .unset, .unset] [(.ref a87)]
    refine Go.astore (ls' := #[.val (.int len), .val (.int a), .val (.int b), .val (.int c), .val (.int d), .val (.int (2 : Int32)), .val (.int (chF a)), .val (.int (chF b)), .val (.int (chF c)), .val (.int (chF d)), .val (.ref a87), .unset, .unset, .unset]) H at_46 rfl rfl rfl ?_
    refine Go.iconst (-1 : Int32) H at_48 rfl rfl ?_
    refine Go.istore (ls' := #[.val (.int len), .val (.int a), .val (.int b), .val (.int c), .val (.int d), .val (.int (2 : Int32)), .val (.int (chF a)), .val (.int (chF b)), .val (.int (chF c)), .val (.int (chF d)), .val (.ref a87), .val (.int (-1 : Int32)), .unset, .unset]) H at_49 rfl rfl ?_
    refine Go.iload H at_51 rfl rfl ?_
    refine Go.iconst (1 : Int32) H at_53 rfl rfl ?_
    refine Go.icmpN H at_54 (by decide) rfl ?_
    refine Go.iload H at_57 rfl rfl ?_
    refine Go.bipush (47 : Int32) H at_59 rfl rfl ?_
    by_cases c93 : (chF a) = (47 : Int32)
    ·
      refine Go.icmpN H at_61 (teq c93).2 rfl ?_
      refine Go.iconst (0 : Int32) H at_64 rfl rfl ?_
      refine Go.istore (ls' := #[.val (.int len), .val (.int a), .val (.int b), .val (.int c), .val (.int d), .val (.int (2 : Int32)), .val (.int (chF a)), .val (.int (chF b)), .val (.int (chF c)), .val (.int (chF d)), .val (.ref a87), .val (.int (0 : Int32)), .unset, .unset]) H at_65 rfl rfl ?_
      refine Go.iload H at_67 rfl rfl ?_
      refine Go.iconst (2 : Int32) H at_69 rfl rfl ?_
      refine Go.icmpN H at_70 (by decide) rfl ?_
      refine Go.iload H at_73 rfl rfl ?_
      refine Go.bipush (47 : Int32) H at_75 rfl rfl ?_
      by_cases c94 : (chF b) = (47 : Int32)
      ·
        refine Go.icmpN H at_77 (teq c94).2 rfl ?_
        refine Go.iconst (1 : Int32) H at_80 rfl rfl ?_
        refine Go.istore (ls' := #[.val (.int len), .val (.int a), .val (.int b), .val (.int c), .val (.int d), .val (.int (2 : Int32)), .val (.int (chF a)), .val (.int (chF b)), .val (.int (chF c)), .val (.int (chF d)), .val (.ref a87), .val (.int (1 : Int32)), .unset, .unset]) H at_81 rfl rfl ?_
        refine Go.iload H at_83 rfl rfl ?_
        refine Go.iconst (3 : Int32) H at_85 rfl rfl ?_
        refine Go.icmpY (pc' := 99) H at_86 (by decide) (by decide) (by decide) ?_
        refine Go.iload H at_99 rfl rfl ?_
        refine Go.iconst (4 : Int32) H at_101 rfl rfl ?_
        refine Go.icmpY (pc' := 115) H at_102 (by decide) (by decide) (by decide) ?_
        refine Go.iload H at_115 rfl rfl ?_
        refine Go.ifY (pc' := 133) H at_117 (by decide) (by decide) (by decide) ?_
        refine Go.iload H at_133 rfl rfl ?_
        refine Go.iload H at_135 rfl rfl ?_
        refine Go.iload H at_137 rfl rfl ?_
        refine Go.iload H at_139 rfl rfl ?_
        refine Go.iload H at_141 rfl rfl ?_
        refine Go.callS (rest := []) 0 [(.int (1 : Int32)), (.int (chF a)), (.int (chF b)), (.int (chF c)), (.int (chF d))] H at_143 rfl w5 w6 w3 w7 pd_N22 (ct_mk1 l W (chF a) (chF b) (chF c) (chF d) h89 (chF_l _) (chF_l _) (chF_l _) (chF_l _)) all0 rfl rfl rfl (Nat.le_of_eq rfl) (by decide) (by decide) (by decide) (by decide) nh_N0 ?_
        rintro _ h97 _ ⟨a95, b96, rfl, E98, g99, S100, rfl⟩
        have ne101 : a87 ≠ a95 := Nat.ne_of_lt (Nat.lt_of_lt_of_le S92.lt g99)
        have ne102 : b88 ≠ a95 := Nat.ne_of_lt (Nat.lt_of_lt_of_le S92.ltb g99)
        replace S92 := S92.ext E98
        show Go _ _ _ _ _ _ h97 [] 12 27 146 #[.val (.int len), .val (.int a), .val (.int b), .val (.int c), .val (.int d), .val (.int (2 : Int32)), .val (.int (chF a)), .val (.int (chF b)), .val (.int (chF c)), .val (.int (chF d)), .val (.ref a87), .val (.int (1 : Int32)), .unset, .unset] [(.ref a95)]
        refine Go.astore (ls' := #[.val (.int len), .val (.int a), .val (.int b), .val (.int c), .val (.int d), .val (.int (2 : Int32)), .val (.int (chF a)), .val (.int (chF b)), .val (.int (chF c)), .val (.int (chF d)), .val (.ref a87), .val (.int (1 : Int32)), .val (.ref a95), .unset]) H at_146 rfl rfl rfl ?_
        refine Go.aload H at_148 rfl rfl rfl ?_
        refine Go.callS (rest := []) 0 [(.ref a87)] H at_150 rfl w30 w31 w32 w33 pd_N27 (ct_par l W a87 b88 [(chF a), (chF b)] h97 S92 (Nat.le_of_ble_eq_true rfl)) all0 rfl rfl rfl (Nat.le_of_eq rfl) (by decide) (by decide) (by decide) (by decide) nh_N27 ?_
        rintro _ h105 _ ⟨a103, b104, rfl, E106, S107, rfl⟩
        replace S92 := S92.ext E106
        replace S100 := S100.ext E106
        show Go _ _ _ _ _ _ h105 [] 14 35 153 #[.val (.int len), .val (.int a), .val (.int b), .val (.int c), .val (.int d), .val (.int (2 : Int32)), .val (.int (chF a)), .val (.int (chF b)), .val (.int (chF c)), .val (.int (chF d)), .val (.ref a87), .val (.int (1 : Int32)), .val (.ref a95), .unset] [(.ref a103)]
        refine Go.astore (ls' := #[.val (.int len), .val (.int a), .val (.int b), .val (.int c), .val (.int d), .val (.int (2 : Int32)), .val (.int (chF a)), .val (.int (chF b)), .val (.int (chF c)), .val (.int (chF d)), .val (.ref a87), .val (.int (1 : Int32)), .val (.ref a95), .val (.ref a103)]) H at_153 rfl rfl rfl ?_
        refine Go.aload H at_155 rfl rfl rfl ?_
        refine Go.aload H at_157 rfl rfl rfl ?_
        refine Go.callV (rest := []) 0 [(.ref a95)] H at_159 rfl S107.1 w72 w73 w75 w74 w10 w76 pd_N11 (ct_eq l W a103 b104 a95 b96 (parL [(chF a), (chF b)] [(chF a), (chF b)].length) [(chF a)] h105 S107 S100) all0 rfl rfl rfl (Nat.le_of_eq rfl) (by decide) (by decide) (by decide) (by decide) nh_N5 ?_
        rintro _ _ _ ⟨rfl, rfl, rfl⟩
        show Go _ _ _ _ _ _ h105 [] 14 35 162 #[.val (.int len), .val (.int a), .val (.int b), .val (.int c), .val (.int d), .val (.int (2 : Int32)), .val (.int (chF a)), .val (.int (chF b)), .val (.int (chF c)), .val (.int (chF d)), .val (.ref a87), .val (.int (1 : Int32)), .val (.ref a95), .val (.ref a103)] [(.int (if (parL [(chF a), (chF b)] [(chF a), (chF b)].length) = [(chF a)] then (1 : Int32) else 0))]
        exact Go.ireturn 1 [] H at_162 (by simp) (by rw [if_pos (by simp [parL, c93, c94])]; decide) ⟨rfl, trivial⟩ all0 (by decide) (by decide)
      ·
        refine Go.icmpY (pc' := 83) H at_77 (feq c94).2 (by decide) (by decide) ?_
        refine Go.iload H at_83 rfl rfl ?_
        refine Go.iconst (3 : Int32) H at_85 rfl rfl ?_
        refine Go.icmpY (pc' := 99) H at_86 (by decide) (by decide) (by decide) ?_
        refine Go.iload H at_99 rfl rfl ?_
        refine Go.iconst (4 : Int32) H at_101 rfl rfl ?_
        refine Go.icmpY (pc' := 115) H at_102 (by decide) (by decide) (by decide) ?_
        refine Go.iload H at_115 rfl rfl ?_
        refine Go.ifY (pc' := 133) H at_117 (by decide) (by decide) (by decide) ?_
        refine Go.iload H at_133 rfl rfl ?_
        refine Go.iload H at_135 rfl rfl ?_
        refine Go.iload H at_137 rfl rfl ?_
        refine Go.iload H at_139 rfl rfl ?_
        refine Go.iload H at_141 rfl rfl ?_
        refine Go.callS (rest := []) 0 [(.int (0 : Int32)), (.int (chF a)), (.int (chF b)), (.int (chF c)), (.int (chF d))] H at_143 rfl w5 w6 w3 w7 pd_N22 (ct_mk0 l W (chF a) (chF b) (chF c) (chF d) h89 (chF_l _) (chF_l _) (chF_l _) (chF_l _)) all0 rfl rfl rfl (Nat.le_of_eq rfl) (by decide) (by decide) (by decide) (by decide) nh_N0 ?_
        rintro _ h110 _ ⟨a108, b109, rfl, E111, g112, S113, rfl⟩
        have ne114 : a87 ≠ a108 := Nat.ne_of_lt (Nat.lt_of_lt_of_le S92.lt g112)
        have ne115 : b88 ≠ a108 := Nat.ne_of_lt (Nat.lt_of_lt_of_le S92.ltb g112)
        replace S92 := S92.ext E111
        show Go _ _ _ _ _ _ h110 [] 12 26 146 #[.val (.int len), .val (.int a), .val (.int b), .val (.int c), .val (.int d), .val (.int (2 : Int32)), .val (.int (chF a)), .val (.int (chF b)), .val (.int (chF c)), .val (.int (chF d)), .val (.ref a87), .val (.int (0 : Int32)), .unset, .unset] [(.ref a108)]
        refine Go.astore (ls' := #[.val (.int len), .val (.int a), .val (.int b), .val (.int c), .val (.int d), .val (.int (2 : Int32)), .val (.int (chF a)), .val (.int (chF b)), .val (.int (chF c)), .val (.int (chF d)), .val (.ref a87), .val (.int (0 : Int32)), .val (.ref a108), .unset]) H at_146 rfl rfl rfl ?_
        refine Go.aload H at_148 rfl rfl rfl ?_
        refine Go.callS (rest := []) 0 [(.ref a87)] H at_150 rfl w30 w31 w32 w33 pd_N27 (ct_par l W a87 b88 [(chF a), (chF b)] h110 S92 (Nat.le_of_ble_eq_true rfl)) all0 rfl rfl rfl (Nat.le_of_eq rfl) (by decide) (by decide) (by decide) (by decide) nh_N27 ?_
        rintro _ h118 _ ⟨a116, b117, rfl, E119, S120, rfl⟩
        replace S92 := S92.ext E119
        replace S113 := S113.ext E119
        show Go _ _ _ _ _ _ h118 [] 14 34 153 #[.val (.int len), .val (.int a), .val (.int b), .val (.int c), .val (.int d), .val (.int (2 : Int32)), .val (.int (chF a)), .val (.int (chF b)), .val (.int (chF c)), .val (.int (chF d)), .val (.ref a87), .val (.int (0 : Int32)), .val (.ref a108), .unset] [(.ref a116)]
        refine Go.astore (ls' := #[.val (.int len), .val (.int a), .val (.int b), .val (.int c), .val (.int d), .val (.int (2 : Int32)), .val (.int (chF a)), .val (.int (chF b)), .val (.int (chF c)), .val (.int (chF d)), .val (.ref a87), .val (.int (0 : Int32)), .val (.ref a108), .val (.ref a116)]) H at_153 rfl rfl rfl ?_
        refine Go.aload H at_155 rfl rfl rfl ?_
        refine Go.aload H at_157 rfl rfl rfl ?_
        refine Go.callV (rest := []) 0 [(.ref a108)] H at_159 rfl S120.1 w72 w73 w75 w74 w10 w76 pd_N11 (ct_eq l W a116 b117 a108 b109 (parL [(chF a), (chF b)] [(chF a), (chF b)].length) ([] : List Int32) h118 S120 S113) all0 rfl rfl rfl (Nat.le_of_eq rfl) (by decide) (by decide) (by decide) (by decide) nh_N5 ?_
        rintro _ _ _ ⟨rfl, rfl, rfl⟩
        show Go _ _ _ _ _ _ h118 [] 14 34 162 #[.val (.int len), .val (.int a), .val (.int b), .val (.int c), .val (.int d), .val (.int (2 : Int32)), .val (.int (chF a)), .val (.int (chF b)), .val (.int (chF c)), .val (.int (chF d)), .val (.ref a87), .val (.int (0 : Int32)), .val (.ref a108), .val (.ref a116)] [(.int (if (parL [(chF a), (chF b)] [(chF a), (chF b)].length) = ([] : List Int32) then (1 : Int32) else 0))]
        exact Go.ireturn 1 [] H at_162 (by simp) (by rw [if_pos (by simp [parL, c93, c94])]; decide) ⟨rfl, trivial⟩ all0 (by decide) (by decide)
    ·
      refine Go.icmpY (pc' := 67) H at_61 (feq c93).2 (by decide) (by decide) ?_
      refine Go.iload H at_67 rfl rfl ?_
      refine Go.iconst (2 : Int32) H at_69 rfl rfl ?_
      refine Go.icmpN H at_70 (by decide) rfl ?_
      refine Go.iload H at_73 rfl rfl ?_
      refine Go.bipush (47 : Int32) H at_75 rfl rfl ?_
      by_cases c121 : (chF b) = (47 : Int32)
      ·
        refine Go.icmpN H at_77 (teq c121).2 rfl ?_
        refine Go.iconst (1 : Int32) H at_80 rfl rfl ?_
        refine Go.istore (ls' := #[.val (.int len), .val (.int a), .val (.int b), .val (.int c), .val (.int d), .val (.int (2 : Int32)), .val (.int (chF a)), .val (.int (chF b)), .val (.int (chF c)), .val (.int (chF d)), .val (.ref a87), .val (.int (1 : Int32)), .unset, .unset]) H at_81 rfl rfl ?_
        refine Go.iload H at_83 rfl rfl ?_
        refine Go.iconst (3 : Int32) H at_85 rfl rfl ?_
        refine Go.icmpY (pc' := 99) H at_86 (by decide) (by decide) (by decide) ?_
        refine Go.iload H at_99 rfl rfl ?_
        refine Go.iconst (4 : Int32) H at_101 rfl rfl ?_
        refine Go.icmpY (pc' := 115) H at_102 (by decide) (by decide) (by decide) ?_
        refine Go.iload H at_115 rfl rfl ?_
        refine Go.ifY (pc' := 133) H at_117 (by decide) (by decide) (by decide) ?_
        refine Go.iload H at_133 rfl rfl ?_
        refine Go.iload H at_135 rfl rfl ?_
        refine Go.iload H at_137 rfl rfl ?_
        refine Go.iload H at_139 rfl rfl ?_
        refine Go.iload H at_141 rfl rfl ?_
        refine Go.callS (rest := []) 0 [(.int (1 : Int32)), (.int (chF a)), (.int (chF b)), (.int (chF c)), (.int (chF d))] H at_143 rfl w5 w6 w3 w7 pd_N22 (ct_mk1 l W (chF a) (chF b) (chF c) (chF d) h89 (chF_l _) (chF_l _) (chF_l _) (chF_l _)) all0 rfl rfl rfl (Nat.le_of_eq rfl) (by decide) (by decide) (by decide) (by decide) nh_N0 ?_
        rintro _ h124 _ ⟨a122, b123, rfl, E125, g126, S127, rfl⟩
        have ne128 : a87 ≠ a122 := Nat.ne_of_lt (Nat.lt_of_lt_of_le S92.lt g126)
        have ne129 : b88 ≠ a122 := Nat.ne_of_lt (Nat.lt_of_lt_of_le S92.ltb g126)
        replace S92 := S92.ext E125
        show Go _ _ _ _ _ _ h124 [] 12 27 146 #[.val (.int len), .val (.int a), .val (.int b), .val (.int c), .val (.int d), .val (.int (2 : Int32)), .val (.int (chF a)), .val (.int (chF b)), .val (.int (chF c)), .val (.int (chF d)), .val (.ref a87), .val (.int (1 : Int32)), .unset, .unset] [(.ref a122)]
        refine Go.astore (ls' := #[.val (.int len), .val (.int a), .val (.int b), .val (.int c), .val (.int d), .val (.int (2 : Int32)), .val (.int (chF a)), .val (.int (chF b)), .val (.int (chF c)), .val (.int (chF d)), .val (.ref a87), .val (.int (1 : Int32)), .val (.ref a122), .unset]) H at_146 rfl rfl rfl ?_
        refine Go.aload H at_148 rfl rfl rfl ?_
        refine Go.callS (rest := []) 0 [(.ref a87)] H at_150 rfl w30 w31 w32 w33 pd_N27 (ct_par l W a87 b88 [(chF a), (chF b)] h124 S92 (Nat.le_of_ble_eq_true rfl)) all0 rfl rfl rfl (Nat.le_of_eq rfl) (by decide) (by decide) (by decide) (by decide) nh_N27 ?_
        rintro _ h132 _ ⟨a130, b131, rfl, E133, S134, rfl⟩
        replace S92 := S92.ext E133
        replace S127 := S127.ext E133
        show Go _ _ _ _ _ _ h132 [] 14 35 153 #[.val (.int len), .val (.int a), .val (.int b), .val (.int c), .val (.int d), .val (.int (2 : Int32)), .val (.int (chF a)), .val (.int (chF b)), .val (.int (chF c)), .val (.int (chF d)), .val (.ref a87), .val (.int (1 : Int32)), .val (.ref a122), .unset] [(.ref a130)]
        refine Go.astore (ls' := #[.val (.int len), .val (.int a), .val (.int b), .val (.int c), .val (.int d), .val (.int (2 : Int32)), .val (.int (chF a)), .val (.int (chF b)), .val (.int (chF c)), .val (.int (chF d)), .val (.ref a87), .val (.int (1 : Int32)), .val (.ref a122), .val (.ref a130)]) H at_153 rfl rfl rfl ?_
        refine Go.aload H at_155 rfl rfl rfl ?_
        refine Go.aload H at_157 rfl rfl rfl ?_
        refine Go.callV (rest := []) 0 [(.ref a122)] H at_159 rfl S134.1 w72 w73 w75 w74 w10 w76 pd_N11 (ct_eq l W a130 b131 a122 b123 (parL [(chF a), (chF b)] [(chF a), (chF b)].length) [(chF a)] h132 S134 S127) all0 rfl rfl rfl (Nat.le_of_eq rfl) (by decide) (by decide) (by decide) (by decide) nh_N5 ?_
        rintro _ _ _ ⟨rfl, rfl, rfl⟩
        show Go _ _ _ _ _ _ h132 [] 14 35 162 #[.val (.int len), .val (.int a), .val (.int b), .val (.int c), .val (.int d), .val (.int (2 : Int32)), .val (.int (chF a)), .val (.int (chF b)), .val (.int (chF c)), .val (.int (chF d)), .val (.ref a87), .val (.int (1 : Int32)), .val (.ref a122), .val (.ref a130)] [(.int (if (parL [(chF a), (chF b)] [(chF a), (chF b)].length) = [(chF a)] then (1 : Int32) else 0))]
        exact Go.ireturn 1 [] H at_162 (by simp) (by rw [if_pos (by simp [parL, c93, c121])]; decide) ⟨rfl, trivial⟩ all0 (by decide) (by decide)
      ·
        refine Go.icmpY (pc' := 83) H at_77 (feq c121).2 (by decide) (by decide) ?_
        refine Go.iload H at_83 rfl rfl ?_
        refine Go.iconst (3 : Int32) H at_85 rfl rfl ?_
        refine Go.icmpY (pc' := 99) H at_86 (by decide) (by decide) (by decide) ?_
        refine Go.iload H at_99 rfl rfl ?_
        refine Go.iconst (4 : Int32) H at_101 rfl rfl ?_
        refine Go.icmpY (pc' := 115) H at_102 (by decide) (by decide) (by decide) ?_
        refine Go.iload H at_115 rfl rfl ?_
        refine Go.ifN H at_117 (by decide) rfl ?_
        refine Go.new H at_120 rfl w8 w9 w10 (by decide) (by decide) ?_
        intro a135 h136 g137 z138 E139 A140 D141
        have ne142 : a87 ≠ a135 := Nat.ne_of_lt (Nat.lt_of_lt_of_le S92.lt (Nat.le_of_eq g137.symm))
        have ne143 : b88 ≠ a135 := Nat.ne_of_lt (Nat.lt_of_lt_of_le S92.ltb (Nat.le_of_eq g137.symm))
        replace S92 := S92.ext E139
        have F144 : Fld Z h136 a135 "java/lang/String" "value" "[B" .null := D141 (Or.inr w24) (ty := (.array .byte)) (by decide)
        have F145 : Fld Z h136 a135 "java/lang/String" "coder" "B" (.int (0 : Int32)) := D141 (Or.inr w25) (ty := .byte) (by decide)
        show Go _ _ _ _ _ _ h136 [a135] 7 18 123 #[.val (.int len), .val (.int a), .val (.int b), .val (.int c), .val (.int d), .val (.int (2 : Int32)), .val (.int (chF a)), .val (.int (chF b)), .val (.int (chF c)), .val (.int (chF d)), .val (.ref a87), .val (.int (-1 : Int32)), .unset, .unset] [(.ref a135)]
        refine Go.dup H at_123 rfl rfl ?_
        refine Go.iconst (0 : Int32) H at_124 rfl rfl ?_
        refine Go.newarray 0 0 H at_125 rfl w11 rfl (by decide) (by decide) (by decide) (by decide) (by decide) (by decide) (by decide) ?_
        intro a146 h147 g148 z149 E150 F151
        have ne152 : a87 ≠ a146 := Nat.ne_of_lt (Nat.lt_of_lt_of_le S92.lt (Nat.le_of_eq g148.symm))
        have ne153 : b88 ≠ a146 := Nat.ne_of_lt (Nat.lt_of_lt_of_le S92.ltb (Nat.le_of_eq g148.symm))
        have ne154 : a135 ≠ a146 := Nat.ne_of_lt (Nat.lt_of_lt_of_le A140.lt (Nat.le_of_eq g148.symm))
        replace S92 := S92.ext E150
        replace A140 := A140.ext E150
        replace F144 := F144.ext E150
        replace F145 := F145.ext E150
        replace F151 : Vec Z h147 a146 .char [] := F151
        show Go _ _ _ _ _ _ h147 [a146, a135] 8 18 127 #[.val (.int len), .val (.int a), .val (.int b), .val (.int c), .val (.int d), .val (.int (2 : Int32)), .val (.int (chF a)), .val (.int (chF b)), .val (.int (chF c)), .val (.int (chF d)), .val (.ref a87), .val (.int (-1 : Int32)), .unset, .unset] [(.ref a146), (.ref a135), (.ref a135)]
        refine Go.callI (rest := [(.ref a135)]) 1 [(.ref a146)] H at_127 rfl rfl w12 w13 w10 w14 pd_N6 (ct_new1 l W a135 a146 ([] : List Int32) h147 A140 F144 F145 F151 own_an (Nat.le_of_ble_eq_true rfl)  z138) (by simp) rfl rfl rfl (Nat.le_of_eq rfl) (by decide) (by decide) (by decide) (by decide) nh_N5 ?_
        rintro _ h155 _ ⟨rfl, K156, ⟨b157, S159⟩, rfl⟩
        replace S92 := S92.keep K156 (ninS ne142 nin0) (ninS ne143 nin0)
        replace F151 := F151.keep K156 (ninS (Ne.symm ne154) nin0)
        show Go _ _ _ _ _ _ h155 [a146, a135] 12 26 130 #[.val (.int len), .val (.int a), .val (.int b), .val (.int c), .val (.int d), .val (.int (2 : Int32)), .val (.int (chF a)), .val (.int (chF b)), .val (.int (chF c)), .val (.int (chF d)), .val (.ref a87), .val (.int (-1 : Int32)), .unset, .unset] [(.ref a135)]
        refine Go.goto (pc' := 146) H at_130 (by decide) (by decide) ?_
        refine Go.astore (ls' := #[.val (.int len), .val (.int a), .val (.int b), .val (.int c), .val (.int d), .val (.int (2 : Int32)), .val (.int (chF a)), .val (.int (chF b)), .val (.int (chF c)), .val (.int (chF d)), .val (.ref a87), .val (.int (-1 : Int32)), .val (.ref a135), .unset]) H at_146 rfl rfl rfl ?_
        refine Go.aload H at_148 rfl rfl rfl ?_
        refine Go.callS (rest := []) 0 [(.ref a87)] H at_150 rfl w30 w31 w32 w33 pd_N27 (ct_par l W a87 b88 [(chF a), (chF b)] h155 S92 (Nat.le_of_ble_eq_true rfl)) all0 rfl rfl rfl (Nat.le_of_eq rfl) (by decide) (by decide) (by decide) (by decide) nh_N27 ?_
        rintro _ h162 _ ⟨a160, b161, rfl, E163, S164, rfl⟩
        replace S92 := S92.ext E163
        replace F151 := F151.ext E163
        replace S159 := S159.ext E163
        show Go _ _ _ _ _ _ h162 [a146, a135] 14 34 153 #[.val (.int len), .val (.int a), .val (.int b), .val (.int c), .val (.int d), .val (.int (2 : Int32)), .val (.int (chF a)), .val (.int (chF b)), .val (.int (chF c)), .val (.int (chF d)), .val (.ref a87), .val (.int (-1 : Int32)), .val (.ref a135), .unset] [(.ref a160)]
        refine Go.astore (ls' := #[.val (.int len), .val (.int a), .val (.int b), .val (.int c), .val (.int d), .val (.int (2 : Int32)), .val (.int (chF a)), .val (.int (chF b)), .val (.int (chF c)), .val (.int (chF d)), .val (.ref a87), .val (.int (-1 : Int32)), .val (.ref a135), .val (.ref a160)]) H at_153 rfl rfl rfl ?_
        refine Go.aload H at_155 rfl rfl rfl ?_
        refine Go.aload H at_157 rfl rfl rfl ?_
        refine Go.callV (rest := []) 0 [(.ref a135)] H at_159 rfl S164.1 w72 w73 w75 w74 w10 w76 pd_N11 (ct_eq l W a160 b161 a135 b157 (parL [(chF a), (chF b)] [(chF a), (chF b)].length) ([] : List Int32) h162 S164 S159) all0 rfl rfl rfl (Nat.le_of_eq rfl) (by decide) (by decide) (by decide) (by decide) nh_N5 ?_
        rintro _ _ _ ⟨rfl, rfl, rfl⟩
        show Go _ _ _ _ _ _ h162 [a146, a135] 14 34 162 #[.val (.int len), .val (.int a), .val (.int b), .val (.int c), .val (.int d), .val (.int (2 : Int32)), .val (.int (chF a)), .val (.int (chF b)), .val (.int (chF c)), .val (.int (chF d)), .val (.ref a87), .val (.int (-1 : Int32)), .val (.ref a135), .val (.ref a160)] [(.int (if (parL [(chF a), (chF b)] [(chF a), (chF b)].length) = ([] : List Int32) then (1 : Int32) else 0))]
        exact Go.ireturn 1 [] H at_162 (by simp) (by rw [if_pos (by simp [parL, c93, c121])]; decide) ⟨rfl, trivial⟩ all0 (by decide) (by decide)
  ·
    show Go _ _ _ _ _ _ h [] 0 0 33 #[.val (.int len), .val (.int a), .val (.int b), .val (.int c), .val (.int d), .val (.int (3 : Int32)), .val (.int (chF a)), .val (.int (chF b)), .val (.int (chF c)), .val (.int (chF d)), .unset, .unset, .unset, .unset] []
    refine Go.iload H at_33 rfl rfl ?_
    refine Go.iload H at_35 rfl rfl ?_
    refine Go.iload H at_37 rfl rfl ?_
    refine Go.iload H at_39 rfl rfl ?_
    refine Go.iload H at_41 rfl rfl ?_
    refine Go.callS (rest := []) 0 [(.int (3 : Int32)), (.int (chF a)), (.int (chF b)), (.int (chF c)), (.int (chF d))] H at_43 rfl w5 w6 w3 w7 pd_N22 (ct_mk3 l W (chF a) (chF b) (chF c) (chF d) h (chF_l _) (chF_l _) (chF_l _) (chF_l _)) all0 rfl rfl rfl (Nat.le_of_eq rfl) (by decide) (by decide) (by decide) (by decide) nh_N0 ?_
    rintro _ h167 _ ⟨a165, b166, rfl, E168, g169, S170, rfl⟩
    show Go _ _ _ _ _ _ h167 [] 6 15 46 #[.val (.int len), .val (.int a), .val (.int b), .val (.int c), .val (.int d), .val (.int (3 : Int32)), .val (.int (chF a)), .val (.int (chF b)), .val (.int (chF c)), .val (.int (chF d)), .unset, .unset, .unset, .unset] [(.ref a165)]
    refine Go.astore (ls' := #[.val (.int len), .val (.int a), .val (.int b), .val (.int c), .val (.int d), .val (.int (3 : Int32)), .val (.int (chF a)), .val (.int (chF b)), .val (.int (chF c)), .val (.int (chF d)), .val (.ref a165), .unset, .unset, .unset]) H at_46 rfl rfl rfl ?_
    refine Go.iconst (-1 : Int32) H at_48 rfl rfl ?_
    refine Go.istore (ls' := #[.val (.int len), .val (.int a), .val (.int b), .val (.int c), .val (.int d), .val (.int (3 : Int32)), .val (.int (chF a)), .val (.int (chF b)), .val (.int (chF c)), .val (.int (chF d)), .val (.ref a165), .val (.int (-1 : Int32)), .unset, .unset]) H at_49 rfl rfl ?_
    refine Go.iload H at_51 rfl rfl ?_
    refine Go.iconst (1 : Int32) H at_53 rfl rfl ?_
    refine Go.icmpN H at_54 (by decide) rfl ?_
    refine Go.iload H at_57 rfl rfl ?_
    refine Go.bipush (47 : Int32) H at_59 rfl rfl ?_
    by_cases c171 : (chF a) = (47 : Int32)
    ·
      refine Go.icmpN H at_61 (teq c171).2 rfl ?_
      refine Go.iconst (0 : Int32) H at_64 rfl rfl ?_
      refine Go.istore (ls' := #[.val (.int len), .val (.int a), .val (.int b), .val (.int c), .val (.int d), .val (.int (3 : Int32)), .val (.int (chF a)), .val (.int (chF b)), .val (.int (chF c)), .val (.int (chF d)), .val (.ref a165), .val (.int (0 : Int32)), .unset, .unset]) H at_65 rfl rfl ?_
      refine Go.iload H at_67 rfl rfl ?_
      refine Go.iconst (2 : Int32) H at_69 rfl rfl ?_
      refine Go.icmpN H at_70 (by decide) rfl ?_
      refine Go.iload H at_73 rfl rfl ?_
      refine Go.bipush (47 : Int32) H at_75 rfl rfl ?_
      by_cases c172 : (chF b) = (47 : Int32)
      ·
        refine Go.icmpN H at_77 (teq c172).2 rfl ?_
        refine Go.iconst (1 : Int32) H at_80 rfl rfl ?_
        refine Go.istore (ls' := #[.val (.int len), .val (.int a), .val (.int b), .val (.int c), .val (.int d), .val (.int (3 : Int32)), .val (.int (chF a)), .val (.int (chF b)), .val (.int (chF c)), .val (.int (chF d)), .val (.ref a165), .val (.int (1 : Int32)), .unset, .unset]) H at_81 rfl rfl ?_
        refine Go.iload H at_83 rfl rfl ?_
        refine Go.iconst (3 : Int32) H at_85 rfl rfl ?_
        refine Go.icmpN H at_86 (by decide) rfl ?_
        refine Go.iload H at_89 rfl rfl ?_
        refine Go.bipush (47 : Int32) H at_91 rfl rfl ?_
        by_cases c173 : (chF c) = (47 : Int32)
        ·
          refine Go.icmpN H at_93 (teq c173).2 rfl ?_
          refine Go.iconst (2 : Int32) H at_96 rfl rfl ?_
          refine Go.istore (ls' := #[.val (.int len), .val (.int a), .val (.int b), .val (.int c), .val (.int d), .val (.int (3 : Int32)), .val (.int (chF a)), .val (.int (chF b)), .val (.int (chF c)), .val (.int (chF d)), .val (.ref a165), .val (.int (2 : Int32)), .unset, .unset]) H at_97 rfl rfl ?_
          refine Go.iload H at_99 rfl rfl ?_
          refine Go.iconst (4 : Int32) H at_101 rfl rfl ?_
          refine Go.icmpY (pc' := 115) H at_102 (by decide) (by decide) (by decide) ?_
          refine Go.iload H at_115 rfl rfl ?_
          refine Go.ifY (pc' := 133) H at_117 (by decide) (by decide) (by decide) ?_
          refine Go.iload H at_133 rfl rfl ?_
          refine Go.iload H at_135 rfl rfl ?_
          refine Go.iload H at_137 rfl rfl ?_
          refine Go.iload H at_139 rfl rfl ?_
          refine Go.iload H at_141 rfl rfl ?_
          refine Go.callS (rest := []) 0 [(.int (2 : Int32)), (.int (chF a)), (.int (chF b)), (.int (chF c)), (.int (chF d))] H at_143 rfl w5 w6 w3 w7 pd_N22 (ct_mk2 l W (chF a) (chF b) (chF c) (chF d) h167 (chF_l _) (chF_l _) (chF_l _) (chF_l _)) all0 rfl rfl rfl (Nat.le_of_eq rfl) (by decide) (by decide) (by decide) (by decide) nh_N0 ?_
          rintro _ h176 _ ⟨a174, b175, rfl, E177, g178, S179, rfl⟩
          have ne180 : a165 ≠ a174 := Nat.ne_of_lt (Nat.lt_of_lt_of_le S170.lt g178)
          have ne181 : b166 ≠ a174 := Nat.ne_of_lt (Nat.lt_of_lt_of_le S170.ltb g178)
          replace S170 := S170.ext E177
          show Go _ _ _ _ _ _ h176 [] 12 29 146 #[.val (.int len), .val (.int a), .val (.int b), .val (.int c), .val (.int d), .val (.int (3 : Int32)), .val (.int (chF a)), .val (.int (chF b)), .val (.int (chF c)), .val (.int (chF d)), .val (.ref a165), .val (.int (2 : Int32)), .unset, .unset] [(.ref a174)]
          refine Go.astore (ls' := #[.val (.int len), .val (.int a), .val (.int b), .val (.int c), .val (.int d), .val (.int (3 : Int32)), .val (.int (chF a)), .val (.int (chF b)), .val (.int (chF c)), .val (.int (chF d)), .val (.ref a165), .val (.int (2 : Int32)), .val (.ref a174), .unset]) H at_146 rfl rfl rfl ?_
          refine Go.aload H at_148 rfl rfl rfl ?_
          refine Go.callS (rest := []) 0 [(.ref a165)] H at_150 rfl w30 w31 w32 w33 pd_N27 (ct_par l W a165 b166 [(chF a), (chF b), (chF c)] h176 S170 (Nat.le_of_ble_eq_true rfl)) all0 rfl rfl rfl (Nat.le_of_eq rfl) (by decide) (by decide) (by decide) (by decide) nh_N27 ?_
          rintro _ h184 _ ⟨a182, b183, rfl, E185, S186, rfl⟩
          replace S170 := S170.ext E185
          replace S179 := S179.ext E185
          show Go _ _ _ _ _ _ h184 [] 14 37 153 #[.val (.int len), .val (.int a), .val (.int b), .val (.int c), .val (.int d), .val (.int (3 : Int32)), .val (.int (chF a)), .val (.int (chF b)), .val (.int (chF c)), .val (.int (chF d)), .val (.ref a165), .val (.int (2 : Int32)), .val (.ref a174), .unset] [(.ref a182)]
          refine Go.astore (ls' := #[.val (.int len), .val (.int a), .val (.int b), .val (.int c), .val (.int d), .val (.int (3 : Int32)), .val (.int (chF a)), .val (.int (chF b)), .val (.int (chF c)), .val (.int (chF d)), .val (.ref a165), .val (.int (2 : Int32)), .val (.ref a174), .val (.ref a182)]) H at_153 rfl rfl rfl ?_
          refine Go.aload H at_155 rfl rfl rfl ?_
          refine Go.aload H at_157 rfl rfl rfl ?_
          refine Go.callV (rest := []) 0 [(.ref a174)] H at_159 rfl S186.1 w72 w73 w75 w74 w10 w76 pd_N11 (ct_eq l W a182 b183 a174 b175 (parL [(chF a), (chF b), (chF c)] [(chF a), (chF b), (chF c)].length) [(chF a), (chF b)] h184 S186 S179) all0 rfl rfl rfl (Nat.le_of_eq rfl) (by decide) (by decide) (by decide) (by decide) nh_N5 ?_
          rintro _ _ _ ⟨rfl, rfl, rfl⟩
          show Go _ _ _ _ _ _ h184 [] 14 37 162 #[.val (.int len), .val (.int a), .val (.int b), .val (.int c), .val (.int d), .val (.int (3 : Int32)), .val (.int (chF a)), .val (.int (chF b)), .val (.int (chF c)), .val (.int (chF d)), .val (.ref a165), .val (.int (2 : Int32)), .val (.ref a174), .val (.ref a182)] [(.int (if (parL [(chF a), (chF b), (chF c)] [(chF a), (chF b), (chF c)].length) = [(chF a), (chF b)] then (1 : Int32) else 0))]
          exact Go.ireturn 1 [] H at_162 (by simp) (by rw [if_pos (by simp [parL, c171, c172, c173])]; decide) ⟨rfl, trivial⟩ all0 (by decide) (by decide)
        ·
          refine Go.icmpY (pc' := 99) H at_93 (feq c173).2 (by decide) (by decide) ?_
          refine Go.iload H at_99 rfl rfl ?_
          refine Go.iconst (4 : Int32) H at_101 rfl rfl ?_
          refine Go.icmpY (pc' := 115) H at_102 (by decide) (by decide) (by decide) ?_
          refine Go.iload H at_115 rfl rfl ?_
          refine Go.ifY (pc' := 133) H at_117 (by decide) (by decide) (by decide) ?_
          refine Go.iload H at_133 rfl rfl ?_
          refine Go.iload H at_135 rfl rfl ?_
          refine Go.iload H at_137 rfl rfl ?_
          refine Go.iload H at_139 rfl rfl ?_
          refine Go.iload H at_141 rfl rfl ?_
          refine Go.callS (rest := []) 0 [(.int (1 : Int32)), (.int (chF a)), (.int (chF b)), (.int (chF c)), (.int (chF d))] H at_143 rfl w5 w6 w3 w7 pd_N22 (ct_mk1 l W (chF a) (chF b) (chF c) (chF d) h167 (chF_l _) (chF_l _) (chF_l _) (chF_l _)) all0 rfl rfl rfl (Nat.le_of_eq rfl) (by decide) (by decide) (by decide) (by decide) nh_N0 ?_
          rintro _ h189 _ ⟨a187, b188, rfl, E190, g191, S192, rfl⟩
          have ne193 : a165 ≠ a187 := Nat.ne_of_lt (Nat.lt_of_lt_of_le S170.lt g191)
          have ne194 : b166 ≠ a187 := Nat.ne_of_lt (Nat.lt_of_lt_of_le S170.ltb g191)
          replace S170 := S170.ext E190
          show Go _ _ _ _ _ _ h189 [] 12 28 146 #[.val (.int len), .val (.int a), .val (.int b), .val (.int c), .val (.int d), .val (.int (3 : Int32)), .val (.int (chF a)), .val (.int (chF b)), .val (.int (chF c)), .val (.int (chF d)), .val (.ref a165), .val (.int (1 : Int32)), .unset, .unset] [(.ref a187)]
          refine Go.astore (ls' := #[.val (.int len), .val (.int a), .val (.int b), .val (.int c), .val (.int d), .val (.int (3 : Int32)), .val (.int (chF a)), .val (.int (chF b)), .val (.int (chF c)), .val (.int (chF d)), .val (.ref a165), .val (.int (1 : Int32)), .val (.ref a187), .unset]) H at_146 rfl rfl rfl ?_
          refine Go.aload H at_148 rfl rfl rfl ?_
          refine Go.callS (rest := []) 0 [(.ref a165)] H at_150 rfl w30 w31 w32 w33 pd_N27 (ct_par l W a165 b166 [(chF a), (chF b), (chF c)] h189 S170 (Nat.le_of_ble_eq_true rfl)) all0 rfl rfl rfl (Nat.le_of_eq rfl) (by decide) (by decide) (by decide) (by decide) nh_N27 ?_
          rintro _ h197 _ ⟨a195, b196, rfl, E198, S199, rfl⟩
          replace S170 := S170.ext E198
          replace S192 := S192.ext E198
          show Go _ _ _ _ _ _ h197 [] 14 36 153 #[.val (.int len), .val (.int a), .val (.int b), .val (.int c), .val (.int d), .val (.int (3 : Int32)), .val (.int (chF a)), .val (.int (chF b)), .val (.int (chF c)), .val (.int (chF d)), .val (.ref a165), .val (.int (1 : Int32)), .val (.ref a187), .unset] [(.ref a195)]
          refine Go.astore (ls' := #[.val (.int len), .val (.int a), .val (.int b), .val (.int c), .val (.int d), .val (.int (3 : Int32)), .val (.int (chF a)), .val (.int (chF b)), .val (.int (chF c)), .val (.int (chF d)), .val (.ref a165), .val (.int (1 : Int32)), .val (.ref a187), .val (.ref a195)]) H at_153 rfl rfl rfl ?_
          refine Go.aload H at_155 rfl rfl rfl ?_
          refine Go.aload H at_157 rfl rfl rfl ?_
          refine Go.callV (rest := []) 0 [(.ref a187)] H at_159 rfl S199.1 w72 w73 w75 w74 w10 w76 pd_N11 (ct_eq l W a195 b196 a187 b188 (parL [(chF a), (chF b), (chF c)] [(chF a), (chF b), (chF c)].length) [(chF a)] h197 S199 S192) all0 rfl rfl rfl (Nat.le_of_eq rfl) (by decide) (by decide) (by decide) (by decide) nh_N5 ?_
          rintro _ _ _ ⟨rfl, rfl, rfl⟩
          show Go _ _ _ _ _ _ h197 [] 14 36 162 #[.val (.int len), .val (.int a), .val (.int b), .val (.int c), .val (.int d), .val (.int (3 : Int32)), .val (.int (chF a)), .val (.int (chF b)), .val (.int (chF c)), .val (.int (chF d)), .val (.ref a165), .val (.int (1 : Int32)), .val (.ref a187), .val (.ref a195)] [(.int (if (parL [(chF a), (chF b), (chF c)] [(chF a), (chF b), (chF c)].length) = [(chF a)] then (1 : Int32) else 0))]
          exact Go.ireturn 1 [] H at_162 (by simp) (by rw [if_pos (by simp [parL, c171, c172, c173])]; decide) ⟨rfl, trivial⟩ all0 (by decide) (by decide)
      ·
        refine Go.icmpY (pc' := 83) H at_77 (feq c172).2 (by decide) (by decide) ?_
        refine Go.iload H at_83 rfl rfl ?_
        refine Go.iconst (3 : Int32) H at_85 rfl rfl ?_
        refine Go.icmpN H at_86 (by decide) rfl ?_
        refine Go.iload H at_89 rfl rfl ?_
        refine Go.bipush (47 : Int32) H at_91 rfl rfl ?_
        by_cases c200 : (chF c) = (47 : Int32)
        ·
          refine Go.icmpN H at_93 (teq c200).2 rfl ?_
          refine Go.iconst (2 : Int32) H at_96 rfl rfl ?_
          refine Go.istore (ls' := #[.val (.int len), .val (.int a), .val (.int b), .val (.int c), .val (.int d), .val (.int (3 : Int32)), .val (.int (chF a)), .val (.int (chF b)), .val (.int (chF c)), .val (.int (chF d)), .val (.ref a165), .val (.int (2 : Int32)), .unset, .unset]) H at_97 rfl rfl ?_
          refine Go.iload H at_99 rfl rfl ?_
          refine Go.iconst (4 : Int32) H at_101 rfl rfl ?_
          refine Go.icmpY (pc' := 115) H at_102 (by decide) (by decide) (by decide) ?_
          refine Go.iload H at_115 rfl rfl ?_
          refine Go.ifY (pc' := 133) H at_117 (by decide) (by decide) (by decide) ?_
          refine Go.iload H at_133 rfl rfl ?_
          refine Go.iload H at_135 rfl rfl ?_
          refine Go.iload H at_137 rfl rfl ?_
          refine Go.iload H at_139 rfl rfl ?_
          refine Go.iload H at_141 rfl rfl ?_
          refine Go.callS (rest := []) 0 [(.int (2 : Int32)), (.int (chF a)), (.int (chF b)), (.int (chF c)), (.int (chF d))] H at_143 rfl w5 w6 w3 w7 pd_N22 (ct_mk2 l W (chF a) (chF b) (chF c) (chF d) h167 (chF_l _) (chF_l _) (chF_l _) (chF_l _)) all0 rfl rfl rfl (Nat.le_of_eq rfl) (by decide) (by decide) (by decide) (by decide) nh_N0 ?_
          rintro _ h203 _ ⟨a201, b202, rfl, E204, g205, S206, rfl⟩
          have ne207 : a165 ≠ a201 := Nat.ne_of_lt (Nat.lt_of_lt_of_le S170.lt g205)
          have ne208 : b166 ≠ a201 := Nat.ne_of_lt (Nat.lt_of_lt_of_le S170.ltb g205)
          replace S170 := S170.ext E204
          show Go _ _ _ _ _ _ h203 [] 12 29 146 #[.val (.int len), .val (.int a), .val (.int b), .val (.int c), .val (.int d), .val (.int (3 : Int32)), .val (.int (chF a)), .val (.int (chF b)), .val (.int (chF c)), .val (.int (chF d)), .val (.ref a165), .val (.int (2 : Int32)), .unset, .unset] [(.ref a201)]
          refine Go.astore (ls' := #[.val (.int len), .val (.int a), .val (.int b), .val (.int c), .val (.int d), .val (.int (3 : Int32)), .val (.int (chF a)), .val (.int (chF b)), .val (.int (chF c)), .val (.int (chF d)), .val (.ref a165), .val (.int (2 : Int32)), .val (.ref a201), .unset]) H at_146 rfl rfl rfl ?_
          refine Go.aload H at_148 rfl rfl rfl ?_
          refine Go.callS (rest := []) 0 [(.ref a165)] H at_150 rfl w30 w31 w32 w33 pd_N27 (ct_par l W a165 b166 [(chF a), (chF b), (chF c)] h203 S170 (Nat.le_of_ble_eq_true rfl)) all0 rfl rfl rfl (Nat.le_of_eq rfl) (by decide) (by decide) (by decide) (by decide) nh_N27 ?_
          rintro _ h211 _ ⟨a209, b210, rfl, E212, S213, rfl⟩
          replace S170 := S170.ext E212
          replace S206 := S206.ext E212
          show Go _ _ _ _ _ _ h211 [] 14 37 153 #[.val (.int len), .val (.int a), .val (.int b), .val (.int c), .val (.int d), .val (.int (3 : Int32)), .val (.int (chF a)), .val (.int (chF b)), .val (.int (chF c)), .val (.int (chF d)), .val (.ref a165), .val (.int (2 : Int32)), .val (.ref a201), .unset] [(.ref a209)]
          refine Go.astore (ls' := #[.val (.int len), .val (.int a), .val (.int b), .val (.int c), .val (.int d), .val (.int (3 : Int32)), .val (.int (chF a)), .val (.int (chF b)), .val (.int (chF c)), .val (.int (chF d)), .val (.ref a165), .val (.int (2 : Int32)), .val (.ref a201), .val (.ref a209)]) H at_153 rfl rfl rfl ?_
          refine Go.aload H at_155 rfl rfl rfl ?_
          refine Go.aload H at_157 rfl rfl rfl ?_
          refine Go.callV (rest := []) 0 [(.ref a201)] H at_159 rfl S213.1 w72 w73 w75 w74 w10 w76 pd_N11 (ct_eq l W a209 b210 a201 b202 (parL [(chF a), (chF b), (chF c)] [(chF a), (chF b), (chF c)].length) [(chF a), (chF b)] h211 S213 S206) all0 rfl rfl rfl (Nat.le_of_eq rfl) (by decide) (by decide) (by decide) (by decide) nh_N5 ?_
          rintro _ _ _ ⟨rfl, rfl, rfl⟩
          show Go _ _ _ _ _ _ h211 [] 14 37 162 #[.val (.int len), .val (.int a), .val (.int b), .val (.int c), .val (.int d), .val (.int (3 : Int32)), .val (.int (chF a)), .val (.int (chF b)), .val (.int (chF c)), .val (.int (chF d)), .val (.ref a165), .val (.int (2 : Int32)), .val (.ref a201), .val (.ref a209)] [(.int (if (parL [(chF a), (chF b), (chF c)] [(chF a), (chF b), (chF c)].length) = [(chF a), (chF b)] then (1 : Int32) else 0))]
          exact Go.ireturn 1 [] H at_162 (by simp) (by rw [if_pos (by simp [parL, c171, c172, c200])]; decide) ⟨rfl, trivial⟩ all0 (by decide) (by decide)
        ·
          refine Go.icmpY (pc' := 99) H at_93 (feq c200).2 (by decide) (by decide) ?_
          refine Go.iload H at_99 rfl rfl ?_
          refine Go.iconst (4 : Int32) H at_101 rfl rfl ?_
          refine Go.icmpY (pc' := 115) H at_102 (by decide) (by decide) (by decide) ?_
          refine Go.iload H at_115 rfl rfl ?_
          refine Go.ifY (pc' := 133) H at_117 (by decide) (by decide) (by decide) ?_
          refine Go.iload H at_133 rfl rfl ?_
          refine Go.iload H at_135 rfl rfl ?_
          refine Go.iload H at_137 rfl rfl ?_
          refine Go.iload H at_139 rfl rfl ?_
          refine Go.iload H at_141 rfl rfl ?_
          refine Go.callS (rest := []) 0 [(.int (0 : Int32)), (.int (chF a)), (.int (chF b)), (.int (chF c)), (.int (chF d))] H at_143 rfl w5 w6 w3 w7 pd_N22 (ct_mk0 l W (chF a) (chF b) (chF c) (chF d) h167 (chF_l _) (chF_l _) (chF_l _) (chF_l _)) all0 rfl rfl rfl (Nat.le_of_eq rfl) (by decide) (by decide) (by decide) (by decide) nh_N0 ?_
          rintro _ h216 _ ⟨a214, b215, rfl, E217, g218, S219, rfl⟩
          have ne220 : a165 ≠ a214 := Nat.ne_of_lt (Nat.lt_of_lt_of_le S170.lt g218)
          have ne221 : b166 ≠ a214 := Nat.ne_of_lt (Nat.lt_of_lt_of_le S170.ltb g218)
          replace S170 := S170.ext E217
          show Go _ _ _ _ _ _ h216 [] 12 27 146 #[.val (.int len), .val (.int a), .val (.int b), .val (.int c), .val (.int d), .val (.int (3 : Int32)), .val (.int (chF a)), .val (.int (chF b)), .val (.int (chF c)), .val (.int (chF d)), .val (.ref a165), .val (.int (0 : Int32)), .unset, .unset] [(.ref a214)]
          refine Go.astore (ls' := #[.val (.int len), .val (.int a), .val (.int b), .val (.int c), .val (.int d), .val (.int (3 : Int32)), .val (.int (chF a)), .val (.int (chF b)), .val (.int (chF c)), .val (.int (chF d)), .val (.ref a165), .val (.int (0 : Int32)), .val (.ref a214), .unset]) H at_146 rfl rfl rfl ?_
          refine Go.aload H at_148 rfl rfl rfl ?_
          refine Go.callS (rest := []) 0 [(.ref a165)] H at_150 rfl w30 w31 w32 w33 pd_N27 (ct_par l W a165 b166 [(chF a), (chF b), (chF c)] h216 S170 (Nat.le_of_ble_eq_true rfl)) all0 rfl rfl rfl (Nat.le_of_eq rfl) (by decide) (by decide) (by decide) (by decide) nh_N27 ?_
          rintro _ h224 _ ⟨a222, b223, rfl, E225, S226, rfl⟩
          replace S170 := S170.ext E225
          replace S219 := S219.ext E225
          show Go _ _ _ _ _ _ h224 [] 14 35 153 #[.val (.int len), .val (.int a), .val (.int b), .val (.int c), .val (.int d), .val (.int (3 : Int32)), .val (.int (chF a)), .val (.int (chF b)), .val (.int (chF c)), .val (.int (chF d)), .val (.ref a165), .val (.int (0 : Int32)), .val (.ref a214), .unset] [(.ref a222)]
          refine Go.astore (ls' := #[.val (.int len), .val (.int a), .val (.int b), .val (.int c), .val (.int d), .val (.int (3 : Int32)), .val (.int (chF a)), .val (.int (chF b)), .val (.int (chF c)), .val (.int (chF d)), .val (.ref a165), .val (.int (0 : Int32)), .val (.ref a214), .val (.ref a222)]) H at_153 rfl rfl rfl ?_
          refine Go.aload H at_155 rfl rfl rfl ?_
          refine Go.aload H at_157 rfl rfl rfl ?_
          refine Go.callV (rest := []) 0 [(.ref a214)] H at_159 rfl S226.1 w72 w73 w75 w74 w10 w76 pd_N11 (ct_eq l W a222 b223 a214 b215 (parL [(chF a), (chF b), (chF c)] [(chF a), (chF b), (chF c)].length) ([] : List Int32) h224 S226 S219) all0 rfl rfl rfl (Nat.le_of_eq rfl) (by decide) (by decide) (by decide) (by decide) nh_N5 ?_
          rintro _ _ _ ⟨rfl, rfl, rfl⟩
          show Go _ _ _ _ _ _ h224 [] 14 35 162 #[.val (.int len), .val (.int a), .val (.int b), .val (.int c), .val (.int d), .val (.int (3 : Int32)), .val (.int (chF a)), .val (.int (chF b)), .val (.int (chF c)), .val (.int (chF d)), .val (.ref a165), .val (.int (0 : Int32)), .val (.ref a214), .val (.ref a222)] [(.int (if (parL [(chF a), (chF b), (chF c)] [(chF a), (chF b), (chF c)].length) = ([] : List Int32) then (1 : Int32) else 0))]
          exact Go.ireturn 1 [] H at_162 (by simp) (by rw [if_pos (by simp [parL, c171, c172, c200])]; decide) ⟨rfl, trivial⟩ all0 (by decide) (by decide)
    ·
      refine Go.icmpY (pc' := 67) H at_61 (feq c171).2 (by decide) (by decide) ?_
      refine Go.iload H at_67 rfl rfl ?_
      refine Go.iconst (2 : Int32) H at_69 rfl rfl ?_
      refine Go.icmpN H at_70 (by decide) rfl ?_
      refine Go.iload H at_73 rfl rfl ?_
      refine Go.bipush (47 : Int32) H at_75 rfl rfl ?_
      by_cases c227 : (chF b) = (47 : Int32)
      ·
        refine Go.icmpN H at_77 (teq c227).2 rfl ?_
        refine Go.iconst (1 : Int32) H at_80 rfl rfl ?_
        refine Go.istore (ls' := #[.val (.int len), .val (.int a), .val (.int b), .val (.int c), .val (.int d), .val (.int (3 : Int32)), .val (.int (chF a)), .val (.int (chF b)), .val (.int (chF c)), .val (.int (chF d)), .val (.ref a165), .val (.int (1 : Int32)), .unset, .unset]) H at_81 rfl rfl ?_
        refine Go.iload H at_83 rfl rfl ?_
        refine Go.iconst (3 : Int32) H at_85 rfl rfl ?_
        refine Go.icmpN H at_86 (by decide) rfl ?_
        refine Go.iload H at_89 rfl rfl ?_
        refine Go.bipush (47 : Int32) H at_91 rfl rfl ?_
        by_cases c228 : (chF c) = (47 : Int32)
        ·
          refine Go.icmpN H at_93 (teq c228).2 rfl ?_
          refine Go.iconst (2 : Int32) H at_96 rfl rfl ?_
          refine Go.istore (ls' := #[.val (.int len), .val (.int a), .val (.int b), .val (.int c), .val (.int d), .val (.int (3 : Int32)), .val (.int (chF a)), .val (.int (chF b)), .val (.int (chF c)), .val (.int (chF d)), .val (.ref a165), .val (.int (2 : Int32)), .unset, .unset]) H at_97 rfl rfl ?_
          refine Go.iload H at_99 rfl rfl ?_
          refine Go.iconst (4 : Int32) H at_101 rfl rfl ?_
          refine Go.icmpY (pc' := 115) H at_102 (by decide) (by decide) (by decide) ?_
          refine Go.iload H at_115 rfl rfl ?_
          refine Go.ifY (pc' := 133) H at_117 (by decide) (by decide) (by decide) ?_
          refine Go.iload H at_133 rfl rfl ?_
          refine Go.iload H at_135 rfl rfl ?_
          refine Go.iload H at_137 rfl rfl ?_
          refine Go.iload H at_139 rfl rfl ?_
          refine Go.iload H at_141 rfl rfl ?_
          refine Go.callS (rest := []) 0 [(.int (2 : Int32)), (.int (chF a)), (.int (chF b)), (.int (chF c)), (.int (chF d))] H at_143 rfl w5 w6 w3 w7 pd_N22 (ct_mk2 l W (chF a) (chF b) (chF c) (chF d) h167 (chF_l _) (chF_l _) (chF_l _) (chF_l _)) all0 rfl rfl rfl (Nat.le_of_eq rfl) (by decide) (by decide) (by decide) (by decide) nh_N0 ?_
          rintro _ h231 _ ⟨a229, b230, rfl, E232, g233, S234, rfl⟩
          have ne235 : a165 ≠ a229 := Nat.ne_of_lt (Nat.lt_of_lt_of_le S170.lt g233)
          have ne236 : b166 ≠ a229 := Nat.ne_of_lt (Nat.lt_of_lt_of_le S170.ltb g233)
          replace S170 := S170.ext E232
          show Go _ _ _ _ _ _ h231 [] 12 29 146 #[.val (.int len), .val (.int a), .val (.int b), .val (.int c), .val (.int d), .val (.int (3 : Int32)), .val (.int (chF a)), .val (.int (chF b)), .val (.int (chF c)), .val (.int (chF d)), .val (.ref a165), .val (.int (2 : Int32)), .unset, .unset] [(.ref a229)]
          refine Go.astore (ls' := #[.val (.int len), .val (.int a), .val (.int b), .val (.int c), .val (.int d), .val (.int (3 : Int32)), .val (.int (chF a)), .val (.int (chF b)), .val (.int (chF c)), .val (.int (chF d)), .val (.ref a165), .val (.int (2 : Int32)), .val (.ref a229), .unset]) H at_146 rfl rfl rfl ?_
          refine Go.aload H at_148 rfl rfl rfl ?_
          refine Go.callS (rest := []) 0 [(.ref a165)] H at_150 rfl w30 w31 w32 w33 pd_N27 (ct_par l W a165 b166 [(chF a), (chF b), (chF c)] h231 S170 (Nat.le_of_ble_eq_true rfl)) all0 rfl rfl rfl (Nat.le_of_eq rfl) (by decide) (by decide) (by decide) (by decide) nh_N27 ?_
          rintro _ h239 _ ⟨a237, b238, rfl, E240, S241, rfl⟩
          replace S170 := S170.ext E240
          replace S234 := S234.ext E240
          show Go _ _ _ _ _ _ h239 [] 14 37 153 #[.val (.int len), .val (.int a), .val (.int b), .val (.int c), .val (.int d), .val (.int (3 : Int32)), .val (.int (chF a)), .val (.int (chF b)), .val (.int (chF c)), .val (.int (chF d)), .val (.ref a165), .val (.int (2 : Int32)), .val (.ref a229), .unset] [(.ref a237)]
          refine Go.astore (ls' := #[.val (.int len), .val (.int a), .val (.int b), .val (.int c), .val (.int d), .val (.int (3 : Int32)), .val (.int (chF a)), .val (.int (chF b)), .val (.int (chF c)), .val (.int (chF d)), .val (.ref a165), .val (.int (2 : Int32)), .val (.ref a229), .val (.ref a237)]) H at_153 rfl rfl rfl ?_
          refine Go.aload H at_155 rfl rfl rfl ?_
          refine Go.aload H at_157 rfl rfl rfl ?_
          refine Go.callV (rest := []) 0 [(.ref a229)] H at_159 rfl S241.1 w72 w73 w75 w74 w10 w76 pd_N11 (ct_eq l W a237 b238 a229 b230 (parL [(chF a), (chF b), (chF c)] [(chF a), (chF b), (chF c)].length) [(chF a), (chF b)] h239 S241 S234) all0 rfl rfl rfl (Nat.le_of_eq rfl) (by decide) (by decide) (by decide) (by decide) nh_N5 ?_
          rintro _ _ _ ⟨rfl, rfl, rfl⟩
          show Go _ _ _ _ _ _ h239 [] 14 37 162 #[.val (.int len), .val (.int a), .val (.int b), .val (.int c), .val (.int d), .val (.int (3 : Int32)), .val (.int (chF a)), .val (.int (chF b)), .val (.int (chF c)), .val (.int (chF d)), .val (.ref a165), .val (.int (2 : Int32)), .val (.ref a229), .val (.ref a237)] [(.int (if (parL [(chF a), (chF b), (chF c)] [(chF a), (chF b), (chF c)].length) = [(chF a), (chF b)] then (1 : Int32) else 0))]
          exact Go.ireturn 1 [] H at_162 (by simp) (by rw [if_pos (by simp [parL, c171, c227, c228])]; decide) ⟨rfl, trivial⟩ all0 (by decide) (by decide)
        ·
          refine Go.icmpY (pc' := 99) H at_93 (feq c228).2 (by decide) (by decide) ?_
          refine Go.iload H at_99 rfl rfl ?_
          refine Go.iconst (4 : Int32) H at_101 rfl rfl ?_
          refine Go.icmpY (pc' := 115) H at_102 (by decide) (by decide) (by decide) ?_
          refine Go.iload H at_115 rfl rfl ?_
          refine Go.ifY (pc' := 133) H at_117 (by decide) (by decide) (by decide) ?_
          refine Go.iload H at_133 rfl rfl ?_
          refine Go.iload H at_135 rfl rfl ?_
          refine Go.iload H at_137 rfl rfl ?_
          refine Go.iload H at_139 rfl rfl ?_
          refine Go.iload H at_141 rfl rfl ?_
          refine Go.callS (rest := []) 0 [(.int (1 : Int32)), (.int (chF a)), (.int (chF b)), (.int (chF c)), (.int (chF d))] H at_143 rfl w5 w6 w3 w7 pd_N22 (ct_mk1 l W (chF a) (chF b) (chF c) (chF d) h167 (chF_l _) (chF_l _) (chF_l _) (chF_l _)) all0 rfl rfl rfl (Nat.le_of_eq rfl) (by decide) (by decide) (by decide) (by decide) nh_N0 ?_
          rintro _ h244 _ ⟨a242, b243, rfl, E245, g246, S247, rfl⟩
          have ne248 : a165 ≠ a242 := Nat.ne_of_lt (Nat.lt_of_lt_of_le S170.lt g246)
          have ne249 : b166 ≠ a242 := Nat.ne_of_lt (Nat.lt_of_lt_of_le S170.ltb g246)
          replace S170 := S170.ext E245
          show Go _ _ _ _ _ _ h244 [] 12 28 146 #[.val (.int len), .val (.int a), .val (.int b), .val (.int c), .val (.int d), .val (.int (3 : Int32)), .val (.int (chF a)), .val (.int (chF b)), .val (.int (chF c)), .val (.int (chF d)), .val (.ref a165), .val (.int (1 : Int32)), .unset, .unset] [(.ref a242)]
          refine Go.astore (ls' := #[.val (.int len), .val (.int a), .val (.int b), .val (.int c), .val (.int d), .val (.int (3 : Int32)), .val (.int (chF a)), .val (.int (chF b)), .val (.int (chF c)), .val (.int (chF d)), .val (.ref a165), .val (.int (1 : Int32)), .val (.ref a242), .unset]) H at_146 rfl rfl rfl ?_
          refine Go.aload H at_148 rfl rfl rfl ?_
          refine Go.callS (rest := []) 0 [(.ref a165)] H at_150 rfl w30 w31 w32 w33 pd_N27 (ct_par l W a165 b166 [(chF a), (chF b), (chF c)] h244 S170 (Nat.le_of_ble_eq_true rfl)) all0 rfl rfl rfl (Nat.le_of_eq rfl) (by decide) (by decide) (by decide) (by decide) nh_N27 ?_
          rintro _ h252 _ ⟨a250, b251, rfl, E253, S254, rfl⟩
          replace S170 := S170.ext E253
          replace S247 := S247.ext E253
          show Go _ _ _ _ _ _ h252 [] 14 36 153 #[.val (.int len), .val (.int a), .val (.int b), .val (.int c), .val (.int d), .val (.int (3 : Int32)), .val (.int (chF a)), .val (.int (chF b)), .val (.int (chF c)), .val (.int (chF d)), .val (.ref a165), .val (.int (1 : Int32)), .val (.ref a242), .unset] [(.ref a250)]
          refine Go.astore (ls' := #[.val (.int len), .val (.int a), .val (.int b), .val (.int c), .val (.int d), .val (.int (3 : Int32)), .val (.int (chF a)), .val (.int (chF b)), .val (.int (chF c)), .val (.int (chF d)), .val (.ref a165), .val (.int (1 : Int32)), .val (.ref a242), .val (.ref a250)]) H at_153 rfl rfl rfl ?_
          refine Go.aload H at_155 rfl rfl rfl ?_
          refine Go.aload H at_157 rfl rfl rfl ?_
          refine Go.callV (rest := []) 0 [(.ref a242)] H at_159 rfl S254.1 w72 w73 w75 w74 w10 w76 pd_N11 (ct_eq l W a250 b251 a242 b243 (parL [(chF a), (chF b), (chF c)] [(chF a), (chF b), (chF c)].length) [(chF a)] h252 S254 S247) all0 rfl rfl rfl (Nat.le_of_eq rfl) (by decide) (by decide) (by decide) (by decide) nh_N5 ?_
          rintro _ _ _ ⟨rfl, rfl, rfl⟩
          show Go _ _ _ _ _ _ h252 [] 14 36 162 #[.val (.int len), .val (.int a), .val (.int b), .val (.int c), .val (.int d), .val (.int (3 : Int32)), .val (.int (chF a)), .val (.int (chF b)), .val (.int (chF c)), .val (.int (chF d)), .val (.ref a165), .val (.int (1 : Int32)), .val (.ref a242), .val (.ref a250)] [(.int (if (parL [(chF a), (chF b), (chF c)] [(chF a), (chF b), (chF c)].length) = [(chF a)] then (1 : Int32) else 0))]
          exact Go.ireturn 1 [] H at_162 (by simp) (by rw [if_pos (by simp [parL, c171, c227, c228])]; decide) ⟨rfl, trivial⟩ all0 (by decide) (by decide)
      ·
        refine Go.icmpY (pc' := 83) H at_77 (feq c227).2 (by decide) (by decide) ?_
        refine Go.iload H at_83 rfl rfl ?_
        refine Go.iconst (3 : Int32) H at_85 rfl rfl ?_
        refine Go.icmpN H at_86 (by decide) rfl ?_
        refine Go.iload H at_89 rfl rfl ?_
        refine Go.bipush (47 : Int32) H at_91 rfl rfl ?_
        by_cases c255 : (chF c) = (47 : Int32)
        ·
          refine Go.icmpN H at_93 (teq c255).2 rfl ?_
          refine Go.iconst (2 : Int32) H at_96 rfl rfl ?_
          refine Go.istore (ls' := #[.val (.int len), .val (.int a), .val (.int b), .val (.int c), .val (.int d), .val (.int (3 : Int32)), .val (.int (chF a)), .val (.int (chF b)), .val (.int (chF c)), .val (.int (chF d)), .val (.ref a165), .val (.int (2 : Int32)), .unset, .unset]) H at_97 rfl rfl ?_
          refine Go.iload H at_99 rfl rfl ?_
          refine Go.iconst (4 : Int32) H at_101 rfl rfl ?_
          refine Go.icmpY (pc' := 115) H at_102 (by decide) (by decide) (by decide) ?_
          refine Go.iload H at_115 rfl rfl ?_
          refine Go.ifY (pc' := 133) H at_117 (by decide) (by decide) (by decide) ?_
          refine Go.iload H at_133 rfl rfl ?_
          refine Go.iload H at_135 rfl rfl ?_
          refine Go.iload H at_137 rfl rfl ?_
          refine Go.iload H at_139 rfl rfl ?_
          refine Go.iload H at_141 rfl rfl ?_
          refine Go.callS (rest := []) 0 [(.int (2 : Int32)), (.int (chF a)), (.int (chF b)), (.int (chF c)), (.int (chF d))] H at_143 rfl w5 w6 w3 w7 pd_N22 (ct_mk2 l W (chF a) (chF b) (chF c) (chF d) h167 (chF_l _) (chF_l _) (chF_l _) (chF_l _)) all0 rfl rfl rfl (Nat.le_of_eq rfl) (by decide) (by decide) (by decide) (by decide) nh_N0 ?_
          rintro _ h258 _ ⟨a256, b257, rfl, E259, g260, S261, rfl⟩
          have ne262 : a165 ≠ a256 := Nat.ne_of_lt (Nat.lt_of_lt_of_le S170.lt g260)
          have ne263 : b166 ≠ a256 := Nat.ne_of_lt (Nat.lt_of_lt_of_le S170.ltb g260)
          replace S170 := S170.ext E259
          show Go _ _ _ _ _ _ h258 [] 12 29 146 #[.val (.int len), .val (.int a), .val (.int b), .val (.int c), .val (.int d), .val (.int (3 : Int32)), .val (.int (chF a)), .val (.int (chF b)), .val (.int (chF c)), .val (.int (chF d)), .val (.ref a165), .val (.int (2 : Int32)), .unset, .unset] [(.ref a256)]
          refine Go.astore (ls' := #[.val (.int len), .val (.int a), .val (.int b), .val (.int c), .val (.int d), .val (.int (3 : Int32)), .val (.int (chF a)), .val (.int (chF b)), .val (.int (chF c)), .val (.int (chF d)), .val (.ref a165), .val (.int (2 : Int32)), .val (.ref a256), .unset]) H at_146 rfl rfl rfl ?_
          refine Go.aload H at_148 rfl rfl rfl ?_
          refine Go.callS (rest := []) 0 [(.ref a165)] H at_150 rfl w30 w31 w32 w33 pd_N27 (ct_par l W a165 b166 [(chF a), (chF b), (chF c)] h258 S170 (Nat.le_of_ble_eq_true rfl)) all0 rfl rfl rfl (Nat.le_of_eq rfl) (by decide) (by decide) (by decide) (by decide) nh_N27 ?_
          rintro _ h266 _ ⟨a264, b265, rfl, E267, S268, rfl⟩
          replace S170 := S170.ext E267
          replace S261 := S261.ext E267
          show Go _ _ _ _ _ _ h266 [] 14 37 153 #[.val (.int len), .val (.int a), .val (.int b), .val (.int c), .val (.int d), .val (.int (3 : Int32)), .val (.int (chF a)), .val (.int (chF b)), .val (.int (chF c)), .val (.int (chF d)), .val (.ref a165), .val (.int (2 : Int32)), .val (.ref a256), .unset] [(.ref a264)]
          refine Go.astore (ls' := #[.val (.int len), .val (.int a), .val (.int b), .val (.int c), .val (.int d), .val (.int (3 : Int32)), .val (.int (chF a)), .val (.int (chF b)), .val (.int (chF c)), .val (.int (chF d)), .val (.ref a165), .val (.int (2 : Int32)), .val (.ref a256), .val (.ref a264)]) H at_153 rfl rfl rfl ?_
          refine Go.aload H at_155 rfl rfl rfl ?_
          refine Go.aload H at_157 rfl rfl rfl ?_
          refine Go.callV (rest := []) 0 [(.ref a256)] H at_159 rfl S268.1 w72 w73 w75 w74 w10 w76 pd_N11 (ct_eq l W a264 b265 a256 b257 (parL [(chF a), (chF b), (chF c)] [(chF a), (chF b), (chF c)].length) [(chF a), (chF b)] h266 S268 S261) all0 rfl rfl rfl (Nat.le_of_eq rfl) (by decide) (by decide) (by decide) (by decide) nh_N5 ?_
          rintro _ _ _ ⟨rfl, rfl, rfl⟩
          show Go _ _ _ _ _ _ h266 [] 14 37 162 #[.val (.int len), .val (.int a), .val (.int b), .val (.int c), .val (.int d), .val (.int (3 : Int32)), .val (.int (chF a)), .val (.int (chF b)), .val (.int (chF c)), .val (.int (chF d)), .val (.ref a165), .val (.int (2 : Int32)), .val (.ref a256), .val (.ref a264)] [(.int (if (parL [(chF a), (chF b), (chF c)] [(chF a), (chF b), (chF c)].length) = [(chF a), (chF b)] then (1 : Int32) else 0))]
          exact Go.ireturn 1 [] H at_162 (by simp) (by rw [if_pos (by simp [parL, c171, c227, c255])]; decide) ⟨rfl, trivial⟩ all0 (by decide) (by decide)
        ·
          refine Go.icmpY (pc' := 99) H at_93 (feq c255).2 (by decide) (by decide) ?_
          refine Go.iload H at_99 rfl rfl ?_
          refine Go.iconst (4 : Int32) H at_101 rfl rfl ?_
          refine Go.icmpY (pc' := 115) H at_102 (by decide) (by decide) (by decide) ?_
          refine Go.iload H at_115 rfl rfl ?_
          refine Go.ifN H at_117 (by decide) rfl ?_
          refine Go.new H at_120 rfl w8 w9 w10 (by decide) (by decide) ?_
          intro a269 h270 g271 z272 E273 A274 D275
          have ne276 : a165 ≠ a269 := Nat.ne_of_lt (Nat.lt_of_lt_of_le S170.lt (Nat.le_of_eq g271.symm))
          have ne277 : b166 ≠ a269 := Nat.ne_of_lt (Nat.lt_of_lt_of_le S170.ltb (Nat.le_of_eq g271.symm))
          replace S170 := S170.ext E273
          have F278 : Fld Z h270 a269 "java/lang/String" "value" "[B" .null := D275 (Or.inr w24) (ty := (.array .byte)) (by decide)
          have F279 : Fld Z h270 a269 "java/lang/String" "coder" "B" (.int (0 : Int32)) := D275 (Or.inr w25) (ty := .byte) (by decide)
          show Go _ _ _ _ _ _ h270 [a269] 7 19 123 #[.val (.int len), .val (.int a), .val (.int b), .val (.int c), .val (.int d), .val (.int (3 : Int32)), .val (.int (chF a)), .val (.int (chF b)), .val (.int (chF c)), .val (.int (chF d)), .val (.ref a165), .val (.int (-1 : Int32)), .unset, .unset] [(.ref a269)]
          refine Go.dup H at_123 rfl rfl ?_
          refine Go.iconst (0 : Int32) H at_124 rfl rfl ?_
          refine Go.newarray 0 0 H at_125 rfl w11 rfl (by decide) (by decide) (by decide) (by decide) (by decide) (by decide) (by decide) ?_
          intro a280 h281 g282 z283 E284 F285
          have ne286 : a165 ≠ a280 := Nat.ne_of_lt (Nat.lt_of_lt_of_le S170.lt (Nat.le_of_eq g282.symm))
          have ne287 : b166 ≠ a280 := Nat.ne_of_lt (Nat.lt_of_lt_of_le S170.ltb (Nat.le_of_eq g282.symm))
          have ne288 : a269 ≠ a280 := Nat.ne_of_lt (Nat.lt_of_lt_of_le A274.lt (Nat.le_of_eq g282.symm))
          replace S170 := S170.ext E284
          replace A274 := A274.ext E284
          replace F278 := F278.ext E284
          replace F279 := F279.ext E284
          replace F285 : Vec Z h281 a280 .char [] := F285
          show Go _ _ _ _ _ _ h281 [a280, a269] 8 19 127 #[.val (.int len), .val (.int a), .val (.int b), .val (.int c), .val (.int d), .val (.int (3 : Int32)), .val (.int (chF a)), .val (.int (chF b)), .val (.int (chF c)), .val (.int (chF d)), .val (.ref a165), .val (.int (-1 : Int32)), .unset, .unset] [(.ref a280), (.ref a269), (.ref a269)]
          refine Go.callI (rest := [(.ref a269)]) 1 [(.ref a280)] H at_127 rfl rfl w12 w13 w10 w14 pd_N6 (ct_new1 l W a269 a280 ([] : List Int32) h281 A274 F278 F279 F285 own_an (Nat.le_of_ble_eq_true rfl)  z272) (by simp) rfl rfl rfl (Nat.le_of_eq rfl) (by decide) (by decide) (by decide) (by decide) nh_N5 ?_
          rintro _ h289 _ ⟨rfl, K290, ⟨b291, S293⟩, rfl⟩
          replace S170 := S170.keep K290 (ninS ne276 nin0) (ninS ne277 nin0)
          replace F285 := F285.keep K290 (ninS (Ne.symm ne288) nin0)
          show Go _ _ _ _ _ _ h289 [a280, a269] 12 27 130 #[.val (.int len), .val (.int a), .val (.int b), .val (.int c), .val (.int d), .val (.int (3 : Int32)), .val (.int (chF a)), .val (.int (chF b)), .val (.int (chF c)), .val (.int (chF d)), .val (.ref a165), .val (.int (-1 : Int32)), .unset, .unset] [(.ref a269)]
          refine Go.goto (pc' := 146) H at_130 (by decide) (by decide) ?_
          refine Go.astore (ls' := #[.val (.int len), .val (.int a), .val (.int b), .val (.int c), .val (.int d), .val (.int (3 : Int32)), .val (.int (chF a)), .val (.int (chF b)), .val (.int (chF c)), .val (.int (chF d)), .val (.ref a165), .val (.int (-1 : Int32)), .val (.ref a269), .unset]) H at_146 rfl rfl rfl ?_
          refine Go.aload H at_148 rfl rfl rfl ?_
          refine Go.callS (rest := []) 0 [(.ref a165)] H at_150 rfl w30 w31 w32 w33 pd_N27 (ct_par l W a165 b166 [(chF a), (chF b), (chF c)] h289 S170 (Nat.le_of_ble_eq_true rfl)) all0 rfl rfl rfl (Nat.le_of_eq rfl) (by decide) (by decide) (by decide) (by decide) nh_N27 ?_
          rintro _ h296 _ ⟨a294, b295, rfl, E297, S298, rfl⟩
          replace S170 := S170.ext E297
          replace F285 := F285.ext E297
          replace S293 := S293.ext E297
          show Go _ _ _ _ _ _ h296 [a280, a269] 14 35 153 #[.val (.int len), .val (.int a), .val (.int b), .val (.int c), .val (.int d), .val (.int (3 : Int32)), .val (.int (chF a)), .val (.int (chF b)), .val (.int (chF c)), .val (.int (chF d)), .val (.ref a165), .val (.int (-1 : Int32)), .val (.ref a269), .unset] [(.ref a294)]
          refine Go.astore (ls' := #[.val (.int len), .val (.int a), .val (.int b), .val (.int c), .val (.int d), .val (.int (3 : Int32)), .val (.int (chF a)), .val (.int (chF b)), .val (.int (chF c)), .val (.int (chF d)), .val (.ref a165), .val (.int (-1 : Int32)), .val (.ref a269), .val (.ref a294)]) H at_153 rfl rfl rfl ?_
          refine Go.aload H at_155 rfl rfl rfl ?_
          refine Go.aload H at_157 rfl rfl rfl ?_
          refine Go.callV (rest := []) 0 [(.ref a269)] H at_159 rfl S298.1 w72 w73 w75 w74 w10 w76 pd_N11 (ct_eq l W a294 b295 a269 b291 (parL [(chF a), (chF b), (chF c)] [(chF a), (chF b), (chF c)].length) ([] : List Int32) h296 S298 S293) all0 rfl rfl rfl (Nat.le_of_eq rfl) (by decide) (by decide) (by decide) (by decide) nh_N5 ?_
          rintro _ _ _ ⟨rfl, rfl, rfl⟩
          show Go _ _ _ _ _ _ h296 [a280, a269] 14 35 162 #[.val (.int len), .val (.int a), .val (.int b), .val (.int c), .val (.int d), .val (.int (3 : Int32)), .val (.int (chF a)), .val (.int (chF b)), .val (.int (chF c)), .val (.int (chF d)), .val (.ref a165), .val (.int (-1 : Int32)), .val (.ref a269), .val (.ref a294)] [(.int (if (parL [(chF a), (chF b), (chF c)] [(chF a), (chF b), (chF c)].length) = ([] : List Int32) then (1 : Int32) else 0))]
          exact Go.ireturn 1 [] H at_162 (by simp) (by rw [if_pos (by simp [parL, c171, c227, c255])]; decide) ⟨rfl, trivial⟩ all0 (by decide) (by decide)
  ·
    show Go _ _ _ _ _ _ h [] 0 0 33 #[.val (.int len), .val (.int a), .val (.int b), .val (.int c), .val (.int d), .val (.int (4 : Int32)), .val (.int (chF a)), .val (.int (chF b)), .val (.int (chF c)), .val (.int (chF d)), .unset, .unset, .unset, .unset] []
    refine Go.iload H at_33 rfl rfl ?_
    refine Go.iload H at_35 rfl rfl ?_
    refine Go.iload H at_37 rfl rfl ?_
    refine Go.iload H at_39 rfl rfl ?_
    refine Go.iload H at_41 rfl rfl ?_
    refine Go.callS (rest := []) 0 [(.int (4 : Int32)), (.int (chF a)), (.int (chF b)), (.int (chF c)), (.int (chF d))] H at_43 rfl w5 w6 w3 w7 pd_N22 (ct_mk4 l W (chF a) (chF b) (chF c) (chF d) h (chF_l _) (chF_l _) (chF_l _) (chF_l _)) all0 rfl rfl rfl (Nat.le_of_eq rfl) (by decide) (by decide) (by decide) (by decide) nh_N0 ?_
    rintro _ h301 _ ⟨a299, b300, rfl, E302, g303, S304, rfl⟩
    show Go _ _ _ _ _ _ h301 [] 6 16 46 #[.val (.int len), .val (.int a), .val (.int b), .val (.int c), .val (.int d), .val (.int (4 : Int32)), .val (.int (chF a)), .val (.int (chF b)), .val (.int (chF c)), .val (.int (chF d)), .unset, .unset, .unset, .unset] [(.ref a299)]
    refine Go.astore (ls' := #[.val (.int len), .val (.int a), .val (.int b), .val (.int c), .val (.int d), .val (.int (4 : Int32)), .val (.int (chF a)), .val (.int (chF b)), .val (.int (chF c)), .val (.int (chF d)), .val (.ref a299), .unset, .unset, .unset]) H at_46 rfl rfl rfl ?_
    refine Go.iconst (-1 : Int32) H at_48 rfl rfl ?_
    refine Go.istore (ls' := #[.val (.int len), .val (.int a), .val (.int b), .val (.int c), .val (.int d), .val (.int (4 : Int32)), .val (.int (chF a)), .val (.int (chF b)), .val (.int (chF c)), .val (.int (chF d)), .val (.ref a299), .val (.int (-1 : Int32)), .unset, .unset]) H at_49 rfl rfl ?_
    refine Go.iload H at_51 rfl rfl ?_
    refine Go.iconst (1 : Int32) H at_53 rfl rfl ?_
    refine Go.icmpN H at_54 (by decide) rfl ?_
    refine Go.iload H at_57 rfl rfl ?_
    refine Go.bipush (47 : Int32) H at_59 rfl rfl ?_
    by_cases c305 : (chF a) = (47 : Int32)
    ·
      refine Go.icmpN H at_61 (teq c305).2 rfl ?_
      refine Go.iconst (0 : Int32) H at_64 rfl rfl ?_
      refine Go.istore (ls' := #[.val (.int len), .val (.int a), .val (.int b), .val (.int c), .val (.int d), .val (.int (4 : Int32)), .val (.int (chF a)), .val (.int (chF b)), .val (.int (chF c)), .val (.int (chF d)), .val (.ref a299), .val (.int (0 : Int32)), .unset, .unset]) H at_65 rfl rfl ?_
      refine Go.iload H at_67 rfl rfl ?_
      refine Go.iconst (2 : Int32) H at_69 rfl rfl ?_
      refine Go.icmpN H at_70 (by decide) rfl ?_
      refine Go.iload H at_73 rfl rfl ?_
      refine Go.bipush (47 : Int32) H at_75 rfl rfl ?_
      by_cases c306 : (chF b) = (47 : Int32)
      ·
        refine Go.icmpN H at_77 (teq c306).2 rfl ?_
        refine Go.iconst (1 : Int32) H at_80 rfl rfl ?_
        refine Go.istore (ls' := #[.val (.int len), .val (.int a), .val (.int b), .val (.int c), .val (.int d), .val (.int (4 : Int32)), .val (.int (chF a)), .val (.int (chF b)), .val (.int (chF c)), .val (.int (chF d)), .val (.ref a299), .val (.int (1 : Int32)), .unset, .unset]) H at_81 rfl rfl ?_
        refine Go.iload H at_83 rfl rfl ?_
        refine Go.iconst (3 : Int32) H at_85 rfl rfl ?_
        refine Go.icmpN H at_86 (by decide) rfl ?_
        refine Go.iload H at_89 rfl rfl ?_
        refine Go.bipush (47 : Int32) H at_91 rfl rfl ?_
        by_cases c307 : (chF c) = (47 : Int32)
        ·
          refine Go.icmpN H at_93 (teq c307).2 rfl ?_
          refine Go.iconst (2 : Int32) H at_96 rfl rfl ?_
          refine Go.istore (ls' := #[.val (.int len), .val (.int a), .val (.int b), .val (.int c), .val (.int d), .val (.int (4 : Int32)), .val (.int (chF a)), .val (.int (chF b)), .val (.int (chF c)), .val (.int (chF d)), .val (.ref a299), .val (.int (2 : Int32)), .unset, .unset]) H at_97 rfl rfl ?_
          refine Go.iload H at_99 rfl rfl ?_
          refine Go.iconst (4 : Int32) H at_101 rfl rfl ?_
          refine Go.icmpN H at_102 (by decide) rfl ?_
          refine Go.iload H at_105 rfl rfl ?_
          refine Go.bipush (47 : Int32) H at_107 rfl rfl ?_
          by_cases c308 : (chF d) = (47 : Int32)
          ·
            refine Go.icmpN H at_109 (teq c308).2 rfl ?_
            refine Go.iconst (3 : Int32) H at_112 rfl rfl ?_
            refine Go.istore (ls' := #[.val (.int len), .val (.int a), .val (.int b), .val (.int c), .val (.int d), .val (.int (4 : Int32)), .val (.int (chF a)), .val (.int (chF b)), .val (.int (chF c)), .val (.int (chF d)), .val (.ref a299), .val (.int (3 : Int32)), .unset, .unset]) H at_113 rfl rfl ?_
            refine Go.iload H at_115 rfl rfl ?_
            refine Go.ifY (pc' := 133) H at_117 (by decide) (by decide) (by decide) ?_
            refine Go.iload H at_133 rfl rfl ?_
            refine Go.iload H at_135 rfl rfl ?_
            refine Go.iload H at_137 rfl rfl ?_
            refine Go.iload H at_139 rfl rfl ?_
            refine Go.iload H at_141 rfl rfl ?_
            refine Go.callS (rest := []) 0 [(.int (3 : Int32)), (.int (chF a)), (.int (chF b)), (.int (chF c)), (.int (chF d))] H at_143 rfl w5 w6 w3 w7 pd_N22 (ct_mk3 l W (chF a) (chF b) (chF c) (chF d) h301 (chF_l _) (chF_l _) (chF_l _) (chF_l _)) all0 rfl rfl rfl (Nat.le_of_eq rfl) (by decide) (by decide) (by decide) (by decide) nh_N0 ?_
            rintro _ h311 _ ⟨a309, b310, rfl, E312, g313, S314, rfl⟩
            have ne315 : a299 ≠ a309 := Nat.ne_of_lt (Nat.lt_of_lt_of_le S304.lt g313)
            have ne316 : b300 ≠ a309 := Nat.ne_of_lt (Nat.lt_of_lt_of_le S304.ltb g313)
            replace S304 := S304.ext E312
            show Go _ _ _ _ _ _ h311 [] 12 31 146 #[.val (.int len), .val (.int a), .val (.int b), .val (.int c), .val (.int d), .val (.int (4 : Int32)), .val (.int (chF a)), .val (.int (chF b)), .val (.int (chF c)), .val (.int (chF d)), .val (.ref a299), .val (.int (3 : Int32)), .unset, .unset] [(.ref a309)]
            refine Go.astore (ls' := #[.val (.int len), .val (.int a), .val (.int b), .val (.int c), .val (.int d), .val (.int (4 : Int32)), .val (.int (chF a)), .val (.int (chF b)), .val (.int (chF c)), .val (.int (chF d)), .val (.ref a299), .val (.int (3 : Int32)), .val (.ref a309), .unset]) H at_146 rfl rfl rfl ?_
            refine Go.aload H at_148 rfl rfl rfl ?_
            refine Go.callS (rest := []) 0 [(.ref a299)] H at_150 rfl w30 w31 w32 w33 pd_N27 (ct_par l W a299 b300 [(chF a), (chF b), (chF c), (chF d)] h311 S304 (Nat.le_of_ble_eq_true rfl)) all0 rfl rfl rfl (Nat.le_of_eq rfl) (by decide) (by decide) (by decide) (by decide) nh_N27 ?_
            rintro _ h319 _ ⟨a317, b318, rfl, E320, S321, rfl⟩
            replace S304 := S304.ext E320
            replace S314 := S314.ext E320
            show Go _ _ _ _ _ _ h319 [] 14 39 153 #[.val (.int len), .val (.int a), .val (.int b), .val (.int c), .val (.int d), .val (.int (4 : Int32)), .val (.int (chF a)), .val (.int (chF b)), .val (.int (chF c)), .val (.int (chF d)), .val (.ref a299), .val (.int (3 : Int32)), .val (.ref a309), .unset] [(.ref a317)]
            refine Go.astore (ls' := #[.val (.int len), .val (.int a), .val (.int b), .val (.int c), .val (.int d), .val (.int (4 : Int32)), .val (.int (chF a)), .val (.int (chF b)), .val (.int (chF c)), .val (.int (chF d)), .val (.ref a299), .val (.int (3 : Int32)), .val (.ref a309), .val (.ref a317)]) H at_153 rfl rfl rfl ?_
            refine Go.aload H at_155 rfl rfl rfl ?_
            refine Go.aload H at_157 rfl rfl rfl ?_
            refine Go.callV (rest := []) 0 [(.ref a309)] H at_159 rfl S321.1 w72 w73 w75 w74 w10 w76 pd_N11 (ct_eq l W a317 b318 a309 b310 (parL [(chF a), (chF b), (chF c), (chF d)] [(chF a), (chF b), (chF c), (chF d)].length) [(chF a), (chF b), (chF c)] h319 S321 S314) all0 rfl rfl rfl (Nat.le_of_eq rfl) (by decide) (by decide) (by decide) (by decide) nh_N5 ?_
            rintro _ _ _ ⟨rfl, rfl, rfl⟩
            show Go _ _ _ _ _ _ h319 [] 14 39 162 #[.val (.int len), .val (.int a), .val (.int b), .val (.int c), .val (.int d), .val (.int (4 : Int32)), .val (.int (chF a)), .val (.int (chF b)), .val (.int (chF c)), .val (.int (chF d)), .val (.ref a299), .val (.int (3 : Int32)), .val (.ref a309), .val (.ref a317)] [(.int (if (parL [(chF a), (chF b), (chF c), (chF d)] [(chF a), (chF b), (chF c), (chF d)].length) = [(chF a), (chF b), (chF c)] then (1 : Int32) else 0))]
            exact Go.ireturn 1 [] H at_162 (by simp) (by rw [if_pos (by simp [parL, c305, c306, c307, c308])]; decide) ⟨rfl, trivial⟩ all0 (by decide) (by decide)
          ·
            refine Go.icmpY (pc' := 115) H at_109 (feq c308).2 (by decide) (by decide) ?_
            refine Go.iload H at_115 rfl rfl ?_
            refine Go.ifY (pc' := 133) H at_117 (by decide) (by decide) (by decide) ?_
            refine Go.iload H at_133 rfl rfl ?_
            refine Go.iload H at_135 rfl rfl ?_
            refine Go.iload H at_137 rfl rfl ?_
            refine Go.iload H at_139 rfl rfl ?_
            refine Go.iload H at_141 rfl rfl ?_
            refine Go.callS (rest := []) 0 [(.int (2 : Int32)), (.int (chF a)), (.int (chF b)), (.int (chF c)), (.int (chF d))] H at_143 rfl w5 w6 w3 w7 pd_N22 (ct_mk2 l W (chF a) (chF b) (chF c) (chF d) h301 (chF_l _) (chF_l _) (chF_l _) (chF_l _)) all0 rfl rfl rfl (Nat.le_of_eq rfl) (by decide) (by decide) (by decide) (by decide) nh_N0 ?_
            rintro _ h324 _ ⟨a322, b323, rfl, E325, g326, S327, rfl⟩
            have ne328 : a299 ≠ a322 := Nat.ne_of_lt (Nat.lt_of_lt_of_le S304.lt g326)
            have ne329 : b300 ≠ a322 := Nat.ne_of_lt (Nat.lt_of_lt_of_le S304.ltb g326)
            replace S304 := S304.ext E325
            show Go _ _ _ _ _ _ h324 [] 12 30 146 #[.val (.int len), .val (.int a), .val (.int b), .val (.int c), .val (.int d), .val (.int (4 : Int32)), .val (.int (chF a)), .val (.int (chF b)), .val (.int (chF c)), .val (.int (chF d)), .val (.ref a299), .val (.int (2 : Int32)), .unset, .unset] [(.ref a322)]
            refine Go.astore (ls' := #[.val (.int len), .val (.int a), .val (.int b), .val (.int c), .val (.int d), .val (.int (4 : Int32)), .val (.int (chF a)), .val (.int (chF b)), .val (.int (chF c)), .val (.int (chF d)), .val (.ref a299), .val (.int (2 : Int32)), .val (.ref a322), .unset]) H at_146 rfl rfl rfl ?_
            refine Go.aload H at_148 rfl rfl rfl ?_
            refine Go.callS (rest := []) 0 [(.ref a299)] H at_150 rfl w30 w31 w32 w33 pd_N27 (ct_par l W a299 b300 [(chF a), (chF b), (chF c), (chF d)] h324 S304 (Nat.le_of_ble_eq_true rfl)) all0 rfl rfl rfl (Nat.le_of_eq rfl) (by decide) (by decide) (by decide) (by decide) nh_N27 ?_
            rintro _ h332 _ ⟨a330, b331, rfl, E333, S334, rfl⟩
            replace S304 := S304.ext E333
            replace S327 := S327.ext E333
            show Go _ _ _ _ _ _ h332 [] 14 38 153 #[.val (.int len), .val (.int a), .val (.int b), .val (.int c), .val (.int d), .val (.int (4 : Int32)), .val (.int (chF a)), .val (.int (chF b)), .val (.int (chF c)), .val (.int (chF d)), .val (.ref a299), .val (.int (2 : Int32)), .val (.ref a322), .unset] [(.ref a330)]
            refine Go.astore (ls' := #[.val (.int len), .val (.int a), .val (.int b), .val (.int c), .val (.int d), .val (.int (4 : Int32)), .val (.int (chF a)), .val (.int (chF b)), .val (.int (chF c)), .val (.int (chF d)), .val (.ref a299), .val (.int (2 : Int32)), .val (.ref a322), .val (.ref a330)]) H at_153 rfl rfl rfl ?_
            refine Go.aload H at_155 rfl rfl rfl ?_
            refine Go.aload H at_157 rfl rfl rfl ?_
            refine Go.callV (rest := []) 0 [(.ref a322)] H at_159 rfl S334.1 w72 w73 w75 w74 w10 w76 pd_N11 (ct_eq l W a330 b331 a322 b323 (parL [(chF a), (chF b), (chF c), (chF d)] [(chF a), (chF b), (chF c), (chF d)].length) [(chF a), (chF b)] h332 S334 S327) all0 rfl rfl rfl (Nat.le_of_eq rfl) (by decide) (by decide) (by decide) (by decide) nh_N5 ?_
            rintro _ _ _ ⟨rfl, rfl, rfl⟩
            show Go _ _ _ _ _ _ h332 [] 14 38 162 #[.val (.int len), .val (.int a), .val (.int b), .val (.int c), .val (.int d), .val (.int (4 : Int32)), .val (.int (chF a)), .val (.int (chF b)), .val (.int (chF c)), .val (.int (chF d)), .val (.ref a299), .val (.int (2 : Int32)), .val (.ref a322), .val (.ref a330)] [(.int (if (parL [(chF a), (chF b), (chF c), (chF d)] [(chF a), (chF b), (chF c), (chF d)].length) = [(chF a), (chF b)] then (1 : Int32) else 0))]
            exact Go.ireturn 1 [] H at_162 (by simp) (by rw [if_pos (by simp [parL, c305, c306, c307, c308])]; decide) ⟨rfl, trivial⟩ all0 (by decide) (by decide)
        ·
          refine Go.icmpY (pc' := 99) H at_93 (feq c307).2 (by decide) (by decide) ?_
          refine Go.iload H at_99 rfl rfl ?_
          refine Go.iconst (4 : Int32) H at_101 rfl rfl ?_
          refine Go.icmpN H at_102 (by decide) rfl ?_
          refine Go.iload H at_105 rfl rfl ?_
          refine Go.bipush (47 : Int32) H at_107 rfl rfl ?_
          by_cases c335 : (chF d) = (47 : Int32)
          ·
            refine Go.icmpN H at_109 (teq c335).2 rfl ?_
            refine Go.iconst (3 : Int32) H at_112 rfl rfl ?_
            refine Go.istore (ls' := #[.val (.int len), .val (.int a), .val (.int b), .val (.int c), .val (.int d), .val (.int (4 : Int32)), .val (.int (chF a)), .val (.int (chF b)), .val (.int (chF c)), .val (.int (chF d)), .val (.ref a299), .val (.int (3 : Int32)), .unset, .unset]) H at_113 rfl rfl ?_
            refine Go.iload H at_115 rfl rfl ?_
            refine Go.ifY (pc' := 133) H at_117 (by decide) (by decide) (by decide) ?_
            refine Go.iload H at_133 rfl rfl ?_
            refine Go.iload H at_135 rfl rfl ?_
            refine Go.iload H at_137 rfl rfl ?_
            refine Go.iload H at_139 rfl rfl ?_
            refine Go.iload H at_141 rfl rfl ?_
            refine Go.callS (rest := []) 0 [(.int (3 : Int32)), (.int (chF a)), (.int (chF b)), (.int (chF c)), (.int (chF d))] H at_143 rfl w5 w6 w3 w7 pd_N22 (ct_mk3 l W (chF a) (chF b) (chF c) (chF d) h301 (chF_l _) (chF_l _) (chF_l _) (chF_l _)) all0 rfl rfl rfl (Nat.le_of_eq rfl) (by decide) (by decide) (by decide) (by decide) nh_N0 ?_
            rintro _ h338 _ ⟨a336, b337, rfl, E339, g340, S341, rfl⟩
            have ne342 : a299 ≠ a336 := Nat.ne_of_lt (Nat.lt_of_lt_of_le S304.lt g340)
            have ne343 : b300 ≠ a336 := Nat.ne_of_lt (Nat.lt_of_lt_of_le S304.ltb g340)
            replace S304 := S304.ext E339
            show Go _ _ _ _ _ _ h338 [] 12 31 146 #[.val (.int len), .val (.int a), .val (.int b), .val (.int c), .val (.int d), .val (.int (4 : Int32)), .val (.int (chF a)), .val (.int (chF b)), .val (.int (chF c)), .val (.int (chF d)), .val (.ref a299), .val (.int (3 : Int32)), .unset, .unset] [(.ref a336)]
            refine Go.astore (ls' := #[.val (.int len), .val (.int a), .val (.int b), .val (.int c), .val (.int d), .val (.int (4 : Int32)), .val (.int (chF a)), .val (.int (chF b)), .val (.int (chF c)), .val (.int (chF d)), .val (.ref a299), .val (.int (3 : Int32)), .val (.ref a336), .unset]) H at_146 rfl rfl rfl ?_
            refine Go.aload H at_148 rfl rfl rfl ?_
            refine Go.callS (rest := []) 0 [(.ref a299)] H at_150 rfl w30 w31 w32 w33 pd_N27 (ct_par l W a299 b300 [(chF a), (chF b), (chF c), (chF d)] h338 S304 (Nat.le_of_ble_eq_true rfl)) all0 rfl rfl rfl (Nat.le_of_eq rfl) (by decide) (by decide) (by decide) (by decide) nh_N27 ?_
            rintro _ h346 _ ⟨a344, b345, rfl, E347, S348, rfl⟩
            replace S304 := S304.ext E347
            replace S341 := S341.ext E347
            show Go _ _ _ _ _ _ h346 [] 14 39 153 #[.val (.int len), .val (.int a), .val (.int b), .val (.int c), .val (.int d), .val (.int (4 : Int32)), .val (.int (chF a)), .val (.int (chF b)), .val (.int (chF c)), .val (.int (chF d)), .val (.ref a299), .val (.int (3 : Int32)), .val (.ref a336), .unset] [(.ref a344)]
            refine Go.astore (ls' := #[.val (.int len), .val (.int a), .val (.int b), .val (.int c), .val (.int d), .val (.int (4 : Int32)), .val (.int (chF a)), .val (.int (chF b)), .val (.int (chF c)), .val (.int (chF d)), .val (.ref a299), .val (.int (3 : Int32)), .val (.ref a336), .val (.ref a344)]) H at_153 rfl rfl rfl ?_
            refine Go.aload H at_155 rfl rfl rfl ?_
            refine Go.aload H at_157 rfl rfl rfl ?_
            refine Go.callV (rest := []) 0 [(.ref a336)] H at_159 rfl S348.1 w72 w73 w75 w74 w10 w76 pd_N11 (ct_eq l W a344 b345 a336 b337 (parL [(chF a), (chF b), (chF c), (chF d)] [(chF a), (chF b), (chF c), (chF d)].length) [(chF a), (chF b), (chF c)] h346 S348 S341) all0 rfl rfl rfl (Nat.le_of_eq rfl) (by decide) (by decide) (by decide) (by decide) nh_N5 ?_
            rintro _ _ _ ⟨rfl, rfl, rfl⟩
            show Go _ _ _ _ _ _ h346 [] 14 39 162 #[.val (.int len), .val (.int a), .val (.int b), .val (.int c), .val (.int d), .val (.int (4 : Int32)), .val (.int (chF a)), .val (.int (chF b)), .val (.int (chF c)), .val (.int (chF d)), .val (.ref a299), .val (.int (3 : Int32)), .val (.ref a336), .val (.ref a344)] [(.int (if (parL [(chF a), (chF b), (chF c), (chF d)] [(chF a), (chF b), (chF c), (chF d)].length) = [(chF a), (chF b), (chF c)] then (1 : Int32) else 0))]
            exact Go.ireturn 1 [] H at_162 (by simp) (by rw [if_pos (by simp [parL, c305, c306, c307, c335])]; decide) ⟨rfl, trivial⟩ all0 (by decide) (by decide)
          ·
            refine Go.icmpY (pc' := 115) H at_109 (feq c335).2 (by decide) (by decide) ?_
            refine Go.iload H at_115 rfl rfl ?_
            refine Go.ifY (pc' := 133) H at_117 (by decide) (by decide) (by decide) ?_
            refine Go.iload H at_133 rfl rfl ?_
            refine Go.iload H at_135 rfl rfl ?_
            refine Go.iload H at_137 rfl rfl ?_
            refine Go.iload H at_139 rfl rfl ?_
            refine Go.iload H at_141 rfl rfl ?_
            refine Go.callS (rest := []) 0 [(.int (1 : Int32)), (.int (chF a)), (.int (chF b)), (.int (chF c)), (.int (chF d))] H at_143 rfl w5 w6 w3 w7 pd_N22 (ct_mk1 l W (chF a) (chF b) (chF c) (chF d) h301 (chF_l _) (chF_l _) (chF_l _) (chF_l _)) all0 rfl rfl rfl (Nat.le_of_eq rfl) (by decide) (by decide) (by decide) (by decide) nh_N0 ?_
            rintro _ h351 _ ⟨a349, b350, rfl, E352, g353, S354, rfl⟩
            have ne355 : a299 ≠ a349 := Nat.ne_of_lt (Nat.lt_of_lt_of_le S304.lt g353)
            have ne356 : b300 ≠ a349 := Nat.ne_of_lt (Nat.lt_of_lt_of_le S304.ltb g353)
            replace S304 := S304.ext E352
            show Go _ _ _ _ _ _ h351 [] 12 29 146 #[.val (.int len), .val (.int a), .val (.int b), .val (.int c), .val (.int d), .val (.int (4 : Int32)), .val (.int (chF a)), .val (.int (chF b)), .val (.int (chF c)), .val (.int (chF d)), .val (.ref a299), .val (.int (1 : Int32)), .unset, .unset] [(.ref a349)]
            refine Go.astore (ls' := #[.val (.int len), .val (.int a), .val (.int b), .val (.int c), .val (.int d), .val (.int (4 : Int32)), .val (.int (chF a)), .val (.int (chF b)), .val (.int (chF c)), .val (.int (chF d)), .val (.ref a299), .val (.int (1 : Int32)), .val (.ref a349), .unset]) H at_146 rfl rfl rfl ?_
            refine Go.aload H at_148 rfl rfl rfl ?_
            refine Go.callS (rest := []) 0 [(.ref a299)] H at_150 rfl w30 w31 w32 w33 pd_N27 (ct_par l W a299 b300 [(chF a), (chF b), (chF c), (chF d)] h351 S304 (Nat.le_of_ble_eq_true rfl)) all0 rfl rfl rfl (Nat.le_of_eq rfl) (by decide) (by decide) (by decide) (by decide) nh_N27 ?_
            rintro _ h359 _ ⟨a357, b358, rfl, E360, S361, rfl⟩
            replace S304 := S304.ext E360
            replace S354 := S354.ext E360
            show Go _ _ _ _ _ _ h359 [] 14 37 153 #[.val (.int len), .val (.int a), .val (.int b), .val (.int c), .val (.int d), .val (.int (4 : Int32)), .val (.int (chF a)), .val (.int (chF b)), .val (.int (chF c)), .val (.int (chF d)), .val (.ref a299), .val (.int (1 : Int32)), .val (.ref a349), .unset] [(.ref a357)]
            refine Go.astore (ls' := #[.val (.int len), .val (.int a), .val (.int b), .val (.int c), .val (.int d), .val (.int (4 : Int32)), .val (.int (chF a)), .val (.int (chF b)), .val (.int (chF c)), .val (.int (chF d)), .val (.ref a299), .val (.int (1 : Int32)), .val (.ref a349), .val (.ref a357)]) H at_153 rfl rfl rfl ?_
            refine Go.aload H at_155 rfl rfl rfl ?_
            refine Go.aload H at_157 rfl rfl rfl ?_
            refine Go.callV (rest := []) 0 [(.ref a349)] H at_159 rfl S361.1 w72 w73 w75 w74 w10 w76 pd_N11 (ct_eq l W a357 b358 a349 b350 (parL [(chF a), (chF b), (chF c), (chF d)] [(chF a), (chF b), (chF c), (chF d)].length) [(chF a)] h359 S361 S354) all0 rfl rfl rfl (Nat.le_of_eq rfl) (by decide) (by decide) (by decide) (by decide) nh_N5 ?_
            rintro _ _ _ ⟨rfl, rfl, rfl⟩
            show Go _ _ _ _ _ _ h359 [] 14 37 162 #[.val (.int len), .val (.int a), .val (.int b), .val (.int c), .val (.int d), .val (.int (4 : Int32)), .val (.int (chF a)), .val (.int (chF b)), .val (.int (chF c)), .val (.int (chF d)), .val (.ref a299), .val (.int (1 : Int32)), .val (.ref a349), .val (.ref a357)] [(.int (if (parL [(chF a), (chF b), (chF c), (chF d)] [(chF a), (chF b), (chF c), (chF d)].length) = [(chF a)] then (1 : Int32) else 0))]
            exact Go.ireturn 1 [] H at_162 (by simp) (by rw [if_pos (by simp [parL, c305, c306, c307, c335])]; decide) ⟨rfl, trivial⟩ all0 (by decide) (by decide)
      ·
        refine Go.icmpY (pc' := 83) H at_77 (feq c306).2 (by decide) (by decide) ?_
        refine Go.iload H at_83 rfl rfl ?_
        refine Go.iconst (3 : Int32) H at_85 rfl rfl ?_
        refine Go.icmpN H at_86 (by decide) rfl ?_
        refine Go.iload H at_89 rfl rfl ?_
        refine Go.bipush (47 : Int32) H at_91 rfl rfl ?_
        by_cases c362 : (chF c) = (47 : Int32)
        ·
          refine Go.icmpN H at_93 (teq c362).2 rfl ?_
          refine Go.iconst (2 : Int32) H at_96 rfl rfl ?_
          refine Go.istore (ls' := #[.val (.int len), .val (.int a), .val (.int b), .val (.int c), .val (.int d), .val (.int (4 : Int32)), .val (.int (chF a)), .val (.int (chF b)), .val (.int (chF c)), .val (.int (chF d)), .val (.ref a299), .val (.int (2 : Int32)), .unset, .unset]) H at_97 rfl rfl ?_
          refine Go.iload H at_99 rfl rfl ?_
          refine Go.iconst (4 : Int32) H at_101 rfl rfl ?_
          refine Go.icmpN H at_102 (by decide) rfl ?_
          refine Go.iload H at_105 rfl rfl ?_
          refine Go.bipush (47 : Int32) H at_107 rfl rfl ?_
          by_cases c363 : (chF d) = (47 : Int32)
          ·
            refine Go.icmpN H at_109 (teq c363).2 rfl ?_
            refine Go.iconst (3 : Int32) H at_112 rfl rfl ?_
            refine Go.istore (ls' := #[.val (.int len), .val (.int a), .val (.int b), .val (.int c), .val (.int d), .val (.int (4 : Int32)), .val (.int (chF a)), .val (.int (chF b)), .val (.int (chF c)), .val (.int (chF d)), .val (.ref a299), .val (.int (3 : Int32)), .unset, .unset]) H at_113 rfl rfl ?_
            refine Go.iload H at_115 rfl rfl ?_
            refine Go.ifY (pc' := 133) H at_117 (by decide) (by decide) (by decide) ?_
            refine Go.iload H at_133 rfl rfl ?_
            refine Go.iload H at_135 rfl rfl ?_
            refine Go.iload H at_137 rfl rfl ?_
            refine Go.iload H at_139 rfl rfl ?_
            refine Go.iload H at_141 rfl rfl ?_
            refine Go.callS (rest := []) 0 [(.int (3 : Int32)), (.int (chF a)), (.int (chF b)), (.int (chF c)), (.int (chF d))] H at_143 rfl w5 w6 w3 w7 pd_N22 (ct_mk3 l W (chF a) (chF b) (chF c) (chF d) h301 (chF_l _) (chF_l _) (chF_l _) (chF_l _)) all0 rfl rfl rfl (Nat.le_of_eq rfl) (by decide) (by decide) (by decide) (by decide) nh_N0 ?_
            rintro _ h366 _ ⟨a364, b365, rfl, E367, g368, S369, rfl⟩
            have ne370 : a299 ≠ a364 := Nat.ne_of_lt (Nat.lt_of_lt_of_le S304.lt g368)
            have ne371 : b300 ≠ a364 := Nat.ne_of_lt (Nat.lt_of_lt_of_le S304.ltb g368)
            replace S304 := S304.ext E367
            show Go _ _ _ _ _ _ h366 [] 12 31 146 #[.val (.int len), .val (.int a), .val (.int b), .val (.int c), .val (.int d), .val (.int (4 : Int32)), .val (.int (chF a)), .val (.int (chF b)), .val (.int (chF c)), .val (.int (chF d)), .val (.ref a299), .val (.int (3 : Int32)), .unset, .unset] [(.ref a364)]
            refine Go.astore (ls' := #[.val (.int len), .val (.int a), .val (.int b), .val (.int c), .val (.int d), .val (.int (4 : Int32)), .val (.int (chF a)), .val (.int (chF b)), .val (.int (chF c)), .val (.int (chF d)), .val (.ref a299), .val (.int (3 : Int32)), .val (.ref a364), .unset]) H at_146 rfl rfl rfl ?_
            refine Go.aload H at_148 rfl rfl rfl ?_
            refine Go.callS (rest := []) 0 [(.ref a299)] H at_150 rfl w30 w31 w32 w33 pd_N27 (ct_par l W a299 b300 [(chF a), (chF b), (chF c), (chF d)] h366 S304 (Nat.le_of_ble_eq_true rfl)) all0 rfl rfl rfl (Nat.le_of_eq rfl) (by decide) (by decide) (by decide) (by decide) nh_N27 ?_
            rintro _ h374 _ ⟨a372, b373, rfl, E375, S376, rfl⟩
            replace S304 := S304.ext E375
            replace S369 := S369.ext E375
            show Go _ _ _ _ _ _ h374 [] 14 39 153 #[.val (.int len), .val (.int a), .val (.int b), .val (.int c), .val (.int d), .val (.int (4 : Int32)), .val (.int (chF a)), .val (.int (chF b)), .val (.int (chF c)), .val (.int (chF d)), .val (.ref a299), .val (.int (3 : Int32)), .val (.ref a364), .unset] [(.ref a372)]
            refine Go.astore (ls' := #[.val (.int len), .val (.int a), .val (.int b), .val (.int c), .val (.int d), .val (.int (4 : Int32)), .val (.int (chF a)), .val (.int (chF b)), .val (.int (chF c)), .val (.int (chF d)), .val (.ref a299), .val (.int (3 : Int32)), .val (.ref a364), .val (.ref a372)]) H at_153 rfl rfl rfl ?_
            refine Go.aload H at_155 rfl rfl rfl ?_
            refine Go.aload H at_157 rfl rfl rfl ?_
            refine Go.callV (rest := []) 0 [(.ref a364)] H at_159 rfl S376.1 w72 w73 w75 w74 w10 w76 pd_N11 (ct_eq l W a372 b373 a364 b365 (parL [(chF a), (chF b), (chF c), (chF d)] [(chF a), (chF b), (chF c), (chF d)].length) [(chF a), (chF b), (chF c)] h374 S376 S369) all0 rfl rfl rfl (Nat.le_of_eq rfl) (by decide) (by decide) (by decide) (by decide) nh_N5 ?_
            rintro _ _ _ ⟨rfl, rfl, rfl⟩
            show Go _ _ _ _ _ _ h374 [] 14 39 162 #[.val (.int len), .val (.int a), .val (.int b), .val (.int c), .val (.int d), .val (.int (4 : Int32)), .val (.int (chF a)), .val (.int (chF b)), .val (.int (chF c)), .val (.int (chF d)), .val (.ref a299), .val (.int (3 : Int32)), .val (.ref a364), .val (.ref a372)] [(.int (if (parL [(chF a), (chF b), (chF c), (chF d)] [(chF a), (chF b), (chF c), (chF d)].length) = [(chF a), (chF b), (chF c)] then (1 : Int32) else 0))]
            exact Go.ireturn 1 [] H at_162 (by simp) (by rw [if_pos (by simp [parL, c305, c306, c362, c363])]; decide) ⟨rfl, trivial⟩ all0 (by decide) (by decide)
          ·
            refine Go.icmpY (pc' := 115) H at_109 (feq c363).2 (by decide) (by decide) ?_
            refine Go.iload H at_115 rfl rfl ?_
            refine Go.ifY (pc' := 133) H at_117 (by decide) (by decide) (by decide) ?_
            refine Go.iload H at_133 rfl rfl ?_
            refine Go.iload H at_135 rfl rfl ?_
            refine Go.iload H at_137 rfl rfl ?_
            refine Go.iload H at_139 rfl rfl ?_
            refine Go.iload H at_141 rfl rfl ?_
            refine Go.callS (rest := []) 0 [(.int (2 : Int32)), (.int (chF a)), (.int (chF b)), (.int (chF c)), (.int (chF d))] H at_143 rfl w5 w6 w3 w7 pd_N22 (ct_mk2 l W (chF a) (chF b) (chF c) (chF d) h301 (chF_l _) (chF_l _) (chF_l _) (chF_l _)) all0 rfl rfl rfl (Nat.le_of_eq rfl) (by decide) (by decide) (by decide) (by decide) nh_N0 ?_
            rintro _ h379 _ ⟨a377, b378, rfl, E380, g381, S382, rfl⟩
            have ne383 : a299 ≠ a377 := Nat.ne_of_lt (Nat.lt_of_lt_of_le S304.lt g381)
            have ne384 : b300 ≠ a377 := Nat.ne_of_lt (Nat.lt_of_lt_of_le S304.ltb g381)
            replace S304 := S304.ext E380
            show Go _ _ _ _ _ _ h379 [] 12 30 146 #[.val (.int len), .val (.int a), .val (.int b), .val (.int c), .val (.int d), .val (.int (4 : Int32)), .val (.int (chF a)), .val (.int (chF b)), .val (.int (chF c)), .val (.int (chF d)), .val (.ref a299), .val (.int (2 : Int32)), .unset, .unset] [(.ref a377)]
            refine Go.astore (ls' := #[.val (.int len), .val (.int a), .val (.int b), .val (.int c), .val (.int d), .val (.int (4 : Int32)), .val (.int (chF a)), .val (.int (chF b)), .val (.int (chF c)), .val (.int (chF d)), .val (.ref a299), .val (.int (2 : Int32)), .val (.ref a377), .unset]) H at_146 rfl rfl rfl ?_
            refine Go.aload H at_148 rfl rfl rfl ?_
            refine Go.callS (rest := []) 0 [(.ref a299)] H at_150 rfl w30 w31 w32 w33 pd_N27 (ct_par l W a299 b300 [(chF a), (chF b), (chF c), (chF d)] h379 S304 (Nat.le_of_ble_eq_true rfl)) all0 rfl rfl rfl (Nat.le_of_eq rfl) (by decide) (by decide) (by decide) (by decide) nh_N27 ?_
            rintro _ h387 _ ⟨a385, b386, rfl, E388, S389, rfl⟩
            replace S304 := S304.ext E388
            replace S382 := S382.ext E388
            show Go _ _ _ _ _ _ h387 [] 14 38 153 #[.val (.int len), .val (.int a), .val (.int b), .val (.int c), .val (.int d), .val (.int (4 : Int32)), .val (.int (chF a)), .val (.int (chF b)), .val (.int (chF c)), .val (.int (chF d)), .val (.ref a299), .val (.int (2 : Int32)), .val (.ref a377), .unset] [(.ref a385)]
            refine Go.astore (ls' := #[.val (.int len), .val (.int a), .val (.int b), .val (.int c), .val (.int d), .val (.int (4 : Int32)), .val (.int (chF a)), .val (.int (chF b)), .val (.int (chF c)), .val (.int (chF d)), .val (.ref a299), .val (.int (2 : Int32)), .val (.ref a377), .val (.ref a385)]) H at_153 rfl rfl rfl ?_
            refine Go.aload H at_155 rfl rfl rfl ?_
            refine Go.aload H at_157 rfl rfl rfl ?_
            refine Go.callV (rest := []) 0 [(.ref a377)] H at_159 rfl S389.1 w72 w73 w75 w74 w10 w76 pd_N11 (ct_eq l W a385 b386 a377 b378 (parL [(chF a), (chF b), (chF c), (chF d)] [(chF a), (chF b), (chF c), (chF d)].length) [(chF a), (chF b)] h387 S389 S382) all0 rfl rfl rfl (Nat.le_of_eq rfl) (by decide) (by decide) (by decide) (by decide) nh_N5 ?_
            rintro _ _ _ ⟨rfl, rfl, rfl⟩
            show Go _ _ _ _ _ _ h387 [] 14 38 162 #[.val (.int len), .val (.int a), .val (.int b), .val (.int c), .val (.int d), .val (.int (4 : Int32)), .val (.int (chF a)), .val (.int (chF b)), .val (.int (chF c)), .val (.int (chF d)), .val (.ref a299), .val (.int (2 : Int32)), .val (.ref a377), .val (.ref a385)] [(.int (if (parL [(chF a), (chF b), (chF c), (chF d)] [(chF a), (chF b), (chF c), (chF d)].length) = [(chF a), (chF b)] then (1 : Int32) else 0))]
            exact Go.ireturn 1 [] H at_162 (by simp) (by rw [if_pos (by simp [parL, c305, c306, c362, c363])]; decide) ⟨rfl, trivial⟩ all0 (by decide) (by decide)
        ·
          refine Go.icmpY (pc' := 99) H at_93 (feq c362).2 (by decide) (by decide) ?_
          refine Go.iload H at_99 rfl rfl ?_
          refine Go.iconst (4 : Int32) H at_101 rfl rfl ?_
          refine Go.icmpN H at_102 (by decide) rfl ?_
          refine Go.iload H at_105 rfl rfl ?_
          refine Go.bipush (47 : Int32) H at_107 rfl rfl ?_
          by_cases c390 : (chF d) = (47 : Int32)
          ·
            refine Go.icmpN H at_109 (teq c390).2 rfl ?_
            refine Go.iconst (3 : Int32) H at_112 rfl rfl ?_
            refine Go.istore (ls' := #[.val (.int len), .val (.int a), .val (.int b), .val (.int c), .val (.int d), .val (.int (4 : Int32)), .val (.int (chF a)), .val (.int (chF b)), .val (.int (chF c)), .val (.int (chF d)), .val (.ref a299), .val (.int (3 : Int32)), .unset, .unset]) H at_113 rfl rfl ?_
            refine Go.iload H at_115 rfl rfl ?_
            refine Go.ifY (pc' := 133) H at_117 (by decide) (by decide) (by decide) ?_
            refine Go.iload H at_133 rfl rfl ?_
            refine Go.iload H at_135 rfl rfl ?_
            refine Go.iload H at_137 rfl rfl ?_
            refine Go.iload H at_139 rfl rfl ?_
            refine Go.iload H at_141 rfl rfl ?_
            refine Go.callS (rest := []) 0 [(.int (3 : Int32)), (.int (chF a)), (.int (chF b)), (.int (chF c)), (.int (chF d))] H at_143 rfl w5 w6 w3 w7 pd_N22 (ct_mk3 l W (chF a) (chF b) (chF c) (chF d) h301 (chF_l _) (chF_l _) (chF_l _) (chF_l _)) all0 rfl rfl rfl (Nat.le_of_eq rfl) (by decide) (by decide) (by decide) (by decide) nh_N0 ?_
            rintro _ h393 _ ⟨a391, b392, rfl, E394, g395, S396, rfl⟩
            have ne397 : a299 ≠ a391 := Nat.ne_of_lt (Nat.lt_of_lt_of_le S304.lt g395)
            have ne398 : b300 ≠ a391 := Nat.ne_of_lt (Nat.lt_of_lt_of_le S304.ltb g395)
            replace S304 := S304.ext E394
            show Go _ _ _ _ _ _ h393 [] 12 31 146 #[.val (.int len), .val (.int a), .val (.int b), .val (.int c), .val (.int d), .val (.int (4 : Int32)), .val (.int (chF a)), .val (.int (chF b)), .val (.int (chF c)), .val (.int (chF d)), .val (.ref a299), .val (.int (3 : Int32)), .unset, .unset] [(.ref a391)]
            refine Go.astore (ls' := #[.val (.int len), .val (.int a), .val (.int b), .val (.int c), .val (.int d), .val (.int (4 : Int32)), .val (.int (chF a)), .val (.int (chF b)), .val (.int (chF c)), .val (.int (chF d)), .val (.ref a299), .val (.int (3 : Int32)), .val (.ref a391), .unset]) H at_146 rfl rfl rfl ?_
            refine Go.aload H at_148 rfl rfl rfl ?_
            refine Go.callS (rest := []) 0 [(.ref a299)] H at_150 rfl w30 w31 w32 w33 pd_N27 (ct_par l W a299 b300 [(chF a), (chF b), (chF c), (chF d)] h393 S304 (Nat.le_of_ble_eq_true rfl)) all0 rfl rfl rfl (Nat.le_of_eq rfl) (by decide) (by decide) (by decide) (by decide) nh_N27 ?_
            rintro _ h401 _ ⟨a399, b400, rfl, E402, S403, rfl⟩
            replace S304 := S304.ext E402
            replace S396 := S396.ext E402
            show Go _ _ _ _ _ _ h401 [] 14 39 153 #[.val (.int len), .val (.int a), .val (.int b), .val (.int c), .val (.int d), .val (.int (4 : Int32)), .val (.int (chF a)), .val (.int (chF b)), .val (.int (chF c)), .val (.int (chF d)), .val (.ref a299), .val (.int (3 : Int32)), .val (.ref a391), .unset] [(.ref a399)]
            refine Go.astore (ls' := #[.val (.int len), .val (.int a), .val (.int b), .val (.int c), .val (.int d), .val (.int (4 : Int32)), .val (.int (chF a)), .val (.int (chF b)), .val (.int (chF c)), .val (.int (chF d)), .val (.ref a299), .val (.int (3 : Int32)), .val (.ref a391), .val (.ref a399)]) H at_153 rfl rfl rfl ?_
            refine Go.aload H at_155 rfl rfl rfl ?_
            refine Go.aload H at_157 rfl rfl rfl ?_
            refine Go.callV (rest := []) 0 [(.ref a391)] H at_159 rfl S403.1 w72 w73 w75 w74 w10 w76 pd_N11 (ct_eq l W a399 b400 a391 b392 (parL [(chF a), (chF b), (chF c), (chF d)] [(chF a), (chF b), (chF c), (chF d)].length) [(chF a), (chF b), (chF c)] h401 S403 S396) all0 rfl rfl rfl (Nat.le_of_eq rfl) (by decide) (by decide) (by decide) (by decide) nh_N5 ?_
            rintro _ _ _ ⟨rfl, rfl, rfl⟩
            show Go _ _ _ _ _ _ h401 [] 14 39 162 #[.val (.int len), .val (.int a), .val (.int b), .val (.int c), .val (.int d), .val (.int (4 : Int32)), .val (.int (chF a)), .val (.int (chF b)), .val (.int (chF c)), .val (.int (chF d)), .val (.ref a299), .val (.int (3 : Int32)), .val (.ref a391), .val (.ref a399)] [(.int (if (parL [(chF a), (chF b), (chF c), (chF d)] [(chF a), (chF b), (chF c), (chF d)].length) = [(chF a), (chF b), (chF c)] then (1 : Int32) else 0))]
            exact Go.ireturn 1 [] H at_162 (by simp) (by rw [if_pos (by simp [parL, c305, c306, c362, c390])]; decide) ⟨rfl, trivial⟩ all0 (by decide) (by decide)
          ·
            refine Go.icmpY (pc' := 115) H at_109 (feq c390).2 (by decide) (by decide) ?_
            refine Go.iload H at_115 rfl rfl ?_
            refine Go.ifY (pc' := 133) H at_117 (by decide) (by decide) (by decide) ?_
            refine Go.iload H at_133 rfl rfl ?_
            refine Go.iload H at_135 rfl rfl ?_
            refine Go.iload H at_137 rfl rfl ?_
            refine Go.iload H at_139 rfl rfl ?_
            refine Go.iload H at_141 rfl rfl ?_
            refine Go.callS (rest := []) 0 [(.int (0 : Int32)), (.int (chF a)), (.int (chF b)), (.int (chF c)), (.int (chF d))] H at_143 rfl w5 w6 w3 w7 pd_N22 (ct_mk0 l W (chF a) (chF b) (chF c) (chF d) h301 (chF_l _) (chF_l _) (chF_l _) (chF_l _)) all0 rfl rfl rfl (Nat.le_of_eq rfl) (by decide) (by decide) (by decide) (by decide) nh_N0 ?_
            rintro _ h406 _ ⟨a404, b405, rfl, E407, g408, S409, rfl⟩
            have ne410 : a299 ≠ a404 := Nat.ne_of_lt (Nat.lt_of_lt_of_le S304.lt g408)
            have ne411 : b300 ≠ a404 := Nat.ne_of_lt (Nat.lt_of_lt_of_le S304.ltb g408)
            replace S304 := S304.ext E407
            show Go _ _ _ _ _ _ h406 [] 12 28 146 #[.val (.int len), .val (.int a), .val (.int b), .val (.int c), .val (.int d), .val (.int (4 : Int32)), .val (.int (chF a)), .val (.int (chF b)), .val (.int (chF c)), .val (.int (chF d)), .val (.ref a299), .val (.int (0 : Int32)), .unset, .unset] [(.ref a404)]
            refine Go.astore (ls' := #[.val (.int len), .val (.int a), .val (.int b), .val (.int c), .val (.int d), .val (.int (4 : Int32)), .val (.int (chF a)), .val (.int (chF b)), .val (.int (chF c)), .val (.int (chF d)), .val (.ref a299), .val (.int (0 : Int32)), .val (.ref a404), .unset]) H at_146 rfl rfl rfl ?_
            refine Go.aload H at_148 rfl rfl rfl ?_
            refine Go.callS (rest := []) 0 [(.ref a299)] H at_150 rfl w30 w31 w32 w33 pd_N27 (ct_par l W a299 b300 [(chF a), (chF b), (chF c), (chF d)] h406 S304 (Nat.le_of_ble_eq_true rfl)) all0 rfl rfl rfl (Nat.le_of_eq rfl) (by decide) (by decide) (by decide) (by decide) nh_N27 ?_
            rintro _ h414 _ ⟨a412, b413, rfl, E415, S416, rfl⟩
            replace S304 := S304.ext E415
            replace S409 := S409.ext E415
            show Go _ _ _ _ _ _ h414 [] 14 36 153 #[.val (.int len), .val (.int a), .val (.int b), .val (.int c), .val (.int d), .val (.int (4 : Int32)), .val (.int (chF a)), .val (.int (chF b)), .val (.int (chF c)), .val (.int (chF d)), .val (.ref a299), .val (.int (0 : Int32)), .val (.ref a404), .unset] [(.ref a412)]
            refine Go.astore (ls' := #[.val (.int len), .val (.int a), .val (.int b), .val (.int c), .val (.int d), .val (.int (4 : Int32)), .val (.int (chF a)), .val (.int (chF b)), .val (.int (chF c)), .val (.int (chF d)), .val (.ref a299), .val (.int (0 : Int32)), .val (.ref a404), .val (.ref a412)]) H at_153 rfl rfl rfl ?_
            refine Go.aload H at_155 rfl rfl rfl ?_
            refine Go.aload H at_157 rfl rfl rfl ?_
            refine Go.callV (rest := []) 0 [(.ref a404)] H at_159 rfl S416.1 w72 w73 w75 w74 w10 w76 pd_N11 (ct_eq l W a412 b413 a404 b405 (parL [(chF a), (chF b), (chF c), (chF d)] [(chF a), (chF b), (chF c), (chF d)].length) ([] : List Int32) h414 S416 S409) all0 rfl rfl rfl (Nat.le_of_eq rfl) (by decide) (by decide) (by decide) (by decide) nh_N5 ?_
            rintro _ _ _ ⟨rfl, rfl, rfl⟩
            show Go _ _ _ _ _ _ h414 [] 14 36 162 #[.val (.int len), .val (.int a), .val (.int b), .val (.int c), .val (.int d), .val (.int (4 : Int32)), .val (.int (chF a)), .val (.int (chF b)), .val (.int (chF c)), .val (.int (chF d)), .val (.ref a299), .val (.int (0 : Int32)), .val (.ref a404), .val (.ref a412)] [(.int (if (parL [(chF a), (chF b), (chF c), (chF d)] [(chF a), (chF b), (chF c), (chF d)].length) = ([] : List Int32) then (1 : Int32) else 0))]
            exact Go.ireturn 1 [] H at_162 (by simp) (by rw [if_pos (by simp [parL, c305, c306, c362, c390])]; decide) ⟨rfl, trivial⟩ all0 (by decide) (by decide)
    ·
      refine Go.icmpY (pc' := 67) H at_61 (feq c305).2 (by decide) (by decide) ?_
      refine Go.iload H at_67 rfl rfl ?_
      refine Go.iconst (2 : Int32) H at_69 rfl rfl ?_
      refine Go.icmpN H at_70 (by decide) rfl ?_
      refine Go.iload H at_73 rfl rfl ?_
      refine Go.bipush (47 : Int32) H at_75 rfl rfl ?_
      by_cases c417 : (chF b) = (47 : Int32)
      ·
        refine Go.icmpN H at_77 (teq c417).2 rfl ?_
        refine Go.iconst (1 : Int32) H at_80 rfl rfl ?_
        refine Go.istore (ls' := #[.val (.int len), .val (.int a), .val (.int b), .val (.int c), .val (.int d), .val (.int (4 : Int32)), .val (.int (chF a)), .val (.int (chF b)), .val (.int (chF c)), .val (.int (chF d)), .val (.ref a299), .val (.int (1 : Int32)), .unset, .unset]) H at_81 rfl rfl ?_
        refine Go.iload H at_83 rfl rfl ?_
        refine Go.iconst (3 : Int32) H at_85 rfl rfl ?_
        refine Go.icmpN H at_86 (by decide) rfl ?_
        refine Go.iload H at_89 rfl rfl ?_
        refine Go.bipush (47 : Int32) H at_91 rfl rfl ?_
        by_cases c418 : (chF c) = (47 : Int32)
        ·
          refine Go.icmpN H at_93 (teq c418).2 rfl ?_
          refine Go.iconst (2 : Int32) H at_96 rfl rfl ?_
          refine Go.istore (ls' := #[.val (.int len), .val (.int a), .val (.int b), .val (.int c), .val (.int d), .val (.int (4 : Int32)), .val (.int (chF a)), .val (.int (chF b)), .val (.int (chF c)), .val (.int (chF d)), .val (.ref a299), .val (.int (2 : Int32)), .unset, .unset]) H at_97 rfl rfl ?_
          refine Go.iload H at_99 rfl rfl ?_
          refine Go.iconst (4 : Int32) H at_101 rfl rfl ?_
          refine Go.icmpN H at_102 (by decide) rfl ?_
          refine Go.iload H at_105 rfl rfl ?_
          refine Go.bipush (47 : Int32) H at_107 rfl rfl ?_
          by_cases c419 : (chF d) = (47 : Int32)
          ·
            refine Go.icmpN H at_109 (teq c419).2 rfl ?_
            refine Go.iconst (3 : Int32) H at_112 rfl rfl ?_
            refine Go.istore (ls' := #[.val (.int len), .val (.int a), .val (.int b), .val (.int c), .val (.int d), .val (.int (4 : Int32)), .val (.int (chF a)), .val (.int (chF b)), .val (.int (chF c)), .val (.int (chF d)), .val (.ref a299), .val (.int (3 : Int32)), .unset, .unset]) H at_113 rfl rfl ?_
            refine Go.iload H at_115 rfl rfl ?_
            refine Go.ifY (pc' := 133) H at_117 (by decide) (by decide) (by decide) ?_
            refine Go.iload H at_133 rfl rfl ?_
            refine Go.iload H at_135 rfl rfl ?_
            refine Go.iload H at_137 rfl rfl ?_
            refine Go.iload H at_139 rfl rfl ?_
            refine Go.iload H at_141 rfl rfl ?_
            refine Go.callS (rest := []) 0 [(.int (3 : Int32)), (.int (chF a)), (.int (chF b)), (.int (chF c)), (.int (chF d))] H at_143 rfl w5 w6 w3 w7 pd_N22 (ct_mk3 l W (chF a) (chF b) (chF c) (chF d) h301 (chF_l _) (chF_l _) (chF_l _) (chF_l _)) all0 rfl rfl rfl (Nat.le_of_eq rfl) (by decide) (by decide) (by decide) (by decide) nh_N0 ?_
            rintro _ h422 _ ⟨a420, b421, rfl, E423, g424, S425, rfl⟩
            have ne426 : a299 ≠ a420 := Nat.ne_of_lt (Nat.lt_of_lt_of_le S304.lt g424)
            have ne427 : b300 ≠ a420 := Nat.ne_of_lt (Nat.lt_of_lt_of_le S304.ltb g424)
            replace S304 := S304.ext E423
            show Go _ _ _ _ _ _ h422 [] 12 31 146 #[.val (.int len), .val (.int a), .val (.int b), .val (.int c), .val (.int d), .val (.int (4 : Int32)), .val (.int (chF a)), .val (.int (chF b)), .val (.int (chF c)), .val (.int (chF d)), .val (.ref a299), .val (.int (3 : Int32)), .unset, .unset] [(.ref a420)]
            refine Go.astore (ls' := #[.val (.int len), .val (.int a), .val (.int b), .val (.int c), .val (.int d), .val (.int (4 : Int32)), .val (.int (chF a)), .val (.int (chF b)), .val (.int (chF c)), .val (.int (chF d)), .val (.ref a299), .val (.int (3 : Int32)), .val (.ref a420), .unset]) H at_146 rfl rfl rfl ?_
            refine Go.aload H at_148 rfl rfl rfl ?_
            refine Go.callS (rest := []) 0 [(.ref a299)] H at_150 rfl w30 w31 w32 w33 pd_N27 (ct_par l W a299 b300 [(chF a), (chF b), (chF c), (chF d)] h422 S304 (Nat.le_of_ble_eq_true rfl)) all0 rfl rfl rfl (Nat.le_of_eq rfl) (by decide) (by decide) (by decide) (by decide) nh_N27 ?_
            rintro _ h430 _ ⟨a428, b429, rfl, E431, S432, rfl⟩
            replace S304 := S304.ext E431
            replace S425 := S425.ext E431
            show Go _ _ _ _ _ _ h430 [] 14 39 153 #[.val (.int len), .val (.int a), .val (.int b), .val (.int c), .val (.int d), .val (.int (4 : Int32)), .val (.int (chF a)), .val (.int (chF b)), .val (.int (chF c)), .val (.int (chF d)), .val (.ref a299), .val (.int (3 : Int32)), .val (.ref a420), .unset] [(.ref a428)]
            refine Go.astore (ls' := #[.val (.int len), .val (.int a), .val (.int b), .val (.int c), .val (.int d), .val (.int (4 : Int32)), .val (.int (chF a)), .val (.int (chF b)), .val (.int (chF c)), .val (.int (chF d)), .val (.ref a299), .val (.int (3 : Int32)), .val (.ref a420), .val (.ref a428)]) H at_153 rfl rfl rfl ?_
            refine Go.aload H at_155 rfl rfl rfl ?_
            refine Go.aload H at_157 rfl rfl rfl ?_
            refine Go.callV (rest := []) 0 [(.ref a420)] H at_159 rfl S432.1 w72 w73 w75 w74 w10 w76 pd_N11 (ct_eq l W a428 b429 a420 b421 (parL [(chF a), (chF b), (chF c), (chF d)] [(chF a), (chF b), (chF c), (chF d)].length) [(chF a), (chF b), (chF c)] h430 S432 S425) all0 rfl rfl rfl (Nat.le_of_eq rfl) (by decide) (by decide) (by decide) (by decide) nh_N5 ?_
            rintro _ _ _ ⟨rfl, rfl, rfl⟩
            show Go _ _ _ _ _ _ h430 [] 14 39 162 #[.val (.int len), .val (.int a), .val (.int b), .val (.int c), .val (.int d), .val (.int (4 : Int32)), .val (.int (chF a)), .val (.int (chF b)), .val (.int (chF c)), .val (.int (chF d)), .val (.ref a299), .val (.int (3 : Int32)), .val (.ref a420), .val (.ref a428)] [(.int (if (parL [(chF a), (chF b), (chF c), (chF d)] [(chF a), (chF b), (chF c), (chF d)].length) = [(chF a), (chF b), (chF c)] then (1 : Int32) else 0))]
            exact Go.ireturn 1 [] H at_162 (by simp) (by rw [if_pos (by simp [parL, c305, c417, c418, c419])]; decide) ⟨rfl, trivial⟩ all0 (by decide) (by decide)
          ·
            refine Go.icmpY (pc' := 115) H at_109 (feq c419).2 (by decide) (by decide) ?_
            refine Go.iload H at_115 rfl rfl ?_
            refine Go.ifY (pc' := 133) H at_117 (by decide) (by decide) (by decide) ?_
            refine Go.iload H at_133 rfl rfl ?_
            refine Go.iload H at_135 rfl rfl ?_
            refine Go.iload H at_137 rfl rfl ?_
            refine Go.iload H at_139 rfl rfl ?_
            refine Go.iload H at_141 rfl rfl ?_
            refine Go.callS (rest := []) 0 [(.int (2 : Int32)), (.int (chF a)), (.int (chF b)), (.int (chF c)), (.int (chF d))] H at_143 rfl w5 w6 w3 w7 pd_N22 (ct_mk2 l W (chF a) (chF b) (chF c) (chF d) h301 (chF_l _) (chF_l _) (chF_l _) (chF_l _)) all0 rfl rfl rfl (Nat.le_of_eq rfl) (by decide) (by decide) (by decide) (by decide) nh_N0 ?_
            rintro _ h435 _ ⟨a433, b434, rfl, E436, g437, S438, rfl⟩
            have ne439 : a299 ≠ a433 := Nat.ne_of_lt (Nat.lt_of_lt_of_le S304.lt g437)
            have ne440 : b300 ≠ a433 := Nat.ne_of_lt (Nat.lt_of_lt_of_le S304.ltb g437)
            replace S304 := S304.ext E436
            show Go _ _ _ _ _ _ h435 [] 12 30 146 #[.val (.int len), .val (.int a), .val (.int b), .val (.int c), .val (.int d), .val (.int (4 : Int32)), .val (.int (chF a)), .val (.int (chF b)), .val (.int (chF c)), .val (.int (chF d)), .val (.ref a299), .val (.int (2 : Int32)), .unset, .unset] [(.ref a433)]
            refine Go.astore (ls' := #[.val (.int len), .val (.int a), .val (.int b), .val (.int c), .val (.int d), .val (.int (4 : Int32)), .val (.int (chF a)), .val (.int (chF b)), .val (.int (chF c)), .val (.int (chF d)), .val (.ref a299), .val (.int (2 : Int32)), .val (.ref a433), .unset]) H at_146 rfl rfl rfl ?_
            refine Go.aload H at_148 rfl rfl rfl ?_
            refine Go.callS (rest := []) 0 [(.ref a299)] H at_150 rfl w30 w31 w32 w33 pd_N27 (ct_par l W a299 b300 [(chF a), (chF b), (chF c), (chF d)] h435 S304 (Nat.le_of_ble_eq_true rfl)) all0 rfl rfl rfl (Nat.le_of_eq rfl) (by decide) (by decide) (by decide) (by decide) nh_N27 ?_
            rintro _ h443 _ ⟨a441, b442, rfl, E444, S445, rfl⟩
            replace S304 := S304.ext E444
            replace S438 := S438.ext E444
            show Go _ _ _ _ _ _ h443 [] 14 38 153 #[.val (.int len), .val (.int a), .val (.int b), .val (.int c), .val (.int d), .val (.int (4 : Int32)), .val (.int (chF a)), .val (.int (chF b)), .val (.int (chF c)), .val (.int (chF d)), .val (.ref a299), .val (.int (2 : Int32)), .val (.ref a433), .unset] [(.ref a441)]
            refine Go.astore (ls' := #[.val (.int len), .val (.int a), .val (.int b), .val (.int c), .val (.int d), .val (.int (4 : Int32)), .val (.int (chF a)), .val (.int (chF b)), .val (.int (chF c)), .val (.int (chF d)), .val (.ref a299), .val (.int (2 : Int32)), .val (.ref a433), .val (.ref a441)]) H at_153 rfl rfl rfl ?_
            refine Go.aload H at_155 rfl rfl rfl ?_
            refine Go.aload H at_157 rfl rfl rfl ?_
            refine Go.callV (rest := []) 0 [(.ref a433)] H at_159 rfl S445.1 w72 w73 w75 w74 w10 w76 pd_N11 (ct_eq l W a441 b442 a433 b434 (parL [(chF a), (chF b), (chF c), (chF d)] [(chF a), (chF b), (chF c), (chF d)].length) [(chF a), (chF b)] h443 S445 S438) all0 rfl rfl rfl (Nat.le_of_eq rfl) (by decide) (by decide) (by decide) (by decide) nh_N5 ?_
            rintro _ _ _ ⟨rfl, rfl, rfl⟩
            show Go _ _ _ _ _ _ h443 [] 14 38 162 #[.val (.int len), .val (.int a), .val (.int b), .val (.int c), .val (.int d), .val (.int (4 : Int32)), .val (.int (chF a)), .val (.int (chF b)), .val (.int (chF c)), .val (.int (chF d)), .val (.ref a299), .val (.int (2 : Int32)), .val (.ref a433), .val (.ref a441)] [(.int (if (parL [(chF a), (chF b), (chF c), (chF d)] [(chF a), (chF b), (chF c), (chF d)].length) = [(chF a), (chF b)] then (1 : Int32) else 0))]
            exact Go.ireturn 1 [] H at_162 (by simp) (by rw [if_pos (by simp [parL, c305, c417, c418, c419])]; decide) ⟨rfl, trivial⟩ all0 (by decide) (by decide)
        ·
          refine Go.icmpY (pc' := 99) H at_93 (feq c418).2 (by decide) (by decide) ?_
          refine Go.iload H at_99 rfl rfl ?_
          refine Go.iconst (4 : Int32) H at_101 rfl rfl ?_
          refine Go.icmpN H at_102 (by decide) rfl ?_
          refine Go.iload H at_105 rfl rfl ?_
          refine Go.bipush (47 : Int32) H at_107 rfl rfl ?_
          by_cases c446 : (chF d) = (47 : Int32)
          ·
            refine Go.icmpN H at_109 (teq c446).2 rfl ?_
            refine Go.iconst (3 : Int32) H at_112 rfl rfl ?_
            refine Go.istore (ls' := #[.val (.int len), .val (.int a), .val (.int b), .val (.int c), .val (.int d), .val (.int (4 : Int32)), .val (.int (chF a)), .val (.int (chF b)), .val (.int (chF c)), .val (.int (chF d)), .val (.ref a299), .val (.int (3 : Int32)), .unset, .unset]) H at_113 rfl rfl ?_
            refine Go.iload H at_115 rfl rfl ?_
            refine Go.ifY (pc' := 133) H at_117 (by decide) (by decide) (by decide) ?_
            refine Go.iload H at_133 rfl rfl ?_
            refine Go.iload H at_135 rfl rfl ?_
            refine Go.iload H at_137 rfl rfl ?_
            refine Go.iload H at_139 rfl rfl ?_
            refine Go.iload H at_141 rfl rfl ?_
            refine Go.callS (rest := []) 0 [(.int (3 : Int32)), (.int (chF a)), (.int (chF b)), (.int (chF c)), (.int (chF d))] H at_143 rfl w5 w6 w3 w7 pd_N22 (ct_mk3 l W (chF a) (chF b) (chF c) (chF d) h301 (chF_l _) (chF_l _) (chF_l _) (chF_l _)) all0 rfl rfl rfl (Nat.le_of_eq rfl) (by decide) (by decide) (by decide) (by decide) nh_N0 ?_
            rintro _ h449 _ ⟨a447, b448, rfl, E450, g451, S452, rfl⟩
            have ne453 : a299 ≠ a447 := Nat.ne_of_lt (Nat.lt_of_lt_of_le S304.lt g451)
            have ne454 : b300 ≠ a447 := Nat.ne_of_lt (Nat.lt_of_lt_of_le S304.ltb g451)
            replace S304 := S304.ext E450
            show Go _ _ _ _ _ _ h449 [] 12 31 146 #[.val (.int len), .val (.int a), .val (.int b), .val (.int c), .val (.int d), .val (.int (4 : Int32)), .val (.int (chF a)), .val (.int (chF b)), .val (.int (chF c)), .val (.int (chF d)), .val (.ref a299), .val (.int (3 : Int32)), .unset, .unset] [(.ref a447)]
            refine Go.astore (ls' := #[.val (.int len), .val (.int a), .val (.int b), .val (.int c), .val (.int d), .val (.int (4 : Int32)), .val (.int (chF a)), .val (.int (chF b)), .val (.int (chF c)), .val (.int (chF d)), .val (.ref a299), .val (.int (3 : Int32)), .val (.ref a447), .unset]) H at_146 rfl rfl rfl ?_
            refine Go.aload H at_148 rfl rfl rfl ?_
            refine Go.callS (rest := []) 0 [(.ref a299)] H at_150 rfl w30 w31 w32 w33 pd_N27 (ct_par l W a299 b300 [(chF a), (chF b), (chF c), (chF d)] h449 S304 (Nat.le_of_ble_eq_true rfl)) all0 rfl rfl rfl (Nat.le_of_eq rfl) (by decide) (by decide) (by decide) (by decide) nh_N27 ?_
            rintro _ h457 _ ⟨a455, b456, rfl, E458, S459, rfl⟩
            replace S304 := S304.ext E458
            replace S452 := S452.ext E458
            show Go _ _ _ _ _ _ h457 [] 14 39 153 #[.val (.int len), .val (.int a), .val (.int b), .val (.int c), .val (.int d), .val (.int (4 : Int32)), .val (.int (chF a)), .val (.int (chF b)), .val (.int (chF c)), .val (.int (chF d)), .val (.ref a299), .val (.int (3 : Int32)), .val (.ref a447), .unset] [(.ref a455)]
            refine Go.astore (ls' := #[.val (.int len), .val (.int a), .val (.int b), .val (.int c), .val (.int d), .val (.int (4 : Int32)), .val (.int (chF a)), .val (.int (chF b)), .val (.int (chF c)), .val (.int (chF d)), .val (.ref a299), .val (.int (3 : Int32)), .val (.ref a447), .val (.ref a455)]) H at_153 rfl rfl rfl ?_
            refine Go.aload H at_155 rfl rfl rfl ?_
            refine Go.aload H at_157 rfl rfl rfl ?_
            refine Go.callV (rest := []) 0 [(.ref a447)] H at_159 rfl S459.1 w72 w73 w75 w74 w10 w76 pd_N11 (ct_eq l W a455 b456 a447 b448 (parL [(chF a), (chF b), (chF c), (chF d)] [(chF a), (chF b), (chF c), (chF d)].length) [(chF a), (chF b), (chF c)] h457 S459 S452) all0 rfl rfl rfl (Nat.le_of_eq rfl) (by decide) (by decide) (by decide) (by decide) nh_N5 ?_
            rintro _ _ _ ⟨rfl, rfl, rfl⟩
            show Go _ _ _ _ _ _ h457 [] 14 39 162 #[.val (.int len), .val (.int a), .val (.int b), .val (.int c), .val (.int d), .val (.int (4 : Int32)), .val (.int (chF a)), .val (.int (chF b)), .val (.int (chF c)), .val (.int (chF d)), .val (.ref a299), .val (.int (3 : Int32)), .val (.ref a447), .val (.ref a455)] [(.int (if (parL [(chF a), (chF b), (chF c), (chF d)] [(chF a), (chF b), (chF c), (chF d)].length) = [(chF a), (chF b), (chF c)] then (1 : Int32) else 0))]
            exact Go.ireturn 1 [] H at_162 (by simp) (by rw [if_pos (by simp [parL, c305, c417, c418, c446])]; decide) ⟨rfl, trivial⟩ all0 (by decide) (by decide)
          ·
            refine Go.icmpY (pc' := 115) H at_109 (feq c446).2 (by decide) (by decide) ?_
            refine Go.iload H at_115 rfl rfl ?_
            refine Go.ifY (pc' := 133) H at_117 (by decide) (by decide) (by decide) ?_
            refine Go.iload H at_133 rfl rfl ?_
            refine Go.iload H at_135 rfl rfl ?_
            refine Go.iload H at_137 rfl rfl ?_
            refine Go.iload H at_139 rfl rfl ?_
            refine Go.iload H at_141 rfl rfl ?_
            refine Go.callS (rest := []) 0 [(.int (1 : Int32)), (.int (chF a)), (.int (chF b)), (.int (chF c)), (.int (chF d))] H at_143 rfl w5 w6 w3 w7 pd_N22 (ct_mk1 l W (chF a) (chF b) (chF c) (chF d) h301 (chF_l _) (chF_l _) (chF_l _) (chF_l _)) all0 rfl rfl rfl (Nat.le_of_eq rfl) (by decide) (by decide) (by decide) (by decide) nh_N0 ?_
            rintro _ h462 _ ⟨a460, b461, rfl, E463, g464, S465, rfl⟩
            have ne466 : a299 ≠ a460 := Nat.ne_of_lt (Nat.lt_of_lt_of_le S304.lt g464)
            have ne467 : b300 ≠ a460 := Nat.ne_of_lt (Nat.lt_of_lt_of_le S304.ltb g464)
            replace S304 := S304.ext E463
            show Go _ _ _ _ _ _ h462 [] 12 29 146 #[.val (.int len), .val (.int a), .val (.int b), .val (.int c), .val (.int d), .val (.int (4 : Int32)), .val (.int (chF a)), .val (.int (chF b)), .val (.int (chF c)), .val (.int (chF d)), .val (.ref a299), .val (.int (1 : Int32)), .unset, .unset] [(.ref a460)]
            refine Go.astore (ls' := #[.val (.int len), .val (.int a), .val (.int b), .val (.int c), .val (.int d), .val (.int (4 : Int32)), .val (.int (chF a)), .val (.int (chF b)), .val (.int (chF c)), .val (.int (chF d)), .val (.ref a299), .val (.int (1 : Int32)), .val (.ref a460), .unset]) H at_146 rfl rfl rfl ?_
            refine Go.aload H at_148 rfl rfl rfl ?_
            refine Go.callS (rest := []) 0 [(.ref a299)] H at_150 rfl w30 w31 w32 w33 pd_N27 (ct_par l W a299 b300 [(chF a), (chF b), (chF c), (chF d)] h462 S304 (Nat.le_of_ble_eq_true rfl)) all0 rfl rfl rfl (Nat.le_of_eq rfl) (by decide) (by decide) (by decide) (by decide) nh_N27 ?_
            rintro _ h470 _ ⟨a468, b469, rfl, E471, S472, rfl⟩
            replace S304 := S304.ext E471
            replace S465 := S465.ext E471
            show Go _ _ _ _ _ _ h470 [] 14 37 153 #[.val (.int len), .val (.int a), .val (.int b), .val (.int c), .val (.int d), .val (.int (4 : Int32)), .val (.int (chF a)), .val (.int (chF b)), .val (.int (chF c)), .val (.int (chF d)), .val (.ref a299), .val (.int (1 : Int32)), .val (.ref a460), .unset] [(.ref a468)]
            refine Go.astore (ls' := #[.val (.int len), .val (.int a), .val (.int b), .val (.int c), .val (.int d), .val (.int (4 : Int32)), .val (.int (chF a)), .val (.int (chF b)), .val (.int (chF c)), .val (.int (chF d)), .val (.ref a299), .val (.int (1 : Int32)), .val (.ref a460), .val (.ref a468)]) H at_153 rfl rfl rfl ?_
            refine Go.aload H at_155 rfl rfl rfl ?_
            refine Go.aload H at_157 rfl rfl rfl ?_
            refine Go.callV (rest := []) 0 [(.ref a460)] H at_159 rfl S472.1 w72 w73 w75 w74 w10 w76 pd_N11 (ct_eq l W a468 b469 a460 b461 (parL [(chF a), (chF b), (chF c), (chF d)] [(chF a), (chF b), (chF c), (chF d)].length) [(chF a)] h470 S472 S465) all0 rfl rfl rfl (Nat.le_of_eq rfl) (by decide) (by decide) (by decide) (by decide) nh_N5 ?_
            rintro _ _ _ ⟨rfl, rfl, rfl⟩
            show Go _ _ _ _ _ _ h470 [] 14 37 162 #[.val (.int len), .val (.int a), .val (.int b), .val (.int c), .val (.int d), .val (.int (4 : Int32)), .val (.int (chF a)), .val (.int (chF b)), .val (.int (chF c)), .val (.int (chF d)), .val (.ref a299), .val (.int (1 : Int32)), .val (.ref a460), .val (.ref a468)] [(.int (if (parL [(chF a), (chF b), (chF c), (chF d)] [(chF a), (chF b), (chF c), (chF d)].length) = [(chF a)] then (1 : Int32) else 0))]
            exact Go.ireturn 1 [] H at_162 (by simp) (by rw [if_pos (by simp [parL, c305, c417, c418, c446])]; decide) ⟨rfl, trivial⟩ all0 (by decide) (by decide)
      ·
        refine Go.icmpY (pc' := 83) H at_77 (feq c417).2 (by decide) (by decide) ?_
        refine Go.iload H at_83 rfl rfl ?_
        refine Go.iconst (3 : Int32) H at_85 rfl rfl ?_
        refine Go.icmpN H at_86 (by decide) rfl ?_
        refine Go.iload H at_89 rfl rfl ?_
        refine Go.bipush (47 : Int32) H at_91 rfl rfl ?_
        by_cases c473 : (chF c) = (47 : Int32)
        ·
          refine Go.icmpN H at_93 (teq c473).2 rfl ?_
          refine Go.iconst (2 : Int32) H at_96 rfl rfl ?_
          refine Go.istore (ls' := #[.val (.int len), .val (.int a), .val (.int b), .val (.int c), .val (.int d), .val (.int (4 : Int32)), .val (.int (chF a)), .val (.int (chF b)), .val (.int (chF c)), .val (.int (chF d)), .val (.ref a299), .val (.int (2 : Int32)), .unset, .unset]) H at_97 rfl rfl ?_
          refine Go.iload H at_99 rfl rfl ?_
          refine Go.iconst (4 : Int32) H at_101 rfl rfl ?_
          refine Go.icmpN H at_102 (by decide) rfl ?_
          refine Go.iload H at_105 rfl rfl ?_
          refine Go.bipush (47 : Int32) H at_107 rfl rfl ?_
          by_cases c474 : (chF d) = (47 : Int32)
          ·
            refine Go.icmpN H at_109 (teq c474).2 rfl ?_
            refine Go.iconst (3 : Int32) H at_112 rfl rfl ?_
            refine Go.istore (ls' := #[.val (.int len), .val (.int a), .val (.int b), .val (.int c), .val (.int d), .val (.int (4 : Int32)), .val (.int (chF a)), .val (.int (chF b)), .val (.int (chF c)), .val (.int (chF d)), .val (.ref a299), .val (.int (3 : Int32)), .unset, .unset]) H at_113 rfl rfl ?_
            refine Go.iload H at_115 rfl rfl ?_
            refine Go.ifY (pc' := 133) H at_117 (by decide) (by decide) (by decide) ?_
            refine Go.iload H at_133 rfl rfl ?_
            refine Go.iload H at_135 rfl rfl ?_
            refine Go.iload H at_137 rfl rfl ?_
            refine Go.iload H at_139 rfl rfl ?_
            refine Go.iload H at_141 rfl rfl ?_
            refine Go.callS (rest := []) 0 [(.int (3 : Int32)), (.int (chF a)), (.int (chF b)), (.int (chF c)), (.int (chF d))] H at_143 rfl w5 w6 w3 w7 pd_N22 (ct_mk3 l W (chF a) (chF b) (chF c) (chF d) h301 (chF_l _) (chF_l _) (chF_l _) (chF_l _)) all0 rfl rfl rfl (Nat.le_of_eq rfl) (by decide) (by decide) (by decide) (by decide) nh_N0 ?_
            rintro _ h477 _ ⟨a475, b476, rfl, E478, g479, S480, rfl⟩
            have ne481 : a299 ≠ a475 := Nat.ne_of_lt (Nat.lt_of_lt_of_le S304.lt g479)
            have ne482 : b300 ≠ a475 := Nat.ne_of_lt (Nat.lt_of_lt_of_le S304.ltb g479)
            replace S304 := S304.ext E478
            show Go _ _ _ _ _ _ h477 [] 12 31 146 #[.val (.int len), .val (.int a), .val (.int b), .val (.int c), .val (.int d), .val (.int (4 : Int32)), .val (.int (chF a)), .val (.int (chF b)), .val (.int (chF c)), .val (.int (chF d)), .val (.ref a299), .val (.int (3 : Int32)), .unset, .unset] [(.ref a475)]
            refine Go.astore (ls' := #[.val (.int len), .val (.int a), .val (.int b), .val (.int c), .val (.int d), .val (.int (4 : Int32)), .val (.int (chF a)), .val (.int (chF b)), .val (.int (chF c)), .val (.int (chF d)), .val (.ref a299), .val (.int (3 : Int32)), .val (.ref a475), .unset]) H at_146 rfl rfl rfl ?_
            refine Go.aload H at_148 rfl rfl rfl ?_
            refine Go.callS (rest := []) 0 [(.ref a299)] H at_150 rfl w30 w31 w32 w33 pd_N27 (ct_par l W a299 b300 [(chF a), (chF b), (chF c), (chF d)] h477 S304 (Nat.le_of_ble_eq_true rfl)) all0 rfl rfl rfl (Nat.le_of_eq rfl) (by decide) (by decide) (by decide) (by decide) nh_N27 ?_
            rintro _ h485 _ ⟨a483, b484, rfl, E486, S487, rfl⟩
            replace S304 := S304.ext E486
            replace S480 := S480.ext E486
            show Go _ _ _ _ _ _ h485 [] 14 39 153 #[.val (.int len), .val (.int a), .val (.int b), .val (.int c), .val (.int d), .val (.int (4 : Int32)), .val (.int (chF a)), .val (.int (chF b)), .val (.int (chF c)), .val (.int (chF d)), .val (.ref a299), .val (.int (3 : Int32)), .val (.ref a475), .unset] [(.ref a483)]
            refine Go.astore (ls' := #[.val (.int len), .val (.int a), .val (.int b), .val (.int c), .val (.int d), .val (.int (4 : Int32)), .val (.int (chF a)), .val (.int (chF b)), .val (.int (chF c)), .val (.int (chF d)), .val (.ref a299), .val (.int (3 : Int32)), .val (.ref a475), .val (.ref a483)]) H at_153 rfl rfl rfl ?_
            refine Go.aload H at_155 rfl rfl rfl ?_
            refine Go.aload H at_157 rfl rfl rfl ?_
            refine Go.callV (rest := []) 0 [(.ref a475)] H at_159 rfl S487.1 w72 w73 w75 w74 w10 w76 pd_N11 (ct_eq l W a483 b484 a475 b476 (parL [(chF a), (chF b), (chF c), (chF d)] [(chF a), (chF b), (chF c), (chF d)].length) [(chF a), (chF b), (chF c)] h485 S487 S480) all0 rfl rfl rfl (Nat.le_of_eq rfl) (by decide) (by decide) (by decide) (by decide) nh_N5 ?_
            rintro _ _ _ ⟨rfl, rfl, rfl⟩
            show Go _ _ _ _ _ _ h485 [] 14 39 162 #[.val (.int len), .val (.int a), .val (.int b), .val (.int c), .val (.int d), .val (.int (4 : Int32)), .val (.int (chF a)), .val (.int (chF b)), .val (.int (chF c)), .val (.int (chF d)), .val (.ref a299), .val (.int (3 : Int32)), .val (.ref a475), .val (.ref a483)] [(.int (if (parL [(chF a), (chF b), (chF c), (chF d)] [(chF a), (chF b), (chF c), (chF d)].length) = [(chF a), (chF b), (chF c)] then (1 : Int32) else 0))]
            exact Go.ireturn 1 [] H at_162 (by simp) (by rw [if_pos (by simp [parL, c305, c417, c473, c474])]; decide) ⟨rfl, trivial⟩ all0 (by decide) (by decide)
          ·
            refine Go.icmpY (pc' := 115) H at_109 (feq c474).2 (by decide) (by decide) ?_
            refine Go.iload H at_115 rfl rfl ?_
            refine Go.ifY (pc' := 133) H at_117 (by decide) (by decide) (by decide) ?_
            refine Go.iload H at_133 rfl rfl ?_
            refine Go.iload H at_135 rfl rfl ?_
            refine Go.iload H at_137 rfl rfl ?_
            refine Go.iload H at_139 rfl rfl ?_
            refine Go.iload H at_141 rfl rfl ?_
            refine Go.callS (rest := []) 0 [(.int (2 : Int32)), (.int (chF a)), (.int (chF b)), (.int (chF c)), (.int (chF d))] H at_143 rfl w5 w6 w3 w7 pd_N22 (ct_mk2 l W (chF a) (chF b) (chF c) (chF d) h301 (chF_l _) (chF_l _) (chF_l _) (chF_l _)) all0 rfl rfl rfl (Nat.le_of_eq rfl) (by decide) (by decide) (by decide) (by decide) nh_N0 ?_
            rintro _ h490 _ ⟨a488, b489, rfl, E491, g492, S493, rfl⟩
            have ne494 : a299 ≠ a488 := Nat.ne_of_lt (Nat.lt_of_lt_of_le S304.lt g492)
            have ne495 : b300 ≠ a488 := Nat.ne_of_lt (Nat.lt_of_lt_of_le S304.ltb g492)
            replace S304 := S304.ext E491
            show Go _ _ _ _ _ _ h490 [] 12 30 146 #[.val (.int len), .val (.int a), .val (.int b), .val (.int c), .val (.int d), .val (.int (4 : Int32)), .val (.int (chF a)), .val (.int (chF b)), .val (.int (chF c)), .val (.int (chF d)), .val (.ref a299), .val (.int (2 : Int32)), .unset, .unset] [(.ref a488)]
            refine Go.astore (ls' := #[.val (.int len), .val (.int a), .val (.int b), .val (.int c), .val (.int d), .val (.int (4 : Int32)), .val (.int (chF a)), .val (.int (chF b)), .val (.int (chF c)), .val (.int (chF d)), .val (.ref a299), .val (.int (2 : Int32)), .val (.ref a488), .unset]) H at_146 rfl rfl rfl ?_
            refine Go.aload H at_148 rfl rfl rfl ?_
            refine Go.callS (rest := []) 0 [(.ref a299)] H at_150 rfl w30 w31 w32 w33 pd_N27 (ct_par l W a299 b300 [(chF a), (chF b), (chF c), (chF d)] h490 S304 (Nat.le_of_ble_eq_true rfl)) all0 rfl rfl rfl (Nat.le_of_eq rfl) (by decide) (by decide) (by decide) (by decide) nh_N27 ?_
            rintro _ h498 _ ⟨a496, b497, rfl, E499, S500, rfl⟩
            replace S304 := S304.ext E499
            replace S493 := S493.ext E499
            show Go _ _ _ _ _ _ h498 [] 14 38 153 #[.val (.int len), .val (.int a), .val (.int b), .val (.int c), .val (.int d), .val (.int (4 : Int32)), .val (.int (chF a)), .val (.int (chF b)), .val (.int (chF c)), .val (.int (chF d)), .val (.ref a299), .val (.int (2 : Int32)), .val (.ref a488), .unset] [(.ref a496)]
            refine Go.astore (ls' := #[.val (.int len), .val (.int a), .val (.int b), .val (.int c), .val (.int d), .val (.int (4 : Int32)), .val (.int (chF a)), .val (.int (chF b)), .val (.int (chF c)), .val (.int (chF d)), .val (.ref a299), .val (.int (2 : Int32)), .val (.ref a488), .val (.ref a496)]) H at_153 rfl rfl rfl ?_
            refine Go.aload H at_155 rfl rfl rfl ?_
            refine Go.aload H at_157 rfl rfl rfl ?_
            refine Go.callV (rest := []) 0 [(.ref a488)] H at_159 rfl S500.1 w72 w73 w75 w74 w10 w76 pd_N11 (ct_eq l W a496 b497 a488 b489 (parL [(chF a), (chF b), (chF c), (chF d)] [(chF a), (chF b), (chF c), (chF d)].length) [(chF a), (chF b)] h498 S500 S493) all0 rfl rfl rfl (Nat.le_of_eq rfl) (by decide) (by decide) (by decide) (by decide) nh_N5 ?_
            rintro _ _ _ ⟨rfl, rfl, rfl⟩
            show Go _ _ _ _ _ _ h498 [] 14 38 162 #[.val (.int len), .val (.int a), .val (.int b), .val (.int c), .val (.int d), .val (.int (4 : Int32)), .val (.int (chF a)), .val (.int (chF b)), .val (.int (chF c)), .val (.int (chF d)), .val (.ref a299), .val (.int (2 : Int32)), .val (.ref a488), .val (.ref a496)] [(.int (if (parL [(chF a), (chF b), (chF c), (chF d)] [(chF a), (chF b), (chF c), (chF d)].length) = [(chF a), (chF b)] then (1 : Int32) else 0))]
            exact Go.ireturn 1 [] H at_162 (by simp) (by rw [if_pos (by simp [parL, c305, c417, c473, c474])]; decide) ⟨rfl, trivial⟩ all0 (by decide) (by decide)
        ·
          refine Go.icmpY (pc' := 99) H at_93 (feq c473).2 (by decide) (by decide) ?_
          refine Go.iload H at_99 rfl rfl ?_
          refine Go.iconst (4 : Int32) H at_101 rfl rfl ?_
          refine Go.icmpN H at_102 (by decide) rfl ?_
          refine Go.iload H at_105 rfl rfl ?_
          refine Go.bipush (47 : Int32) H at_107 rfl rfl ?_
          by_cases c501 : (chF d) = (47 : Int32)
          ·
            refine Go.icmpN H at_109 (teq c501).2 rfl ?_
            refine Go.iconst (3 : Int32) H at_112 rfl rfl ?_
            refine Go.istore (ls' := #[.val (.int len), .val (.int a), .val (.int b), .val (.int c), .val (.int d), .val (.int (4 : Int32)), .val (.int (chF a)), .val (.int (chF b)), .val (.int (chF c)), .val (.int (chF d)), .val (.ref a299), .val (.int (3 : Int32)), .unset, .unset]) H at_113 rfl rfl ?_
            refine Go.iload H at_115 rfl rfl ?_
            refine Go.ifY (pc' := 133) H at_117 (by decide) (by decide) (by decide) ?_
            refine Go.iload H at_133 rfl rfl ?_
            refine Go.iload H at_135 rfl rfl ?_
            refine Go.iload H at_137 rfl rfl ?_
            refine Go.iload H at_139 rfl rfl ?_
            refine Go.iload H at_141 rfl rfl ?_
            refine Go.callS (rest := []) 0 [(.int (3 : Int32)), (.int (chF a)), (.int (chF b)), (.int (chF c)), (.int (chF d))] H at_143 rfl w5 w6 w3 w7 pd_N22 (ct_mk3 l W (chF a) (chF b) (chF c) (chF d) h301 (chF_l _) (chF_l _) (chF_l _) (chF_l _)) all0 rfl rfl rfl (Nat.le_of_eq rfl) (by decide) (by decide) (by decide) (by decide) nh_N0 ?_
            rintro _ h504 _ ⟨a502, b503, rfl, E505, g506, S507, rfl⟩
            have ne508 : a299 ≠ a502 := Nat.ne_of_lt (Nat.lt_of_lt_of_le S304.lt g506)
            have ne509 : b300 ≠ a502 := Nat.ne_of_lt (Nat.lt_of_lt_of_le S304.ltb g506)
            replace S304 := S304.ext E505
            show Go _ _ _ _ _ _ h504 [] 12 31 146 #[.val (.int len), .val (.int a), .val (.int b), .val (.int c), .val (.int d), .val (.int (4 : Int32)), .val (.int (chF a)), .val (.int (chF b)), .val (.int (chF c)), .val (.int (chF d)), .val (.ref a299), .val (.int (3 : Int32)), .unset, .unset] [(.ref a502)]
            refine Go.astore (ls' := #[.val (.int len), .val (.int a), .val (.int b), .val (.int c), .val (.int d), .val (.int (4 : Int32)), .val (.int (chF a)), .val (.int (chF b)), .val (.int (chF c)), .val (.int (chF d)), .val (.ref a299), .val (.int (3 : Int32)), .val (.ref a502), .unset]) H at_146 rfl rfl rfl ?_
            refine Go.aload H at_148 rfl rfl rfl ?_
            refine Go.callS (rest := []) 0 [(.ref a299)] H at_150 rfl w30 w31 w32 w33 pd_N27 (ct_par l W a299 b300 [(chF a), (chF b), (chF c), (chF d)] h504 S304 (Nat.le_of_ble_eq_true rfl)) all0 rfl rfl rfl (Nat.le_of_eq rfl) (by decide) (by decide) (by decide) (by decide) nh_N27 ?_
            rintro _ h512 _ ⟨a510, b511, rfl, E513, S514, rfl⟩
            replace S304 := S304.ext E513
            replace S507 := S507.ext E513
            show Go _ _ _ _ _ _ h512 [] 14 39 153 #[.val (.int len), .val (.int a), .val (.int b), .val (.int c), .val (.int d), .val (.int (4 : Int32)), .val (.int (chF a)), .val (.int (chF b)), .val (.int (chF c)), .val (.int (chF d)), .val (.ref a299), .val (.int (3 : Int32)), .val (.ref a502), .unset] [(.ref a510)]
            refine Go.astore (ls' := #[.val (.int len), .val (.int a), .val (.int b), .val (.int c), .val (.int d), .val (.int (4 : Int32)), .val (.int (chF a)), .val (.int (chF b)), .val (.int (chF c)), .val (.int (chF d)), .val (.ref a299), .val (.int (3 : Int32)), .val (.ref a502), .val (.ref a510)]) H at_153 rfl rfl rfl ?_
            refine Go.aload H at_155 rfl rfl rfl ?_
            refine Go.aload H at_157 rfl rfl rfl ?_
            refine Go.callV (rest := []) 0 [(.ref a502)] H at_159 rfl S514.1 w72 w73 w75 w74 w10 w76 pd_N11 (ct_eq l W a510 b511 a502 b503 (parL [(chF a), (chF b), (chF c), (chF d)] [(chF a), (chF b), (chF c), (chF d)].length) [(chF a), (chF b), (chF c)] h512 S514 S507) all0 rfl rfl rfl (Nat.le_of_eq rfl) (by decide) (by decide) (by decide) (by decide) nh_N5 ?_
            rintro _ _ _ ⟨rfl, rfl, rfl⟩
            show Go _ _ _ _ _ _ h512 [] 14 39 162 #[.val (.int len), .val (.int a), .val (.int b), .val (.int c), .val (.int d), .val (.int (4 : Int32)), .val (.int (chF a)), .val (.int (chF b)), .val (.int (chF c)), .val (.int (chF d)), .val (.ref a299), .val (.int (3 : Int32)), .val (.ref a502), .val (.ref a510)] [(.int (if (parL [(chF a), (chF b), (chF c), (chF d)] [(chF a), (chF b), (chF c), (chF d)].length) = [(chF a), (chF b), (chF c)] then (1 : Int32) else 0))]
            exact Go.ireturn 1 [] H at_162 (by simp) (by rw [if_pos (by simp [parL, c305, c417, c473, c501])]; decide) ⟨rfl, trivial⟩ all0 (by decide) (by decide)
          ·
            refine Go.icmpY (pc' := 115) H at_109 (feq c501).2 (by decide) (by decide) ?_
            refine Go.iload H at_115 rfl rfl ?_
            refine Go.ifN H at_117 (by decide) rfl ?_
            refine Go.new H at_120 rfl w8 w9 w10 (by decide) (by decide) ?_
            intro a515 h516 g517 z518 E519 A520 D521
            have ne522 : a299 ≠ a515 := Nat.ne_of_lt (Nat.lt_of_lt_of_le S304.lt (Nat.le_of_eq g517.symm))
            have ne523 : b300 ≠ a515 := Nat.ne_of_lt (Nat.lt_of_lt_of_le S304.ltb (Nat.le_of_eq g517.symm))
            replace S304 := S304.ext E519
            have F524 : Fld Z h516 a515 "java/lang/String" "value" "[B" .null := D521 (Or.inr w24) (ty := (.array .byte)) (by decide)
            have F525 : Fld Z h516 a515 "java/lang/String" "coder" "B" (.int (0 : Int32)) := D521 (Or.inr w25) (ty := .byte) (by decide)
            show Go _ _ _ _ _ _ h516 [a515] 7 20 123 #[.val (.int len), .val (.int a), .val (.int b), .val (.int c), .val (.int d), .val (.int (4 : Int32)), .val (.int (chF a)), .val (.int (chF b)), .val (.int (chF c)), .val (.int (chF d)), .val (.ref a299), .val (.int (-1 : Int32)), .unset, .unset] [(.ref a515)]
            refine Go.dup H at_123 rfl rfl ?_
            refine Go.iconst (0 : Int32) H at_124 rfl rfl ?_
            refine Go.newarray 0 0 H at_125 rfl w11 rfl (by decide) (by decide) (by decide) (by decide) (by decide) (by decide) (by decide) ?_
            intro a526 h527 g528 z529 E530 F531
            have ne532 : a299 ≠ a526 := Nat.ne_of_lt (Nat.lt_of_lt_of_le S304.lt (Nat.le_of_eq g528.symm))
            have ne533 : b300 ≠ a526 := Nat.ne_of_lt (Nat.lt_of_lt_of_le S304.ltb (Nat.le_of_eq g528.symm))
            have ne534 : a515 ≠ a526 := Nat.ne_of_lt (Nat.lt_of_lt_of_le A520.lt (Nat.le_of_eq g528.symm))
            replace S304 := S304.ext E530
            replace A520 := A520.ext E530
            replace F524 := F524.ext E530
            replace F525 := F525.ext E530
            replace F531 : Vec Z h527 a526 .char [] := F531
            show Go _ _ _ _ _ _ h527 [a526, a515] 8 20 127 #[.val (.int len), .val (.int a), .val (.int b), .val (.int c), .val (.int d), .val (.int (4 : Int32)), .val (.int (chF a)), .val (.int (chF b)), .val (.int (chF c)), .val (.int (chF d)), .val (.ref a299), .val (.int (-1 : Int32)), .unset, .unset] [(.ref a526), (.ref a515), (.ref a515)]
            refine Go.callI (rest := [(.ref a515)]) 1 [(.ref a526)] H at_127 rfl rfl w12 w13 w10 w14 pd_N6 (ct_new1 l W a515 a526 ([] : List Int32) h527 A520 F524 F525 F531 own_an (Nat.le_of_ble_eq_true rfl)  z518) (by simp) rfl rfl rfl (Nat.le_of_eq rfl) (by decide) (by decide) (by decide) (by decide) nh_N5 ?_
            rintro _ h535 _ ⟨rfl, K536, ⟨b537, S539⟩, rfl⟩
            replace S304 := S304.keep K536 (ninS ne522 nin0) (ninS ne523 nin0)
            replace F531 := F531.keep K536 (ninS (Ne.symm ne534) nin0)
            show Go _ _ _ _ _ _ h535 [a526, a515] 12 28 130 #[.val (.int len), .val (.int a), .val (.int b), .val (.int c), .val (.int d), .val (.int (4 : Int32)), .val (.int (chF a)), .val (.int (chF b)), .val (.int (chF c)), .val (.int (chF d)), .val (.ref a299), .val (.int (-1 : Int32)), .unset, .unset] [(.ref a515)]
            refine Go.goto (pc' := 146) H at_130 (by decide) (by decide) ?_
            refine Go.astore (ls' := #[.val (.int len), .val (.int a), .val (.int b), .val (.int c), .val (.int d), .val (.int (4 : Int32)), .val (.int (chF a)), .val (.int (chF b)), .val (.int (chF c)), .val (.int (chF d)), .val (.ref a299), .val (.int (-1 : Int32)), .val (.ref a515), .unset]) H at_146 rfl rfl rfl ?_
            refine Go.aload H at_148 rfl rfl rfl ?_
            refine Go.callS (rest := []) 0 [(.ref a299)] H at_150 rfl w30 w31 w32 w33 pd_N27 (ct_par l W a299 b300 [(chF a), (chF b), (chF c), (chF d)] h535 S304 (Nat.le_of_ble_eq_true rfl)) all0 rfl rfl rfl (Nat.le_of_eq rfl) (by decide) (by decide) (by decide) (by decide) nh_N27 ?_
            rintro _ h542 _ ⟨a540, b541, rfl, E543, S544, rfl⟩
            replace S304 := S304.ext E543
            replace F531 := F531.ext E543
            replace S539 := S539.ext E543
            show Go _ _ _ _ _ _ h542 [a526, a515] 14 36 153 #[.val (.int len), .val (.int a), .val (.int b), .val (.int c), .val (.int d), .val (.int (4 : Int32)), .val (.int (chF a)), .val (.int (chF b)), .val (.int (chF c)), .val (.int (chF d)), .val (.ref a299), .val (.int (-1 : Int32)), .val (.ref a515), .unset] [(.ref a540)]
            refine Go.astore (ls' := #[.val (.int len), .val (.int a), .val (.int b), .val (.int c), .val (.int d), .val (.int (4 : Int32)), .val (.int (chF a)), .val (.int (chF b)), .val (.int (chF c)), .val (.int (chF d)), .val (.ref a299), .val (.int (-1 : Int32)), .val (.ref a515), .val (.ref a540)]) H at_153 rfl rfl rfl ?_
            refine Go.aload H at_155 rfl rfl rfl ?_
            refine Go.aload H at_157 rfl rfl rfl ?_
            refine Go.callV (rest := []) 0 [(.ref a515)] H at_159 rfl S544.1 w72 w73 w75 w74 w10 w76 pd_N11 (ct_eq l W a540 b541 a515 b537 (parL [(chF a), (chF b), (chF c), (chF d)] [(chF a), (chF b), (chF c), (chF d)].length) ([] : List Int32) h542 S544 S539) all0 rfl rfl rfl (Nat.le_of_eq rfl) (by decide) (by decide) (by decide) (by decide) nh_N5 ?_
            rintro _ _ _ ⟨rfl, rfl, rfl⟩
            show Go _ _ _ _ _ _ h542 [a526, a515] 14 36 162 #[.val (.int len), .val (.int a), .val (.int b), .val (.int c), .val (.int d), .val (.int (4 : Int32)), .val (.int (chF a)), .val (.int (chF b)), .val (.int (chF c)), .val (.int (chF d)), .val (.ref a299), .val (.int (-1 : Int32)), .val (.ref a515), .val (.ref a540)] [(.int (if (parL [(chF a), (chF b), (chF c), (chF d)] [(chF a), (chF b), (chF c), (chF d)].length) = ([] : List Int32) then (1 : Int32) else 0))]
            exact Go.ireturn 1 [] H at_162 (by simp) (by rw [if_pos (by simp [parL, c305, c417, c473, c501])]; decide) ⟨rfl, trivial⟩ all0 (by decide) (by decide)
theorem w26 : Jvm.Cond.soleField "java/lang/String" "value" ∈ tables_1 := List.mem_of_getElem? (i := 26) rfl
theorem w27 : Jvm.Cond.soleField "java/lang/String" "coder" ∈ tables_1 := List.mem_of_getElem? (i := 27) rfl
set_option maxRecDepth 65536 in
set_option maxHeartbeats 4000000 in
theorem comes_1 {Post : Tables → Env → Array Value → State → Outcome → State → Prop} (hpost : ∀ tb e args s v u, (limb_1_1.after args s (.returned v) u = true ∧ limb_1_2.after args s (.returned v) u = true ∧ True) → ReturnedEndW s (.returned v) u (Jvm.fieldLocs frame_1_writes args s ++ Jvm.arrayLocs frame_1_arrays args s ++ Jvm.staticLocs frame_1_statics s) 32 3264 → Post tb e args s (.returned v) u) :
    ArmFor flags0 classFile x code maxLocals ret World_1 tables_1 room_1 Calls_1 rest_1 Pre_1 Post := by
  intro l hfl _ _ p e ha hc hk s m args below hf hA hF happ hP
  obtain ⟨hcalls, hrest, hpre⟩ := hP
  obtain ⟨-, -, -, hnamed, -, -, -, hat⟩ := (Spec.applies_iff hf).mp happ
  obtain ⟨hg, hn⟩ := and_e (Cond.before_iff.mp (show (Jvm.Cond.and given_1 narrow_1).before args s = true from hpre))
  obtain ⟨h1, h2⟩ := and_e hg
  obtain ⟨k0, r0⟩ := and_e h2
  obtain ⟨k1, r1⟩ := and_e r0
  obtain ⟨k2, r2⟩ := and_e r1
  obtain ⟨k3, r3⟩ := and_e r2
  obtain ⟨w0, w1, w2, w3, w4, rfl⟩ : ∃ w0 w1 w2 w3 w4 : Value, args = #[w0, w1, w2, w3, w4] := by
    have hs : args.size = 5 := by simpa [Cond.value, given_1] using h1
    obtain ⟨L⟩ := args
    match L, hs with
    | [w0, w1, w2, w3, w4], _ => exact ⟨w0, w1, w2, w3, w4, rfl⟩
  have hw := fun d (hd : d ∈ tables_1) => atoms_spec (ws := Jvm.Cond.code x code maxLocals ret :: tables_1) hat d (List.mem_cons_of_mem _ hd)
  obtain ⟨hsets, hown0⟩ := atoms_of _ (rest_1_c_eq ▸ (show rest_1_c.before _ s = true from hrest))
  have hfit : Fit s := fun {y c} hc i hi => by
    obtain ⟨ha, rfl⟩ := Array.getElem?_eq_some_iff.mp hc
    have q := List.all_eq_true.mp ((Array.all_eq_true_iff_forall_mem.mp hF) _ (Array.getElem_mem ha)) i (List.mem_range.mpr hi)
    simpa [Array.getElem?_eq_getElem hi] using q
  obtain ⟨i0, e0⟩ := is_v k0
  obtain rfl : w0 = (.int i0) := Option.some.inj e0
  obtain ⟨i1, e1⟩ := is_v k1
  obtain rfl : w1 = (.int i1) := Option.some.inj e1
  obtain ⟨i2, e2⟩ := is_v k2
  obtain rfl : w2 = (.int i2) := Option.some.inj e2
  obtain ⟨i3, e3⟩ := is_v k3
  obtain rfl : w3 = (.int i3) := Option.some.inj e3
  obtain ⟨i4, e4⟩ := is_v r3
  obtain rfl : w4 = (.int i4) := Option.some.inj e4
  have n5 := not_v (Cond.before_iff.mp (hsets _ (List.mem_of_getElem? (i := 2) rfl)))
  obtain ⟨iz, ez⟩ := is_v (Cond.before_iff.mp (hsets _ (List.mem_of_getElem? (i := 1) rfl)))
  have Sz : Sta s s.heap "java/lang/String" "COMPACT_STRINGS" "Z" (.int iz) := Sta.start ez (Or.inl (hsets _ (List.mem_of_getElem? (i := 0) rfl)))
  obtain ⟨vf, ef, rf⟩ := isR_v (Cond.before_iff.mp (hsets _ (List.mem_of_getElem? (i := 8) rfl)))
  have Sf : Sta s s.heap "jdk/internal/util/Preconditions" "SIOOBE_FORMATTER" "Ljava/util/function/BiFunction;" vf := Sta.start ef (Or.inl (hsets _ (List.mem_of_getElem? (i := 7) rfl)))
  have cz : ¬ (iz = (0 : Int32)) := gotF (Cond.eq_ints ez (Term.int_eval (0))) n5
  have hEL : EW s _ consts_1 := (EW.cons (hw _ w71) (by decide) (EW.cons (hw _ w22) (by decide) (EW.cons (hw _ w126) (by decide) EW.nil)))
  have hat7 : ∀ a ∈ Bundle.stringAtoms, a.before _ s = true := fun a ha => by
    simp only [Bundle.stringAtoms, List.mem_cons, List.not_mem_nil, or_false] at ha
    rcases ha with rfl | rfl | rfl | rfl | rfl | rfl | rfl
    · exact hw _ w10
    · exact hw _ w9
    · exact hw _ w23
    · exact hw _ w24
    · exact hw _ w25
    · exact hw _ w26
    · exact hw _ w27
  have hCH : CHv s consts_1 s.vm s.heap := CHv.start hEL (fun p hp => hcalls.1 p hp) (hsets _ (List.mem_of_getElem? (i := 2) rfl)) (hw _ w23) (hw _ w9)
  obtain ⟨n, o, h1, h2, h3, _, L, rfl, ⟨⟨sn, ⟨rfl, -⟩, -⟩, N, -⟩, -, hq⟩ := ct_law l (Z := s) (n0 := s.heap.size) ⟨⟨_, hw, hEL, hat7⟩, cz, Sz, rf, Sf⟩ i0 i1 i2 i3 i4 s.heap (Old.start s) tables_1 p e ha hc hk s m _ below hf ((Spec.applies_iff_loose hf).mp happ).1 ⟨rfl, State.Warmed39.refl s, rfl, hCH, fun x q => nomatch q⟩ trivial
  refine ⟨n, _, h1, h2, h3, hpost _ _ _ _ _ _ ⟨Cond.after_iff.mpr rfl, Cond.after_iff.mpr (eq_i res_at (Term.int_eval (1)) rfl), trivial⟩ ⟨hq.1, hq.2.1, hq.2.2.1, (hq.2.2.2.sift fun y hy => Or.inr (N y hy)).mono (by decide) (by decide)⟩⟩
theorem main_1_1 : Claimed_1_1 := comes_1 fun _ _ _ _ _ _ h hF => ⟨h.1, hF⟩
theorem main_1_2 : Claimed_1_2 := comes_1 fun _ _ _ _ _ _ h hF => ⟨h.2.1, hF⟩
end Jvm.Pilot.@@N@@
namespace Jvm.Pilot.@@N@@
open Jvm Jvm.ClassFile Sem Op Lib Jvm.Free Jvm.Stand Jvm.Pilot.@@N@@.Jvm.D
/-! MADE BY PROGRAM (witnessworld.py) out of the Statement's table words and the real class files: 23 classes; the members and pool entries that the words name. The judged class is class 1, her method 3. -/
namespace start1
open Jvm.ClassFile
def u (s : String) : CpInfo := .utf8 (stringToUtf16 s)
/-- a pool by its gaps: so many unusable entries, then the entry; so many at the end -/
def gap : Nat → List CpInfo → List CpInfo
  | 0, r => r
  | n + 1, r => .unusable :: gap n r
def poolList (es : List (Nat × CpInfo)) (last : Nat) : List CpInfo := es.foldr (fun e r => gap e.1 (e.2 :: r)) (gap last [])
def pool (es : List (Nat × CpInfo)) (last : Nat) : Array CpInfo := ⟨poolList es last⟩
def fileOf (pool : Array CpInfo) (this : Nat) (attrs : Array Attribute := #[]) (ms : Array MethodInfo := #[]) (fl : Nat := 33) (sup : Nat := 0) (ifs : Array Nat := #[]) (fds : Array FieldInfo := #[]) : ClassFile where
  minorVersion := 0
  majorVersion := 65
  constantPool := pool
  accessFlags := fl
  thisClass := this
  superClass := sup
  interfaces := ifs
  fields := fds
  methods := ms
  attributes := attrs
def plain (name : String) (sup : Option ClassId) : Class where
  name := name
  kind := .ordinary
  loader := none
  accessFlags := 33
  super := sup
  interfaces := #[]
  cf := none
  fields := #[]
  methods := #[]
  instanceTypes := #[]
  staticTypes := #[]
  resolved := #[]
  callSites := []
  init := .initialized
  statics := none
  mirror := none

def pool0 : Array CpInfo := pool [(5, u "<init>"), (0, u "()V"), (1, .class_ 10), (1, u "java/lang/Object")] 113

def k0c0 : Code := { maxStack := 0, maxLocals := 1, code := object_method_1_code, exceptionTable := #[], attributes := #[] }
def k0m0 : Method := { name := "<init>", desc := "()V", sig := { parameters := [], returnType := none }, accessFlags := 1, code := some k0c0 }
/-- java/lang/Object -/
def k0 : Class := { plain "java/lang/Object" none with
  accessFlags := 33
  interfaces := #[]
  cf := some (fileOf pool0 8 #[] #[{ accessFlags := 1, nameIndex := 5, descriptorIndex := 6, attributes := #[] }] 33 0 #[] #[])
  fields := #[]
  methods := #[k0m0]
  instanceTypes := #[]
  staticTypes := #[]
  resolved := Array.replicate 124 none
  statics := none }

def pool1 : Array CpInfo := pool [(2, .class_ 4), (1, u "java/lang/Object"), (0, u "<init>"), (0, u "()V"), (0, .class_ 8), (0, u "java/lang/String"), (0, .methodref 7 10), (0, .nameAndType 5 11), (0, u "([C)V"), (0, .integer 2147483647), (0, .methodref 14 15), (0, .class_ 16), (0, .nameAndType 17 18), (0, u "com/example/cairnstore/cairnstore/ocfl/EntryTreeParentPinLaw"), (0, u "ch"), (0, u "(I)C"), (0, .methodref 14 20), (0, .nameAndType 21 22), (0, u "mk"), (0, u "(ICCCC)Ljava/lang/String;"), (0, .methodref 24 25), (0, .class_ 26), (0, .nameAndType 27 28), (0, u "com/example/cairnstore/cairnstore/ocfl/EntryTree"), (0, u "parent"), (0, u "(Ljava/lang/String;)Ljava/lang/String;"), (0, .methodref 7 30), (0, .nameAndType 31 32), (0, u "equals"), (0, u "(Ljava/lang/Object;)Z"), (3, u "law"), (0, u "(IIIII)Z")] 2

def k1m0 : Method := { name := "<init>", desc := "()V", sig := { parameters := [], returnType := none }, accessFlags := 1, code := none }
def k1c1 : Code := { maxStack := 2, maxLocals := 1, code := method_2_code, exceptionTable := #[], attributes := #[] }
def k1m1 : Method := { name := "ch", desc := "(I)C", sig := { parameters := [.int], returnType := some .char }, accessFlags := 10, code := some k1c1 }
def k1c2 : Code := { maxStack := 6, maxLocals := 5, code := method_3_code, exceptionTable := #[], attributes := #[] }
def k1m2 : Method := { name := "mk", desc := "(ICCCC)Ljava/lang/String;", sig := { parameters := [.int, .char, .char, .char, .char], returnType := some (.object "java/lang/String") }, accessFlags := 10, code := some k1c2 }
def k1c3 : Code := { maxStack := 5, maxLocals := 14, code := code, exceptionTable := #[], attributes := #[] }
def k1m3 : Method := { name := "law", desc := "(IIIII)Z", sig := { parameters := [.int, .int, .int, .int, .int], returnType := some .boolean }, accessFlags := 9, code := some k1c3 }
/-- com/example/cairnstore/cairnstore/ocfl/EntryTreeParentPinLaw -/
def k1 : Class := { plain "com/example/cairnstore/cairnstore/ocfl/EntryTreeParentPinLaw" (some 0) with
  accessFlags := 49
  interfaces := #[]
  cf := some (fileOf pool1 14 #[] #[{ accessFlags := 1, nameIndex := 5, descriptorIndex := 6, attributes := #[] }, { accessFlags := 10, nameIndex := 17, descriptorIndex := 18, attributes := #[] }, { accessFlags := 10, nameIndex := 21, descriptorIndex := 22, attributes := #[] }, { accessFlags := 9, nameIndex := 36, descriptorIndex := 37, attributes := #[] }] 49 2 #[] #[])
  fields := #[]
  methods := #[k1m0, k1m1, k1m2, k1m3]
  instanceTypes := #[]
  staticTypes := #[]
  resolved := Array.replicate 40 none
  statics := none }

def pool2 : Array CpInfo := pool [(1, .class_ 2), (0, u "java/io/Serializable"), (0, .class_ 4), (0, u "java/lang/Object")] 2

/-- java/io/Serializable -/
def k2 : Class := { plain "java/io/Serializable" (some 0) with
  accessFlags := 1537
  interfaces := #[]
  cf := some (fileOf pool2 1 #[] #[] 1537 3 #[] #[])
  fields := #[]
  methods := #[]
  instanceTypes := #[]
  staticTypes := #[]
  resolved := Array.replicate 7 none
  statics := none }

def pool3 : Array CpInfo := pool [(1, .class_ 2), (0, u "java/lang/Comparable"), (0, .class_ 4), (0, u "java/lang/Object")] 7

/-- java/lang/Comparable -/
def k3 : Class := { plain "java/lang/Comparable" (some 0) with
  accessFlags := 1537
  interfaces := #[]
  cf := some (fileOf pool3 1 #[] #[] 1537 3 #[] #[])
  fields := #[]
  methods := #[]
  instanceTypes := #[]
  staticTypes := #[]
  resolved := Array.replicate 12 none
  statics := none }

def pool4 : Array CpInfo := pool [(2, .class_ 4), (1, u "java/lang/CharSequence"), (42, .class_ 48), (0, u "java/lang/CharSequence$1CodePointIterator"), (10, .class_ 60), (0, u "java/lang/CharSequence$1CharIterator"), (5, .class_ 67), (0, u "java/lang/Object")] 63

/-- java/lang/CharSequence -/
def k4 : Class := { plain "java/lang/CharSequence" (some 0) with
  accessFlags := 1537
  interfaces := #[]
  cf := some (fileOf pool4 2 #[.nestMembers #[47, 59]] #[] 1537 66 #[] #[])
  fields := #[]
  methods := #[]
  instanceTypes := #[]
  staticTypes := #[]
  resolved := Array.replicate 131 none
  statics := none }

def pool5 : Array CpInfo := pool [(1, .class_ 2), (0, u "java/lang/constant/Constable"), (0, .class_ 4), (0, u "java/lang/Object")] 6

/-- java/lang/constant/Constable -/
def k5 : Class := { plain "java/lang/constant/Constable" (some 0) with
  accessFlags := 1537
  interfaces := #[]
  cf := some (fileOf pool5 1 #[] #[] 1537 3 #[] #[])
  fields := #[]
  methods := #[]
  instanceTypes := #[]
  staticTypes := #[]
  resolved := Array.replicate 11 none
  statics := none }

def pool6 : Array CpInfo := pool [(1, .class_ 2), (0, u "java/lang/constant/ConstantDesc"), (0, .class_ 4), (0, u "java/lang/Object")] 32

/-- java/lang/constant/ConstantDesc -/
def k6 : Class := { plain "java/lang/constant/ConstantDesc" (some 0) with
  accessFlags := 1537
  interfaces := #[]
  cf := some (fileOf pool6 1 #[] #[] 1537 3 #[] #[])
  fields := #[]
  methods := #[]
  instanceTypes := #[]
  staticTypes := #[]
  resolved := Array.replicate 37 none
  statics := none }

def pool7 : Array CpInfo := pool [(1, .methodref 2 3), (0, .class_ 4), (0, .nameAndType 5 6), (0, u "java/lang/Object"), (0, u "<init>"), (0, u "()V"), (0, .string 8), (0, u ""), (0, .fieldref 10 11), (0, .class_ 12), (0, .nameAndType 13 14), (0, u "java/lang/String"), (0, u "value"), (0, u "[B"), (0, .fieldref 10 16), (0, .nameAndType 17 18), (0, u "coder"), (0, u "B"), (2, u "hash"), (0, u "I"), (2, u "hashIsZero"), (0, u "Z"), (0, .methodref 10 28), (0, .nameAndType 5 29), (0, u "([CIILjava/lang/Void;)V"), (8, .fieldref 10 39), (0, .nameAndType 40 26), (0, u "COMPACT_STRINGS"), (1, .class_ 44), (1, u "java/lang/StringUTF16"), (0, u "compress"), (1, .methodref 42 48), (0, .nameAndType 49 50), (0, u "coderFromArrayLen"), (0, u "([BI)B"), (46, u "([BII)I"), (9, .class_ 109), (1, u "java/lang/StringLatin1"), (32, u "()Z"), (34, .methodref 42 178), (0, .nameAndType 45 179), (0, u "([CII)[B"), (31, u "([BB)V"), (122, u "()I"), (0, .methodref 10 336), (0, .nameAndType 17 337), (0, u "()B"), (154, .methodref 10 493), (0, .nameAndType 494 142), (0, u "isLatin1"), (10, .methodref 10 506), (0, .nameAndType 507 334), (0, u "length"), (5, u "checkFromToIndex"), (7, .methodref 10 522), (0, .nameAndType 523 524), (0, u "checkBoundsBeginEnd"), (0, u "(III)V"), (16, .methodref 107 542), (0, .nameAndType 543 544), (0, u "equals"), (0, u "([B[B)Z"), (28, u "(Ljava/lang/Object;)Z"), (1, .class_ 576), (0, u "java/lang/CharSequence"), (22, u "CASE_INSENSITIVE_ORDER"), (0, u "Ljava/util/Comparator;"), (35, u "(II)I"), (4, .methodref 10 642), (0, .nameAndType 643 636), (0, u "lastIndexOf"), (0, .methodref 107 645), (0, .nameAndType 643 97), (37, u "substring"), (0, u "(II)Ljava/lang/String;"), (0, .methodref 107 686), (0, .nameAndType 687 688), (0, u "newString"), (0, u "([BII)Ljava/lang/String;"), (76, u "(I)I"), (244, u "([C)V"), (42, .fieldref 1054 1055), (0, .class_ 1056), (0, .nameAndType 1057 1058), (0, u "jdk/internal/util/Preconditions"), (0, u "SIOOBE_FORMATTER"), (0, u "Ljava/util/function/BiFunction;"), (3, .methodref 1054 1063), (0, .nameAndType 513 1064), (0, u "(IIILjava/util/function/BiFunction;)I"), (36, u "serialPersistentFields"), (0, u "[Ljava/io/ObjectStreamField;"), (0, .class_ 1104), (0, u "java/lang/String$CaseInsensitiveComparator"), (1, .class_ 1107), (0, u "java/io/Serializable"), (0, .class_ 1109), (0, u "java/lang/Comparable"), (0, .class_ 1111), (0, u "java/lang/constant/Constable"), (0, .class_ 1113), (0, u "java/lang/constant/ConstantDesc"), (2, u "serialVersionUID"), (0, u "J"), (3, u "REPL"), (0, u "C"), (2, u "LATIN1"), (1, u "UTF16")] 323

def k7m0 : Method := { name := "<init>", desc := "()V", sig := { parameters := [], returnType := none }, accessFlags := 1, code := none }
def k7c1 : Code := { maxStack := 5, maxLocals := 2, code := jdk_42_method_3_code, exceptionTable := #[], attributes := #[] }
def k7m1 : Method := { name := "<init>", desc := "([C)V", sig := { parameters := [(.array .char)], returnType := none }, accessFlags := 1, code := some k7c1 }
def k7c2 : Code := { maxStack := 2, maxLocals := 1, code := jdk_42_method_54_code, exceptionTable := #[], attributes := #[] }
def k7m2 : Method := { name := "length", desc := "()I", sig := { parameters := [], returnType := some .int }, accessFlags := 1, code := some k7c2 }
def k7c3 : Code := { maxStack := 2, maxLocals := 3, code := jdk_42_method_66_code, exceptionTable := #[], attributes := #[] }
def k7m3 : Method := { name := "equals", desc := "(Ljava/lang/Object;)Z", sig := { parameters := [(.object "java/lang/Object")], returnType := some .boolean }, accessFlags := 1, code := some k7c3 }
def k7c4 : Code := { maxStack := 4, maxLocals := 2, code := jdk_42_method_82_code, exceptionTable := #[], attributes := #[] }
def k7m4 : Method := { name := "lastIndexOf", desc := "(I)I", sig := { parameters := [.int], returnType := some .int }, accessFlags := 1, code := some k7c4 }
def k7c5 : Code := { maxStack := 3, maxLocals := 3, code := jdk_42_method_83_code, exceptionTable := #[], attributes := #[] }
def k7m5 : Method := { name := "lastIndexOf", desc := "(II)I", sig := { parameters := [.int, .int], returnType := some .int }, accessFlags := 1, code := some k7c5 }
def k7c6 : Code := { maxStack := 3, maxLocals := 5, code := jdk_42_method_92_code, exceptionTable := #[], attributes := #[] }
def k7m6 : Method := { name := "substring", desc := "(II)Ljava/lang/String;", sig := { parameters := [.int, .int], returnType := some (.object "java/lang/String") }, accessFlags := 1, code := some k7c6 }
def k7c7 : Code := { maxStack := 4, maxLocals := 6, code := jdk_42_method_149_code, exceptionTable := #[], attributes := #[] }
def k7m7 : Method := { name := "<init>", desc := "([CIILjava/lang/Void;)V", sig := { parameters := [(.array .char), .int, .int, (.object "java/lang/Void")], returnType := none }, accessFlags := 2, code := some k7c7 }
def k7c8 : Code := { maxStack := 2, maxLocals := 3, code := jdk_42_method_151_code, exceptionTable := #[], attributes := #[] }
def k7m8 : Method := { name := "<init>", desc := "([BB)V", sig := { parameters := [(.array .byte), .byte], returnType := none }, accessFlags := 0, code := some k7c8 }
def k7c9 : Code := { maxStack := 1, maxLocals := 1, code := jdk_42_method_152_code, exceptionTable := #[], attributes := #[] }
def k7m9 : Method := { name := "coder", desc := "()B", sig := { parameters := [], returnType := some .byte }, accessFlags := 0, code := some k7c9 }
def k7c10 : Code := { maxStack := 1, maxLocals := 1, code := jdk_42_method_154_code, exceptionTable := #[], attributes := #[] }
def k7m10 : Method := { name := "isLatin1", desc := "()Z", sig := { parameters := [], returnType := some .boolean }, accessFlags := 0, code := some k7c10 }
def k7c11 : Code := { maxStack := 4, maxLocals := 3, code := jdk_42_method_158_code, exceptionTable := #[], attributes := #[] }
def k7m11 : Method := { name := "checkBoundsBeginEnd", desc := "(III)V", sig := { parameters := [.int, .int, .int], returnType := none }, accessFlags := 8, code := some k7c11 }
/-- java/lang/String -/
def k7 : Class := { plain "java/lang/String" (some 0) with
  accessFlags := 49
  interfaces := #[2, 3, 4, 5, 6]
  cf := some (fileOf pool7 10 #[.nestMembers #[1103]] #[{ accessFlags := 1, nameIndex := 5, descriptorIndex := 6, attributes := #[] }, { accessFlags := 1, nameIndex := 5, descriptorIndex := 1010, attributes := #[] }, { accessFlags := 1, nameIndex := 507, descriptorIndex := 334, attributes := #[] }, { accessFlags := 1, nameIndex := 543, descriptorIndex := 573, attributes := #[] }, { accessFlags := 1, nameIndex := 643, descriptorIndex := 765, attributes := #[] }, { accessFlags := 1, nameIndex := 643, descriptorIndex := 636, attributes := #[] }, { accessFlags := 1, nameIndex := 683, descriptorIndex := 684, attributes := #[] }, { accessFlags := 2, nameIndex := 5, descriptorIndex := 29, attributes := #[] }, { accessFlags := 0, nameIndex := 5, descriptorIndex := 211, attributes := #[] }, { accessFlags := 0, nameIndex := 17, descriptorIndex := 337, attributes := #[] }, { accessFlags := 0, nameIndex := 494, descriptorIndex := 142, attributes := #[] }, { accessFlags := 8, nameIndex := 523, descriptorIndex := 524, attributes := #[] }] 49 2 #[1106, 1108, 575, 1110, 1112] #[{ accessFlags := 18, nameIndex := 13, descriptorIndex := 14, attributes := #[] }, { accessFlags := 18, nameIndex := 17, descriptorIndex := 18, attributes := #[] }, { accessFlags := 2, nameIndex := 21, descriptorIndex := 22, attributes := #[] }, { accessFlags := 2, nameIndex := 25, descriptorIndex := 26, attributes := #[] }, { accessFlags := 26, nameIndex := 1116, descriptorIndex := 1117, attributes := #[] }, { accessFlags := 24, nameIndex := 40, descriptorIndex := 26, attributes := #[] }, { accessFlags := 26, nameIndex := 1101, descriptorIndex := 1102, attributes := #[] }, { accessFlags := 26, nameIndex := 1121, descriptorIndex := 1122, attributes := #[] }, { accessFlags := 25, nameIndex := 599, descriptorIndex := 600, attributes := #[] }, { accessFlags := 24, nameIndex := 1125, descriptorIndex := 18, attributes := #[] }, { accessFlags := 24, nameIndex := 1127, descriptorIndex := 18, attributes := #[] }])
  fields := #[{ name := "value", type := (.array .byte), accessFlags := 18, slot := 0, constantValue := 0 }, { name := "coder", type := .byte, accessFlags := 18, slot := 1, constantValue := 0 }, { name := "hash", type := .int, accessFlags := 2, slot := 2, constantValue := 0 }, { name := "hashIsZero", type := .boolean, accessFlags := 2, slot := 3, constantValue := 0 }, { name := "serialVersionUID", type := .long, accessFlags := 26, slot := 0, constantValue := 0 }, { name := "COMPACT_STRINGS", type := .boolean, accessFlags := 24, slot := 1, constantValue := 0 }, { name := "serialPersistentFields", type := (.array (.object "java/io/ObjectStreamField")), accessFlags := 26, slot := 2, constantValue := 0 }, { name := "REPL", type := .char, accessFlags := 26, slot := 3, constantValue := 0 }, { name := "CASE_INSENSITIVE_ORDER", type := (.object "java/util/Comparator"), accessFlags := 25, slot := 4, constantValue := 0 }, { name := "LATIN1", type := .byte, accessFlags := 24, slot := 5, constantValue := 0 }, { name := "UTF16", type := .byte, accessFlags := 24, slot := 6, constantValue := 0 }]
  methods := #[k7m0, k7m1, k7m2, k7m3, k7m4, k7m5, k7m6, k7m7, k7m8, k7m9, k7m10, k7m11]
  instanceTypes := #[(.array .byte), .byte, .int, .boolean]
  staticTypes := #[.long, .boolean, (.array (.object "java/io/ObjectStreamField")), .char, (.object "java/util/Comparator"), .byte, .byte]
  resolved := Array.replicate 1451 none
  statics := some 0 }

def pool8 : Array CpInfo := pool [(2, .class_ 4), (1, u "java/lang/Object"), (6, .class_ 13), (1, u "com/example/cairnstore/cairnstore/ocfl/EntryTree"), (0, u "kinds"), (0, u "Ljava/util/NavigableMap;"), (2, u "children"), (0, u "Ljava/util/Map;"), (2, u "top"), (0, u "Ljava/nio/file/Path;"), (32, .class_ 57), (0, u "com/example/cairnstore/cairnstore/ocfl/EntryTree$1"), (19, .class_ 78), (0, u "com/example/cairnstore/cairnstore/ocfl/EntryTree$Kind"), (38, u "(Ljava/lang/String;)Ljava/lang/String;"), (23, .class_ 143), (1, u "java/lang/String"), (5, .methodref 141 150), (0, .nameAndType 151 152), (0, u "lastIndexOf"), (0, u "(I)I"), (0, .string 154), (0, u ""), (0, .methodref 141 156), (0, .nameAndType 157 158), (0, u "substring"), (0, u "(II)Ljava/lang/String;"), (17, u "parent")] 108

def k8c0 : Code := { maxStack := 3, maxLocals := 2, code := prog_16_method_11_code, exceptionTable := #[], attributes := #[] }
def k8m0 : Method := { name := "parent", desc := "(Ljava/lang/String;)Ljava/lang/String;", sig := { parameters := [(.object "java/lang/String")], returnType := some (.object "java/lang/String") }, accessFlags := 8, code := some k8c0 }
/-- com/example/cairnstore/cairnstore/ocfl/EntryTree -/
def k8 : Class := { plain "com/example/cairnstore/cairnstore/ocfl/EntryTree" (some 0) with
  accessFlags := 48
  interfaces := #[]
  cf := some (fileOf pool8 11 #[.nestMembers #[77, 56]] #[{ accessFlags := 8, nameIndex := 176, descriptorIndex := 117, attributes := #[] }] 48 2 #[] #[{ accessFlags := 18, nameIndex := 22, descriptorIndex := 23, attributes := #[] }, { accessFlags := 18, nameIndex := 14, descriptorIndex := 15, attributes := #[] }, { accessFlags := 18, nameIndex := 18, descriptorIndex := 19, attributes := #[] }])
  fields := #[{ name := "top", type := (.object "java/nio/file/Path"), accessFlags := 18, slot := 0, constantValue := 0 }, { name := "kinds", type := (.object "java/util/NavigableMap"), accessFlags := 18, slot := 1, constantValue := 0 }, { name := "children", type := (.object "java/util/Map"), accessFlags := 18, slot := 2, constantValue := 0 }]
  methods := #[k8m0]
  instanceTypes := #[(.object "java/nio/file/Path"), (.object "java/util/NavigableMap"), (.object "java/util/Map")]
  staticTypes := #[]
  resolved := Array.replicate 285 none
  statics := none }

def pool9 : Array CpInfo := pool [(1, .class_ 2), (0, u "java/lang/String"), (1, .class_ 6), (1, u "java/lang/Object"), (0, u "<init>"), (0, u "()V"), (5, .class_ 16), (1, u "java/lang/StringLatin1"), (21, .methodref 39 40), (0, .class_ 41), (0, .nameAndType 42 43), (0, u "java/lang/Math"), (0, u "min"), (0, u "(II)I"), (44, .methodref 14 89), (0, .nameAndType 90 91), (0, u "canEncode"), (0, u "(I)Z"), (20, .methodref 1 113), (0, .nameAndType 7 114), (0, u "([BB)V"), (6, u "$assertionsDisabled"), (0, u "Z"), (8, .class_ 133), (1, u "java/util/Arrays"), (17, .string 152), (0, u ""), (43, u "newString"), (0, u "([BII)Ljava/lang/String;"), (23, .class_ 223), (1, u "java/lang/StringLatin1$LinesSpliterator"), (8, .methodref 131 233), (0, .nameAndType 234 235), (0, u "copyOfRange"), (0, u "([BII)[B"), (25, u "([BII)I"), (19, u "equals"), (0, u "([B[B)Z"), (26, u "lastIndexOf"), (80, .class_ 391), (0, u "java/lang/StringLatin1$CharsSpliterator")] 3

def k9m0 : Method := { name := "<init>", desc := "()V", sig := { parameters := [], returnType := none }, accessFlags := 0, code := none }
def k9c1 : Code := { maxStack := 2, maxLocals := 1, code := jdk_43_method_4_code, exceptionTable := #[], attributes := #[] }
def k9m1 : Method := { name := "canEncode", desc := "(I)Z", sig := { parameters := [.int], returnType := some .boolean }, accessFlags := 9, code := some k9c1 }
def k9c2 : Code := { maxStack := 3, maxLocals := 3, code := jdk_43_method_13_code, exceptionTable := #[], attributes := #[] }
def k9m2 : Method := { name := "equals", desc := "([B[B)Z", sig := { parameters := [(.array .byte), (.array .byte)], returnType := some .boolean }, accessFlags := 9, code := some k9c2 }
def k9c3 : Code := { maxStack := 3, maxLocals := 4, code := jdk_43_method_27_code, exceptionTable := #[], attributes := #[] }
def k9m3 : Method := { name := "lastIndexOf", desc := "([BII)I", sig := { parameters := [(.array .byte), .int, .int], returnType := some .int }, accessFlags := 9, code := some k9c3 }
def k9c4 : Code := { maxStack := 6, maxLocals := 3, code := jdk_43_method_47_code, exceptionTable := #[], attributes := #[] }
def k9m4 : Method := { name := "newString", desc := "([BII)Ljava/lang/String;", sig := { parameters := [(.array .byte), .int, .int], returnType := some (.object "java/lang/String") }, accessFlags := 9, code := some k9c4 }
/-- java/lang/StringLatin1 -/
def k9 : Class := { plain "java/lang/StringLatin1" (some 0) with
  accessFlags := 48
  interfaces := #[]
  cf := some (fileOf pool9 14 #[.nestMembers #[390, 221]] #[{ accessFlags := 0, nameIndex := 7, descriptorIndex := 8, attributes := #[] }, { accessFlags := 9, nameIndex := 90, descriptorIndex := 91, attributes := #[] }, { accessFlags := 9, nameIndex := 281, descriptorIndex := 282, attributes := #[] }, { accessFlags := 9, nameIndex := 309, descriptorIndex := 261, attributes := #[] }, { accessFlags := 9, nameIndex := 196, descriptorIndex := 197, attributes := #[] }] 48 4 #[] #[{ accessFlags := 4120, nameIndex := 121, descriptorIndex := 122, attributes := #[] }])
  fields := #[{ name := "$assertionsDisabled", type := .boolean, accessFlags := 4120, slot := 0, constantValue := 0 }]
  methods := #[k9m0, k9m1, k9m2, k9m3, k9m4]
  instanceTypes := #[]
  staticTypes := #[.boolean]
  resolved := Array.replicate 395 none
  statics := none }

def pool10 : Array CpInfo := pool [(1, .class_ 2), (0, u "java/lang/Math"), (1, .class_ 6), (1, u "java/lang/Object"), (0, u "<init>"), (0, u "()V"), (89, .class_ 100), (1, u "java/lang/Math$RandomNumberGeneratorHolder"), (71, u "negativeZeroFloatBits"), (0, u "J"), (2, u "negativeZeroDoubleBits"), (24, u "min"), (43, u "$assertionsDisabled"), (0, u "Z"), (88, u "(II)I"), (2, u "twoToTheDoubleScaleDown"), (0, u "D"), (4, u "twoToTheDoubleScaleUp"), (9, u "E"), (3, u "PI"), (2, u "TAU"), (2, u "DEGREES_TO_RADIANS"), (0, u "RADIANS_TO_DEGREES")] 94

def k10m0 : Method := { name := "<init>", desc := "()V", sig := { parameters := [], returnType := none }, accessFlags := 2, code := none }
def k10c1 : Code := { maxStack := 2, maxLocals := 2, code := jdk_29_method_69_code, exceptionTable := #[], attributes := #[] }
def k10m1 : Method := { name := "min", desc := "(II)I", sig := { parameters := [.int, .int], returnType := some .int }, accessFlags := 9, code := some k10c1 }
/-- java/lang/Math -/
def k10 : Class := { plain "java/lang/Math" (some 0) with
  accessFlags := 49
  interfaces := #[]
  cf := some (fileOf pool10 1 #[.nestMembers #[98]] #[{ accessFlags := 2, nameIndex := 7, descriptorIndex := 8, attributes := #[] }, { accessFlags := 9, nameIndex := 201, descriptorIndex := 335, attributes := #[] }] 49 4 #[] #[{ accessFlags := 25, nameIndex := 354, descriptorIndex := 339, attributes := #[] }, { accessFlags := 25, nameIndex := 358, descriptorIndex := 339, attributes := #[] }, { accessFlags := 25, nameIndex := 361, descriptorIndex := 339, attributes := #[] }, { accessFlags := 26, nameIndex := 364, descriptorIndex := 339, attributes := #[] }, { accessFlags := 26, nameIndex := 365, descriptorIndex := 339, attributes := #[] }, { accessFlags := 26, nameIndex := 172, descriptorIndex := 173, attributes := #[] }, { accessFlags := 26, nameIndex := 176, descriptorIndex := 173, attributes := #[] }, { accessFlags := 8, nameIndex := 344, descriptorIndex := 339, attributes := #[] }, { accessFlags := 8, nameIndex := 338, descriptorIndex := 339, attributes := #[] }, { accessFlags := 4120, nameIndex := 245, descriptorIndex := 246, attributes := #[] }])
  fields := #[{ name := "E", type := .double, accessFlags := 25, slot := 0, constantValue := 0 }, { name := "PI", type := .double, accessFlags := 25, slot := 1, constantValue := 0 }, { name := "TAU", type := .double, accessFlags := 25, slot := 2, constantValue := 0 }, { name := "DEGREES_TO_RADIANS", type := .double, accessFlags := 26, slot := 3, constantValue := 0 }, { name := "RADIANS_TO_DEGREES", type := .double, accessFlags := 26, slot := 4, constantValue := 0 }, { name := "negativeZeroFloatBits", type := .long, accessFlags := 26, slot := 5, constantValue := 0 }, { name := "negativeZeroDoubleBits", type := .long, accessFlags := 26, slot := 6, constantValue := 0 }, { name := "twoToTheDoubleScaleUp", type := .double, accessFlags := 8, slot := 7, constantValue := 0 }, { name := "twoToTheDoubleScaleDown", type := .double, accessFlags := 8, slot := 8, constantValue := 0 }, { name := "$assertionsDisabled", type := .boolean, accessFlags := 4120, slot := 9, constantValue := 0 }]
  methods := #[k10m0, k10m1]
  instanceTypes := #[]
  staticTypes := #[.double, .double, .double, .double, .double, .long, .long, .double, .double, .boolean]
  resolved := Array.replicate 460 none
  statics := none }

def pool11 : Array CpInfo := pool [(6, .class_ 8), (1, u "java/lang/Object"), (0, u "<init>"), (0, u "()V"), (1, .class_ 14), (1, u "java/lang/StringUTF16"), (31, u "$assertionsDisabled"), (0, u "Z"), (13, u "HI_BYTE_SHIFT"), (0, u "I"), (2, u "LO_BYTE_SHIFT"), (49, .methodref 12 116), (0, .nameAndType 117 118), (0, u "compress"), (0, u "([CI[BII)I"), (3, u "([CII)[B"), (138, u "coderFromArrayLen"), (0, u "([BI)B"), (106, .class_ 371), (1, u "java/lang/StringUTF16$LinesSpliterator"), (58, u "MAX_LENGTH"), (196, .class_ 628), (0, u "java/lang/StringUTF16$CodePointsSpliterator"), (0, .class_ 630), (0, u "java/lang/StringUTF16$CharsSpliterator")] 4

def k11m0 : Method := { name := "<init>", desc := "()V", sig := { parameters := [], returnType := none }, accessFlags := 0, code := none }
def k11c1 : Code := { maxStack := 2, maxLocals := 2, code := jdk_52_method_15_code, exceptionTable := #[], attributes := #[] }
def k11m1 : Method := { name := "coderFromArrayLen", desc := "([BI)B", sig := { parameters := [(.array .byte), .int], returnType := some .byte }, accessFlags := 8, code := some k11c1 }
def k11c2 : Code := { maxStack := 5, maxLocals := 6, code := jdk_52_method_16_code, exceptionTable := #[], attributes := #[] }
def k11m2 : Method := { name := "compress", desc := "([CII)[B", sig := { parameters := [(.array .char), .int, .int], returnType := some (.array .byte) }, accessFlags := 9, code := some k11c2 }
def k11c3 : Code := { maxStack := 3, maxLocals := 7, code := jdk_52_method_21_code, exceptionTable := #[], attributes := #[] }
def k11m3 : Method := { name := "compress", desc := "([CI[BII)I", sig := { parameters := [(.array .char), .int, (.array .byte), .int, .int], returnType := some .int }, accessFlags := 9, code := some k11c3 }
/-- java/lang/StringUTF16 -/
def k11 : Class := { plain "java/lang/StringUTF16" (some 0) with
  accessFlags := 48
  interfaces := #[]
  cf := some (fileOf pool11 12 #[.nestMembers #[627, 629, 369]] #[{ accessFlags := 0, nameIndex := 9, descriptorIndex := 10, attributes := #[] }, { accessFlags := 8, nameIndex := 261, descriptorIndex := 262, attributes := #[] }, { accessFlags := 9, nameIndex := 117, descriptorIndex := 122, attributes := #[] }, { accessFlags := 9, nameIndex := 117, descriptorIndex := 118, attributes := #[] }] 48 6 #[] #[{ accessFlags := 26, nameIndex := 61, descriptorIndex := 62, attributes := #[] }, { accessFlags := 26, nameIndex := 65, descriptorIndex := 62, attributes := #[] }, { accessFlags := 24, nameIndex := 430, descriptorIndex := 62, attributes := #[] }, { accessFlags := 4120, nameIndex := 46, descriptorIndex := 47, attributes := #[] }])
  fields := #[{ name := "HI_BYTE_SHIFT", type := .int, accessFlags := 26, slot := 0, constantValue := 0 }, { name := "LO_BYTE_SHIFT", type := .int, accessFlags := 26, slot := 1, constantValue := 0 }, { name := "MAX_LENGTH", type := .int, accessFlags := 24, slot := 2, constantValue := 0 }, { name := "$assertionsDisabled", type := .boolean, accessFlags := 4120, slot := 3, constantValue := 0 }]
  methods := #[k11m0, k11m1, k11m2, k11m3]
  instanceTypes := #[]
  staticTypes := #[.int, .int, .int, .boolean]
  resolved := Array.replicate 635 none
  statics := none }

def pool12 : Array CpInfo := pool [(2, .class_ 4), (1, u "java/lang/Object"), (0, u "<init>"), (0, u "()V"), (17, .class_ 26), (1, u "jdk/internal/util/Preconditions"), (20, u "checkFromToIndex"), (7, .class_ 56), (0, u "jdk/internal/util/Preconditions$4"), (57, .class_ 115), (0, u "jdk/internal/util/Preconditions$1"), (7, u "SIOOBE_FORMATTER"), (0, u "Ljava/util/function/BiFunction;"), (0, .class_ 126), (0, u "jdk/internal/util/Preconditions$2"), (3, u "AIOOBE_FORMATTER"), (0, .class_ 132), (0, u "jdk/internal/util/Preconditions$3"), (3, u "IOOBE_FORMATTER"), (46, u "(IIILjava/util/function/BiFunction;)I")] 10

def k12m0 : Method := { name := "<init>", desc := "()V", sig := { parameters := [], returnType := none }, accessFlags := 1, code := none }
def k12c1 : Code := { maxStack := 4, maxLocals := 4, code := jdk_41_method_12_code, exceptionTable := #[], attributes := #[] }
def k12m1 : Method := { name := "checkFromToIndex", desc := "(IIILjava/util/function/BiFunction;)I", sig := { parameters := [.int, .int, .int, (.object "java/util/function/BiFunction")], returnType := some .int }, accessFlags := 9, code := some k12c1 }
/-- jdk/internal/util/Preconditions -/
def k12 : Class := { plain "jdk/internal/util/Preconditions" (some 0) with
  accessFlags := 33
  interfaces := #[]
  cf := some (fileOf pool12 24 #[.nestMembers #[55, 131, 125, 114]] #[{ accessFlags := 1, nameIndex := 5, descriptorIndex := 6, attributes := #[] }, { accessFlags := 9, nameIndex := 47, descriptorIndex := 183, attributes := #[] }] 33 2 #[] #[{ accessFlags := 25, nameIndex := 123, descriptorIndex := 124, attributes := #[] }, { accessFlags := 25, nameIndex := 130, descriptorIndex := 124, attributes := #[] }, { accessFlags := 25, nameIndex := 136, descriptorIndex := 124, attributes := #[] }])
  fields := #[{ name := "SIOOBE_FORMATTER", type := (.object "java/util/function/BiFunction"), accessFlags := 25, slot := 0, constantValue := 0 }, { name := "AIOOBE_FORMATTER", type := (.object "java/util/function/BiFunction"), accessFlags := 25, slot := 1, constantValue := 0 }, { name := "IOOBE_FORMATTER", type := (.object "java/util/function/BiFunction"), accessFlags := 25, slot := 2, constantValue := 0 }]
  methods := #[k12m0, k12m1]
  instanceTypes := #[]
  staticTypes := #[(.object "java/util/function/BiFunction"), (.object "java/util/function/BiFunction"), (.object "java/util/function/BiFunction")]
  resolved := Array.replicate 194 none
  statics := some 1 }

def pool13 : Array CpInfo := pool [(2, .class_ 4), (1, u "java/lang/Object"), (0, u "<init>"), (0, u "()V"), (7, .class_ 16), (1, u "java/util/Arrays"), (57, .class_ 76), (1, u "java/util/Arrays$NaturalOrder"), (36, .class_ 115), (1, u "java/util/Arrays$LegacyMergeSort"), (1, u "Z"), (21, u "copyOfRange"), (10, .methodref 151 152), (0, .class_ 153), (0, .nameAndType 154 155), (0, u "java/lang/System"), (0, u "arraycopy"), (0, u "(Ljava/lang/Object;ILjava/lang/Object;II)V"), (148, .methodref 305 306), (0, .class_ 307), (0, .nameAndType 308 309), (0, u "java/lang/Math"), (0, u "min"), (0, u "(II)I"), (29, .methodref 14 340), (0, .nameAndType 341 342), (0, u "copyOfRangeByte"), (0, u "([BII)[B"), (0, .methodref 14 344), (0, .nameAndType 345 346), (0, u "checkLength"), (0, u "(II)V"), (28, .class_ 376), (0, u "java/util/Arrays$ArrayList"), (68, u "$assertionsDisabled"), (269, u "MIN_ARRAY_SORT_GRAN"), (0, u "I"), (2, u "INSERTIONSORT_THRESHOLD"), (255, .class_ 976), (0, u "java/util/Arrays$ArrayItr")] 52

def k13m0 : Method := { name := "<init>", desc := "()V", sig := { parameters := [], returnType := none }, accessFlags := 2, code := none }
def k13c1 : Code := { maxStack := 4, maxLocals := 2, code := jdk_65_method_131_code, exceptionTable := #[], attributes := #[] }
def k13m1 : Method := { name := "checkLength", desc := "(II)V", sig := { parameters := [.int, .int], returnType := none }, accessFlags := 10, code := some k13c1 }
def k13c2 : Code := { maxStack := 3, maxLocals := 3, code := jdk_65_method_132_code, exceptionTable := #[], attributes := #[] }
def k13m2 : Method := { name := "copyOfRange", desc := "([BII)[B", sig := { parameters := [(.array .byte), .int, .int], returnType := some (.array .byte) }, accessFlags := 9, code := some k13c2 }
def k13c3 : Code := { maxStack := 6, maxLocals := 5, code := jdk_65_method_133_code, exceptionTable := #[], attributes := #[] }
def k13m3 : Method := { name := "copyOfRangeByte", desc := "([BII)[B", sig := { parameters := [(.array .byte), .int, .int], returnType := some (.array .byte) }, accessFlags := 10, code := some k13c3 }
/-- java/util/Arrays -/
def k13 : Class := { plain "java/util/Arrays" (some 0) with
  accessFlags := 49
  interfaces := #[]
  cf := some (fileOf pool13 14 #[.nestMembers #[975, 375, 113, 74]] #[{ accessFlags := 2, nameIndex := 5, descriptorIndex := 6, attributes := #[] }, { accessFlags := 10, nameIndex := 345, descriptorIndex := 346, attributes := #[] }, { accessFlags := 9, nameIndex := 139, descriptorIndex := 342, attributes := #[] }, { accessFlags := 10, nameIndex := 341, descriptorIndex := 342, attributes := #[] }] 49 2 #[] #[{ accessFlags := 26, nameIndex := 715, descriptorIndex := 716, attributes := #[] }, { accessFlags := 26, nameIndex := 719, descriptorIndex := 716, attributes := #[] }, { accessFlags := 4120, nameIndex := 445, descriptorIndex := 117, attributes := #[] }])
  fields := #[{ name := "MIN_ARRAY_SORT_GRAN", type := .int, accessFlags := 26, slot := 0, constantValue := 0 }, { name := "INSERTIONSORT_THRESHOLD", type := .int, accessFlags := 26, slot := 1, constantValue := 0 }, { name := "$assertionsDisabled", type := .boolean, accessFlags := 4120, slot := 2, constantValue := 0 }]
  methods := #[k13m0, k13m1, k13m2, k13m3]
  instanceTypes := #[]
  staticTypes := #[.int, .int, .boolean]
  resolved := Array.replicate 1029 none
  statics := none }

def pool14 : Array CpInfo := pool [(2, .class_ 4), (1, u "java/lang/Object"), (0, u "<init>"), (0, u "()V"), (1, .class_ 10), (1, u "java/lang/System"), (0, u "allowSecurityManager"), (0, u "I"), (16, u "cons"), (0, u "Ljava/io/Console;"), (77, .class_ 110), (1, u "java/lang/System$CallersHolder"), (43, u "initialErrStream"), (0, u "Ljava/io/PrintStream;"), (19, u "security"), (0, u "Ljava/lang/SecurityManager;"), (31, .class_ 209), (0, u "java/lang/System$1"), (7, u "props"), (0, u "Ljava/util/Properties;"), (2, u "lineSeparator"), (0, u "Ljava/lang/String;"), (96, .class_ 321), (1, u "java/lang/System$LoggerFinder"), (5, .class_ 328), (0, u "java/lang/System$Logger"), (67, u "err"), (2, u "out"), (91, u "notSupportedJnuEncoding"), (15, u "in"), (17, u "initialIn"), (0, u "Ljava/io/InputStream;"), (35, u "bootLayer"), (0, u "Ljava/lang/ModuleLayer;"), (99, .class_ 664), (0, u "java/lang/System$2"), (9, u "NEVER"), (2, u "MAYBE"), (49, u "arraycopy"), (0, u "(Ljava/lang/Object;ILjava/lang/Object;II)V"), (72, .class_ 802), (0, u "java/lang/System$Logger$Level")] 31

def k14m0 : Method := { name := "<init>", desc := "()V", sig := { parameters := [], returnType := none }, accessFlags := 2, code := none }
def k14m1 : Method := { name := "arraycopy", desc := "(Ljava/lang/Object;ILjava/lang/Object;II)V", sig := { parameters := [(.object "java/lang/Object"), .int, (.object "java/lang/Object"), .int, .int], returnType := none }, accessFlags := 265, code := none }
/-- java/lang/System -/
def k14 : Class := { plain "java/lang/System" (some 0) with
  accessFlags := 49
  interfaces := #[]
  cf := some (fileOf pool14 8 #[.nestMembers #[319, 327, 801, 108, 663, 208]] #[{ accessFlags := 2, nameIndex := 5, descriptorIndex := 6, attributes := #[] }, { accessFlags := 265, nameIndex := 727, descriptorIndex := 728, attributes := #[] }] 49 2 #[] #[{ accessFlags := 25, nameIndex := 507, descriptorIndex := 526, attributes := #[] }, { accessFlags := 25, nameIndex := 399, descriptorIndex := 155, attributes := #[] }, { accessFlags := 25, nameIndex := 396, descriptorIndex := 155, attributes := #[] }, { accessFlags := 10, nameIndex := 525, descriptorIndex := 526, attributes := #[] }, { accessFlags := 26, nameIndex := 674, descriptorIndex := 12, attributes := #[] }, { accessFlags := 26, nameIndex := 677, descriptorIndex := 12, attributes := #[] }, { accessFlags := 10, nameIndex := 11, descriptorIndex := 12, attributes := #[] }, { accessFlags := 74, nameIndex := 175, descriptorIndex := 176, attributes := #[] }, { accessFlags := 10, nameIndex := 491, descriptorIndex := 222, attributes := #[] }, { accessFlags := 74, nameIndex := 29, descriptorIndex := 30, attributes := #[] }, { accessFlags := 74, nameIndex := 154, descriptorIndex := 155, attributes := #[] }, { accessFlags := 10, nameIndex := 217, descriptorIndex := 218, attributes := #[] }, { accessFlags := 10, nameIndex := 221, descriptorIndex := 222, attributes := #[] }, { accessFlags := 8, nameIndex := 562, descriptorIndex := 563, attributes := #[] }])
  fields := #[{ name := "in", type := (.object "java/io/InputStream"), accessFlags := 25, slot := 0, constantValue := 0 }, { name := "out", type := (.object "java/io/PrintStream"), accessFlags := 25, slot := 1, constantValue := 0 }, { name := "err", type := (.object "java/io/PrintStream"), accessFlags := 25, slot := 2, constantValue := 0 }, { name := "initialIn", type := (.object "java/io/InputStream"), accessFlags := 10, slot := 3, constantValue := 0 }, { name := "NEVER", type := .int, accessFlags := 26, slot := 4, constantValue := 0 }, { name := "MAYBE", type := .int, accessFlags := 26, slot := 5, constantValue := 0 }, { name := "allowSecurityManager", type := .int, accessFlags := 10, slot := 6, constantValue := 0 }, { name := "security", type := (.object "java/lang/SecurityManager"), accessFlags := 74, slot := 7, constantValue := 0 }, { name := "notSupportedJnuEncoding", type := (.object "java/lang/String"), accessFlags := 10, slot := 8, constantValue := 0 }, { name := "cons", type := (.object "java/io/Console"), accessFlags := 74, slot := 9, constantValue := 0 }, { name := "initialErrStream", type := (.object "java/io/PrintStream"), accessFlags := 74, slot := 10, constantValue := 0 }, { name := "props", type := (.object "java/util/Properties"), accessFlags := 10, slot := 11, constantValue := 0 }, { name := "lineSeparator", type := (.object "java/lang/String"), accessFlags := 10, slot := 12, constantValue := 0 }, { name := "bootLayer", type := (.object "java/lang/ModuleLayer"), accessFlags := 8, slot := 13, constantValue := 0 }]
  methods := #[k14m0, k14m1]
  instanceTypes := #[]
  staticTypes := #[(.object "java/io/InputStream"), (.object "java/io/PrintStream"), (.object "java/io/PrintStream"), (.object "java/io/InputStream"), .int, .int, .int, (.object "java/lang/SecurityManager"), (.object "java/lang/String"), (.object "java/io/Console"), (.object "java/io/PrintStream"), (.object "java/util/Properties"), (.object "java/lang/String"), (.object "java/lang/ModuleLayer")]
  resolved := Array.replicate 834 none
  statics := none }

def pool15 : Array CpInfo := pool [(9, u "<init>"), (6, .class_ 18), (1, u "java/lang/Object"), (0, u "()V"), (1, .class_ 23), (1, u "jdk/internal/util/ArraysSupport"), (0, u "LOG2_ARRAY_LONG_INDEX_SCALE"), (0, u "I"), (2, u "U"), (0, u "Ljdk/internal/misc/Unsafe;"), (8, u "BIG_ENDIAN"), (0, u "Z"), (8, u "LOG2_BYTE_BIT_SIZE"), (4, u "LOG2_ARRAY_INT_INDEX_SCALE"), (54, u "JLA"), (0, u "Ljdk/internal/access/JavaLangAccess;"), (11, u "LOG2_ARRAY_BOOLEAN_INDEX_SCALE"), (9, u "LOG2_ARRAY_BYTE_INDEX_SCALE"), (5, u "LOG2_ARRAY_CHAR_INDEX_SCALE"), (5, u "LOG2_ARRAY_SHORT_INDEX_SCALE"), (18, u "LOG2_ARRAY_FLOAT_INDEX_SCALE"), (24, u "LOG2_ARRAY_DOUBLE_INDEX_SCALE"), (89, u "T_BOOLEAN"), (2, u "T_CHAR"), (1, u "T_FLOAT"), (1, u "T_DOUBLE"), (1, u "T_BYTE"), (1, u "T_SHORT"), (1, u "T_INT"), (1, u "T_LONG"), (1, u "SOFT_MAX_ARRAY_LENGTH")] 83

def k15m0 : Method := { name := "<init>", desc := "()V", sig := { parameters := [], returnType := none }, accessFlags := 2, code := none }
/-- jdk/internal/util/ArraysSupport -/
def k15 : Class := { plain "jdk/internal/util/ArraysSupport" (some 0) with
  accessFlags := 33
  interfaces := #[]
  cf := some (fileOf pool15 21 #[] #[{ accessFlags := 2, nameIndex := 9, descriptorIndex := 19, attributes := #[] }] 33 16 #[] #[{ accessFlags := 24, nameIndex := 28, descriptorIndex := 29, attributes := #[] }, { accessFlags := 26, nameIndex := 38, descriptorIndex := 39, attributes := #[] }, { accessFlags := 25, nameIndex := 121, descriptorIndex := 25, attributes := #[] }, { accessFlags := 25, nameIndex := 131, descriptorIndex := 25, attributes := #[] }, { accessFlags := 25, nameIndex := 137, descriptorIndex := 25, attributes := #[] }, { accessFlags := 25, nameIndex := 143, descriptorIndex := 25, attributes := #[] }, { accessFlags := 25, nameIndex := 53, descriptorIndex := 25, attributes := #[] }, { accessFlags := 25, nameIndex := 24, descriptorIndex := 25, attributes := #[] }, { accessFlags := 25, nameIndex := 162, descriptorIndex := 25, attributes := #[] }, { accessFlags := 25, nameIndex := 187, descriptorIndex := 25, attributes := #[] }, { accessFlags := 26, nameIndex := 48, descriptorIndex := 25, attributes := #[] }, { accessFlags := 25, nameIndex := 277, descriptorIndex := 25, attributes := #[] }, { accessFlags := 25, nameIndex := 280, descriptorIndex := 25, attributes := #[] }, { accessFlags := 25, nameIndex := 282, descriptorIndex := 25, attributes := #[] }, { accessFlags := 25, nameIndex := 284, descriptorIndex := 25, attributes := #[] }, { accessFlags := 25, nameIndex := 286, descriptorIndex := 25, attributes := #[] }, { accessFlags := 25, nameIndex := 288, descriptorIndex := 25, attributes := #[] }, { accessFlags := 25, nameIndex := 290, descriptorIndex := 25, attributes := #[] }, { accessFlags := 25, nameIndex := 292, descriptorIndex := 25, attributes := #[] }, { accessFlags := 26, nameIndex := 108, descriptorIndex := 109, attributes := #[] }, { accessFlags := 25, nameIndex := 294, descriptorIndex := 25, attributes := #[] }])
  fields := #[{ name := "U", type := (.object "jdk/internal/misc/Unsafe"), accessFlags := 24, slot := 0, constantValue := 0 }, { name := "BIG_ENDIAN", type := .boolean, accessFlags := 26, slot := 1, constantValue := 0 }, { name := "LOG2_ARRAY_BOOLEAN_INDEX_SCALE", type := .int, accessFlags := 25, slot := 2, constantValue := 0 }, { name := "LOG2_ARRAY_BYTE_INDEX_SCALE", type := .int, accessFlags := 25, slot := 3, constantValue := 0 }, { name := "LOG2_ARRAY_CHAR_INDEX_SCALE", type := .int, accessFlags := 25, slot := 4, constantValue := 0 }, { name := "LOG2_ARRAY_SHORT_INDEX_SCALE", type := .int, accessFlags := 25, slot := 5, constantValue := 0 }, { name := "LOG2_ARRAY_INT_INDEX_SCALE", type := .int, accessFlags := 25, slot := 6, constantValue := 0 }, { name := "LOG2_ARRAY_LONG_INDEX_SCALE", type := .int, accessFlags := 25, slot := 7, constantValue := 0 }, { name := "LOG2_ARRAY_FLOAT_INDEX_SCALE", type := .int, accessFlags := 25, slot := 8, constantValue := 0 }, { name := "LOG2_ARRAY_DOUBLE_INDEX_SCALE", type := .int, accessFlags := 25, slot := 9, constantValue := 0 }, { name := "LOG2_BYTE_BIT_SIZE", type := .int, accessFlags := 26, slot := 10, constantValue := 0 }, { name := "T_BOOLEAN", type := .int, accessFlags := 25, slot := 11, constantValue := 0 }, { name := "T_CHAR", type := .int, accessFlags := 25, slot := 12, constantValue := 0 }, { name := "T_FLOAT", type := .int, accessFlags := 25, slot := 13, constantValue := 0 }, { name := "T_DOUBLE", type := .int, accessFlags := 25, slot := 14, constantValue := 0 }, { name := "T_BYTE", type := .int, accessFlags := 25, slot := 15, constantValue := 0 }, { name := "T_SHORT", type := .int, accessFlags := 25, slot := 16, constantValue := 0 }, { name := "T_INT", type := .int, accessFlags := 25, slot := 17, constantValue := 0 }, { name := "T_LONG", type := .int, accessFlags := 25, slot := 18, constantValue := 0 }, { name := "JLA", type := (.object "jdk/internal/access/JavaLangAccess"), accessFlags := 26, slot := 19, constantValue := 0 }, { name := "SOFT_MAX_ARRAY_LENGTH", type := .int, accessFlags := 25, slot := 20, constantValue := 0 }]
  methods := #[k15m0]
  instanceTypes := #[]
  staticTypes := #[(.object "jdk/internal/misc/Unsafe"), .boolean, .int, .int, .int, .int, .int, .int, .int, .int, .int, .int, .int, .int, .int, .int, .int, .int, .int, (.object "jdk/internal/access/JavaLangAccess"), .int]
  resolved := Array.replicate 378 none
  statics := none }

def pool16 : Array CpInfo := pool [(1, u "java/lang/Cloneable"), (0, .class_ 1), (0, u "java/lang/Object"), (0, .class_ 3)] 3

/-- java/lang/Cloneable -/
def k16 : Class := { plain "java/lang/Cloneable" (some 0) with
  accessFlags := 1537
  interfaces := #[]
  cf := some (fileOf pool16 2 #[] #[] 1537 4 #[] #[])
  fields := #[]
  methods := #[]
  instanceTypes := #[]
  staticTypes := #[]
  resolved := Array.replicate 8 none
  statics := none }

/-- the primitive byte -/
def k17 : Class := { plain "byte" none with kind := .primitive 'B', accessFlags := 0x411 }
/-- [B -/
def k18 : Class := { plain "[B" (some 0) with kind := .array 17 .byte, interfaces := #[16, 2], accessFlags := 1041 }

/-- the primitive char -/
def k19 : Class := { plain "char" none with kind := .primitive 'C', accessFlags := 0x411 }
/-- [C -/
def k20 : Class := { plain "[C" (some 0) with kind := .array 19 .char, interfaces := #[16, 2], accessFlags := 1041 }

/-- the primitive int -/
def k21 : Class := { plain "int" none with kind := .primitive 'I', accessFlags := 0x411 }
/-- [I -/
def k22 : Class := { plain "[I" (some 0) with kind := .array 21 .int, interfaces := #[16, 2], accessFlags := 1041 }

def heap : Heap := #[{ cls := 7, slots := #[.long 0, .int 1, .null, .int 0, .null, .int 0, .int 0], vm := .statics 7 },
  { cls := 12, slots := #[.null, .null, .null], vm := .statics 12 }]
def classes : Array Class := #[k0, k1, k2, k3, k4, k5, k6, k7, k8, k9, k10, k11, k12, k13, k14, k15, k16, k17, k18, k19, k20, k21, k22]
def interned : List (Array UInt16 × Addr) := []
def slotsUsed : Nat := 10
def theMethod : MethodId := ⟨1, 3⟩
def args0 : Array Value := #[.int 5, .int 6, .int 7, .int 8, .int 9]
def aboutOver (below : List Frame) : State where
  vm := { classes := classes, interned := interned.toArray }
  heap := heap
  slotsUsed := slotsUsed
  threads := #[{ frames := .invoking theMethod args0 :: below }]
def below0 : List Frame := [.native { method := ⟨0, 0⟩, args := #[] }]
def about1 : State := aboutOver below0
def p0 : Program := .bare "" "" ""
def e0 : Env := launch0.env 0 0 0
theorem w_frames : about1.frames = Frame.invoking theMethod args0 :: below0 := rfl
set_option maxRecDepth 65536 in
theorem w_args : argsFit about1.vm theMethod args0 = true := by decide +kernel
set_option maxRecDepth 65536 in
theorem w_heap : heapFits about1 = true := by decide +kernel
set_option maxRecDepth 65536 in
theorem w_runnable : about1.curStatus? = some .runnable := by decide +kernel
set_option maxRecDepth 65536 in
theorem w_alone : about1.alone = true := by decide +kernel
set_option maxRecDepth 65536 in
theorem w_named : about1.methodNamed? x = some theMethod := by decide +kernel
set_option maxRecDepth 65536 in
theorem w_hears : about1.hears theMethod below0 = true := by decide +kernel
set_option maxRecDepth 65536 in
theorem w_ripe : about1.ripe theMethod args0 below0 = true := by decide +kernel
theorem w_running : about1.status = .running := rfl
set_option maxRecDepth 65536 in
theorem w_room : about1.hasRoom e0.platform room_1 = true :=
  launch0.hasRoom_least _ room_1 (by decide +kernel) (by decide +kernel) (by decide +kernel) (by decide +kernel) (by decide +kernel) (by decide +kernel)
theorem allAtoms_all (ts : List Jvm.Cond) (a : Array Jvm.Value) (st : Jvm.State) : (allAtoms ts).before a st = ts.all (fun c => c.before a st) := by
  induction ts with
  | nil => rfl
  | cons c t ih =>
    show (Jvm.Cond.and c (allAtoms t)).before a st = _
    rw [Jvm.Cond.before_and, ih, List.all_cons]
def words1 : List Jvm.Cond := Jvm.Cond.code x code maxLocals ret :: tables_1
/-- a 'code' word, met by the world's own term for the bytes: nothing is compared byte by byte -/
theorem code_word {y : MethodName} {bytes : ByteArray} {mx : Nat} {rt : Option FieldType} {a : Array Value} {s : State} {m : MethodId} {meth : Method} {c : Code} (h1 : s.methodNamed? y = some m) (h2 : s.vm.method? m = some meth) (h3 : meth.code = some c) (h4 : c.code = bytes)
    (h5 : (c.maxLocals == mx && c.exceptionTable.isEmpty && decide (c.maxStack ≤ mostOperands) && decide (meth.sig.returnType = rt) && !meth.locks && decide (parseMethodDescriptor y.desc = some meth.sig)) = true) : (Jvm.Cond.code y bytes mx rt).before a s = true := by
  simp only [Bool.and_eq_true, beq_iff_eq, Bool.not_eq_true', decide_eq_true_eq] at h5
  obtain ⟨⟨⟨⟨⟨g1, g2⟩, g3⟩, g4⟩, g5⟩, g6⟩ := h5
  simp [Cond.before, Cond.holds, Cond.value, h1, h2, h3, h4, g1, g2, g3, g4, g5, g6]
def isCode : Jvm.Cond → Bool
  | .code _ _ _ _ => true
  | _ => false
theorem all_split {L : List Jvm.Cond} {P : Jvm.Cond → Bool} (h1 : L.all (fun c => isCode c || P c) = true) (h2 : ∀ c ∈ L.filter isCode, P c = true) : L.all P = true := by
  refine List.all_eq_true.mpr fun c hc => ?_
  have h := List.all_eq_true.mp h1 c hc
  rcases Bool.eq_false_or_eq_true (isCode c) with hi | hi
  · exact h2 c (List.mem_filter.mpr ⟨hc, hi⟩)
  · simpa [hi] using h
set_option maxRecDepth 65536 in
theorem w_c0 : (Jvm.Cond.code x code maxLocals ret).before args0 about1 = true := code_word (m := ⟨1, 3⟩) (meth := k1m3) (c := k1c3) (by decide +kernel) rfl rfl rfl (by decide +kernel)
set_option maxRecDepth 65536 in
theorem w_c1 : (Jvm.Cond.code ({ cls := "com/example/cairnstore/cairnstore/ocfl/EntryTreeParentPinLaw", name := "ch", desc := "(I)C" } : Jvm.MethodName) method_2_code (1 : Nat) (Option.some Jvm.ClassFile.FieldType.char)).before args0 about1 = true := code_word (m := ⟨1, 1⟩) (meth := k1m1) (c := k1c1) (by decide +kernel) rfl rfl rfl (by decide +kernel)
set_option maxRecDepth 65536 in
theorem w_c2 : (Jvm.Cond.code ({ cls := "com/example/cairnstore/cairnstore/ocfl/EntryTreeParentPinLaw", name := "mk", desc := "(ICCCC)Ljava/lang/String;" } : Jvm.MethodName) method_3_code (5 : Nat) (Option.some (Jvm.ClassFile.FieldType.object "java/lang/String"))).before args0 about1 = true := code_word (m := ⟨1, 2⟩) (meth := k1m2) (c := k1c2) (by decide +kernel) rfl rfl rfl (by decide +kernel)
set_option maxRecDepth 65536 in
theorem w_c3 : (Jvm.Cond.code ({ cls := "java/lang/String", name := "<init>", desc := "([C)V" } : Jvm.MethodName) jdk_42_method_3_code (2 : Nat) (Option.none : Option Jvm.ClassFile.FieldType)).before args0 about1 = true := code_word (m := ⟨7, 1⟩) (meth := k7m1) (c := k7c1) (by decide +kernel) rfl rfl rfl (by decide +kernel)
set_option maxRecDepth 65536 in
theorem w_c4 : (Jvm.Cond.code ({ cls := "java/lang/String", name := "<init>", desc := "([CIILjava/lang/Void;)V" } : Jvm.MethodName) jdk_42_method_149_code (6 : Nat) (Option.none : Option Jvm.ClassFile.FieldType)).before args0 about1 = true := code_word (m := ⟨7, 7⟩) (meth := k7m7) (c := k7c7) (by decide +kernel) rfl rfl rfl (by decide +kernel)
set_option maxRecDepth 65536 in
theorem w_c5 : (Jvm.Cond.code ({ cls := "java/lang/Object", name := "<init>", desc := "()V" } : Jvm.MethodName) object_method_1_code (1 : Nat) (Option.none : Option Jvm.ClassFile.FieldType)).before args0 about1 = true := code_word (m := ⟨0, 0⟩) (meth := k0m0) (c := k0c0) (by decide +kernel) rfl rfl rfl (by decide +kernel)
set_option maxRecDepth 65536 in
theorem w_c6 : (Jvm.Cond.code ({ cls := "com/example/cairnstore/cairnstore/ocfl/EntryTree", name := "parent", desc := "(Ljava/lang/String;)Ljava/lang/String;" } : Jvm.MethodName) prog_16_method_11_code (2 : Nat) (Option.some (Jvm.ClassFile.FieldType.object "java/lang/String"))).before args0 about1 = true := code_word (m := ⟨8, 0⟩) (meth := k8m0) (c := k8c0) (by decide +kernel) rfl rfl rfl (by decide +kernel)
set_option maxRecDepth 65536 in
theorem w_c7 : (Jvm.Cond.code ({ cls := "java/lang/String", name := "lastIndexOf", desc := "(I)I" } : Jvm.MethodName) jdk_42_method_82_code (2 : Nat) (Option.some Jvm.ClassFile.FieldType.int)).before args0 about1 = true := code_word (m := ⟨7, 4⟩) (meth := k7m4) (c := k7c4) (by decide +kernel) rfl rfl rfl (by decide +kernel)
set_option maxRecDepth 65536 in
theorem w_c8 : (Jvm.Cond.code ({ cls := "java/lang/String", name := "length", desc := "()I" } : Jvm.MethodName) jdk_42_method_54_code (1 : Nat) (Option.some Jvm.ClassFile.FieldType.int)).before args0 about1 = true := code_word (m := ⟨7, 2⟩) (meth := k7m2) (c := k7c2) (by decide +kernel) rfl rfl rfl (by decide +kernel)
set_option maxRecDepth 65536 in
theorem w_c9 : (Jvm.Cond.code ({ cls := "java/lang/String", name := "coder", desc := "()B" } : Jvm.MethodName) jdk_42_method_152_code (1 : Nat) (Option.some Jvm.ClassFile.FieldType.byte)).before args0 about1 = true := code_word (m := ⟨7, 9⟩) (meth := k7m9) (c := k7c9) (by decide +kernel) rfl rfl rfl (by decide +kernel)
set_option maxRecDepth 65536 in
theorem w_c10 : (Jvm.Cond.code ({ cls := "java/lang/String", name := "lastIndexOf", desc := "(II)I" } : Jvm.MethodName) jdk_42_method_83_code (3 : Nat) (Option.some Jvm.ClassFile.FieldType.int)).before args0 about1 = true := code_word (m := ⟨7, 5⟩) (meth := k7m5) (c := k7c5) (by decide +kernel) rfl rfl rfl (by decide +kernel)
set_option maxRecDepth 65536 in
theorem w_c11 : (Jvm.Cond.code ({ cls := "java/lang/String", name := "isLatin1", desc := "()Z" } : Jvm.MethodName) jdk_42_method_154_code (1 : Nat) (Option.some Jvm.ClassFile.FieldType.boolean)).before args0 about1 = true := code_word (m := ⟨7, 10⟩) (meth := k7m10) (c := k7c10) (by decide +kernel) rfl rfl rfl (by decide +kernel)
set_option maxRecDepth 65536 in
theorem w_c12 : (Jvm.Cond.code ({ cls := "java/lang/StringLatin1", name := "lastIndexOf", desc := "([BII)I" } : Jvm.MethodName) jdk_43_method_27_code (4 : Nat) (Option.some Jvm.ClassFile.FieldType.int)).before args0 about1 = true := code_word (m := ⟨9, 3⟩) (meth := k9m3) (c := k9c3) (by decide +kernel) rfl rfl rfl (by decide +kernel)
set_option maxRecDepth 65536 in
theorem w_c13 : (Jvm.Cond.code ({ cls := "java/lang/StringLatin1", name := "canEncode", desc := "(I)Z" } : Jvm.MethodName) jdk_43_method_4_code (1 : Nat) (Option.some Jvm.ClassFile.FieldType.boolean)).before args0 about1 = true := code_word (m := ⟨9, 1⟩) (meth := k9m1) (c := k9c1) (by decide +kernel) rfl rfl rfl (by decide +kernel)
set_option maxRecDepth 65536 in
theorem w_c14 : (Jvm.Cond.code ({ cls := "java/lang/Math", name := "min", desc := "(II)I" } : Jvm.MethodName) jdk_29_method_69_code (2 : Nat) (Option.some Jvm.ClassFile.FieldType.int)).before args0 about1 = true := code_word (m := ⟨10, 1⟩) (meth := k10m1) (c := k10c1) (by decide +kernel) rfl rfl rfl (by decide +kernel)
set_option maxRecDepth 65536 in
theorem w_c15 : (Jvm.Cond.code ({ cls := "java/lang/String", name := "equals", desc := "(Ljava/lang/Object;)Z" } : Jvm.MethodName) jdk_42_method_66_code (3 : Nat) (Option.some Jvm.ClassFile.FieldType.boolean)).before args0 about1 = true := code_word (m := ⟨7, 3⟩) (meth := k7m3) (c := k7c3) (by decide +kernel) rfl rfl rfl (by decide +kernel)
set_option maxRecDepth 65536 in
theorem w_c16 : (Jvm.Cond.code ({ cls := "java/lang/StringLatin1", name := "equals", desc := "([B[B)Z" } : Jvm.MethodName) jdk_43_method_13_code (3 : Nat) (Option.some Jvm.ClassFile.FieldType.boolean)).before args0 about1 = true := code_word (m := ⟨9, 2⟩) (meth := k9m2) (c := k9c2) (by decide +kernel) rfl rfl rfl (by decide +kernel)
set_option maxRecDepth 65536 in
theorem w_c17 : (Jvm.Cond.code ({ cls := "java/lang/StringUTF16", name := "compress", desc := "([CII)[B" } : Jvm.MethodName) jdk_52_method_16_code (6 : Nat) (Option.some (Jvm.ClassFile.FieldType.array Jvm.ClassFile.FieldType.byte))).before args0 about1 = true := code_word (m := ⟨11, 2⟩) (meth := k11m2) (c := k11c2) (by decide +kernel) rfl rfl rfl (by decide +kernel)
set_option maxRecDepth 65536 in
theorem w_c18 : (Jvm.Cond.code ({ cls := "java/lang/StringUTF16", name := "compress", desc := "([CI[BII)I" } : Jvm.MethodName) jdk_52_method_21_code (7 : Nat) (Option.some Jvm.ClassFile.FieldType.int)).before args0 about1 = true := code_word (m := ⟨11, 3⟩) (meth := k11m3) (c := k11c3) (by decide +kernel) rfl rfl rfl (by decide +kernel)
set_option maxRecDepth 65536 in
theorem w_c19 : (Jvm.Cond.code ({ cls := "java/lang/StringUTF16", name := "coderFromArrayLen", desc := "([BI)B" } : Jvm.MethodName) jdk_52_method_15_code (2 : Nat) (Option.some Jvm.ClassFile.FieldType.byte)).before args0 about1 = true := code_word (m := ⟨11, 1⟩) (meth := k11m1) (c := k11c1) (by decide +kernel) rfl rfl rfl (by decide +kernel)
set_option maxRecDepth 65536 in
theorem w_c20 : (Jvm.Cond.code ({ cls := "java/lang/String", name := "substring", desc := "(II)Ljava/lang/String;" } : Jvm.MethodName) jdk_42_method_92_code (5 : Nat) (Option.some (Jvm.ClassFile.FieldType.object "java/lang/String"))).before args0 about1 = true := code_word (m := ⟨7, 6⟩) (meth := k7m6) (c := k7c6) (by decide +kernel) rfl rfl rfl (by decide +kernel)
set_option maxRecDepth 65536 in
theorem w_c21 : (Jvm.Cond.code ({ cls := "java/lang/String", name := "checkBoundsBeginEnd", desc := "(III)V" } : Jvm.MethodName) jdk_42_method_158_code (3 : Nat) (Option.none : Option Jvm.ClassFile.FieldType)).before args0 about1 = true := code_word (m := ⟨7, 11⟩) (meth := k7m11) (c := k7c11) (by decide +kernel) rfl rfl rfl (by decide +kernel)
set_option maxRecDepth 65536 in
theorem w_c22 : (Jvm.Cond.code ({ cls := "jdk/internal/util/Preconditions", name := "checkFromToIndex", desc := "(IIILjava/util/function/BiFunction;)I" } : Jvm.MethodName) jdk_41_method_12_code (4 : Nat) (Option.some Jvm.ClassFile.FieldType.int)).before args0 about1 = true := code_word (m := ⟨12, 1⟩) (meth := k12m1) (c := k12c1) (by decide +kernel) rfl rfl rfl (by decide +kernel)
set_option maxRecDepth 65536 in
theorem w_c23 : (Jvm.Cond.code ({ cls := "java/lang/StringLatin1", name := "newString", desc := "([BII)Ljava/lang/String;" } : Jvm.MethodName) jdk_43_method_47_code (3 : Nat) (Option.some (Jvm.ClassFile.FieldType.object "java/lang/String"))).before args0 about1 = true := code_word (m := ⟨9, 4⟩) (meth := k9m4) (c := k9c4) (by decide +kernel) rfl rfl rfl (by decide +kernel)
set_option maxRecDepth 65536 in
theorem w_c24 : (Jvm.Cond.code ({ cls := "java/util/Arrays", name := "copyOfRange", desc := "([BII)[B" } : Jvm.MethodName) jdk_65_method_132_code (3 : Nat) (Option.some (Jvm.ClassFile.FieldType.array Jvm.ClassFile.FieldType.byte))).before args0 about1 = true := code_word (m := ⟨13, 2⟩) (meth := k13m2) (c := k13c2) (by decide +kernel) rfl rfl rfl (by decide +kernel)
set_option maxRecDepth 65536 in
theorem w_c25 : (Jvm.Cond.code ({ cls := "java/util/Arrays", name := "copyOfRangeByte", desc := "([BII)[B" } : Jvm.MethodName) jdk_65_method_133_code (5 : Nat) (Option.some (Jvm.ClassFile.FieldType.array Jvm.ClassFile.FieldType.byte))).before args0 about1 = true := code_word (m := ⟨13, 3⟩) (meth := k13m3) (c := k13c3) (by decide +kernel) rfl rfl rfl (by decide +kernel)
set_option maxRecDepth 65536 in
theorem w_c26 : (Jvm.Cond.code ({ cls := "java/util/Arrays", name := "checkLength", desc := "(II)V" } : Jvm.MethodName) jdk_65_method_131_code (2 : Nat) (Option.none : Option Jvm.ClassFile.FieldType)).before args0 about1 = true := code_word (m := ⟨13, 1⟩) (meth := k13m1) (c := k13c1) (by decide +kernel) rfl rfl rfl (by decide +kernel)
set_option maxRecDepth 65536 in
theorem w_c27 : (Jvm.Cond.code ({ cls := "java/lang/String", name := "<init>", desc := "([BB)V" } : Jvm.MethodName) jdk_42_method_151_code (3 : Nat) (Option.none : Option Jvm.ClassFile.FieldType)).before args0 about1 = true := code_word (m := ⟨7, 8⟩) (meth := k7m8) (c := k7c8) (by decide +kernel) rfl rfl rfl (by decide +kernel)
def codes1 : List Jvm.Cond := [Jvm.Cond.code x code maxLocals ret, Jvm.Cond.code ({ cls := "com/example/cairnstore/cairnstore/ocfl/EntryTreeParentPinLaw", name := "ch", desc := "(I)C" } : Jvm.MethodName) method_2_code (1 : Nat) (Option.some Jvm.ClassFile.FieldType.char), Jvm.Cond.code ({ cls := "com/example/cairnstore/cairnstore/ocfl/EntryTreeParentPinLaw", name := "mk", desc := "(ICCCC)Ljava/lang/String;" } : Jvm.MethodName) method_3_code (5 : Nat) (Option.some (Jvm.ClassFile.FieldType.object "java/lang/String")), Jvm.Cond.code ({ cls := "java/lang/String", name := "<init>", desc := "([C)V" } : Jvm.MethodName) jdk_42_method_3_code (2 : Nat) (Option.none : Option Jvm.ClassFile.FieldType), Jvm.Cond.code ({ cls := "java/lang/String", name := "<init>", desc := "([CIILjava/lang/Void;)V" } : Jvm.MethodName) jdk_42_method_149_code (6 : Nat) (Option.none : Option Jvm.ClassFile.FieldType), Jvm.Cond.code ({ cls := "java/lang/Object", name := "<init>", desc := "()V" } : Jvm.MethodName) object_method_1_code (1 : Nat) (Option.none : Option Jvm.ClassFile.FieldType), Jvm.Cond.code ({ cls := "com/example/cairnstore/cairnstore/ocfl/EntryTree", name := "parent", desc := "(Ljava/lang/String;)Ljava/lang/String;" } : Jvm.MethodName) prog_16_method_11_code (2 : Nat) (Option.some (Jvm.ClassFile.FieldType.object "java/lang/String")), Jvm.Cond.code ({ cls := "java/lang/String", name := "lastIndexOf", desc := "(I)I" } : Jvm.MethodName) jdk_42_method_82_code (2 : Nat) (Option.some Jvm.ClassFile.FieldType.int), Jvm.Cond.code ({ cls := "java/lang/String", name := "length", desc := "()I" } : Jvm.MethodName) jdk_42_method_54_code (1 : Nat) (Option.some Jvm.ClassFile.FieldType.int), Jvm.Cond.code ({ cls := "java/lang/String", name := "coder", desc := "()B" } : Jvm.MethodName) jdk_42_method_152_code (1 : Nat) (Option.some Jvm.ClassFile.FieldType.byte), Jvm.Cond.code ({ cls := "java/lang/String", name := "lastIndexOf", desc := "(II)I" } : Jvm.MethodName) jdk_42_method_83_code (3 : Nat) (Option.some Jvm.ClassFile.FieldType.int), Jvm.Cond.code ({ cls := "java/lang/String", name := "isLatin1", desc := "()Z" } : Jvm.MethodName) jdk_42_method_154_code (1 : Nat) (Option.some Jvm.ClassFile.FieldType.boolean), Jvm.Cond.code ({ cls := "java/lang/StringLatin1", name := "lastIndexOf", desc := "([BII)I" } : Jvm.MethodName) jdk_43_method_27_code (4 : Nat) (Option.some Jvm.ClassFile.FieldType.int), Jvm.Cond.code ({ cls := "java/lang/StringLatin1", name := "canEncode", desc := "(I)Z" } : Jvm.MethodName) jdk_43_method_4_code (1 : Nat) (Option.some Jvm.ClassFile.FieldType.boolean), Jvm.Cond.code ({ cls := "java/lang/Math", name := "min", desc := "(II)I" } : Jvm.MethodName) jdk_29_method_69_code (2 : Nat) (Option.some Jvm.ClassFile.FieldType.int), Jvm.Cond.code ({ cls := "java/lang/String", name := "equals", desc := "(Ljava/lang/Object;)Z" } : Jvm.MethodName) jdk_42_method_66_code (3 : Nat) (Option.some Jvm.ClassFile.FieldType.boolean), Jvm.Cond.code ({ cls := "java/lang/StringLatin1", name := "equals", desc := "([B[B)Z" } : Jvm.MethodName) jdk_43_method_13_code (3 : Nat) (Option.some Jvm.ClassFile.FieldType.boolean), Jvm.Cond.code ({ cls := "java/lang/StringUTF16", name := "compress", desc := "([CII)[B" } : Jvm.MethodName) jdk_52_method_16_code (6 : Nat) (Option.some (Jvm.ClassFile.FieldType.array Jvm.ClassFile.FieldType.byte)), Jvm.Cond.code ({ cls := "java/lang/StringUTF16", name := "compress", desc := "([CI[BII)I" } : Jvm.MethodName) jdk_52_method_21_code (7 : Nat) (Option.some Jvm.ClassFile.FieldType.int), Jvm.Cond.code ({ cls := "java/lang/StringUTF16", name := "coderFromArrayLen", desc := "([BI)B" } : Jvm.MethodName) jdk_52_method_15_code (2 : Nat) (Option.some Jvm.ClassFile.FieldType.byte), Jvm.Cond.code ({ cls := "java/lang/String", name := "substring", desc := "(II)Ljava/lang/String;" } : Jvm.MethodName) jdk_42_method_92_code (5 : Nat) (Option.some (Jvm.ClassFile.FieldType.object "java/lang/String")), Jvm.Cond.code ({ cls := "java/lang/String", name := "checkBoundsBeginEnd", desc := "(III)V" } : Jvm.MethodName) jdk_42_method_158_code (3 : Nat) (Option.none : Option Jvm.ClassFile.FieldType), Jvm.Cond.code ({ cls := "jdk/internal/util/Preconditions", name := "checkFromToIndex", desc := "(IIILjava/util/function/BiFunction;)I" } : Jvm.MethodName) jdk_41_method_12_code (4 : Nat) (Option.some Jvm.ClassFile.FieldType.int), Jvm.Cond.code ({ cls := "java/lang/StringLatin1", name := "newString", desc := "([BII)Ljava/lang/String;" } : Jvm.MethodName) jdk_43_method_47_code (3 : Nat) (Option.some (Jvm.ClassFile.FieldType.object "java/lang/String")), Jvm.Cond.code ({ cls := "java/util/Arrays", name := "copyOfRange", desc := "([BII)[B" } : Jvm.MethodName) jdk_65_method_132_code (3 : Nat) (Option.some (Jvm.ClassFile.FieldType.array Jvm.ClassFile.FieldType.byte)), Jvm.Cond.code ({ cls := "java/util/Arrays", name := "copyOfRangeByte", desc := "([BII)[B" } : Jvm.MethodName) jdk_65_method_133_code (5 : Nat) (Option.some (Jvm.ClassFile.FieldType.array Jvm.ClassFile.FieldType.byte)), Jvm.Cond.code ({ cls := "java/util/Arrays", name := "checkLength", desc := "(II)V" } : Jvm.MethodName) jdk_65_method_131_code (2 : Nat) (Option.none : Option Jvm.ClassFile.FieldType), Jvm.Cond.code ({ cls := "java/lang/String", name := "<init>", desc := "([BB)V" } : Jvm.MethodName) jdk_42_method_151_code (3 : Nat) (Option.none : Option Jvm.ClassFile.FieldType)]
set_option maxRecDepth 65536 in
theorem codes_eq : words1.filter isCode = codes1 := rfl
theorem w_codes : ∀ c ∈ words1.filter isCode, c.before args0 about1 = true := by
  rw [codes_eq]
  intro c hc
  simp only [codes1, List.mem_cons, List.not_mem_nil, or_false] at hc
  rcases hc with rfl | rfl | rfl | rfl | rfl | rfl | rfl | rfl | rfl | rfl | rfl | rfl | rfl | rfl | rfl | rfl | rfl | rfl | rfl | rfl | rfl | rfl | rfl | rfl | rfl | rfl | rfl | rfl
  · exact w_c0
  · exact w_c1
  · exact w_c2
  · exact w_c3
  · exact w_c4
  · exact w_c5
  · exact w_c6
  · exact w_c7
  · exact w_c8
  · exact w_c9
  · exact w_c10
  · exact w_c11
  · exact w_c12
  · exact w_c13
  · exact w_c14
  · exact w_c15
  · exact w_c16
  · exact w_c17
  · exact w_c18
  · exact w_c19
  · exact w_c20
  · exact w_c21
  · exact w_c22
  · exact w_c23
  · exact w_c24
  · exact w_c25
  · exact w_c26
  · exact w_c27
set_option maxRecDepth 65536 in
theorem w_t1 : (words1.take 24).all (fun c => isCode c || c.before args0 about1) = true := by decide +kernel
set_option maxRecDepth 65536 in
theorem w_t2 : ((words1.drop 24).take 24).all (fun c => isCode c || c.before args0 about1) = true := by decide +kernel
set_option maxRecDepth 65536 in
theorem w_t3 : (((words1.drop 24).drop 24).take 24).all (fun c => isCode c || c.before args0 about1) = true := by decide +kernel
set_option maxRecDepth 65536 in
theorem w_t4 : ((((words1.drop 24).drop 24).drop 24).take 24).all (fun c => isCode c || c.before args0 about1) = true := by decide +kernel
set_option maxRecDepth 65536 in
theorem w_t5 : (((((words1.drop 24).drop 24).drop 24).drop 24).take 24).all (fun c => isCode c || c.before args0 about1) = true := by decide +kernel
set_option maxRecDepth 65536 in
theorem w_t6 : (((((words1.drop 24).drop 24).drop 24).drop 24).drop 24).all (fun c => isCode c || c.before args0 about1) = true := by decide +kernel
theorem w_tables : (allAtoms (Jvm.Cond.code x code maxLocals ret :: tables_1)).before args0 about1 = true := by
  rw [allAtoms_all]
  show words1.all (fun c => c.before args0 about1) = true
  refine all_split ?_ w_codes
  rw [← List.take_append_drop 24 words1, List.all_append, w_t1, ← List.take_append_drop 24 (words1.drop 24), List.all_append, w_t2, ← List.take_append_drop 24 ((words1.drop 24).drop 24), List.all_append, w_t3, ← List.take_append_drop 24 (((words1.drop 24).drop 24).drop 24), List.all_append, w_t4, ← List.take_append_drop 24 ((((words1.drop 24).drop 24).drop 24).drop 24), List.all_append, w_t5, w_t6]
  rfl
set_option maxRecDepth 65536 in
theorem w_rest : rest_1_c.before args0 about1 = true := by decide +kernel
set_option maxRecDepth 65536 in
theorem w_case : (Jvm.Cond.and given_1 narrow_1).before args0 about1 = true := by decide +kernel
set_option maxRecDepth 65536 in
theorem w_consts : constsHeld consts_1 about1 := Jvm.Lit.constsHeldB_iff.mp (by decide +kernel)
theorem w_applies : (headSpec (Jvm.Cond.code x code maxLocals ret :: tables_1) room_1).applies x e0.platform about1 = true :=
  (Spec.applies_iff w_frames).mpr ⟨w_running, w_runnable, w_alone, w_named, w_hears, w_ripe, w_room, w_tables⟩
theorem atStart : AtStart classFile x code maxLocals ret World_1 tables_1 room_1 Calls_1 rest_1 Pre_1 launch0 p0 e0 about1 theMethod args0 below0 :=
  ⟨lists_1, trivial, launch0.admits_env _ _ _, launch0.least_env, fairChoices_fair.cas, fairChoices_fair.clock, w_frames, w_args, w_heap, w_applies, ⟨w_consts, trivial⟩, w_rest, w_case⟩
end start1
theorem witness_1 : WitnessClaimed_1 := ⟨start1.p0, start1.e0, start1.about1, start1.theMethod, start1.args0, start1.below0, start1.atStart⟩
end Jvm.Pilot.@@N@@
