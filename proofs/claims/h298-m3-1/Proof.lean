import JvmDerived
import JvmDerived.Pilot.@@N@@Statement
import JvmDerived.Pilot.@@N@@Code
set_option linter.unusedVariables false
set_option linter.unusedSimpArgs false
namespace Jvm.Pilot.@@N@@
open Jvm Jvm.ClassFile Sem Op Lib Jvm.Free Jvm.Stand Jvm.LawKit Jvm.RoadKit Bundle Jvm.Pilot.@@N@@.Jvm.D
/-! the walk's own layer (wide form): Go = "from here the body returns, and Q"; String constants may be loaded on the way -/
abbrev Cx : Type := Program × Env × State × MethodId × Array Value × List Frame × Method × Code
def Wds (Z : State) : Prop := ∃ a0 : Array Value, (∀ d ∈ tables_1, d.before a0 Z = true) ∧ EW Z a0 consts_1 ∧ ∀ a ∈ Bundle.stringAtoms, a.before a0 Z = true
theorem Wds.w {Z : State} (W : Wds Z) : ∃ a0 : Array Value, ∀ d ∈ tables_1, d.before a0 Z = true := by obtain ⟨a0, h, -⟩ := W; exact ⟨a0, h⟩
def Ok (Z : State) (K : Cx) (own : String) (bytes : ByteArray) (maxL : Nat) (ret : Option FieldType) (nm : String) : Prop :=
  match K with
  | (p, e, s, m, args, below, meth, c) => p.tables.exec = Jvm.exec ∧ c.code = bytes ∧ c.maxLocals = maxL ∧ meth.sig.returnType = ret ∧ s.vm.findClass own = some m.cls ∧ Z.Warmed39 s.vm ∧ meth.name = nm ∧ meth.locks = false ∧ Wds Z
abbrev Sfs (Z : State) (vm : Vm) (h : Heap) (sf : List Addr) : Prop := ∀ x ∈ sf, x < h.size ∧ Safe Z consts_1 vm h x
abbrev Fnl (Z : State) (n0 : Nat) (Q : Option Value → Heap → List Addr → Prop) (v : Option Value) (t : State) (L : List Loc) : Prop := (∃ sn, Q v t.heap sn ∧ Sfs Z t.vm t.heap sn) ∧ Fr n0 L ∧ Old Z n0 t.heap
def Go (l : Launch) (Z : State) (n0 : Nat) (R : Room) (K : Cx) (Q : Option Value → Heap → List Addr → Prop) (h : Heap) (sf : List Addr) (k j : Nat) (pc : Nat) (ls : Array Slot) (st : List Value) : Prop :=
  match K with
  | (p, e, s, m, args, below, meth, c) => ∀ (vm0 : Vm) (k0 : Nat) (T : State) (locs : List Loc), Stand p l e R (s.setVm vm0) m args below meth c T locs k j → T.heap = h → s.Since vm0 k0 → k0 ≤ h.size → CHr Z consts_1 s.vm s.heap vm0 h → Sfs Z vm0 h sf → Fr n0 locs → Old Z n0 h →
      ∃ (s₂ : State) (o : Outcome), Steps p.tables e below (T.setTop (mkF m pc ls st)) s₂ ∧ s₂.status = .running ∧ Ended s₂ below o ∧ ∃ (v : Option Value) (L : List Loc), o = .returned v ∧ Fnl Z n0 Q v s₂ L ∧ CHr Z consts_1 s.vm s.heap s₂.vm s₂.heap ∧ ReturnedEndW s o s₂ L R.cells R.slots
def Ctr (l : Launch) (Z : State) (n0 : Nat) (y : MethodName) (bytes : ByteArray) (maxL : Nat) (ret : Option FieldType) (rm : Room) (as : Array Value) (h : Heap) (sf : List Addr) (Q : Option Value → Heap → List Addr → Prop) : Prop :=
  Old Z n0 h → ∀ ws : List Jvm.Cond, MetFree l y (head1 (Jvm.Cond.code y bytes maxL ret :: ws) rm) (fun a U => a = as ∧ Z.Warmed39 U.vm ∧ U.heap = h ∧ CHv Z consts_1 U.vm h ∧ Sfs Z U.vm h sf) (fun _ _ _ _ _ => True) (fun _ U o U' => ∃ v L, o = .returned v ∧ Fnl Z n0 Q v U' L ∧ CHr Z consts_1 U.vm U.heap U'.vm U'.heap ∧ ReturnedEndW U o U' L rm.cells rm.slots)
section Kit
variable {l : Launch} {Z : State} {n0 : Nat} {R : Room} {K : Cx} {Q : Option Value → Heap → List Addr → Prop} {h : Heap} {sf : List Addr} {k j pc pc' : Nat} {ls : Array Slot} {st : List Value} {own : String} {bytes : ByteArray} {maxL : Nat} {ret : Option FieldType} {nm : String}
theorem Sfs.ext {vm : Vm} {h' : Heap} (E : Ext h h') (H : CHv Z consts_1 vm h) (S : Sfs Z vm h sf) : Sfs Z vm h' sf := fun x q => ⟨Nat.lt_of_lt_of_le (S x q).1 E.1, Safe.ext E H (S x q).2⟩
theorem Sfs.cons {vm : Vm} {a : Addr} (q : a < h.size) (Sa : Safe Z consts_1 vm h a) (S : Sfs Z vm h sf) : Sfs Z vm h (a :: sf) := fun x hx => by
  rcases List.mem_cons.mp hx with rfl | hx
  · exact ⟨q, Sa⟩
  · exact S x hx
theorem Sfs.chr {vm vm' : Vm} {h' : Heap} (A : CHr Z consts_1 vm h vm' h') (S : Sfs Z vm h sf) : Sfs Z vm' h' sf := fun x q => ⟨Nat.lt_of_lt_of_le (S x q).1 A.2.1, A.safe (S x q).1 (S x q).2⟩
theorem Sfs.app {vm : Vm} {sn : List Addr} (S : Sfs Z vm h sn) (S' : Sfs Z vm h sf) : Sfs Z vm h (sn ++ sf) := fun x q => (List.mem_append.mp q).elim (S x) (S' x)
theorem Ctr.of_go {y : MethodName} {rm : Room} {as : Array Value} (W : Wds Z) (hp : plainFor y = true) (hef : ∀ m, entryFrame m as maxL = mkF m 0 ls []) (hgo : ∀ K, Ok Z K y.cls bytes maxL ret y.name → Go l Z n0 rm K Q h sf 0 0 0 ls []) : Ctr l Z n0 y bytes maxL ret rm as h sf Q := fun hO ws => by
  refine MetFree.of_bodySF hp hisR ?_
  intro p e s m args below meth c s₁ Bd hml0 hP hK
  obtain ⟨rfl, hZ, hh, hC, hS⟩ := hP
  have X0 : Stand p l e rm (s.setVm s.vm) m args below meth c s₁ [] 0 0 := Stand.of_body Bd
  have e0 : s₁.heap = h := by rw [← hh, Bd.state]; rfl
  have hnm := (name_of_methodNamed Bd.named Bd.method).1
  have hlk : meth.locks = false := BodyLoose.notSynchronized Bd
  have hS0 : s.Since s.vm 0 := (State.WarmedH.refl s).since _
  obtain ⟨s₂, o, h1, h2⟩ := hgo (p, e, s, m, args, below, meth, c) ⟨Bd.exec, Bd.bytes, hml0, Bd.returns, findClass_of_methodNamed Bd.named, hZ, hnm, hlk, W⟩ s.vm 0 s₁ [] X0 e0 hS0 (Nat.zero_le _) (by rw [hh]; exact CHr.refl hC) hS (Fr.nil n0) hO
  exact ⟨s₂, o, castTop (hef m) h1, h2⟩
theorem Go.of {ls' : Array Slot} {st' : List Value} (H : Ok Z K own bytes maxL ret nm) (step : ∀ (p : Program) (e : Env) (below : List Frame) (T target : State) (m : MethodId) (c : Code), At T m c below → p.tables.exec = Jvm.exec → c.code = bytes → Steps p.tables e below (T.setTop (mkF m pc' ls' st')) target → Steps p.tables e below (T.setTop (mkF m pc ls st)) target) (r : Go l Z n0 R K Q h sf k j pc' ls' st') : Go l Z n0 R K Q h sf k j pc ls st := by
  obtain ⟨p, e, s, m, args, below, meth, c⟩ := K
  intro vm0 k0 T locs X eT hS hk hC hSf hF hO
  obtain ⟨s₂, o, h1, h2⟩ := r vm0 k0 T locs X eT hS hk hC hSf hF hO
  exact ⟨s₂, o, step p e below T s₂ m c X.here H.1 H.2.1 h1, h2⟩
/-- a step that keeps the heap and may warm the tables -/
theorem Go.of2 {st' : List Value} (H : Ok Z K own bytes maxL ret nm) (step : ∀ (p : Program) (e : Env) (s : State) (m : MethodId) (args : Array Value) (below : List Frame) (meth : Method) (c : Code) (T : State) (locs : List Loc) (a0 : Array Value), (∀ d ∈ tables_1, d.before a0 Z = true) → Stand p l e R s m args below meth c T locs k j → p.tables.exec = Jvm.exec → c.code = bytes → c.maxLocals = maxL → Z.Warmed39 s.vm → s.vm.findClass own = some m.cls → T.heap = h → Old Z n0 h →
      ∃ T', Stand p l e R s m args below meth c T' locs k j ∧ T'.heap = h ∧ ∀ target, Steps p.tables e below (T'.setTop (mkF m pc' ls st')) target → Steps p.tables e below (T.setTop (mkF m pc ls st)) target) (r : Go l Z n0 R K Q h sf k j pc' ls st') : Go l Z n0 R K Q h sf k j pc ls st := by
  obtain ⟨p, e, s, m, args, below, meth, c⟩ := K
  intro vm0 k0 T locs X eT hS hk hC hSf hF hO
  obtain ⟨H1, H2, H3, H4, H5, H6, H7, H8, a0, hw, hEL, hat⟩ := H
  obtain ⟨T', X', eT', st⟩ := step p e (s.setVm vm0) m args below meth c T locs a0 hw X H1 H2 H3 (State.Warmed39.trans H6 hS.1) ((hS.1.alike.findClass _ _).trans H5) eT hO
  obtain ⟨s₂, o, h1, h2⟩ := r vm0 k0 T' locs X' eT' hS hk hC hSf hF hO
  exact ⟨s₂, o, st _ h1, h2⟩
/-- a step that makes cells -/
theorem Go.ofNew {st' : List Value} {dk dj : Nat} {P : Addr → Heap → Prop} (H : Ok Z K own bytes maxL ret nm) (step : ∀ (p : Program) (e : Env) (s : State) (m : MethodId) (args : Array Value) (below : List Frame) (meth : Method) (c : Code) (T : State) (locs : List Loc) (a0 : Array Value), (∀ d ∈ tables_1, d.before a0 Z = true) → Stand p l e R s m args below meth c T locs k j → p.tables.exec = Jvm.exec → c.code = bytes → Z.Warmed39 s.vm → s.vm.findClass own = some m.cls → T.heap = h →
      ∃ T' h', Stand p l e R s m args below meth c T' locs (k + dk) (j + dj) ∧ T'.heap = h' ∧ Ext h h' ∧ P h.size h' ∧ ∀ target, Steps p.tables e below (T'.setTop (mkF m pc' ls (.ref h.size :: st'))) target → Steps p.tables e below (T.setTop (mkF m pc ls st)) target)
    (hnew : ∀ a h', P a h' → a < h'.size)
    (r : ∀ (a : Addr) (h' : Heap), a = h.size → n0 ≤ a → Ext h h' → P a h' → Go l Z n0 R K Q h' (a :: sf) (k + dk) (j + dj) pc' ls (.ref a :: st')) : Go l Z n0 R K Q h sf k j pc ls st := by
  obtain ⟨p, e, s, m, args, below, meth, c⟩ := K
  intro vm0 k0 T locs X eT hS hk hC hSf hF hO
  obtain ⟨H1, H2, H3, H4, H5, H6, H7, H8, a0, hw, hEL, hat⟩ := H
  obtain ⟨T', h', X', eT', E, hP, st⟩ := step p e (s.setVm vm0) m args below meth c T locs a0 hw X H1 H2 (State.Warmed39.trans H6 hS.1) ((hS.1.alike.findClass _ _).trans H5) eT
  obtain ⟨s₂, o, h1, h2⟩ := r h.size h' rfl (hO.1 ▸ hO.2.1) E hP vm0 k0 T' locs X' eT' hS (Nat.le_trans hk E.1) (hC.trans (CHr.ext E hC.1)) ((hSf.ext E hC.1).cons (hnew _ _ hP) (Safe.ext E hC.1 (Safe.new (Nat.le_refl _)))) hF (hO.ext E)
  exact ⟨s₂, o, st _ h1, h2⟩
/-- a step that writes one slot of a cell that is new since n0 -/
theorem Go.ofWr {st' : List Value} {a : Addr} {sl : Nat} {v : Value} (H : Ok Z K own bytes maxL ret nm) (ha : n0 ≤ a) (hs : a ∈ sf) (step : ∀ (p : Program) (e : Env) (s : State) (m : MethodId) (args : Array Value) (below : List Frame) (meth : Method) (c : Code) (T : State) (locs : List Loc) (a0 : Array Value), (∀ d ∈ tables_1, d.before a0 Z = true) → Stand p l e R s m args below meth c T locs k j → p.tables.exec = Jvm.exec → c.code = bytes → Z.Warmed39 s.vm → s.vm.findClass own = some m.cls → meth.name = nm → T.heap = h →
      ∃ T' h', Stand p l e R s m args below meth c T' (locs ++ [⟨a, sl⟩]) k j ∧ T'.heap = h' ∧ Wr h h' a sl v ∧ ∀ target, Steps p.tables e below (T'.setTop (mkF m pc' ls st')) target → Steps p.tables e below (T.setTop (mkF m pc ls st)) target)
    (r : ∀ (h' : Heap), Wr h h' a sl v → Go l Z n0 R K Q h' sf k j pc' ls st') : Go l Z n0 R K Q h sf k j pc ls st := by
  obtain ⟨p, e, s, m, args, below, meth, c⟩ := K
  intro vm0 k0 T locs X eT hS hk hC hSf hF hO
  obtain ⟨H1, H2, H3, H4, H5, H6, H7, H8, a0, hw, hEL, hat⟩ := H
  obtain ⟨T', h', X', eT', W, st⟩ := step p e (s.setVm vm0) m args below meth c T locs a0 hw X H1 H2 (State.Warmed39.trans H6 hS.1) ((hS.1.alike.findClass _ _).trans H5) H7 eT
  have hsz := W.size
  obtain ⟨s₂, o, h1, h2⟩ := r h' W vm0 k0 T' _ X' eT' hS (by rw [hsz]; exact hk) (hC.trans (CHr.wr W (hSf a hs).2 hC.1)) (fun x q => ⟨by rw [hsz]; exact (hSf x q).1, Safe.wr W (hSf a hs).2 hC.1 (hSf x q).2⟩) (Fr.snoc X' hF ha) (hO.wr W ha)
  exact ⟨s₂, o, st _ h1, h2⟩
/-- a step that may write any slots of one cell that is new since n0 -/
theorem Go.ofKeep {st' : List Value} {b : Addr} {P : Heap → Prop} (H : Ok Z K own bytes maxL ret nm) (ha : n0 ≤ b) (hs : b ∈ sf) (step : ∀ (p : Program) (e : Env) (s : State) (m : MethodId) (args : Array Value) (below : List Frame) (meth : Method) (c : Code) (T : State) (locs : List Loc) (a0 : Array Value), (∀ d ∈ tables_1, d.before a0 Z = true) → Stand p l e R s m args below meth c T locs k j → p.tables.exec = Jvm.exec → c.code = bytes → c.maxLocals = maxL → Z.Warmed39 s.vm → s.vm.findClass own = some m.cls → T.heap = h → Fr n0 locs →
      ∃ T' h' L, Stand p l e R s m args below meth c T' L k j ∧ T'.heap = h' ∧ Fr n0 L ∧ Keep h h' [b] ∧ P h' ∧ ∀ target, Steps p.tables e below (T'.setTop (mkF m pc' ls st')) target → Steps p.tables e below (T.setTop (mkF m pc ls st)) target)
    (r : ∀ (h' : Heap), Keep h h' [b] → P h' → Go l Z n0 R K Q h' sf k j pc' ls st') : Go l Z n0 R K Q h sf k j pc ls st := by
  obtain ⟨p, e, s, m, args, below, meth, c⟩ := K
  intro vm0 k0 T locs X eT hS hk hC hSf hF hO
  obtain ⟨H1, H2, H3, H4, H5, H6, H7, H8, a0, hw, hEL, hat⟩ := H
  obtain ⟨T', h', L, X', eT', hL, hK, hP, st⟩ := step p e (s.setVm vm0) m args below meth c T locs a0 hw X H1 H2 H3 (State.Warmed39.trans H6 hS.1) ((hS.1.alike.findClass _ _).trans H5) eT hF
  have hsafe : ∀ x ∈ [b], Safe Z consts_1 vm0 h x := allS (hSf b hs).2 all0
  obtain ⟨s₂, o, h1, h2⟩ := r h' hK hP vm0 k0 T' L X' eT' hS (Nat.le_trans hk hK.1) (hC.trans (CHr.keep hK hsafe hC.1)) (fun x q => ⟨Nat.lt_of_lt_of_le (hSf x q).1 hK.1, Safe.keep hK hsafe hC.1 (hSf x q).2⟩) hL (hO.keep hK (allS ha all0))
  exact ⟨s₂, o, st _ h1, h2⟩
theorem Ctr.backS {p : Program} {e : Env} {s : State} {args : Array Value} {below : List Frame} {vm0 : Vm} {a0 : Array Value} {y : MethodName} {ybytes : ByteArray} {ymaxL : Nat} {yret : Option FieldType} {rm : Room} {as : Array Value} {Qc : Option Value → Heap → List Addr → Prop} {sfc : List Addr} {W : Nat} (ct : Ctr l Z n0 y ybytes ymaxL yret rm as h sfc Qc) (hO : Old Z n0 h)
    (hZ : Z.Warmed39 vm0) (hEL : EW Z a0 consts_1) (hC : CHv Z consts_1 vm0 h) (hSf : Sfs Z vm0 h sfc) (wc : (Jvm.Cond.code y ybytes ymaxL yret).before a0 Z = true) (wz : (Jvm.Cond.initialized y.cls).before a0 Z = true) (hfr : rm.frames + 1 ≤ R.frames) (hlo : W + (ymaxL + 11) + rm.locals ≤ R.locals) :
    BackS l R p e below (s.setVm vm0) args y 3 W (fun A a => a = as ∧ A.U.heap = h ∧ A.cells + rm.cells ≤ R.cells ∧ A.slots + rm.slots ≤ R.slots)
      (fun A _ v B => ∃ L, Fnl Z n0 Qc v B.U L ∧ B.locs = A.locs ++ L ∧ B.cells = A.cells + rm.cells ∧ B.slots = A.slots + rm.slots ∧ CHr Z consts_1 vm0 h B.U.vm B.U.heap) := by
  refine BackS.of_freeW (bytes := ybytes) (maxL := ymaxL) (ret := yret) (E := fun _ U o t L k n => (k = rm.cells ∧ n = rm.slots) ∧ (∃ v, o = .returned v ∧ Fnl Z n0 Qc v t L) ∧ CHr Z consts_1 U.vm U.heap t.vm t.heap) (ct hO []) hfr hlo ?_ ?_ (fun _ _ _ _ _ _ _ _ _ => trivial) ?_ ?_
  · intro m meth c A a Y hp
    have hU : Z.Warmed39 A.U.vm := wtrans (s := s.setVm vm0) hZ Y.warmed
    exact ⟨by show (Jvm.Cond.and _ .tt).before a A.U = true; rw [Cond.before_and, mv hU wc]; rfl, mv hU wc, mv hU wz, hp.2.2.1, hp.2.2.2⟩
  · intro m meth c A a g mk Y hp
    have q := CHv.at Y hZ hEL hC
    exact ⟨hp.1, wtrans (s := s.setVm vm0) hZ Y.warmed, hp.2.1, q.1, hSf.chr q⟩
  · rintro a U o t ⟨v, L, h1, h2, h3, h4⟩
    exact ⟨L, _, _, h4, ⟨rfl, rfl⟩, ⟨v, h1, h2⟩, h3⟩
  · rintro m meth c A a g mk v t L k n Y hp - - ⟨⟨rfl, rfl⟩, ⟨v', e3, e4⟩, e5⟩
    cases e3
    refine ⟨L, e4, rfl, rfl, rfl, (CHv.at Y hZ hEL hC).trans ?_⟩
    rw [← hp.2.1]; exact e5
/-- a call, by whatever law of calls -/
theorem Go.ofCall {y : MethodName} {ybytes : ByteArray} {ymaxL : Nat} {yret : Option FieldType} {rm : Room} {as : Array Value} {Qc : Option Value → Heap → List Addr → Prop} {sfc : List Addr} {rest : List Value} {W : Nat} (H : Ok Z K own bytes maxL ret nm) (ct : Ctr l Z n0 y ybytes ymaxL yret rm as h sfc Qc) (hsf : ∀ x ∈ sfc, x ∈ sf)
    (hc : Jvm.Cond.code y ybytes ymaxL yret ∈ tables_1) (hi : Jvm.Cond.initialized y.cls ∈ tables_1) (hfr : rm.frames + 1 ≤ R.frames) (hlo : W + (ymaxL + 11) + rm.locals ≤ R.locals) (hce : k + rm.cells ≤ R.cells) (hsl : j + rm.slots ≤ R.slots)
    (law : ∀ (p : Program) (e : Env) (s : State) (m : MethodId) (args : Array Value) (below : List Frame) (meth : Method) (c : Code) (T : State) (locs : List Loc) (a0 : Array Value), (∀ d ∈ tables_1, d.before a0 Z = true) → Stand p l e R s m args below meth c T locs k j → p.tables.exec = Jvm.exec → c.code = bytes → c.maxLocals = maxL → Z.Warmed39 s.vm → s.vm.findClass own = some m.cls → T.heap = h →
      ∀ (Pre : Pt → Array Value → Prop) (Post : Pt → Array Value → Option Value → Pt → Prop), BackS l R p e below s args y 3 W Pre Post → (∀ vm₁, s.WarmedH vm₁ → Pre ⟨T.setVm vm₁, locs, k, j⟩ as) →
      ∃ (v : Option Value) (vm₁ : Vm) (B : Pt), Stand p l e R (s.setVm B.U.vm) m args below meth c B.U B.locs B.cells B.slots ∧ s.Since B.U.vm B.U.heap.size ∧ T.heap.size ≤ B.U.heap.size ∧ Post ⟨T.setVm vm₁, locs, k, j⟩ as v B ∧ ∀ target, Steps p.tables e below (B.U.setTop (mkF m pc' ls (v.toList ++ rest))) target → Steps p.tables e below (T.setTop (mkF m pc ls st)) target)
    (r : ∀ (v : Option Value) (h' : Heap) (sn : List Addr), Qc v h' sn → Go l Z n0 R K Q h' (sn ++ sf) (k + rm.cells) (j + rm.slots) pc' ls (v.toList ++ rest)) : Go l Z n0 R K Q h sf k j pc ls st := by
  obtain ⟨p, e, s, m, args, below, meth, c⟩ := K
  intro vm0 k0 T locs X eT hS hk hC hSf hF hO
  obtain ⟨H1, H2, H3, H4, H5, H6, H7, H8, a0, hw, hEL, hat⟩ := H
  have hZ0 : Z.Warmed39 (s.setVm vm0).vm := State.Warmed39.trans H6 hS.1
  have hown0 : (s.setVm vm0).vm.findClass own = some m.cls := (hS.1.alike.findClass _ _).trans H5
  have hB := Ctr.backS (p := p) (e := e) (s := s) (args := args) (below := below) (R := R) (W := W) (vm0 := vm0) ct hO hZ0 hEL hC.1 (fun x q => hSf x (hsf x q)) (hw _ hc) (hw _ hi) hfr hlo
  obtain ⟨v, vm₁, B, X', hS2, hgr, ⟨L, ⟨⟨sn, hq, hsn⟩, hFL, hO'⟩, e1, e2, e3, e4⟩, stp⟩ := law p e (s.setVm vm0) m args below meth c T locs a0 hw X H1 H2 H3 hZ0 hown0 eT _ _ hB (fun vm₁ _ => ⟨rfl, eT, hce, hsl⟩)
  obtain ⟨U, Lc, kc, jc⟩ := B
  dsimp only [Pt.U, Pt.locs, Pt.cells, Pt.slots] at X' hS2 hgr hq hsn hO' e1 e2 e3 e4 stp
  subst e1 e2 e3
  rw [eT] at hgr
  obtain ⟨X2, hS3, -, -⟩ := rebS hS hk X' hS2 hgr hZ0 hown0
  obtain ⟨s₂, o, h1, h2⟩ := r v _ sn hq U.vm _ U _ X2 rfl hS3 (Nat.le_refl _) (hC.trans e4) (hsn.app (hSf.chr e4)) (hF.app hFL) hO'
  exact ⟨s₂, o, stp _ h1, h2⟩
theorem Go.callS {y : MethodName} {ybytes : ByteArray} {ymaxL : Nat} {yret : Option FieldType} {rm : Room} {Qc : Option Value → Heap → List Addr → Prop} {sfc : List Addr} {rest : List Value} (W : Nat) {idx : Nat} (argsL : List Value) {ps : List FieldType} {rt : Option FieldType} (H : Ok Z K own bytes maxL ret nm) (d : decode bytes pc = .ok (.invokestatic idx, 3)) (hp : pc + 3 = pc')
    (hl : Jvm.Cond.methodLink own idx y ∈ tables_1) (hst : Jvm.Cond.static y ∈ tables_1) (hi : Jvm.Cond.initialized y.cls ∈ tables_1) (hc : Jvm.Cond.code y ybytes ymaxL yret ∈ tables_1) (hpd : parseMethodDescriptor y.desc = some ⟨ps, rt⟩)
    (ct : Ctr l Z n0 y ybytes ymaxL yret rm argsL.toArray h sfc Qc) (hsf : ∀ x ∈ sfc, x ∈ sf) (hlen : argsL.length = ps.length) (hsz : ls.size = maxL) (hstk : st = argsL.reverse ++ rest) (hW : (rest.map fun v => v.category).sum ≤ W)
    (hfr : rm.frames + 1 ≤ R.frames) (hlo : W + (ymaxL + 11) + rm.locals ≤ R.locals) (hce : k + rm.cells ≤ R.cells) (hsl : j + rm.slots ≤ R.slots) (hy : y.cls ≠ "java/lang/invoke/MethodHandle" ∧ y.cls ≠ "java/lang/invoke/VarHandle")
    (r : ∀ (v : Option Value) (h' : Heap) (sn : List Addr), Qc v h' sn → Go l Z n0 R K Q h' (sn ++ sf) (k + rm.cells) (j + rm.slots) pc' ls (v.toList ++ rest)) : Go l Z n0 R K Q h sf k j pc ls st := by
  subst hp
  refine Go.ofCall (W := W) (rest := rest) H ct hsf hc hi hfr hlo hce hsl ?_ r
  intro p e s m args below meth c T locs a0 hw X hx hby hml hZ hown eT Pre Post hB hpre
  obtain ⟨v, vm₁, B, -, X', hS2, hgr, hpost, stp⟩ := Jvm.RoadKit.callSS X hx (y := y) hown (mvT hZ (hw _ hl)) (mvT hZ (hw _ hst)) (mvT hZ (hw _ hi)) (mvT hZ (hw _ hc)) hy hB (g := mkF m pc ls st) rfl (by rw [hml]; exact hsz) (argsL := argsL) (rest := rest) (lenOf hpd hlen) hstk (by show 2 * 0 + _ ≤ _; simpa using hW) (hb hby d) hpre
  exact ⟨v, vm₁, B, X', hS2, hgr, hpost, fun t ht => stp.trans ht⟩
theorem Go.callI {y : MethodName} {ybytes : ByteArray} {ymaxL : Nat} {rm : Room} {Qc : Option Value → Heap → List Addr → Prop} {sfc : List Addr} {rest : List Value} (W : Nat) {idx : Nat} {a : Addr} (argsL : List Value) {ps : List FieldType} {rt : Option FieldType} (H : Ok Z K own bytes maxL ret nm) (d : decode bytes pc = .ok (.invokespecial idx, 3)) (hp : pc + 3 = pc') (hy1 : y.name = "<init>")
    (hl : Jvm.Cond.methodLink own idx y ∈ tables_1) (hst : Jvm.Cond.instanceMethod y ∈ tables_1) (hi : Jvm.Cond.initialized y.cls ∈ tables_1) (hc : Jvm.Cond.code y ybytes ymaxL none ∈ tables_1) (hpd : parseMethodDescriptor y.desc = some ⟨ps, rt⟩)
    (ct : Ctr l Z n0 y ybytes ymaxL none rm (.ref a :: argsL).toArray h sfc Qc) (hsf : ∀ x ∈ sfc, x ∈ sf) (hlen : argsL.length = ps.length) (hsz : ls.size = maxL) (hstk : st = argsL.reverse ++ .ref a :: rest) (hW : (rest.map fun v => v.category).sum ≤ W)
    (hfr : rm.frames + 1 ≤ R.frames) (hlo : W + (ymaxL + 11) + rm.locals ≤ R.locals) (hce : k + rm.cells ≤ R.cells) (hsl : j + rm.slots ≤ R.slots) (hy : y.cls ≠ "java/lang/invoke/MethodHandle" ∧ y.cls ≠ "java/lang/invoke/VarHandle")
    (r : ∀ (v : Option Value) (h' : Heap) (sn : List Addr), Qc v h' sn → Go l Z n0 R K Q h' (sn ++ sf) (k + rm.cells) (j + rm.slots) pc' ls (v.toList ++ rest)) : Go l Z n0 R K Q h sf k j pc ls st := by
  subst hp
  refine Go.ofCall (W := W) (rest := rest) H ct hsf hc hi hfr hlo hce hsl ?_ r
  intro p e s m args below meth c T locs a0 hw X hx hby hml hZ hown eT Pre Post hB hpre
  obtain ⟨v, vm₁, B, -, X', hS2, hgr, hpost, stp⟩ := X.specialBackS hx (y := y) hy1 hown (mvT hZ (hw _ hl)) (mvT hZ (hw _ hst)) (mvT hZ (hw _ hc)) hy hB (g := mkF m pc ls st) rfl (by rw [hml]; exact hsz) (Steps.refl _) (a := a) (argsL := argsL) (rest := rest) (lenOf hpd hlen) hstk (by show 2 * 0 + _ ≤ _; simpa using hW) (hb hby d) hpre
  exact ⟨v, vm₁, B, X', hS2, hgr, hpost, fun t ht => stp.trans ht⟩
theorem Go.callV {y : MethodName} {C : String} {ybytes : ByteArray} {ymaxL : Nat} {yret : Option FieldType} {rm : Room} {Qc : Option Value → Heap → List Addr → Prop} {sfc : List Addr} {rest : List Value} (W : Nat) {idx : Nat} {a : Addr} (argsL : List Value) {ps : List FieldType} {rt : Option FieldType} (H : Ok Z K own bytes maxL ret nm) (d : decode bytes pc = .ok (.invokevirtual idx, 3)) (hp : pc + 3 = pc') (E : Exa Z h a C)
    (hl : Jvm.Cond.methodLink own idx y ∈ tables_1) (hde : Jvm.Cond.declares y ∈ tables_1) (hse : Jvm.Cond.selects C y y ∈ tables_1) (hst : Jvm.Cond.instanceMethod y ∈ tables_1) (hi : Jvm.Cond.initialized y.cls ∈ tables_1) (hc : Jvm.Cond.code y ybytes ymaxL yret ∈ tables_1) (hpd : parseMethodDescriptor y.desc = some ⟨ps, rt⟩)
    (ct : Ctr l Z n0 y ybytes ymaxL yret rm (.ref a :: argsL).toArray h sfc Qc) (hsf : ∀ x ∈ sfc, x ∈ sf) (hlen : argsL.length = ps.length) (hsz : ls.size = maxL) (hstk : st = argsL.reverse ++ .ref a :: rest) (hW : (rest.map fun v => v.category).sum ≤ W)
    (hfr : rm.frames + 1 ≤ R.frames) (hlo : W + (ymaxL + 11) + rm.locals ≤ R.locals) (hce : k + rm.cells ≤ R.cells) (hsl : j + rm.slots ≤ R.slots) (hy : y.cls ≠ "java/lang/invoke/MethodHandle" ∧ y.cls ≠ "java/lang/invoke/VarHandle")
    (r : ∀ (v : Option Value) (h' : Heap) (sn : List Addr), Qc v h' sn → Go l Z n0 R K Q h' (sn ++ sf) (k + rm.cells) (j + rm.slots) pc' ls (v.toList ++ rest)) : Go l Z n0 R K Q h sf k j pc ls st := by
  subst hp
  refine Go.ofCall (W := W) (rest := rest) H ct hsf hc hi hfr hlo hce hsl ?_ r
  intro p e s m args below meth c T locs a0 hw X hx hby hml hZ hown eT Pre Post hB hpre
  obtain ⟨cq, kq, qa, qb, qc⟩ := isOf hZ eT E
  obtain ⟨v, vm₁, B, -, X', hS2, hgr, hpost, stp⟩ := X.virtualBackS hx (y := y) (z := y) hown (mvT hZ (hw _ hl)) (mvT hZ (hw _ hde)) (notFace_of_selects (args := #[]) (mvT hZ (hw _ hse))) (mvT hZ (hw _ hse)) (mvT hZ (hw _ hst)) hy hB qa qc (g := mkF m pc ls st) rfl (by rw [hml]; exact hsz) (Steps.refl _) (argsL := argsL) (rest := rest) (lenOf hpd hlen) hstk (by show 2 * 0 + _ ≤ _; simpa using hW) (hb hby d) hpre
  exact ⟨v, vm₁, B, X', hS2, hgr, hpost, fun t ht => stp.trans ht⟩
theorem Go.ret0 {sn : List Addr} {v : Option Value} (H : Ok Z K own bytes maxL ret nm) (hv : ret = none → v = none) (hq : Q v h sn) (hs : ∀ x ∈ sn, x ∈ sf) (hk : k ≤ R.cells) (hj : j ≤ R.slots)
    (step : ∀ (p : Program) (e : Env) (s : State) (m : MethodId) (args : Array Value) (below : List Frame) (meth : Method) (c : Code) (T : State) (locs : List Loc) (fs : List Frame), Stand p l e R s m args below meth c T locs k j → p.tables.exec = Jvm.exec → c.code = bytes → meth.sig.returnType = ret →
      (∀ (f : JFrame) (acts : List Action), f.method = m → f.locked = none → f.entered = [] → (doReturn e (T.setTop f) acts v).1 = T.setFrames fs) → Steps p.tables e below (T.setTop (mkF m pc ls st)) (T.setFrames fs)) : Go l Z n0 R K Q h sf k j pc ls st := by
  obtain ⟨p, e, s, m, args, below, meth, c⟩ := K
  intro vm0 k0 T locs X eT hS hk0 hC hSf hF hO
  obtain ⟨H1, H2, H3, H4, H5, H6, H7, H8, a0, hw, hEL, hat⟩ := H
  have hZ0 : Z.Warmed39 vm0 := State.Warmed39.trans H6 hS.1
  obtain ⟨fs, hr, hrun, hended, g1, g2, g3, g4⟩ := X.leaveW hS (by rw [eT]; exact hk0) (v := v) (fun q => hv (H4.symm.trans q)) H8
  have q := CHv.at X hZ0 hEL hC.1
  have hCe : CHr Z consts_1 s.vm s.heap T.vm T.heap := by rw [eT]; exact hC.trans q
  refine ⟨_, _, step p e (s.setVm vm0) m args below meth c T locs fs X H1 H2 H4 hr, hrun, hended, v, locs, rfl, ⟨⟨sn, ?_, ?_⟩, hF, ?_⟩, hCe, ⟨g1, g2, g3, g4.mono hk hj⟩⟩
  · show Q v T.heap sn
    rw [eT]; exact hq
  · show Sfs Z T.vm T.heap sn
    rw [eT]; exact Sfs.chr q (fun x hx => hSf x (hs x hx))
  · show Old Z n0 T.heap
    rw [eT]; exact hO
end Kit
section Steps1
variable {l : Launch} {Z : State} {n0 : Nat} {R : Room} {K : Cx} {Q : Option Value → Heap → List Addr → Prop} {h : Heap} {sf : List Addr} {k j pc pc' : Nat} {ls ls' : Array Slot} {st : List Value} {own : String} {bytes : ByteArray} {maxL : Nat} {ret : Option FieldType} {nm : String}
theorem Go.aload {i : Nat} {v : Value} (H : Ok Z K own bytes maxL ret nm) (d : decode bytes pc = .ok (.aload i, 2)) (hp : pc + 2 = pc') (hl : ls[i]? = some (.val v)) (hv : v.isRef = true) (r : Go l Z n0 R K Q h sf k j pc' ls (v :: st)) : Go l Z n0 R K Q h sf k j pc ls st := by
  subst hp
  exact Go.of H (fun p e below T t m c hA hx hby hr => XS.aload hA hx rfl (hb hby d) hl hv hr) r
theorem Go.aloadN {i : Fin 4} {v : Value} (H : Ok Z K own bytes maxL ret nm) (d : decode bytes pc = .ok (.aload_n i, 1)) (hp : pc + 1 = pc') (hl : ls[i.val]? = some (.val v)) (hv : v.isRef = true) (r : Go l Z n0 R K Q h sf k j pc' ls (v :: st)) : Go l Z n0 R K Q h sf k j pc ls st := by
  subst hp
  exact Go.of H (fun p e below T t m c hA hx hby hr => XS.aloadN hA hx rfl (hb hby d) hl hv hr) r
theorem Go.iload {i : Nat} {v : Int32} (H : Ok Z K own bytes maxL ret nm) (d : decode bytes pc = .ok (.iload i, 2)) (hp : pc + 2 = pc') (hl : ls[i]? = some (.val (.int v))) (r : Go l Z n0 R K Q h sf k j pc' ls (.int v :: st)) : Go l Z n0 R K Q h sf k j pc ls st := by
  subst hp
  exact Go.of H (fun p e below T t m c hA hx hby hr => XS.iload hA hx rfl (hb hby d) hl hr) r
theorem Go.iloadN {i : Fin 4} {v : Int32} (H : Ok Z K own bytes maxL ret nm) (d : decode bytes pc = .ok (.iload_n i, 1)) (hp : pc + 1 = pc') (hl : ls[i.val]? = some (.val (.int v))) (r : Go l Z n0 R K Q h sf k j pc' ls (.int v :: st)) : Go l Z n0 R K Q h sf k j pc ls st := by
  subst hp
  exact Go.of H (fun p e below T t m c hA hx hby hr => XS.iloadN hA hx rfl (hb hby d) hl hr) r
theorem Go.lload {i : Nat} {v : Int64} (H : Ok Z K own bytes maxL ret nm) (d : decode bytes pc = .ok (.lload i, 2)) (hp : pc + 2 = pc') (hl : ls[i]? = some (.val (.long v))) (r : Go l Z n0 R K Q h sf k j pc' ls (.long v :: st)) : Go l Z n0 R K Q h sf k j pc ls st := by
  subst hp
  exact Go.of H (fun p e below T t m c hA hx hby hr => XS.lload hA hx rfl (hb hby d) hl hr) r
theorem Go.lloadN {i : Fin 4} {v : Int64} (H : Ok Z K own bytes maxL ret nm) (d : decode bytes pc = .ok (.lload_n i, 1)) (hp : pc + 1 = pc') (hl : ls[i.val]? = some (.val (.long v))) (r : Go l Z n0 R K Q h sf k j pc' ls (.long v :: st)) : Go l Z n0 R K Q h sf k j pc ls st := by
  subst hp
  exact Go.of H (fun p e below T t m c hA hx hby hr => XS.lloadN hA hx rfl (hb hby d) hl hr) r
theorem Go.istore {i : Nat} {x : Int32} (H : Ok Z K own bytes maxL ret nm) (d : decode bytes pc = .ok (.istore i, 2)) (hp : pc + 2 = pc') (hl : storeLocals ls i (.int x) = some ls') (r : Go l Z n0 R K Q h sf k j pc' ls' st) : Go l Z n0 R K Q h sf k j pc ls (.int x :: st) := by
  subst hp
  exact Go.of H (fun p e below T t m c hA hx hby hr => XS.istore hA hx rfl (hb hby d) rfl hl hr) r
theorem Go.istoreN {i : Fin 4} {x : Int32} (H : Ok Z K own bytes maxL ret nm) (d : decode bytes pc = .ok (.istore_n i, 1)) (hp : pc + 1 = pc') (hl : storeLocals ls i.val (.int x) = some ls') (r : Go l Z n0 R K Q h sf k j pc' ls' st) : Go l Z n0 R K Q h sf k j pc ls (.int x :: st) := by
  subst hp
  exact Go.of H (fun p e below T t m c hA hx hby hr => XS.istoreN hA hx rfl (hb hby d) rfl hl hr) r
theorem Go.lstore {i : Nat} {x : Int64} (H : Ok Z K own bytes maxL ret nm) (d : decode bytes pc = .ok (.lstore i, 2)) (hp : pc + 2 = pc') (hl : storeLocals ls i (.long x) = some ls') (r : Go l Z n0 R K Q h sf k j pc' ls' st) : Go l Z n0 R K Q h sf k j pc ls (.long x :: st) := by
  subst hp
  exact Go.of H (fun p e below T t m c hA hx hby hr => XS.lstore hA hx rfl (hb hby d) rfl hl hr) r
theorem Go.lstoreN {i : Fin 4} {x : Int64} (H : Ok Z K own bytes maxL ret nm) (d : decode bytes pc = .ok (.lstore_n i, 1)) (hp : pc + 1 = pc') (hl : storeLocals ls i.val (.long x) = some ls') (r : Go l Z n0 R K Q h sf k j pc' ls' st) : Go l Z n0 R K Q h sf k j pc ls (.long x :: st) := by
  subst hp
  exact Go.of H (fun p e below T t m c hA hx hby hr => XS.lstoreN hA hx rfl (hb hby d) rfl hl hr) r
theorem Go.astore {i : Nat} {x : Value} (H : Ok Z K own bytes maxL ret nm) (d : decode bytes pc = .ok (.astore i, 2)) (hp : pc + 2 = pc') (hv : x.isRef = true) (hl : storeLocals ls i x = some ls') (r : Go l Z n0 R K Q h sf k j pc' ls' st) : Go l Z n0 R K Q h sf k j pc ls (x :: st) := by
  subst hp
  exact Go.of H (fun p e below T t m c hA hx hby hr => XS.astore hA hx rfl (hb hby d) rfl hv hl hr) r
theorem Go.astoreN {i : Fin 4} {x : Value} (H : Ok Z K own bytes maxL ret nm) (d : decode bytes pc = .ok (.astore_n i, 1)) (hp : pc + 1 = pc') (hv : x.isRef = true) (hl : storeLocals ls i.val x = some ls') (r : Go l Z n0 R K Q h sf k j pc' ls' st) : Go l Z n0 R K Q h sf k j pc ls (x :: st) := by
  subst hp
  exact Go.of H (fun p e below T t m c hA hx hby hr => XS.astoreN hA hx rfl (hb hby d) rfl hv hl hr) r
theorem Go.iconst {i : Int} (v : Int32) (H : Ok Z K own bytes maxL ret nm) (d : decode bytes pc = .ok (.iconst i, 1)) (hp : pc + 1 = pc') (hv : Int32.ofInt i = v) (r : Go l Z n0 R K Q h sf k j pc' ls (.int v :: st)) : Go l Z n0 R K Q h sf k j pc ls st := by
  subst hp
  exact Go.of H (fun p e below T t m c hA hx hby hr => XS.iconst hA hx rfl (hb hby d) (hv ▸ hr)) r
theorem Go.bipush {i : Int} (v : Int32) (H : Ok Z K own bytes maxL ret nm) (d : decode bytes pc = .ok (.bipush i, 2)) (hp : pc + 2 = pc') (hv : (Int8.ofInt i).toInt32 = v) (r : Go l Z n0 R K Q h sf k j pc' ls (.int v :: st)) : Go l Z n0 R K Q h sf k j pc ls st := by
  subst hp
  exact Go.of H (fun p e below T t m c hA hx hby hr => XS.bipush hA hx rfl (hb hby d) (hv ▸ hr)) r
theorem Go.sipush {i : Int} (v : Int32) (H : Ok Z K own bytes maxL ret nm) (d : decode bytes pc = .ok (.sipush i, 3)) (hp : pc + 3 = pc') (hv : (Int16.ofInt i).toInt32 = v) (r : Go l Z n0 R K Q h sf k j pc' ls (.int v :: st)) : Go l Z n0 R K Q h sf k j pc ls st := by
  subst hp
  exact Go.of H (fun p e below T t m c hA hx hby hr => XS.sipush hA hx rfl (hb hby d) (hv ▸ hr)) r
theorem Go.lconst {i : Fin 2} (v : Int64) (H : Ok Z K own bytes maxL ret nm) (d : decode bytes pc = .ok (.lconst i, 1)) (hp : pc + 1 = pc') (hv : Int64.ofNat i.val = v) (r : Go l Z n0 R K Q h sf k j pc' ls (.long v :: st)) : Go l Z n0 R K Q h sf k j pc ls st := by
  subst hp
  exact Go.of H (fun p e below T t m c hA hx hby hr => XS.lconst hA hx rfl (hb hby d) (hv ▸ hr)) r
theorem Go.aconstNull  (H : Ok Z K own bytes maxL ret nm) (d : decode bytes pc = .ok (.aconst_null, 1)) (hp : pc + 1 = pc')  (r : Go l Z n0 R K Q h sf k j pc' ls (.null :: st)) : Go l Z n0 R K Q h sf k j pc ls st := by
  subst hp
  exact Go.of H (fun p e below T t m c hA hx hby hr => XS.aconstNull hA hx rfl (hb hby d) hr) r
theorem Go.iadd {x y : Int32} (H : Ok Z K own bytes maxL ret nm) (d : decode bytes pc = .ok (.iadd, 1)) (hp : pc + 1 = pc')  (r : Go l Z n0 R K Q h sf k j pc' ls (.int (x + y) :: st)) : Go l Z n0 R K Q h sf k j pc ls (.int y :: .int x :: st) := by
  subst hp
  exact Go.of H (fun p e below T t m c hA hx hby hr => XS.iadd hA hx rfl (hb hby d) rfl hr) r
theorem Go.isub {x y : Int32} (H : Ok Z K own bytes maxL ret nm) (d : decode bytes pc = .ok (.isub, 1)) (hp : pc + 1 = pc')  (r : Go l Z n0 R K Q h sf k j pc' ls (.int (x - y) :: st)) : Go l Z n0 R K Q h sf k j pc ls (.int y :: .int x :: st) := by
  subst hp
  exact Go.of H (fun p e below T t m c hA hx hby hr => XS.isub hA hx rfl (hb hby d) rfl hr) r
theorem Go.imul {x y : Int32} (H : Ok Z K own bytes maxL ret nm) (d : decode bytes pc = .ok (.imul, 1)) (hp : pc + 1 = pc')  (r : Go l Z n0 R K Q h sf k j pc' ls (.int (x * y) :: st)) : Go l Z n0 R K Q h sf k j pc ls (.int y :: .int x :: st) := by
  subst hp
  exact Go.of H (fun p e below T t m c hA hx hby hr => XS.imul hA hx rfl (hb hby d) rfl hr) r
theorem Go.iand {x y : Int32} (H : Ok Z K own bytes maxL ret nm) (d : decode bytes pc = .ok (.iand, 1)) (hp : pc + 1 = pc')  (r : Go l Z n0 R K Q h sf k j pc' ls (.int (x &&& y) :: st)) : Go l Z n0 R K Q h sf k j pc ls (.int y :: .int x :: st) := by
  subst hp
  exact Go.of H (fun p e below T t m c hA hx hby hr => XS.iand hA hx rfl (hb hby d) rfl hr) r
theorem Go.ior {x y : Int32} (H : Ok Z K own bytes maxL ret nm) (d : decode bytes pc = .ok (.ior, 1)) (hp : pc + 1 = pc')  (r : Go l Z n0 R K Q h sf k j pc' ls (.int (x ||| y) :: st)) : Go l Z n0 R K Q h sf k j pc ls (.int y :: .int x :: st) := by
  subst hp
  exact Go.of H (fun p e below T t m c hA hx hby hr => XS.ior hA hx rfl (hb hby d) rfl hr) r
theorem Go.ixor {x y : Int32} (H : Ok Z K own bytes maxL ret nm) (d : decode bytes pc = .ok (.ixor, 1)) (hp : pc + 1 = pc')  (r : Go l Z n0 R K Q h sf k j pc' ls (.int (x ^^^ y) :: st)) : Go l Z n0 R K Q h sf k j pc ls (.int y :: .int x :: st) := by
  subst hp
  exact Go.of H (fun p e below T t m c hA hx hby hr => XS.ixor hA hx rfl (hb hby d) rfl hr) r
theorem Go.ladd {x y : Int64} (H : Ok Z K own bytes maxL ret nm) (d : decode bytes pc = .ok (.ladd, 1)) (hp : pc + 1 = pc')  (r : Go l Z n0 R K Q h sf k j pc' ls (.long (x + y) :: st)) : Go l Z n0 R K Q h sf k j pc ls (.long y :: .long x :: st) := by
  subst hp
  exact Go.of H (fun p e below T t m c hA hx hby hr => XS.ladd hA hx rfl (hb hby d) rfl hr) r
theorem Go.lsub {x y : Int64} (H : Ok Z K own bytes maxL ret nm) (d : decode bytes pc = .ok (.lsub, 1)) (hp : pc + 1 = pc')  (r : Go l Z n0 R K Q h sf k j pc' ls (.long (x - y) :: st)) : Go l Z n0 R K Q h sf k j pc ls (.long y :: .long x :: st) := by
  subst hp
  exact Go.of H (fun p e below T t m c hA hx hby hr => XS.lsub hA hx rfl (hb hby d) rfl hr) r
theorem Go.lmul {x y : Int64} (H : Ok Z K own bytes maxL ret nm) (d : decode bytes pc = .ok (.lmul, 1)) (hp : pc + 1 = pc')  (r : Go l Z n0 R K Q h sf k j pc' ls (.long (x * y) :: st)) : Go l Z n0 R K Q h sf k j pc ls (.long y :: .long x :: st) := by
  subst hp
  exact Go.of H (fun p e below T t m c hA hx hby hr => XS.lmul hA hx rfl (hb hby d) rfl hr) r
theorem Go.land {x y : Int64} (H : Ok Z K own bytes maxL ret nm) (d : decode bytes pc = .ok (.land, 1)) (hp : pc + 1 = pc')  (r : Go l Z n0 R K Q h sf k j pc' ls (.long (x &&& y) :: st)) : Go l Z n0 R K Q h sf k j pc ls (.long y :: .long x :: st) := by
  subst hp
  exact Go.of H (fun p e below T t m c hA hx hby hr => XS.land hA hx rfl (hb hby d) rfl hr) r
theorem Go.lor {x y : Int64} (H : Ok Z K own bytes maxL ret nm) (d : decode bytes pc = .ok (.lor, 1)) (hp : pc + 1 = pc')  (r : Go l Z n0 R K Q h sf k j pc' ls (.long (x ||| y) :: st)) : Go l Z n0 R K Q h sf k j pc ls (.long y :: .long x :: st) := by
  subst hp
  exact Go.of H (fun p e below T t m c hA hx hby hr => XS.lor hA hx rfl (hb hby d) rfl hr) r
theorem Go.lxor {x y : Int64} (H : Ok Z K own bytes maxL ret nm) (d : decode bytes pc = .ok (.lxor, 1)) (hp : pc + 1 = pc')  (r : Go l Z n0 R K Q h sf k j pc' ls (.long (x ^^^ y) :: st)) : Go l Z n0 R K Q h sf k j pc ls (.long y :: .long x :: st) := by
  subst hp
  exact Go.of H (fun p e below T t m c hA hx hby hr => XS.lxor hA hx rfl (hb hby d) rfl hr) r
theorem Go.ishl {x y : Int32} (H : Ok Z K own bytes maxL ret nm) (d : decode bytes pc = .ok (.ishl, 1)) (hp : pc + 1 = pc')  (r : Go l Z n0 R K Q h sf k j pc' ls (.int (x <<< (y &&& 31)) :: st)) : Go l Z n0 R K Q h sf k j pc ls (.int y :: .int x :: st) := by
  subst hp
  exact Go.of H (fun p e below T t m c hA hx hby hr => XS.ishl hA hx rfl (hb hby d) rfl hr) r
theorem Go.ishr {x y : Int32} (H : Ok Z K own bytes maxL ret nm) (d : decode bytes pc = .ok (.ishr, 1)) (hp : pc + 1 = pc')  (r : Go l Z n0 R K Q h sf k j pc' ls (.int (x >>> (y &&& 31)) :: st)) : Go l Z n0 R K Q h sf k j pc ls (.int y :: .int x :: st) := by
  subst hp
  exact Go.of H (fun p e below T t m c hA hx hby hr => XS.ishr hA hx rfl (hb hby d) rfl hr) r
theorem Go.iushr {x y : Int32} (H : Ok Z K own bytes maxL ret nm) (d : decode bytes pc = .ok (.iushr, 1)) (hp : pc + 1 = pc')  (r : Go l Z n0 R K Q h sf k j pc' ls (.int ((x.toUInt32 >>> (y &&& 31).toUInt32).toInt32) :: st)) : Go l Z n0 R K Q h sf k j pc ls (.int y :: .int x :: st) := by
  subst hp
  exact Go.of H (fun p e below T t m c hA hx hby hr => XS.iushr hA hx rfl (hb hby d) rfl hr) r
theorem Go.lshl {x : Int64} {y : Int32} (H : Ok Z K own bytes maxL ret nm) (d : decode bytes pc = .ok (.lshl, 1)) (hp : pc + 1 = pc')  (r : Go l Z n0 R K Q h sf k j pc' ls (.long (x <<< (y &&& 0x3f).toInt64) :: st)) : Go l Z n0 R K Q h sf k j pc ls (.int y :: .long x :: st) := by
  subst hp
  exact Go.of H (fun p e below T t m c hA hx hby hr => XS.lshl hA hx rfl (hb hby d) rfl hr) r
theorem Go.lshr {x : Int64} {y : Int32} (H : Ok Z K own bytes maxL ret nm) (d : decode bytes pc = .ok (.lshr, 1)) (hp : pc + 1 = pc')  (r : Go l Z n0 R K Q h sf k j pc' ls (.long (x >>> (y &&& 0x3f).toInt64) :: st)) : Go l Z n0 R K Q h sf k j pc ls (.int y :: .long x :: st) := by
  subst hp
  exact Go.of H (fun p e below T t m c hA hx hby hr => XS.lshr hA hx rfl (hb hby d) rfl hr) r
theorem Go.lushr {x : Int64} {y : Int32} (H : Ok Z K own bytes maxL ret nm) (d : decode bytes pc = .ok (.lushr, 1)) (hp : pc + 1 = pc')  (r : Go l Z n0 R K Q h sf k j pc' ls (.long ((x.toUInt64 >>> (y &&& 0x3f).toInt64.toUInt64).toInt64) :: st)) : Go l Z n0 R K Q h sf k j pc ls (.int y :: .long x :: st) := by
  subst hp
  exact Go.of H (fun p e below T t m c hA hx hby hr => XS.lushr hA hx rfl (hb hby d) rfl hr) r
theorem Go.idiv {x y : Int32} (H : Ok Z K own bytes maxL ret nm) (d : decode bytes pc = .ok (.idiv, 1)) (hp : pc + 1 = pc') (hy : y ≠ 0) (r : Go l Z n0 R K Q h sf k j pc' ls (.int (x / y) :: st)) : Go l Z n0 R K Q h sf k j pc ls (.int y :: .int x :: st) := by
  subst hp
  exact Go.of H (fun p e below T t m c hA hx hby hr => XS.idiv hA hx rfl (hb hby d) rfl hy hr) r
theorem Go.irem {x y : Int32} (H : Ok Z K own bytes maxL ret nm) (d : decode bytes pc = .ok (.irem, 1)) (hp : pc + 1 = pc') (hy : y ≠ 0) (r : Go l Z n0 R K Q h sf k j pc' ls (.int (x % y) :: st)) : Go l Z n0 R K Q h sf k j pc ls (.int y :: .int x :: st) := by
  subst hp
  exact Go.of H (fun p e below T t m c hA hx hby hr => XS.irem hA hx rfl (hb hby d) rfl hy (by rw [irem_eq_mod x y]; exact hr)) r
theorem Go.ldiv {x y : Int64} (H : Ok Z K own bytes maxL ret nm) (d : decode bytes pc = .ok (.ldiv, 1)) (hp : pc + 1 = pc') (hy : y ≠ 0) (r : Go l Z n0 R K Q h sf k j pc' ls (.long (x / y) :: st)) : Go l Z n0 R K Q h sf k j pc ls (.long y :: .long x :: st) := by
  subst hp
  exact Go.of H (fun p e below T t m c hA hx hby hr => XS.ldiv hA hx rfl (hb hby d) rfl hy hr) r
theorem Go.lrem {x y : Int64} (H : Ok Z K own bytes maxL ret nm) (d : decode bytes pc = .ok (.lrem, 1)) (hp : pc + 1 = pc') (hy : y ≠ 0) (r : Go l Z n0 R K Q h sf k j pc' ls (.long (x % y) :: st)) : Go l Z n0 R K Q h sf k j pc ls (.long y :: .long x :: st) := by
  subst hp
  exact Go.of H (fun p e below T t m c hA hx hby hr => XS.lrem hA hx rfl (hb hby d) rfl hy (by rw [lrem_mod x y]; exact hr)) r
theorem Go.ineg {x : Int32} (H : Ok Z K own bytes maxL ret nm) (d : decode bytes pc = .ok (.ineg, 1)) (hp : pc + 1 = pc')  (r : Go l Z n0 R K Q h sf k j pc' ls (.int (-x) :: st)) : Go l Z n0 R K Q h sf k j pc ls (.int x :: st) := by
  subst hp
  exact Go.of H (fun p e below T t m c hA hx hby hr => XS.ineg hA hx rfl (hb hby d) rfl hr) r
theorem Go.lneg {x : Int64} (H : Ok Z K own bytes maxL ret nm) (d : decode bytes pc = .ok (.lneg, 1)) (hp : pc + 1 = pc')  (r : Go l Z n0 R K Q h sf k j pc' ls (.long (-x) :: st)) : Go l Z n0 R K Q h sf k j pc ls (.long x :: st) := by
  subst hp
  exact Go.of H (fun p e below T t m c hA hx hby hr => XS.lneg hA hx rfl (hb hby d) rfl hr) r
theorem Go.i2c {x : Int32} (H : Ok Z K own bytes maxL ret nm) (d : decode bytes pc = .ok (.i2c, 1)) (hp : pc + 1 = pc')  (r : Go l Z n0 R K Q h sf k j pc' ls (.int (nar .char x) :: st)) : Go l Z n0 R K Q h sf k j pc ls (.int x :: st) := by
  subst hp
  exact Go.of H (fun p e below T t m c hA hx hby hr => XS.i2c hA hx rfl (hb hby d) rfl hr) r
theorem Go.i2b {x : Int32} (H : Ok Z K own bytes maxL ret nm) (d : decode bytes pc = .ok (.i2b, 1)) (hp : pc + 1 = pc')  (r : Go l Z n0 R K Q h sf k j pc' ls (.int (nar .byte x) :: st)) : Go l Z n0 R K Q h sf k j pc ls (.int x :: st) := by
  subst hp
  exact Go.of H (fun p e below T t m c hA hx hby hr => XS.i2b hA hx rfl (hb hby d) rfl hr) r
theorem Go.i2s {x : Int32} (H : Ok Z K own bytes maxL ret nm) (d : decode bytes pc = .ok (.i2s, 1)) (hp : pc + 1 = pc')  (r : Go l Z n0 R K Q h sf k j pc' ls (.int (nar .short x) :: st)) : Go l Z n0 R K Q h sf k j pc ls (.int x :: st) := by
  subst hp
  exact Go.of H (fun p e below T t m c hA hx hby hr => XS.i2s hA hx rfl (hb hby d) rfl hr) r
theorem Go.i2l {x : Int32} (H : Ok Z K own bytes maxL ret nm) (d : decode bytes pc = .ok (.i2l, 1)) (hp : pc + 1 = pc')  (r : Go l Z n0 R K Q h sf k j pc' ls (.long x.toInt64 :: st)) : Go l Z n0 R K Q h sf k j pc ls (.int x :: st) := by
  subst hp
  exact Go.of H (fun p e below T t m c hA hx hby hr => XS.i2l hA hx rfl (hb hby d) rfl hr) r
theorem Go.l2i {x : Int64} (H : Ok Z K own bytes maxL ret nm) (d : decode bytes pc = .ok (.l2i, 1)) (hp : pc + 1 = pc')  (r : Go l Z n0 R K Q h sf k j pc' ls (.int x.toInt32 :: st)) : Go l Z n0 R K Q h sf k j pc ls (.long x :: st) := by
  subst hp
  exact Go.of H (fun p e below T t m c hA hx hby hr => XS.l2i hA hx rfl (hb hby d) rfl hr) r
theorem Go.lcmp {x y : Int64} (H : Ok Z K own bytes maxL ret nm) (d : decode bytes pc = .ok (.lcmp, 1)) (hp : pc + 1 = pc')  (r : Go l Z n0 R K Q h sf k j pc' ls (.int (lcmpW x y) :: st)) : Go l Z n0 R K Q h sf k j pc ls (.long y :: .long x :: st) := by
  subst hp
  exact Go.of H (fun p e below T t m c hA hx hby hr => XS.lcmp hA hx rfl (hb hby d) rfl hr) r
theorem Go.iinc {i : Nat} {cst : Int} {x : Int32} (v : Int32) (H : Ok Z K own bytes maxL ret nm) (d : decode bytes pc = .ok (.iinc i cst, 3)) (hp : pc + 3 = pc') (hl : ls[i]? = some (.val (.int x))) (hv : Int32.ofInt cst = v) (hl' : storeLocals ls i (.int (x + v)) = some ls') (r : Go l Z n0 R K Q h sf k j pc' ls' st) : Go l Z n0 R K Q h sf k j pc ls st := by
  subst hp
  exact Go.of H (fun p e below T t m c hA hx hby hr => XS.iinc hA hx rfl (hb hby d) hl (by rw [hv]; exact hl') hr) r
theorem Go.dup {x : Value} (H : Ok Z K own bytes maxL ret nm) (d : decode bytes pc = .ok (.dup, 1)) (hp : pc + 1 = pc') (hc : x.category = 1) (r : Go l Z n0 R K Q h sf k j pc' ls (x :: x :: st)) : Go l Z n0 R K Q h sf k j pc ls (x :: st) := by
  subst hp
  exact Go.of H (fun p e below T t m c hA hx hby hr => XS.dup hA hx rfl (hb hby d) rfl hc hr) r
theorem Go.pop {x : Value} (H : Ok Z K own bytes maxL ret nm) (d : decode bytes pc = .ok (.pop, 1)) (hp : pc + 1 = pc') (hc : x.category = 1) (r : Go l Z n0 R K Q h sf k j pc' ls st) : Go l Z n0 R K Q h sf k j pc ls (x :: st) := by
  subst hp
  exact Go.of H (fun p e below T t m c hA hx hby hr => XS.pop hA hx rfl (hb hby d) rfl hc hr) r
theorem Go.dupX1 {x y : Value} (H : Ok Z K own bytes maxL ret nm) (d : decode bytes pc = .ok (.dup_x1, 1)) (hp : pc + 1 = pc') (hc : x.category = 1) (hc' : y.category = 1) (r : Go l Z n0 R K Q h sf k j pc' ls (x :: y :: x :: st)) : Go l Z n0 R K Q h sf k j pc ls (x :: y :: st) := by
  subst hp
  exact Go.of H (fun p e below T t m c hA hx hby hr => XT.dupX1 hA hx rfl (hb hby d) rfl hc hc' hr) r
theorem Go.dup2 {x y : Value} (H : Ok Z K own bytes maxL ret nm) (d : decode bytes pc = .ok (.dup2, 1)) (hp : pc + 1 = pc') (hc : x.category = 1) (hc' : y.category = 1) (r : Go l Z n0 R K Q h sf k j pc' ls (x :: y :: x :: y :: st)) : Go l Z n0 R K Q h sf k j pc ls (x :: y :: st) := by
  subst hp
  exact Go.of H (fun p e below T t m c hA hx hby hr => XT.dup2 hA hx rfl (hb hby d) rfl hc hc' hr) r
theorem Go.goto {o : Int} (H : Ok Z K own bytes maxL ret nm) (d : decode bytes pc = .ok (.goto o, 3)) (ho : 0 ≤ (pc : Int) + o) (hp : ((pc : Int) + o).toNat = pc') (r : Go l Z n0 R K Q h sf k j pc' ls st) : Go l Z n0 R K Q h sf k j pc ls st := Go.of H (fun p e below T t m c hA hx hby hr => XS.goto hA hx rfl (pc0 := pc) (pc' := pc') rfl (hb hby d) ho hp hr) r
theorem Go.icmpY {cd : ClassFile.Cond} {x y : Int32} {o : Int} (H : Ok Z K own bytes maxL ret nm) (d : decode bytes pc = .ok (.if_icmp cd o, 3)) (hc : if_icmp.holds cd x y = true) (ho : 0 ≤ (pc : Int) + o) (hp : ((pc : Int) + o).toNat = pc') (r : Go l Z n0 R K Q h sf k j pc' ls st) : Go l Z n0 R K Q h sf k j pc ls (.int y :: .int x :: st) := Go.of H (fun p e below T t m c hA hx hby hr => XS.icmpYes hA hx rfl (pc0 := pc) (pc' := pc') rfl (hb hby d) rfl hc ho hp hr) r
theorem Go.icmpN {cd : ClassFile.Cond} {x y : Int32} {o : Int} (H : Ok Z K own bytes maxL ret nm) (d : decode bytes pc = .ok (.if_icmp cd o, 3)) (hc : if_icmp.holds cd x y = false) (hp : pc + 3 = pc') (r : Go l Z n0 R K Q h sf k j pc' ls st) : Go l Z n0 R K Q h sf k j pc ls (.int y :: .int x :: st) := by
  subst hp
  exact Go.of H (fun p e below T t m c hA hx hby hr => XS.icmpNo hA hx rfl (hb hby d) rfl hc hr) r
theorem Go.ifY {cd : ClassFile.Cond} {x : Int32} {o : Int} (H : Ok Z K own bytes maxL ret nm) (d : decode bytes pc = .ok (.ifCond cd o, 3)) (hc : if_icmp.holds cd x 0 = true) (ho : 0 ≤ (pc : Int) + o) (hp : ((pc : Int) + o).toNat = pc') (r : Go l Z n0 R K Q h sf k j pc' ls st) : Go l Z n0 R K Q h sf k j pc ls (.int x :: st) := Go.of H (fun p e below T t m c hA hx hby hr => XS.ifYes hA hx rfl (pc0 := pc) (pc' := pc') rfl (hb hby d) rfl ((if0 _ _).trans hc) ho hp hr) r
theorem Go.ifN {cd : ClassFile.Cond} {x : Int32} {o : Int} (H : Ok Z K own bytes maxL ret nm) (d : decode bytes pc = .ok (.ifCond cd o, 3)) (hc : if_icmp.holds cd x 0 = false) (hp : pc + 3 = pc') (r : Go l Z n0 R K Q h sf k j pc' ls st) : Go l Z n0 R K Q h sf k j pc ls (.int x :: st) := by
  subst hp
  exact Go.of H (fun p e below T t m c hA hx hby hr => XS.ifNo hA hx rfl (hb hby d) rfl ((if0 _ _).trans hc) hr) r
theorem Go.ifnullY {o : Int} (H : Ok Z K own bytes maxL ret nm) (d : decode bytes pc = .ok (.ifnull o, 3)) (ho : 0 ≤ (pc : Int) + o) (hp : ((pc : Int) + o).toNat = pc') (r : Go l Z n0 R K Q h sf k j pc' ls st) : Go l Z n0 R K Q h sf k j pc ls (.null :: st) := Go.of H (fun p e below T t m c hA hx hby hr => XS.ifnullYes hA hx rfl (pc0 := pc) (pc' := pc') rfl (hb hby d) rfl ho hp hr) r
theorem Go.ifnullN {b : Addr} {o : Int} (H : Ok Z K own bytes maxL ret nm) (d : decode bytes pc = .ok (.ifnull o, 3)) (hp : pc + 3 = pc') (r : Go l Z n0 R K Q h sf k j pc' ls st) : Go l Z n0 R K Q h sf k j pc ls (.ref b :: st) := by
  subst hp
  exact Go.of H (fun p e below T t m c hA hx hby hr => XS.ifnullNo hA hx rfl (hb hby d) rfl hr) r
theorem Go.ifnonnullY {b : Addr} {o : Int} (H : Ok Z K own bytes maxL ret nm) (d : decode bytes pc = .ok (.ifnonnull o, 3)) (ho : 0 ≤ (pc : Int) + o) (hp : ((pc : Int) + o).toNat = pc') (r : Go l Z n0 R K Q h sf k j pc' ls st) : Go l Z n0 R K Q h sf k j pc ls (.ref b :: st) := Go.of H (fun p e below T t m c hA hx hby hr => XS.ifnonnullYes hA hx rfl (pc0 := pc) (pc' := pc') rfl (hb hby d) rfl ho hp hr) r
theorem Go.ifnonnullN {o : Int} (H : Ok Z K own bytes maxL ret nm) (d : decode bytes pc = .ok (.ifnonnull o, 3)) (hp : pc + 3 = pc') (r : Go l Z n0 R K Q h sf k j pc' ls st) : Go l Z n0 R K Q h sf k j pc ls (.null :: st) := by
  subst hp
  exact Go.of H (fun p e below T t m c hA hx hby hr => XS.ifnonnullNo hA hx rfl (hb hby d) rfl hr) r
theorem Go.acmpY {cd : ClassFile.ACond} {x y : Value} {o : Int} (H : Ok Z K own bytes maxL ret nm) (d : decode bytes pc = .ok (.if_acmp cd o, 3)) (h1 : x.isRef = true) (h2 : y.isRef = true) (hc : XT.acmp cd x y = true) (ho : 0 ≤ (pc : Int) + o) (hp : ((pc : Int) + o).toNat = pc') (r : Go l Z n0 R K Q h sf k j pc' ls st) : Go l Z n0 R K Q h sf k j pc ls (y :: x :: st) := Go.of H (fun p e below T t m c hA hx hby hr => XT.acmpYes hA hx rfl (pc0 := pc) (pc' := pc') rfl (hb hby d) rfl h1 h2 hc ho hp hr) r
theorem Go.acmpN {cd : ClassFile.ACond} {x y : Value} {o : Int} (H : Ok Z K own bytes maxL ret nm) (d : decode bytes pc = .ok (.if_acmp cd o, 3)) (h1 : x.isRef = true) (h2 : y.isRef = true) (hc : XT.acmp cd x y = false) (hp : pc + 3 = pc') (r : Go l Z n0 R K Q h sf k j pc' ls st) : Go l Z n0 R K Q h sf k j pc ls (y :: x :: st) := by
  subst hp
  exact Go.of H (fun p e below T t m c hA hx hby hr => XT.acmpNo hA hx rfl (hb hby d) rfl h1 h2 hc hr) r
theorem Go.ldcInt {idx : Nat} {v : Int32} (H : Ok Z K own bytes maxL ret nm) (d : decode bytes pc = .ok (.ldc idx, 2)) (hp : pc + 2 = pc') (w : Jvm.Cond.constant own idx v ∈ tables_1) (r : Go l Z n0 R K Q h sf k j pc' ls (.int v :: st)) : Go l Z n0 R K Q h sf k j pc ls st := by
  subst hp
  refine Go.of2 H ?_ r
  intro p e s m args below meth c T locs a0 hw X hx hby hml hZ hown eT hO
  exact ⟨T, X, eT, fun t hr => X.ldcInt hx hown (mvT hZ (hw _ w)) (g := mkF m pc ls st) rfl (hb hby d) t hr⟩
theorem Go.ldcWInt {idx : Nat} {v : Int32} (H : Ok Z K own bytes maxL ret nm) (d : decode bytes pc = .ok (.ldc_w idx, 3)) (hp : pc + 3 = pc') (w : Jvm.Cond.constant own idx v ∈ tables_1) (r : Go l Z n0 R K Q h sf k j pc' ls (.int v :: st)) : Go l Z n0 R K Q h sf k j pc ls st := by
  subst hp
  refine Go.of2 H ?_ r
  intro p e s m args below meth c T locs a0 hw X hx hby hml hZ hown eT hO
  exact ⟨T, X, eT, fun t hr => X.ldcwInt hx hown (mvT hZ (hw _ w)) (g := mkF m pc ls st) rfl (hb hby d) t hr⟩
theorem Go.ldc2 {idx : Nat} {v : Int64} (H : Ok Z K own bytes maxL ret nm) (d : decode bytes pc = .ok (.ldc2_w idx, 3)) (hp : pc + 3 = pc') (w : Jvm.Cond.constantLong own idx v ∈ tables_1) (r : Go l Z n0 R K Q h sf k j pc' ls (.long v :: st)) : Go l Z n0 R K Q h sf k j pc ls st := by
  subst hp
  refine Go.of2 H ?_ r
  intro p e s m args below meth c T locs a0 hw X hx hby hml hZ hown eT hO
  exact ⟨T, X, eT, fun t hr => X.ldc2Long hx hown (mvT hZ (hw _ w)) (g := mkF m pc ls st) rfl (hb hby d) t hr⟩
theorem Go.getfield {idx : Nat} {O n d' : String} {a : Addr} {v : Value} (H : Ok Z K own bytes maxL ret nm) (d : decode bytes pc = .ok (.getfield idx, 3)) (hp : pc + 3 = pc') (w : Jvm.Cond.fieldLink own idx O n d' ∈ tables_1) (F : Fld Z h a O n d' v) (r : Go l Z n0 R K Q h sf k j pc' ls (v :: st)) : Go l Z n0 R K Q h sf k j pc ls (.ref a :: st) := by
  subst hp
  refine Go.of2 H ?_ r
  intro p e s m args below meth c T locs a0 hw X hx hby hml hZ hown eT hO
  exact getF X hx hZ hown (host := "") (Or.inl (hw _ w)) Via.refl eT F (g := mkF m pc ls (.ref a :: st)) rfl rfl (hb hby d)
theorem Go.getstatic {idx : Nat} {O n d' : String} {v : Value} (H : Ok Z K own bytes maxL ret nm) (d : decode bytes pc = .ok (.getstatic idx, 3)) (hp : pc + 3 = pc') (w : Jvm.Cond.fieldLink own idx O n d' ∈ tables_1) (F : Sta Z Z.heap O n d' v) (r : Go l Z n0 R K Q h sf k j pc' ls (v :: st)) : Go l Z n0 R K Q h sf k j pc ls st := by
  subst hp
  refine Go.of2 H ?_ r
  intro p e s m args below meth c T locs a0 hw X hx hby hml hZ hown eT hO
  exact getS (host := "") X hx hZ hown (hw _ w) Via.refl eT (F.ext hO.2) (g := mkF m pc ls st) rfl (hb hby d)
theorem Go.checkcast {idx : Nat} {C : String} {a : Addr} (H : Ok Z K own bytes maxL ret nm) (d : decode bytes pc = .ok (.checkcast idx, 3)) (hp : pc + 3 = pc') (w : Jvm.Cond.classLink own idx C ∈ tables_1) (F : Ins Z h a C true) (r : Go l Z n0 R K Q h sf k j pc' ls (.ref a :: st)) : Go l Z n0 R K Q h sf k j pc ls (.ref a :: st) := by
  subst hp
  refine Go.of2 H ?_ r
  intro p e s m args below meth c T locs a0 hw X hx hby hml hZ hown eT hO
  exact castY X hx hZ hown (hw _ w) eT F (g := mkF m pc ls (.ref a :: st)) rfl rfl (hb hby d)
theorem Go.instanceofY {idx : Nat} {C : String} {a : Addr} (H : Ok Z K own bytes maxL ret nm) (d : decode bytes pc = .ok (.instanceof idx, 3)) (hp : pc + 3 = pc') (w : Jvm.Cond.classLink own idx C ∈ tables_1) (F : Ins Z h a C true) (r : Go l Z n0 R K Q h sf k j pc' ls (.int 1 :: st)) : Go l Z n0 R K Q h sf k j pc ls (.ref a :: st) := by
  subst hp
  refine Go.of2 H ?_ r
  intro p e s m args below meth c T locs a0 hw X hx hby hml hZ hown eT hO
  exact instY X hx hZ hown (hw _ w) eT F (g := mkF m pc ls (.ref a :: st)) rfl rfl (hb hby d)
theorem Go.initObj {idx : Nat} {a : Addr} (H : Ok Z K own bytes maxL ret nm) (d : decode bytes pc = .ok (.invokespecial idx, 3)) (hp : pc + 3 = pc') (w1 : Jvm.Cond.methodLink own idx Lib.objectInit ∈ tables_1) (w2 : Jvm.Cond.instanceMethod Lib.objectInit ∈ tables_1) (w3 : Jvm.Cond.code Lib.objectInit ⟨#[0xb1]⟩ 1 none ∈ tables_1) (W : Nat) (hsz : ls.size = maxL) (hW : (st.map fun v => v.category).sum ≤ W) (hf : 1 ≤ R.frames) (hlo : W + 12 ≤ R.locals) (r : Go l Z n0 R K Q h sf k j pc' ls st) : Go l Z n0 R K Q h sf k j pc ls (.ref a :: st) := by
  subst hp
  refine Go.of2 H ?_ r
  intro p e s m args below meth c T locs a0 hw X hx hby hml hZ hown eT hO
  exact initO X hx hZ hown (hw _ w1) (hw _ w2) (hw _ w3) eT (g := mkF m pc ls (.ref a :: st)) rfl (by rw [hml]; exact hsz) rfl (hb hby d) hf (W := W) (by show 2 * 0 + _ ≤ _; simpa using hW) hlo
end Steps1
/-- an array whose components are just these ints -/
def Vec (Z : State) (h : Heap) (a : Addr) (ty : FieldType) (vs : List Int32) : Prop := ∃ c : Cell, Arr Z h a c ty ∧ c.slots.toList = vs.map Value.int ∧ ∀ v ∈ vs, fits ty (.int v) = true
section Vecs
variable {Z : State} {h h' : Heap} {a b : Addr} {ty : FieldType} {vs : List Int32} {ws : List Addr}
theorem Vec.lt (F : Vec Z h a ty vs) : a < h.size := by obtain ⟨c, A, -⟩ := F; exact A.lt
theorem Vec.ext (F : Vec Z h a ty vs) (E : Ext h h') : Vec Z h' a ty vs := by obtain ⟨c, A, q⟩ := F; exact ⟨c, A.ext E, q⟩
theorem Vec.keep (F : Vec Z h a ty vs) (K : Keep h h' ws) (q : a ∉ ws) : Vec Z h' a ty vs := by obtain ⟨c, A, r⟩ := F; exact ⟨c, ⟨K.2.1 a c A.1 q, A.2⟩, r⟩
theorem Vec.size {c : Cell} (q : c.slots.toList = vs.map Value.int) : c.slots.size = vs.length := by rw [← Array.length_toList, q, List.length_map]
theorem Vec.get {c : Cell} (q : c.slots.toList = vs.map Value.int) {i : Nat} {v : Int32} (hv : vs[i]? = some v) : c.slots[i]? = some (.int v) := by
  rw [← Array.getElem?_toList, q, List.getElem?_map, hv]; rfl
theorem Vec.set {i : Nat} {v : Int32} (F : Vec Z h a ty vs) (W : Wr h h' a i (.int v)) (hv : fits ty (.int v) = true) : Vec Z h' a ty (vs.set i v) := by
  obtain ⟨c, A, q, hf⟩ := F
  refine ⟨_, A.same W, ?_, fun u hu => (List.mem_or_eq_of_mem_set hu).elim (hf u) (fun e => e ▸ hv)⟩
  rw [List.map_set, ← q]
  show (c.slots.setIfInBounds i _).toList = _
  rw [Array.toList_setIfInBounds]
theorem Vec.ne {ty' : FieldType} {vs' : List Int32} (F : Vec Z h a ty vs) (G : Vec Z h b ty' vs') (hn : ty ≠ ty') : a ≠ b := fun e => by
  subst e
  obtain ⟨c, ⟨h1, ⟨-, k, g1, comp, g2⟩, -⟩, -, -⟩ := F
  obtain ⟨c', ⟨h1', ⟨-, k', g1', comp', g2'⟩, -⟩, -, -⟩ := G
  cases h1.symm.trans h1'
  cases g1.symm.trans g1'
  rw [g2] at g2'
  cases g2'
  exact hn rfl
theorem Vec.neExa {C : String} {x : Addr} {n : Nat} (F : Vec Z h a ty vs) (G : Exa Z h x C) (w : Wds Z) (hi : Jvm.Cond.instantiable C n ∈ tables_1) : a ≠ x := by
  obtain ⟨c, A, -⟩ := F
  obtain ⟨a0, hw⟩ := w.w
  exact (ne_arr G (hw _ hi) A).symm
end Vecs
section Steps2
variable {l : Launch} {Z : State} {n0 : Nat} {R : Room} {K : Cx} {Q : Option Value → Heap → List Addr → Prop} {h : Heap} {sf : List Addr} {k j pc pc' : Nat} {ls ls' : Array Slot} {st : List Value} {own : String} {bytes : ByteArray} {maxL : Nat} {ret : Option FieldType} {nm : String}
theorem Go.caload {a : Addr} {i : Int32} {v : Int32} {vs : List Int32} (H : Ok Z K own bytes maxL ret nm) (d : decode bytes pc = .ok (.caload, 1)) (hp : pc + 1 = pc') (F : Vec Z h a .char vs) (n : Nat) (hi : i.toNatClampNeg = n) (h0 : ¬ i < 0) (hv : vs[n]? = some v) (r : Go l Z n0 R K Q h sf k j pc' ls (.int v :: st)) : Go l Z n0 R K Q h sf k j pc ls (.int i :: .ref a :: st) := by
  subst hp
  refine Go.of2 H ?_ r
  intro p e s m args below meth c T locs a0 hw X hx hby hml hZ hown eT hO
  obtain ⟨c', A, q, -⟩ := F
  refine ⟨T, X, eT, fun t hr => X.caload hx (j := i) (v := .int v) (by rw [eT]; exact A.1) (State.isArrayOf_alike hZ.alike A.2.1) A.2.2 ?_ (by rw [hi]; exact Vec.get q hv) (g := mkF m pc ls (.int i :: .ref a :: st)) rfl rfl (hb hby d) t hr⟩
  rw [Vec.size q, hi]
  have := (List.getElem?_eq_some_iff.mp hv).1
  rintro (q | q)
  · exact h0 q
  · omega
theorem Go.baload {a : Addr} {i : Int32} {v : Int32} {vs : List Int32} (H : Ok Z K own bytes maxL ret nm) (d : decode bytes pc = .ok (.baload, 1)) (hp : pc + 1 = pc') (F : Vec Z h a .byte vs) (n : Nat) (hi : i.toNatClampNeg = n) (h0 : ¬ i < 0) (hv : vs[n]? = some v) (r : Go l Z n0 R K Q h sf k j pc' ls (.int v :: st)) : Go l Z n0 R K Q h sf k j pc ls (.int i :: .ref a :: st) := by
  subst hp
  refine Go.of2 H ?_ r
  intro p e s m args below meth c T locs a0 hw X hx hby hml hZ hown eT hO
  obtain ⟨c', A, q, -⟩ := F
  refine ⟨T, X, eT, fun t hr => X.baloadBytes hx (j := i) (v := .int v) (by rw [eT]; exact A.1) (State.isArrayOf_alike hZ.alike A.2.1) A.2.2 ?_ (by rw [hi]; exact Vec.get q hv) (g := mkF m pc ls (.int i :: .ref a :: st)) rfl rfl (hb hby d) t hr⟩
  rw [Vec.size q, hi]
  have := (List.getElem?_eq_some_iff.mp hv).1
  rintro (q | q)
  · exact h0 q
  · omega
theorem Go.iaload {a : Addr} {i : Int32} {v : Int32} {vs : List Int32} (H : Ok Z K own bytes maxL ret nm) (d : decode bytes pc = .ok (.iaload, 1)) (hp : pc + 1 = pc') (F : Vec Z h a .int vs) (n : Nat) (hi : i.toNatClampNeg = n) (h0 : ¬ i < 0) (hv : vs[n]? = some v) (r : Go l Z n0 R K Q h sf k j pc' ls (.int v :: st)) : Go l Z n0 R K Q h sf k j pc ls (.int i :: .ref a :: st) := by
  subst hp
  refine Go.of2 H ?_ r
  intro p e s m args below meth c T locs a0 hw X hx hby hml hZ hown eT hO
  obtain ⟨c', A, q, -⟩ := F
  refine ⟨T, X, eT, fun t hr => X.iaload hx (j := i) (v := .int v) (by rw [eT]; exact A.1) (State.isArrayOf_alike hZ.alike A.2.1) A.2.2 ?_ (by rw [hi]; exact Vec.get q hv) (g := mkF m pc ls (.int i :: .ref a :: st)) rfl rfl (hb hby d) t hr⟩
  rw [Vec.size q, hi]
  have := (List.getElem?_eq_some_iff.mp hv).1
  rintro (q | q)
  · exact h0 q
  · omega
theorem Go.arraylength {a : Addr} {ty : FieldType} {vs : List Int32} (v : Int32) (H : Ok Z K own bytes maxL ret nm) (d : decode bytes pc = .ok (.arraylength, 1)) (hp : pc + 1 = pc') (F : Vec Z h a ty vs) (hv : vs.length.toInt32 = v) (r : Go l Z n0 R K Q h sf k j pc' ls (.int v :: st)) : Go l Z n0 R K Q h sf k j pc ls (.ref a :: st) := by
  subst hp
  refine Go.of2 H ?_ r
  intro p e s m args below meth c T locs a0 hw X hx hby hml hZ hown eT hO
  obtain ⟨c', A, q, -⟩ := F
  refine ⟨T, X, eT, fun t hr => X.arraylength hx (by rw [eT]; exact A.1) (State.isArrayOf_alike hZ.alike A.2.1) (g := mkF m pc ls (.ref a :: st)) rfl rfl (hb hby d) t ?_⟩
  rw [Vec.size q, hv]; exact hr
theorem Go.castore {a : Addr} {i x : Int32} {vs : List Int32} (v : Int32) (H : Ok Z K own bytes maxL ret nm) (d : decode bytes pc = .ok (.castore, 1)) (hp : pc + 1 = pc') (F : Vec Z h a .char vs) (n : Nat) (hi : i.toNatClampNeg = n) (h0 : ¬ i < 0) (hn : n < vs.length) (hx : nar .char x = v) (ha : n0 ≤ a) (hs : a ∈ sf) (r : ∀ h', Keep h h' [a] → Vec Z h' a .char (vs.set n v) → Go l Z n0 R K Q h' sf k j pc' ls st) : Go l Z n0 R K Q h sf k j pc ls (.int x :: .int i :: .ref a :: st) := by
  subst hp hx
  refine Go.ofWr (a := a) (sl := i.toNatClampNeg) (v := .int (nar .char x)) H ha hs ?_ (fun h' W => r h' (Keep.of_wr W) (by rw [← hi]; exact F.set W (fits_nar_char _)))
  intro p e s m args below meth c T locs a0 hw X hx hby hZ hown hnm eT
  obtain ⟨c', A, q, -⟩ := F
  refine stC X hx hZ eT A (j := i) ?_ (g := mkF m pc ls (.int x :: .int i :: .ref a :: st)) rfl rfl (hb hby d)
  rw [Vec.size q, hi]
  rintro (q | q)
  · exact h0 q
  · omega
theorem Go.bastore {a : Addr} {i x : Int32} {vs : List Int32} (v : Int32) (H : Ok Z K own bytes maxL ret nm) (d : decode bytes pc = .ok (.bastore, 1)) (hp : pc + 1 = pc') (F : Vec Z h a .byte vs) (n : Nat) (hi : i.toNatClampNeg = n) (h0 : ¬ i < 0) (hn : n < vs.length) (hx : nar .byte x = v) (ha : n0 ≤ a) (hs : a ∈ sf) (r : ∀ h', Keep h h' [a] → Vec Z h' a .byte (vs.set n v) → Go l Z n0 R K Q h' sf k j pc' ls st) : Go l Z n0 R K Q h sf k j pc ls (.int x :: .int i :: .ref a :: st) := by
  subst hp hx
  refine Go.ofWr (a := a) (sl := i.toNatClampNeg) (v := .int (nar .byte x)) H ha hs ?_ (fun h' W => r h' (Keep.of_wr W) (by rw [← hi]; exact F.set W (fits_nar_byte _)))
  intro p e s m args below meth c T locs a0 hw X hx hby hZ hown hnm eT
  obtain ⟨c', A, q, -⟩ := F
  refine stB X hx hZ eT A (j := i) ?_ (g := mkF m pc ls (.int x :: .int i :: .ref a :: st)) rfl rfl (hb hby d)
  rw [Vec.size q, hi]
  rintro (q | q)
  · exact h0 q
  · omega
theorem Go.newarray {aty : ArrayType} {n : Int32} (N : Nat) (cap : Nat) (H : Ok Z K own bytes maxL ret nm) (d : decode bytes pc = .ok (.newarray aty, 2)) (hp : pc + 2 = pc') (w : Jvm.Cond.arrayClass (newarray.typeOf aty) ∈ tables_1) (hd : defaultValue (newarray.typeOf aty) = .int 0) (hft : fits (newarray.typeOf aty) (.int 0) = true) (hn : ¬ n < 0) (hN : n.toNatClampNeg = N) (hcap : N ≤ cap) (hb' : cap * 8 ≤ 536870912) (hce : k + 1 ≤ R.cells) (hsl : j + cap ≤ R.slots)
    (r : ∀ a h', a = h.size → n0 ≤ a → Ext h h' → Vec Z h' a (newarray.typeOf aty) (List.replicate N 0) → Go l Z n0 R K Q h' (a :: sf) (k + 1) (j + cap) pc' ls (.ref a :: st)) : Go l Z n0 R K Q h sf k j pc ls (.int n :: st) := by
  subst hp hN
  refine Go.ofNew (P := fun a h' => Vec Z h' a (newarray.typeOf aty) (List.replicate n.toNatClampNeg 0)) H ?_ (fun a h' F => F.lt) r
  intro p e s m args below meth c T locs a0 hw X hx hby hZ hown eT
  obtain ⟨T', h', cA, X', eT', E, A, stp⟩ := newP X hx hZ (hw _ w) eT (g := mkF m pc ls (.int n :: st)) rfl (hb hby d) rfl hn (cap := cap) hcap hb' hce hsl
  refine ⟨T', h', X', eT', E, ⟨_, A, ?_, fun v hv => by rw [List.eq_of_mem_replicate hv]; exact hft⟩, stp⟩
  simp [newA, hd]
theorem Go.new {C : String} {idx n : Nat} (H : Ok Z K own bytes maxL ret nm) (d : decode bytes pc = .ok (.new idx, 3)) (hp : pc + 3 = pc') (w : Jvm.Cond.classLink own idx C ∈ tables_1) (wi : Jvm.Cond.instantiable C n ∈ tables_1) (wz : Jvm.Cond.initialized C ∈ tables_1) (hce : k + 1 ≤ R.cells) (hsl : j + n ≤ R.slots)
    (r : ∀ a h', a = h.size → n0 ≤ a → Ext h h' → Exa Z h' a C → (∀ {O nm d : String} {ty : FieldType}, (Jvm.Cond.lays C O nm d ∈ tables_1 ∨ Jvm.Cond.laysFinal C O nm d ∈ tables_1) → parseFieldDescriptor d = some ty → Fld Z h' a O nm d (defaultValue ty)) → Go l Z n0 R K Q h' (a :: sf) (k + 1) (j + n) pc' ls (.ref a :: st)) : Go l Z n0 R K Q h sf k j pc ls st := by
  subst hp
  refine Go.ofNew (P := fun a h' => Exa Z h' a C ∧ (∀ {O nm d : String} {ty : FieldType}, (Jvm.Cond.lays C O nm d ∈ tables_1 ∨ Jvm.Cond.laysFinal C O nm d ∈ tables_1) → parseFieldDescriptor d = some ty → Fld Z h' a O nm d (defaultValue ty))) H ?_ (fun a h' F => F.1.lt) (fun a h' e1 e2 E hP => r a h' e1 e2 E hP.1 hP.2)
  intro p e s m args below meth c T locs a0 hw X hx hby hZ hown eT
  obtain ⟨T', h', X', eT', E, A, D, -, stp⟩ := newO X hx hZ hown (hw _ w) (hw _ wi) (hw _ wz) eT (g := mkF m pc ls st) rfl (hb hby d) hce hsl
  exact ⟨T', h', X', eT', E, ⟨A, fun L ht => D (L.imp (hw _) (hw _)) ht⟩, stp⟩
theorem Go.putfield {idx kk : Nat} {C O n d' : String} {ty : FieldType} {a : Addr} {x v old : Value} (H : Ok Z K own bytes maxL ret nm) (d : decode bytes pc = .ok (.putfield idx, 3)) (hp : pc + 3 = pc') (w : Jvm.Cond.fieldLink own idx O n d' ∈ tables_1) (F : Fld Z h a O n d' old) (E : Exa Z h a C) (L : Jvm.Cond.lays C O n d' ∈ tables_1 ∨ (Jvm.Cond.laysFinal C O n d' ∈ tables_1 ∧ own = O ∧ nm = "<init>")) (wi : Jvm.Cond.instantiable C kk ∈ tables_1) (hty : parseFieldDescriptor d' = some ty) (hn : narrow ty x = v) (hf : fits ty v = true) (ha : n0 ≤ a) (hs : a ∈ sf)
    (r : ∀ h', Wr h h' a (Jvm.RoadKit.slotOf Z O n d') v → Go l Z n0 R K Q h' sf k j pc' ls st) : Go l Z n0 R K Q h sf k j pc ls (x :: .ref a :: st) := by
  subst hp
  refine Go.ofWr (a := a) (sl := Jvm.RoadKit.slotOf Z O n d') (v := v) H ha hs ?_ r
  intro p e s m args below meth c T locs a0 hw X hx hby hZ hown hnm eT
  exact putFN X hx hZ hown (hw _ w) Via.refl eT F E (L.imp (hw _) (fun q => ⟨hw _ q.1, q.2.1, hnm.trans q.2.2⟩)) (hw _ wi) hty hn hf (g := mkF m pc ls (x :: .ref a :: st)) rfl rfl (hb hby d)
theorem Go.ireturn {x : Int32} {t : FieldType} (v : Int32) (sn : List Addr) (H : Ok Z K own bytes maxL (some t) nm) (d : decode bytes pc = .ok (.ireturn, 1)) (ht : t = .boolean ∨ t = .byte ∨ t = .char ∨ t = .short) (hv : nar t x = v) (hq : Q (some (.int v)) h sn) (hs : ∀ y ∈ sn, y ∈ sf) (hk : k ≤ R.cells) (hj : j ≤ R.slots) : Go l Z n0 R K Q h sf k j pc ls (.int x :: st) := by
  subst hv
  exact Go.ret0 H (v := some (.int (nar t x))) (fun q => nomatch q) hq hs hk hj (fun p e s m args below meth c T locs fs X hx hby hret hl => retN X hx hret ht (hb hby d) hl)
theorem Go.ireturnI {x : Int32} (sn : List Addr) (H : Ok Z K own bytes maxL (some .int) nm) (d : decode bytes pc = .ok (.ireturn, 1)) (hq : Q (some (.int x)) h sn) (hs : ∀ y ∈ sn, y ∈ sf) (hk : k ≤ R.cells) (hj : j ≤ R.slots) : Go l Z n0 R K Q h sf k j pc ls (.int x :: st) := by
  exact Go.ret0 H (v := some (.int x)) (fun q => nomatch q) hq hs hk hj (fun p e s m args below meth c T locs fs X hx hby hret hl => retOut X hx hret rfl (Or.inl ⟨rfl, Or.inl rfl, _, rfl⟩) (hb hby d) hl)
theorem Go.lreturn {x : Int64} (sn : List Addr) (H : Ok Z K own bytes maxL (some .long) nm) (d : decode bytes pc = .ok (.lreturn, 1)) (hq : Q (some (.long x)) h sn) (hs : ∀ y ∈ sn, y ∈ sf) (hk : k ≤ R.cells) (hj : j ≤ R.slots) : Go l Z n0 R K Q h sf k j pc ls (.long x :: st) := by
  exact Go.ret0 H (v := some (.long x)) (fun q => nomatch q) hq hs hk hj (fun p e s m args below meth c T locs fs X hx hby hret hl => retOut X hx hret rfl (Or.inr (Or.inl ⟨rfl, rfl, _, rfl⟩)) (hb hby d) hl)
theorem Go.areturn {x : Value} {t : FieldType} (sn : List Addr) (H : Ok Z K own bytes maxL (some t) nm) (d : decode bytes pc = .ok (.areturn, 1)) (ht : t.isReference = true) (hx : x.isRef = true) (hn : narrow t x = x) (hq : Q (some x) h sn) (hs : ∀ y ∈ sn, y ∈ sf) (hk : k ≤ R.cells) (hj : j ≤ R.slots) : Go l Z n0 R K Q h sf k j pc ls (x :: st) := by
  exact Go.ret0 H (v := some x) (fun q => nomatch q) hq hs hk hj (fun p e s m args below meth c T locs fs X hx' hby hret hl => retOut X hx' hret hn (Or.inr (Or.inr (Or.inr (Or.inr ⟨rfl, ht, hx⟩)))) (hb hby d) hl)
theorem Go.return_ (sn : List Addr) (H : Ok Z K own bytes maxL none nm) (d : decode bytes pc = .ok (.return_, 1)) (hq : Q none h sn) (hs : ∀ y ∈ sn, y ∈ sf) (hk : k ≤ R.cells) (hj : j ≤ R.slots) : Go l Z n0 R K Q h sf k j pc ls [] := by
  exact Go.ret0 H (v := none) (fun _ => rfl) hq hs hk hj (fun p e s m args below meth c T locs fs X hx hby hret hl => X.returnOut hx hret (hb hby d) hl)
theorem own_toarv {Z : State} {h : Heap} {a : Addr} {ty : FieldType} {vs : List Int32} (F : Vec Z h a ty vs) (hn : vs.length < 2 ^ 31) : ∃ kc, Arv Z h a kc ty vs.length.toInt32 (vs.map Value.int) (.int 0) := by
  obtain ⟨c, A, q, hf⟩ := F
  have hs := Vec.size q
  have e : vs.length.toInt32.toNatClampNeg = vs.length := by rw [Int32.toNatClampNeg, len_toInt hn]; simp
  have hg : ∀ i, i < vs.length → (vs.map Value.int).getD i (.int 0) = .int (vs.getD i 0) := fun i hi => by simp [List.getD, hi]
  refine ⟨c.cls, c, A, rfl, by rw [hs, e], by rw [Int32.lt_iff_toInt_lt, len_toInt hn]; simp, fun i hi => ?_, fun i hi => ?_⟩
  · rw [hg i (by omega)]
    exact Vec.get q (by simp [List.getD, show i < vs.length by omega])
  · rw [hg i (by omega)]
    exact hf _ (by have : i < vs.length := by omega
                   simp [List.getD, this])
theorem own_ofarv {Z : State} {h : Heap} {b : Addr} {k : ClassId} {ty : FieldType} {z : Int32} {bs : List Int32} (F : Arv Z h b k ty z (bs.map Value.int) (.int 0)) (hz : z.toNatClampNeg = bs.length) : Vec Z h b ty bs := by
  obtain ⟨c, A, -, S, -, H, G⟩ := F
  refine ⟨c, A, ?_, fun v hv => ?_⟩
  · apply List.ext_getElem?
    intro i
    rw [Array.getElem?_toList]
    by_cases hi : i < c.slots.size
    · have hb : i < bs.length := by omega
      rw [H i hi]; simp [List.getD, hb]
    · rw [Array.getElem?_eq_none (by omega), List.getElem?_eq_none (by simp; omega)]
  · obtain ⟨i, hi, rfl⟩ := List.mem_iff_getElem.mp hv
    have := G i (by omega)
    simpa [List.getD, hi] using this
/-- System.arraycopy between two arrays of one primitive kind; sp, dp, nn: the two places and how many -/
theorem Go.arraycopy {idx : Nat} {a b : Addr} {ty : FieldType} {us vs : List Int32} {sp dp nn : Int32} (S D N : Nat) (H : Ok Z K own bytes maxL ret nm) (d : decode bytes pc = .ok (.invokestatic idx, 3)) (hp : pc + 3 = pc') (w1 : Jvm.Cond.methodLink own idx Jvm.Stand.acN ∈ tables_1) (w2 : Jvm.Cond.native Jvm.Stand.acN ∈ tables_1) (w3 : Jvm.Cond.static Jvm.Stand.acN ∈ tables_1) (w4 : Jvm.Cond.initialized "java/lang/System" ∈ tables_1)
    (A : Vec Z h a ty us) (B : Vec Z h b ty vs) (hu : us.length < 2 ^ 31) (hv : vs.length < 2 ^ 31) (hty : refKind ty = false) (hS : sp.toNatClampNeg = S) (hD : dp.toNatClampNeg = D) (hN : nn.toNatClampNeg = N) (h1 : ¬ sp < 0) (h2 : ¬ dp < 0) (h3 : ¬ nn < 0) (h4 : S + N ≤ us.length) (h5 : D + N ≤ vs.length) (ha : n0 ≤ b) (hs : b ∈ sf) (W : Nat) (hsz : ls.size = maxL) (hW : (st.map fun v => v.category).sum ≤ W) (hf : 1 ≤ R.frames) (hlo : W + (nativeFrameWords "java/lang/System" "arraycopy" 5 + 11) ≤ R.locals)
    (r : ∀ h', Keep h h' [b] → Vec Z h' b ty (vs.take D ++ (us.drop S).take N ++ vs.drop (D + N)) → Go l Z n0 R K Q h' sf k j pc' ls st) : Go l Z n0 R K Q h sf k j pc ls (.int nn :: .int dp :: .ref b :: .int sp :: .ref a :: st) := by
  subst hp hS hD hN
  refine Go.ofKeep (b := b) (P := fun h' => Vec Z h' b ty (vs.take dp.toNatClampNeg ++ (us.drop sp.toNatClampNeg).take nn.toNatClampNeg ++ vs.drop (dp.toNatClampNeg + nn.toNatClampNeg))) H ha hs ?_ r
  intro p e s m args below meth c T locs a0 hw X hx hby hml hZ hown eT hF
  obtain ⟨ka, A'⟩ := own_toarv A hu
  obtain ⟨kb, B'⟩ := own_toarv B hv
  have eu : us.length.toInt32.toNatClampNeg = us.length := by rw [Int32.toNatClampNeg, len_toInt hu]; simp
  have ev : vs.length.toInt32.toNatClampNeg = vs.length := by rw [Int32.toNatClampNeg, len_toInt hv]; simp
  have hus : ((us.drop sp.toNatClampNeg).take nn.toNatClampNeg).map Value.int = (List.range nn.toNatClampNeg).map fun i => (us.map Value.int).getD (sp.toNatClampNeg + i) (.int 0) := by
    apply List.ext_getElem
    · simp; omega
    · intro i g1 g2
      simp only [List.length_map, List.length_take, List.length_drop] at g1
      have g3 : sp.toNatClampNeg + i < us.length := by omega
      simp [List.getD, g3]
  obtain ⟨T', h', L, X', eT', hL, hK, V, stp⟩ := cpA X hx hZ hown (hw _ w1) (hw _ w2) (hw _ w3) (hw _ w4) eT A' B' (Or.inl ⟨rfl, hty⟩) h1 h2 h3 (by rw [eu]; exact h4) (by rw [ev]; exact h5) hus (by simpa using h5) hF ha (g := mkF m pc ls (.int nn :: .int dp :: .ref b :: .int sp :: .ref a :: st)) rfl (by rw [hml]; exact hsz) rfl (hb hby d) hf (W := W) (by show 2 * 0 + _ ≤ _; simpa using hW) hlo
  refine ⟨T', h', L, X', eT', hL, hK, own_ofarv (by rw [List.map_append, List.map_append, List.map_take, List.map_drop]; exact V) ?_, stp⟩
  rw [ev]; simp; omega
end Steps2
/-! numbers and strings -/
theorem own_ins {Z : State} {h : Heap} {a : Addr} {C D : String} (W : Wds Z) (F : Exa Z h a C) (w : Jvm.Cond.castable C D ∈ tables_1) : Ins Z h a D true := by
  obtain ⟨a0, hw⟩ := W.w; exact Ins.of_exa F (hw _ w)
theorem own_sne {Z : State} {C O n d O' n' d' : String} {t t' : FieldType} (W : Wds Z) (L : Jvm.Cond.lays C O n d ∈ tables_1 ∨ Jvm.Cond.laysFinal C O n d ∈ tables_1) (L' : Jvm.Cond.lays C O' n' d' ∈ tables_1 ∨ Jvm.Cond.laysFinal C O' n' d' ∈ tables_1) (hn : n ≠ n') (ht : parseFieldDescriptor d = some t) (ht' : parseFieldDescriptor d' = some t') : Jvm.RoadKit.slotOf Z O n d ≠ Jvm.RoadKit.slotOf Z O' n' d' := by
  obtain ⟨a0, hw⟩ := W.w
  exact slot_ne (a0 := a0) (C := C) (L.imp (hw _) (hw _)) (L'.imp (hw _) (hw _)) hn ht ht'
theorem own_len {n : Nat} (h : n < 2 ^ 31) : n.toInt32.toInt = n := len_toInt h
theorem own_lt {i n : Nat} (hn : n < 2 ^ 31) (h : i < n) : i.toInt32 < n.toInt32 := by
  rw [Int32.lt_iff_toInt_lt, own_len hn, own_len (by omega)]; omega
theorem own_nlt {i n : Nat} (hi : i < 2 ^ 31) (h : n ≤ i) : ¬ i.toInt32 < n.toInt32 := by
  rw [Int32.lt_iff_toInt_lt, own_len hi, own_len (by omega)]; omega
theorem own_n0 {i : Nat} (h : i < 2 ^ 31) : ¬ i.toInt32 < 0 := by
  rw [Int32.lt_iff_toInt_lt, own_len h]; simp
theorem own_cl {i : Nat} (h : i < 2 ^ 31) : i.toInt32.toNatClampNeg = i := by
  rw [Int32.toNatClampNeg, own_len h]; simp
theorem own_s (i : Nat) : i.toInt32 + 1 = (i + 1).toInt32 := (Int32.ofNat_add i 1).symm
theorem own_ne0 {n : Nat} (hn : n < 2 ^ 31) (h : 0 < n) : ¬ n.toInt32 = 0 := fun e => by
  have := congrArg Int32.toInt e; rw [own_len hn] at this; simp at this; omega
def isL (c : Int32) : Prop := 0 ≤ c.toInt ∧ c.toInt ≤ 255
def isC (c : Int32) : Prop := 0 ≤ c.toInt ∧ c.toInt ≤ 65535
theorem isL.c {c : Int32} (h : isL c) : isC c := ⟨h.1, by have := h.2; omega⟩
theorem own_char {x : Int32} (h : isC x) : nar .char x = x := Int32.toInt_inj.mp (by have := c_i2c x; obtain ⟨h1, h2⟩ := h; simp only [nar]; omega)
theorem own_isC (x : Int32) : isC (nar .char x) := by have := c_i2c x; simp only [nar]; exact ⟨this.2.1, by omega⟩
theorem own_nn {x : Int32} : nar .char (nar .char x) = nar .char x := own_char (own_isC x)
theorem own_nb {x : Int32} : nar .byte (nar .byte x) = nar .byte x := by
  have h1 := c_i2b x
  have h2 := c_i2b (nar .byte x)
  simp only [nar] at *
  exact Int32.toInt_inj.mp (by omega)
theorem own_back {c : Int32} (h : isL c) : nar .char (nar .byte c &&& 255) = c := by
  have h1 := c_i2b c
  have h2 := c_mask (nar .byte c) 255 8 (by decide) (by decide)
  have h3 := c_i2c (nar .byte c &&& 255)
  obtain ⟨g1, g2⟩ := h
  simp only [nar] at *
  exact Int32.toInt_inj.mp (by omega)
theorem own_le255 {c : Int32} (h : isL c) : ¬ (255 : Int32) < c := by
  rw [Int32.lt_iff_toInt_lt]; have := h.2; simp only [Int32.reduceToInt]; omega
theorem own_cat {f : Value} (h : f.isRef = true) : f.category = 1 := by rcases ref_cases h with rfl | ⟨a, rfl⟩ <;> rfl
theorem own_ext {h h' : Heap} (K : Keep h h' []) : Ext h h' := ⟨K.1, fun a c q => K.2.1 a c q nin0⟩
theorem own_keep {h h' : Heap} {ws : List Addr} (E : Ext h h') : Keep h h' ws := (Keep.refl _ _).ext E
theorem Exa.ltb {Z : State} {h : Heap} {a : Addr} {C : String} (F : Exa Z h a C) : a < h.size := F.lt
/-- a Latin-1 String x whose bytes lie at b -/
def Str (Z : State) (h : Heap) (x b : Addr) (cs : List Int32) : Prop := Exa Z h x "java/lang/String" ∧ Fld Z h x "java/lang/String" "value" "[B" (.ref b) ∧ Fld Z h x "java/lang/String" "coder" "B" (.int 0) ∧ Vec Z h b .byte (cs.map (nar .byte)) ∧ (∀ c ∈ cs, isL c) ∧ cs.length < 2 ^ 31
section StrF
variable {Z : State} {h h' : Heap} {x b : Addr} {cs : List Int32} {ws : List Addr}
theorem Str.lt (F : Str Z h x b cs) : x < h.size := F.1.lt
theorem Str.ltb (F : Str Z h x b cs) : b < h.size := F.2.2.2.1.lt
theorem Str.ext (F : Str Z h x b cs) (E : Ext h h') : Str Z h' x b cs := ⟨F.1.ext E, F.2.1.ext E, F.2.2.1.ext E, F.2.2.2.1.ext E, F.2.2.2.2⟩
theorem Str.keep (F : Str Z h x b cs) (K : Keep h h' ws) (q : x ∉ ws) (q' : b ∉ ws) : Str Z h' x b cs := ⟨F.1.keep K, F.2.1.keep K q, F.2.2.1.keep K q, F.2.2.2.1.keep K q', F.2.2.2.2⟩
end StrF
theorem own_and255 (y : Int32) : isL (nar .char (y &&& 255)) := by
  have h1 := c_and y 255 (by decide)
  have h2 : (255 : Int32).toInt = 255 := by decide
  have h3 : nar .char (y &&& 255) = y &&& 255 := own_char ⟨h1.1, by omega⟩
  rw [h3]; exact ⟨h1.1, by omega⟩
theorem own_an {P : Int32 → Prop} : ∀ c ∈ ([] : List Int32), P c := fun _ q => nomatch q
theorem own_ac {P : Int32 → Prop} {a : Int32} {t : List Int32} (h : P a) (r : ∀ c ∈ t, P c) : ∀ c ∈ a :: t, P c := fun c q => by
  rcases List.mem_cons.mp q with rfl | q
  · exact h
  · exact r c q
theorem own_narR {t : FieldType} {v : Value} (h : v.isRef = true) : narrow t v = v := by rcases ref_cases h with rfl | ⟨a, rfl⟩ <;> cases t <;> rfl
theorem own_fitR {t : FieldType} {v : Value} (h : v.isRef = true) (ht : t.isReference = true) : fits t v = true := by rcases ref_cases h with rfl | ⟨a, rfl⟩ <;> cases t <;> first | rfl | (cases ht)
theorem Fld.det {Z : State} {h : Heap} {a : Addr} {C n d : String} {v w : Value} (F : Fld Z h a C n d v) (G : Fld Z h a C n d w) : v = w := Decidable.byContradiction fun q => (F.ne G q) rfl
theorem Vec.det {Z : State} {h : Heap} {a : Addr} {ty ty' : FieldType} {vs ws : List Int32} (F : Vec Z h a ty vs) (G : Vec Z h a ty' ws) : vs = ws := by
  obtain ⟨c, A, q, -⟩ := F
  obtain ⟨c', A', q', -⟩ := G
  cases A.1.symm.trans A'.1
  have e := q.symm.trans q'
  exact (List.map_inj_right (fun a b e => by cases e; rfl)).mp e
theorem own_inj {c d : Int32} (h : isL c) (g : isL d) (e : nar .byte c = nar .byte d) : c = d := by rw [← own_back h, ← own_back g, e]
theorem own_mapinj : ∀ {cs ds : List Int32}, (∀ c ∈ cs, isL c) → (∀ d ∈ ds, isL d) → cs.map (nar .byte) = ds.map (nar .byte) → cs = ds
  | [], [], _, _, _ => rfl
  | [], _ :: _, _, _, e => by cases e
  | _ :: _, [], _, _, e => by cases e
  | c :: cs, d :: ds, h, g, e => by
    simp only [List.map_cons, List.cons.injEq] at e
    rw [own_inj (h c (by simp)) (g d (by simp)) e.1, own_mapinj (fun c q => h c (by simp [q])) (fun c q => g c (by simp [q])) e.2]
theorem Str.det {Z : State} {h : Heap} {x b b' : Addr} {cs ds : List Int32} (F : Str Z h x b cs) (G : Str Z h x b' ds) : cs = ds := by
  have e := Fld.det F.2.1 G.2.1
  cases e
  exact own_mapinj F.2.2.2.2.1 G.2.2.2.2.1 (F.2.2.2.1.det G.2.2.2.1)
theorem own_ofinj {i n : Nat} (hi : i < 2 ^ 31) (hn : n < 2 ^ 31) (e : i.toInt32 = n.toInt32) : i = n := by
  have := congrArg Int32.toInt e; rw [own_len hi, own_len hn] at this; omega
theorem Go.ldcS {l : Launch} {Z : State} {n0 : Nat} {R : Room} {K : Cx} {Q : Option Value → Heap → List Addr → Prop} {h : Heap} {sf : List Addr} {k j pc pc' : Nat} {ls : Array Slot} {st : List Value} {own : String} {bytes : ByteArray} {maxL : Nat} {ret : Option FieldType} {nm : String} {idx : Nat} {text : String} (cs : List Int32) (zl : Int32) (n : Nat)
    (H : Ok Z K own bytes maxL ret nm) (d : decode bytes pc = .ok (.ldc idx, 2)) (hp : pc + 2 = pc') (w : Jvm.Cond.stringLink own idx text ∈ tables_1) (hm : (own, idx) ∈ consts_1) (ht : (∀ c ∈ text.toList, c.toNat < 256) ∧ text.toList.map (fun c => Value.int (Jvm.Lit.byteI c.toNat.toUInt16)) = (cs.map (nar .byte)).map Value.int) (hL : ∀ c ∈ cs, isL c) (hz : ¬ zl < 0) (hl : zl.toNatClampNeg = cs.length) (hn : 4 * text.toList.length ≤ n) (hbig : n ≤ 536870912) (hc : k + 2 ≤ R.cells) (hsl : j + (n + 4) ≤ R.slots)
    (r : ∀ a b h', Ext h h' → Str Z h' a b cs → (∀ x ∈ sf, x ≠ a ∧ x ≠ b) → Go l Z n0 R K Q h' sf (k + 2) (j + (n + 4)) pc' ls (.ref a :: st)) : Go l Z n0 R K Q h sf k j pc ls st := by
  subst hp
  obtain ⟨p, e, s, m, args, below, meth, c⟩ := K
  intro vm0 k0 T locs X eT hS hk hC hSf hF hO
  obtain ⟨H1, H2, H3, H4, H5, H6, H7, H8, a0, hw, hEL, hat⟩ := H
  have hZ0 : Z.Warmed39 vm0 := State.Warmed39.trans H6 hS.1
  have hown0 : vm0.findClass own = some m.cls := (hS.1.alike.findClass _ _).trans H5
  obtain ⟨a, T', h', k1, b, kc, X', eT', E, hS', hk', hZ', hown', A, Fc, Fv, V, la, lb, hC', -, hne, stp⟩ := ldcCH X H1 hZ0 hown0 (hw _ w) hat eT hS hk hEL hm hC.1 (vs := (cs.map (nar .byte)).map Value.int) (z := zl) ht hz (by simp [hl]) (g := mkF m pc ls st) rfl (hb H2 d) hn hbig hc hsl
  have hS2 := hSf.chr hC'
  have hlen := (back32 hz).2
  obtain ⟨s₂, o, h1, h2⟩ := r a b h' E ⟨A, Fv, Fc, own_ofarv V (by simp [hl]), hL, by omega⟩ (fun x hx => hne x (hS2 x hx).2) T'.vm k1 T' locs X' eT' hS' hk' (hC.trans hC') hS2 hF (hO.ext E)
  exact ⟨s₂, o, stp _ h1, h2⟩
section OldF
theorem Go.withOld {l : Launch} {Z : State} {n0 : Nat} {R : Room} {K : Cx} {Q : Option Value → Heap → List Addr → Prop} {h : Heap} {sf : List Addr} {k j pc : Nat} {ls : Array Slot} {st : List Value} (r : Ext Z.heap h → Go l Z n0 R K Q h sf k j pc ls st) : Go l Z n0 R K Q h sf k j pc ls st := by
  obtain ⟨p, e, s, m, args, below, meth, c⟩ := K
  intro vm0 k0 T locs X eT hS hk hC hSf hF hO
  exact r hO.2 vm0 k0 T locs X eT hS hk hC hSf hF hO
theorem own_eqw {args : Array Value} {first s : State} {o : Option Outcome} {idx : List Nat} {a : Term} {n : Int32} (h : (Jvm.Cond.eq a (.int n)).value args first o s idx = some true) : a.eval args first o idx s = some (.int n) := by
  cases ha : a.eval args first o idx s with
  | none => simp [Cond.value, ha] at h
  | some x => cases x <;> simp [Cond.value, Term.eval, ha] at h ⊢ <;> exact h
theorem own_el {args : Array Value} {first s : State} {o : Option Outcome} {idx : List Nat} {t : Term} {x : Addr} {c : Cell} {k v : Int32} (i : Nat) (ht : t.eval args first o idx s = some (.ref x)) (hc : s.heap[x]? = some c) (hi : k.toNatClampNeg = i) (h : (Jvm.Cond.eq (.elem t (.int k)) (.int v)).value args first o s idx = some true) : c.slots[i]? = some (.int v) := by
  subst hi; exact (elem_in (own_eqw h) ht (Term.int_eval k) hc).2
theorem own_oldvec {Z : State} {args : Array Value} {t : Term} {vs : List Int32} {N : Int32} (hf : Fit Z) (hA : (Jvm.Cond.arrayOf t .byte).value args Z none Z [] = some true) (hl : (Jvm.Cond.eq (.length t) (.int N)).value args Z none Z [] = some true) (hz : ¬ N < 0) (hN : N.toNatClampNeg = vs.length)
    (hE : ∀ (c : Cell) (x : Addr), t.eval args Z none [] Z = some (.ref x) → Z.heap[x]? = some c → HasL c 0 (vs.map Value.int)) : ∃ b, t.eval args Z none [] Z = some (.ref b) ∧ Vec Z Z.heap b .byte vs := by
  obtain ⟨b, eb⟩ := arr_v hA
  obtain ⟨c, A⟩ := Arr.start eb hA
  have el := own_eqw hl
  have ha : Z.arrayAt? b = some c := A.fin (Vm.Alike.refl _)
  by_cases q : c.slots.size < 2 ^ 31
  · have e4 : c.slots.size.toInt32 = N := Value.int.inj (Option.some.inj ((len_f eb ha q).symm.trans el))
    exact ⟨b, eb, own_ofarv (Arv.start (dv := .int 0) hf A q e4 hz (by simpa using hN) (hE _ _ eb A.1)) hN⟩
  · simp [Term.eval, eb, ha, q] at el
theorem own_oldstr {Z : State} {args : Array Value} {t : Term} {vs cs : List Int32} {N : Int32} (hf : Fit Z) (hx : (Jvm.Cond.exactly t "java/lang/String").value args Z none Z [] = some true) (hc : (Jvm.Cond.eq (.field t "java/lang/String" "coder" "B") (.int 0)).value args Z none Z [] = some true) (hA : (Jvm.Cond.arrayOf (.field t "java/lang/String" "value" "[B") .byte).value args Z none Z [] = some true) (hl : (Jvm.Cond.eq (.length (.field t "java/lang/String" "value" "[B")) (.int N)).value args Z none Z [] = some true) (hz : ¬ N < 0) (hN : N.toNatClampNeg = vs.length)
    (hE : ∀ (c : Cell) (x : Addr), (Term.field t "java/lang/String" "value" "[B").eval args Z none [] Z = some (.ref x) → Z.heap[x]? = some c → HasL c 0 (vs.map Value.int)) (hv : cs.map (nar .byte) = vs) (hL : ∀ c ∈ cs, isL c) (hn : cs.length < 2 ^ 31) : ∃ x b, t.eval args Z none [] Z = some (.ref x) ∧ Str Z Z.heap x b cs := by
  obtain ⟨x, ex⟩ := exa_v hx
  obtain ⟨b, eb, V⟩ := own_oldvec hf hA hl hz hN hE
  exact ⟨x, b, ex, Exa.start ex hx, Fld.start ((fld_at ex).symm.trans eb), Fld.start ((fld_at ex).symm.trans (own_eqw hc)), by rw [hv]; exact V, hL, hn⟩
theorem own_readyW {Z : State} {vm : Vm} {d idx cf : Nat} {f : Field} (hW : Z.Warmed39 vm) (hr : Z.vm.fieldReady d idx cf f) : vm.fieldReady d idx cf f := by
  obtain ⟨k, i, kc, h1, h2, h3, h4⟩ := hr
  obtain ⟨k', g1, -, -, g4, -⟩ := hW.2.2.2 d k h1
  obtain ⟨kc', c1, c2, -⟩ := hW.2.2.2 cf kc h3
  refine ⟨k', i, kc', g1, ?_, c1, ?_⟩
  · rcases g4 idx with q | ⟨q, -⟩
    · rw [q]; exact h2
    · rw [h2] at q; cases q
  · rw [c2]; exact h4
theorem Go.getfieldR {l : Launch} {Z : State} {n0 : Nat} {R : Room} {K : Cx} {Q : Option Value → Heap → List Addr → Prop} {h : Heap} {sf : List Addr} {k j pc pc' : Nat} {ls : Array Slot} {st : List Value} {own : String} {bytes : ByteArray} {maxL : Nat} {ret : Option FieldType} {nm : String} {idx : Nat} {O n d' : String} {a : Addr} {v : Value} (H : Ok Z K own bytes maxL ret nm) (d : decode bytes pc = .ok (.getfield idx, 3)) (hp : pc + 3 = pc') (w : Jvm.Cond.fieldRef own idx O n d' ∈ tables_1) (F : Fld Z h a O n d' v) (r : Go l Z n0 R K Q h sf k j pc' ls (v :: st)) : Go l Z n0 R K Q h sf k j pc ls (.ref a :: st) := by
  subst hp
  refine Go.of2 H ?_ r
  intro p e s m args below meth c T locs a0 hw X hx hby hml hZ hown eT hO
  have hZT : Z.Warmed39 T.vm := wtrans hZ X.warmed
  have hownZ : Z.vm.findClass own = some m.cls := (hZ.alike.findClass _ _).symm.trans hown
  obtain ⟨cf, k', i', f', hi, hready0⟩ := Cond.fieldRef_spec hownZ (hw _ w)
  have hready := own_readyW hZT hready0
  obtain ⟨cell, cf0, k0, i, f, h1, h2, h3, h4, -, -, h7⟩ := F
  cases hi.symm.trans h2
  refine ⟨T, X, eT, fun target hrest => ?_⟩
  have hd := hb hby d
  have hc : T.heap[a]? = some cell := by rw [eT]; exact h1
  show Steps p.tables e below (T.setTop { method := m, pc := pc, locals := ls, stack := .ref a :: st, locked := none }) _
  jvm_step X.here [hx, hd, getfield.wp_ready (e := e) (s := T) (f := { method := m, pc := pc, locals := ls, stack := .ref a :: st, locked := none }) X.here.top hready h3 rfl hc h4 h7]
  exact hrest
end OldF
/-- an array of references a, of class ad over C, that holds vs -/
def Rar (Z : State) (h : Heap) (a : Addr) (C ad : String) (vs : List Value) : Prop := ∃ c : Cell, Arr Z h a c (.object C) ∧ Exa Z h a ad ∧ FitC Z c ∧ c.slots.toList = vs
section RarS
variable {l : Launch} {Z : State} {n0 : Nat} {R : Room} {K : Cx} {Q : Option Value → Heap → List Addr → Prop} {h h' : Heap} {sf : List Addr} {k j pc pc' : Nat} {ls : Array Slot} {st : List Value} {own : String} {bytes : ByteArray} {maxL : Nat} {ret : Option FieldType} {nm : String} {a : Addr} {C ad : String} {vs : List Value} {ws : List Addr}
theorem Rar.lt (F : Rar Z h a C ad vs) : a < h.size := by obtain ⟨c, A, -⟩ := F; exact A.lt
theorem Rar.ext (F : Rar Z h a C ad vs) (E : Ext h h') : Rar Z h' a C ad vs := by obtain ⟨c, A, B, q⟩ := F; exact ⟨c, A.ext E, B.ext E, q⟩
theorem Rar.keep (F : Rar Z h a C ad vs) (K : Keep h h' ws) (q : a ∉ ws) : Rar Z h' a C ad vs := by obtain ⟨c, A, B, r⟩ := F; exact ⟨c, ⟨K.2.1 a c A.1 q, A.2⟩, B.keep K, r⟩
theorem Rar.exa (F : Rar Z h a C ad vs) : Exa Z h a ad := by obtain ⟨c, A, B, r⟩ := F; exact B
theorem Go.aaload {i : Int32} {v : Value} (H : Ok Z K own bytes maxL ret nm) (d : decode bytes pc = .ok (.aaload, 1)) (hp : pc + 1 = pc') (F : Rar Z h a C ad vs) (n : Nat) (hi : i.toNatClampNeg = n) (h0 : ¬ i < 0) (hv : vs[n]? = some v) (r : Go l Z n0 R K Q h sf k j pc' ls (v :: st)) : Go l Z n0 R K Q h sf k j pc ls (.int i :: .ref a :: st) := by
  subst hp
  refine Go.of2 H ?_ r
  intro p e s m args below meth c T locs a0 hw X hx hby hml hZ hown eT hO
  obtain ⟨c', A, -, -, q⟩ := F
  have hv' : c'.slots[n]? = some v := by rw [← Array.getElem?_toList, q]; exact hv
  refine ⟨T, X, eT, fun t hr => X.aaload hx (j := i) (v := v) (by rw [eT]; exact A.1) (State.isArrayOf_alike hZ.alike A.2.1) rfl A.2.2 ?_ (by rw [hi]; exact hv') (g := mkF m pc ls (.int i :: .ref a :: st)) rfl rfl (hb hby d) t hr⟩
  have := (Array.getElem?_eq_some_iff.mp hv').1
  rw [hi]
  rintro (q | q)
  · exact h0 q
  · omega
theorem Go.arraylengthR (v : Int32) (H : Ok Z K own bytes maxL ret nm) (d : decode bytes pc = .ok (.arraylength, 1)) (hp : pc + 1 = pc') (F : Rar Z h a C ad vs) (hv : vs.length.toInt32 = v) (r : Go l Z n0 R K Q h sf k j pc' ls (.int v :: st)) : Go l Z n0 R K Q h sf k j pc ls (.ref a :: st) := by
  subst hp
  refine Go.of2 H ?_ r
  intro p e s m args below meth c T locs a0 hw X hx hby hml hZ hown eT hO
  obtain ⟨c', A, -, -, q⟩ := F
  refine ⟨T, X, eT, fun t hr => X.arraylength hx (by rw [eT]; exact A.1) (State.isArrayOf_alike hZ.alike A.2.1) (g := mkF m pc ls (.ref a :: st)) rfl rfl (hb hby d) t ?_⟩
  rw [← Array.length_toList, q, hv]; exact hr
theorem Go.ofNewL {st' : List Value} {dk dj : Nat} {P : Addr → Heap → Prop} (H : Ok Z K own bytes maxL ret nm) (step : ∀ (p : Program) (e : Env) (s : State) (m : MethodId) (args : Array Value) (below : List Frame) (meth : Method) (c : Code) (T : State) (locs : List Loc) (a0 : Array Value), (∀ d ∈ tables_1, d.before a0 Z = true) → Stand p l e R s m args below meth c T locs k j → p.tables.exec = Jvm.exec → c.code = bytes → c.maxLocals = maxL → Z.Warmed39 s.vm → s.vm.findClass own = some m.cls → T.heap = h →
      ∃ T' h', Stand p l e R s m args below meth c T' locs (k + dk) (j + dj) ∧ T'.heap = h' ∧ Ext h h' ∧ P h.size h' ∧ ∀ target, Steps p.tables e below (T'.setTop (mkF m pc' ls (.ref h.size :: st'))) target → Steps p.tables e below (T.setTop (mkF m pc ls st)) target)
    (hnew : ∀ a h', P a h' → a < h'.size)
    (r : ∀ (a : Addr) (h' : Heap), a = h.size → n0 ≤ a → Ext h h' → P a h' → Go l Z n0 R K Q h' (a :: sf) (k + dk) (j + dj) pc' ls (.ref a :: st')) : Go l Z n0 R K Q h sf k j pc ls st := by
  obtain ⟨p, e, s, m, args, below, meth, c⟩ := K
  intro vm0 k0 T locs X eT hS hk hC hSf hF hO
  obtain ⟨H1, H2, H3, H4, H5, H6, H7, H8, a0, hw, hEL, hat⟩ := H
  obtain ⟨T', h', X', eT', E, hP, st⟩ := step p e (s.setVm vm0) m args below meth c T locs a0 hw X H1 H2 H3 (State.Warmed39.trans H6 hS.1) ((hS.1.alike.findClass _ _).trans H5) eT
  obtain ⟨s₂, o, h1, h2⟩ := r h.size h' rfl (hO.1 ▸ hO.2.1) E hP vm0 k0 T' locs X' eT' hS (Nat.le_trans hk E.1) (hC.trans (CHr.ext E hC.1)) ((hSf.ext E hC.1).cons (hnew _ _ hP) (Safe.ext E hC.1 (Safe.new (Nat.le_refl _)))) hF (hO.ext E)
  exact ⟨s₂, o, st _ h1, h2⟩
theorem Go.clone {idx : Nat} (W cap : Nat) (H : Ok Z K own bytes maxL ret nm) (d : decode bytes pc = .ok (.invokevirtual idx, 3)) (hp : pc + 3 = pc') (w1 : Jvm.Cond.methodLink own idx ⟨ad, "clone", "()Ljava/lang/Object;"⟩ ∈ tables_1) (w2 : Jvm.Cond.sameMethod ad "java/lang/Object" "clone" "()Ljava/lang/Object;" ∈ tables_1) (w3 : Jvm.Cond.native ⟨"java/lang/Object", "clone", "()Ljava/lang/Object;"⟩ ∈ tables_1)
    (w4 : Jvm.Cond.instanceMethod ⟨"java/lang/Object", "clone", "()Ljava/lang/Object;"⟩ ∈ tables_1) (w5 : Jvm.Cond.selects ad ⟨ad, "clone", "()Ljava/lang/Object;"⟩ ⟨"java/lang/Object", "clone", "()Ljava/lang/Object;"⟩ ∈ tables_1) (w6 : Jvm.Cond.castable ad "java/lang/Cloneable" ∈ tables_1)
    (F : Rar Z h a C ad vs) (hcap : vs.length ≤ cap) (hsz : ls.size = maxL) (hW : (st.map fun v => v.category).sum ≤ W) (hf : 1 ≤ R.frames) (hl : W + 14 ≤ R.locals) (hce : k + 1 ≤ R.cells) (hsl : j + cap ≤ R.slots)
    (r : ∀ a' h', a' = h.size → n0 ≤ a' → Ext h h' → Rar Z h' a' C ad vs → Go l Z n0 R K Q h' (a' :: sf) (k + 1) (j + cap) pc' ls (.ref a' :: st)) : Go l Z n0 R K Q h sf k j pc ls (.ref a :: st) := by
  subst hp
  refine Go.ofNewL (P := fun a' h' => Rar Z h' a' C ad vs) H ?_ (fun a' h' F => F.lt) r
  intro p e s m args below meth c T locs a0 hw X hx hby hml hZ hown eT
  obtain ⟨c', A, B, fc, q⟩ := F
  obtain ⟨T', h', X', eT', E, A', B', stp⟩ := cloneA X hx hZ hown (hw _ w1) (hw _ w2) (hw _ w3) (hw _ w4) (hw _ w5) (hw _ w6) eT A B fc (g := mkF m pc ls (.ref a :: st)) rfl (by rw [hml]; exact hsz) rfl (hb hby d) hf (W := W) (cap := cap) (by show 2 * 0 + _ ≤ _; simpa using hW) hl (by rw [← Array.length_toList, q]; exact hcap) hce hsl
  exact ⟨T', h', X', eT', E, ⟨_, A', B', fc, q⟩, stp⟩
end RarS
def Sx0 (Z : State) (z : Int32) (f : Value) : Prop := Wds Z ∧ ¬ z = 0 ∧ Sta Z Z.heap "java/lang/String" "COMPACT_STRINGS" "Z" (.int z) ∧ f.isRef = true ∧ Sta Z Z.heap "jdk/internal/util/Preconditions" "SIOOBE_FORMATTER" "Ljava/util/function/BiFunction;" f
def Sx (Z : State) (z : Int32) (f : Value) (vv dD dA sD sA bD bA oe : Addr) : Prop := Sx0 Z z f ∧ Sta Z Z.heap "com/example/cairnstore/cairnstore/layout/Attachment" "$VALUES" "[Lcom/example/cairnstore/cairnstore/layout/Attachment;" (.ref vv) ∧ Sta Z Z.heap "com/example/cairnstore/cairnstore/layout/Attachment" "DESCRIPTION" "Lcom/example/cairnstore/cairnstore/layout/Attachment;" (.ref dD) ∧ Sta Z Z.heap "com/example/cairnstore/cairnstore/layout/Attachment" "ACL" "Lcom/example/cairnstore/cairnstore/layout/Attachment;" (.ref dA) ∧ Sta Z Z.heap "java/util/Optional" "EMPTY" "Ljava/util/Optional;" (.ref oe) ∧ Rar Z Z.heap vv "com/example/cairnstore/cairnstore/layout/Attachment" "[Lcom/example/cairnstore/cairnstore/layout/Attachment;" [.ref dD, .ref dA] ∧ Fld Z Z.heap dD "com/example/cairnstore/cairnstore/layout/Attachment" "segment" "Ljava/lang/String;" (.ref sD) ∧ Str Z Z.heap sD bD [(102 : Int32), (99 : Int32), (114 : Int32), (58 : Int32), (109 : Int32), (101 : Int32), (116 : Int32), (97 : Int32), (100 : Int32), (97 : Int32), (116 : Int32), (97 : Int32)] ∧ Fld Z Z.heap dA "com/example/cairnstore/cairnstore/layout/Attachment" "segment" "Ljava/lang/String;" (.ref sA) ∧ Str Z Z.heap sA bA [(102 : Int32), (99 : Int32), (114 : Int32), (58 : Int32), (97 : Int32), (99 : Int32), (108 : Int32)] ∧ Exa Z Z.heap oe "java/util/Optional" ∧ Fld Z Z.heap oe "java/util/Optional" "value" "Ljava/lang/Object;" .null
theorem d6_3 : decode jdk_52_method_21_code 3 = .ok (.iload 5, 2) := by decide +kernel
theorem d6_5 : decode jdk_52_method_21_code 5 = .ok (.iload 4, 2) := by decide +kernel
theorem d6_7 : decode jdk_52_method_21_code 7 = .ok (.if_icmp .ge 37, 3) := by decide +kernel
theorem d6_44 : decode jdk_52_method_21_code 44 = .ok (.iload 4, 2) := by decide +kernel
theorem d6_46 : decode jdk_52_method_21_code 46 = .ok (.ireturn, 1) := by decide +kernel
theorem d6_10 : decode jdk_52_method_21_code 10 = .ok (.aload_n 0, 1) := by decide +kernel
theorem d6_11 : decode jdk_52_method_21_code 11 = .ok (.iload_n 1, 1) := by decide +kernel
theorem d6_12 : decode jdk_52_method_21_code 12 = .ok (.caload, 1) := by decide +kernel
theorem d6_13 : decode jdk_52_method_21_code 13 = .ok (.istore 6, 2) := by decide +kernel
theorem d6_15 : decode jdk_52_method_21_code 15 = .ok (.iload 6, 2) := by decide +kernel
theorem d6_17 : decode jdk_52_method_21_code 17 = .ok (.sipush 255, 3) := by decide +kernel
theorem d6_20 : decode jdk_52_method_21_code 20 = .ok (.if_icmp .le 6, 3) := by decide +kernel
theorem d6_26 : decode jdk_52_method_21_code 26 = .ok (.aload_n 2, 1) := by decide +kernel
theorem d6_27 : decode jdk_52_method_21_code 27 = .ok (.iload_n 3, 1) := by decide +kernel
theorem d6_28 : decode jdk_52_method_21_code 28 = .ok (.iload 6, 2) := by decide +kernel
theorem d6_30 : decode jdk_52_method_21_code 30 = .ok (.i2b, 1) := by decide +kernel
theorem d6_31 : decode jdk_52_method_21_code 31 = .ok (.bastore, 1) := by decide +kernel
theorem d6_32 : decode jdk_52_method_21_code 32 = .ok (.iinc 1 1, 3) := by decide +kernel
theorem d6_35 : decode jdk_52_method_21_code 35 = .ok (.iinc 3 1, 3) := by decide +kernel
theorem d6_38 : decode jdk_52_method_21_code 38 = .ok (.iinc 5 1, 3) := by decide +kernel
theorem d6_41 : decode jdk_52_method_21_code 41 = .ok (.goto (-38), 3) := by decide +kernel
abbrev N0 : MethodName := ⟨"java/lang/StringUTF16", "compress", "([CI[BII)I"⟩

theorem own_full {Z : State} {h : Heap} {d : Addr} {cs : List Int32} {i : Nat} (e : i = cs.length) (F : Vec Z h d .byte ((cs.take i).map (nar .byte) ++ List.replicate 0 0)) : Vec Z h d .byte (cs.map (nar .byte)) := by
  subst e; simpa using F
theorem own_fill {cs : List Int32} {g : Int32 → Int32} {i m : Nat} {c : Int32} (hc : cs[i]? = some c) : ((cs.take i).map g ++ List.replicate (m + 1) 0).set i (g c) = (cs.take (i + 1)).map g ++ List.replicate m 0 := by
  have hl : i < cs.length := (List.getElem?_eq_some_iff.mp hc).1
  have h1 : ((cs.take i).map g).length = i := by simp; omega
  rw [List.set_append_right _ _ (by omega), h1, Nat.sub_self, List.replicate_succ, List.set_cons_zero, List.take_add_one, hc]; simp
set_option maxRecDepth 65536 in
theorem lp_cmp5 (l : Launch) {Z : State} {n0 : Nat} (a d : Addr) (cs : List Int32) (h0 : Heap) (hL : ∀ c ∈ cs, isL c) (hn : cs.length < 2 ^ 31) (zd : n0 ≤ d) (hne : a ≠ d) {R : Room} {K : Cx} (H : Ok Z K "java/lang/StringUTF16" jdk_52_method_21_code 7 (some .int) "compress") :
    ∀ (m i : Nat), i + m = cs.length → ∀ (h : Heap) (s6 : Slot), One s6 → Vec Z h a .char cs → Vec Z h d .byte ((cs.take i).map (nar .byte) ++ List.replicate m 0) → Keep h0 h [d] →
      Go l Z n0 R K (fun v h' sn => v = some (.int cs.length.toInt32) ∧ Keep h0 h' [d] ∧ Vec Z h' d .byte (cs.map (nar .byte)) ∧ sn = []) h [d] 0 0 3 #[.val (.ref a), .val (.int i.toInt32), .val (.ref d), .val (.int i.toInt32), .val (.int cs.length.toInt32), .val (.int i.toInt32), s6] [] := by
  intro m
  induction m with
  | zero =>
    intro i hi h s6 h6 Fa Fd KK
    refine Go.iload H d6_3 rfl rfl ?_
    refine Go.iload H d6_5 rfl rfl ?_
    refine Go.icmpY (pc' := 44) H d6_7 (flt (own_nlt (by omega) (by omega))).2.1 (by decide) (by decide) ?_
    refine Go.iload H d6_44 rfl rfl ?_
    exact Go.ireturnI [] H d6_46 ⟨rfl, KK, own_full (by omega) Fd, rfl⟩ all0 (Nat.zero_le _) (Nat.zero_le _)
  | succ m ih =>
    intro i hi h s6 h6 Fa Fd KK
    have hlt : i < cs.length := by omega
    obtain ⟨c, hc⟩ : ∃ c, cs[i]? = some c := ⟨_, List.getElem?_eq_getElem hlt⟩
    have hLc : isL c := hL c (List.mem_of_getElem? hc)
    refine Go.iload H d6_3 rfl rfl ?_
    refine Go.iload H d6_5 rfl rfl ?_
    refine Go.icmpN H d6_7 (tlt (own_lt hn hlt)).2.1 rfl ?_
    refine Go.aloadN H d6_10 rfl rfl rfl ?_
    refine Go.iloadN H d6_11 rfl rfl ?_
    refine Go.caload (v := c) H d6_12 rfl Fa i (own_cl (by omega)) (own_n0 (by omega)) hc ?_
    refine Go.istore (ls' := #[.val (.ref a), .val (.int i.toInt32), .val (.ref d), .val (.int i.toInt32), .val (.int cs.length.toInt32), .val (.int i.toInt32), .val (.int c)]) H d6_13 rfl (XS.store1 rfl h6 rfl) ?_
    refine Go.iload H d6_15 rfl rfl ?_
    refine Go.sipush (255 : Int32) H d6_17 rfl rfl ?_
    refine Go.icmpY (pc' := 26) H d6_20 (flt (own_le255 hLc)).2.2.2 (by decide) (by decide) ?_
    refine Go.aloadN H d6_26 rfl rfl rfl ?_
    refine Go.iloadN H d6_27 rfl rfl ?_
    refine Go.iload H d6_28 rfl rfl ?_
    refine Go.i2b H d6_30 rfl ?_
    refine Go.bastore (nar .byte c) H d6_31 rfl Fd i (own_cl (by omega)) (own_n0 (by omega)) (by simp; omega) own_nb zd (by simp) ?_
    intro h1 K2 F3
    replace Fa := Fa.keep K2 (ninS hne nin0)
    replace KK := KK.trans K2 (allS (Or.inl (by simp)) all0)
    refine Go.iinc (ls' := #[.val (.ref a), .val (.int (i.toInt32 + (1 : Int32))), .val (.ref d), .val (.int i.toInt32), .val (.int cs.length.toInt32), .val (.int i.toInt32), .val (.int c)]) (1 : Int32) H d6_32 rfl rfl rfl rfl ?_
    refine Go.iinc (ls' := #[.val (.ref a), .val (.int (i.toInt32 + (1 : Int32))), .val (.ref d), .val (.int (i.toInt32 + (1 : Int32))), .val (.int cs.length.toInt32), .val (.int i.toInt32), .val (.int c)]) (1 : Int32) H d6_35 rfl rfl rfl rfl ?_
    refine Go.iinc (ls' := #[.val (.ref a), .val (.int (i.toInt32 + (1 : Int32))), .val (.ref d), .val (.int (i.toInt32 + (1 : Int32))), .val (.int cs.length.toInt32), .val (.int (i.toInt32 + (1 : Int32))), .val (.int c)]) (1 : Int32) H d6_38 rfl rfl rfl rfl ?_
    refine Go.goto (pc' := 3) H d6_41 (by decide) (by decide) ?_
    rw [own_fill hc] at F3
    rw [own_s i]
    exact ih (i + 1) (by omega) _ _ (One.val rfl) Fa F3 KK
theorem d6_0 : decode jdk_52_method_21_code 0 = .ok (.iconst 0, 1) := by decide +kernel
theorem d6_1 : decode jdk_52_method_21_code 1 = .ok (.istore 5, 2) := by decide +kernel
theorem pn_N0 : plainName N0.cls = true := by first | (simp [plainName, overriddenIn]; done) | decide +kernel

abbrev rm_cmp5 : Room := { frames := 0, cells := 0, slots := 0, locals := 0 }
set_option maxRecDepth 65536 in
set_option maxHeartbeats 4000000 in
theorem ct_cmp5 (l : Launch) {Z : State} {n0 : Nat} {z : Int32} {f : Value} {vv dD dA sD sA bD bA oe : Addr} (W : Sx Z z f vv dD dA sD sA bD bA oe) (a d : Addr) (cs : List Int32) (h : Heap) (Fa : Vec Z h a .char cs) (Fd : Vec Z h d .byte (List.replicate cs.length 0)) (hL : ∀ c ∈ cs, isL c) (hn : cs.length < 2 ^ 31) (zd : n0 ≤ d) (hne : a ≠ d) :
    Ctr l Z n0 N0 jdk_52_method_21_code 7 (some .int) rm_cmp5 #[(.ref a), (.int (0 : Int32)), (.ref d), (.int (0 : Int32)), (.int cs.length.toInt32)] h [d] (fun v h' sn => v = some (.int cs.length.toInt32) ∧ Keep h h' [d] ∧ Vec Z h' d .byte (cs.map (nar .byte)) ∧ sn = []) := by
  refine Ctr.of_go (ls := #[.val (.ref a), .val (.int (0 : Int32)), .val (.ref d), .val (.int (0 : Int32)), .val (.int cs.length.toInt32), .unset, .unset]) W.1.1 (plainFor_of_name pn_N0) (fun m => by first | (simp [entryFrame, mkF, argsToLocals, Value.category]; done) | rfl) (fun K H => ?_)
  refine Go.iconst (0 : Int32) H d6_0 rfl rfl ?_
  refine Go.istore (ls' := #[.val (.ref a), .val (.int (0 : Int32)), .val (.ref d), .val (.int (0 : Int32)), .val (.int cs.length.toInt32), .val (.int (0 : Int32)), .unset]) H d6_1 rfl rfl ?_
  exact lp_cmp5 l a d cs h hL hn zd hne H cs.length 0 (by omega) h _ One.u Fa (by simpa using Fd) (Keep.refl _ _)
theorem d5_0 : decode jdk_52_method_16_code 0 = .ok (.iload_n 2, 1) := by decide +kernel
theorem d5_1 : decode jdk_52_method_16_code 1 = .ok (.newarray .byte, 2) := by decide +kernel
theorem w24 : Jvm.Cond.arrayClass Jvm.ClassFile.FieldType.byte ∈ tables_1 := List.mem_of_getElem? (i := 24) rfl
theorem d5_3 : decode jdk_52_method_16_code 3 = .ok (.astore_n 3, 1) := by decide +kernel
theorem d5_4 : decode jdk_52_method_16_code 4 = .ok (.aload_n 0, 1) := by decide +kernel
theorem d5_5 : decode jdk_52_method_16_code 5 = .ok (.iload_n 1, 1) := by decide +kernel
theorem d5_6 : decode jdk_52_method_16_code 6 = .ok (.aload_n 3, 1) := by decide +kernel
theorem d5_7 : decode jdk_52_method_16_code 7 = .ok (.iconst 0, 1) := by decide +kernel
theorem d5_8 : decode jdk_52_method_16_code 8 = .ok (.iload_n 2, 1) := by decide +kernel
theorem d5_9 : decode jdk_52_method_16_code 9 = .ok (.invokestatic 115, 3) := by decide +kernel
theorem w27 : Jvm.Cond.code N0 jdk_52_method_21_code (7 : Nat) (Option.some Jvm.ClassFile.FieldType.int) ∈ tables_1 := List.mem_of_getElem? (i := 27) rfl
theorem w22 : Jvm.Cond.initialized "java/lang/StringUTF16" ∈ tables_1 := List.mem_of_getElem? (i := 22) rfl
theorem pd_N0 : parseMethodDescriptor N0.desc = some ⟨[(.array .char), .int, (.array .byte), .int, .int], (some .int)⟩ := by decide +kernel
theorem nh_N0 : N0.cls ≠ "java/lang/invoke/MethodHandle" ∧ N0.cls ≠ "java/lang/invoke/VarHandle" := by decide
theorem w25 : Jvm.Cond.methodLink "java/lang/StringUTF16" (115 : Nat) N0 ∈ tables_1 := List.mem_of_getElem? (i := 25) rfl
theorem w26 : Jvm.Cond.static N0 ∈ tables_1 := List.mem_of_getElem? (i := 26) rfl
theorem d5_12 : decode jdk_52_method_16_code 12 = .ok (.istore 4, 2) := by decide +kernel
theorem d5_14 : decode jdk_52_method_16_code 14 = .ok (.iload 4, 2) := by decide +kernel
theorem d5_16 : decode jdk_52_method_16_code 16 = .ok (.iload_n 2, 1) := by decide +kernel
theorem d5_17 : decode jdk_52_method_16_code 17 = .ok (.if_icmp .eq 40, 3) := by decide +kernel
theorem d5_57 : decode jdk_52_method_16_code 57 = .ok (.aload_n 3, 1) := by decide +kernel
theorem d5_58 : decode jdk_52_method_16_code 58 = .ok (.areturn, 1) := by decide +kernel
abbrev N1 : MethodName := ⟨"java/lang/StringUTF16", "compress", "([CII)[B"⟩

abbrev rm_cmp3 : Room := { frames := 1, cells := 1, slots := 13, locals := 18 }
set_option maxRecDepth 65536 in
set_option maxHeartbeats 4000000 in
theorem ct_cmp3 (l : Launch) {Z : State} {n0 : Nat} {z : Int32} {f : Value} {vv dD dA sD sA bD bA oe : Addr} (W : Sx Z z f vv dD dA sD sA bD bA oe) (a : Addr) (cs : List Int32) (h : Heap) (Fa : Vec Z h a .char cs) (hL : ∀ c ∈ cs, isL c) (hn : cs.length ≤ 13) :
    Ctr l Z n0 N1 jdk_52_method_16_code 6 (some (.array .byte)) rm_cmp3 #[(.ref a), (.int (0 : Int32)), (.int cs.length.toInt32)] h [] (fun v h' sn => ∃ b, v = some (.ref b) ∧ Ext h h' ∧ h.size ≤ b ∧ Vec Z h' b .byte (cs.map (nar .byte)) ∧ sn = []) := by
  refine Ctr.of_go (ls := #[.val (.ref a), .val (.int (0 : Int32)), .val (.int cs.length.toInt32), .unset, .unset, .unset]) W.1.1 (plainFor_of_name pn_N0) (fun m => by first | (simp [entryFrame, mkF, argsToLocals, Value.category]; done) | rfl) (fun K H => ?_)
  have KK : Keep h h [] := Keep.refl _ _
  refine Go.iloadN H d5_0 rfl rfl ?_
  refine Go.newarray cs.length 13 H d5_1 rfl w24 rfl (by decide) (own_n0 (by omega)) (own_cl (by omega)) hn (by decide) (by decide) (by decide) ?_
  intro a1 h2 g3 z4 E5 F6
  have ne7 : a ≠ a1 := Nat.ne_of_lt (Nat.lt_of_lt_of_le Fa.lt (Nat.le_of_eq g3.symm))
  have sz8 := Nat.le_trans KK.1 (Nat.le_of_eq g3.symm)
  replace Fa := Fa.ext E5
  replace KK := KK.ext E5
  show Go _ _ _ _ _ _ h2 [a1] 1 13 3 #[.val (.ref a), .val (.int (0 : Int32)), .val (.int cs.length.toInt32), .unset, .unset, .unset] [(.ref a1)]
  refine Go.astoreN (ls' := #[.val (.ref a), .val (.int (0 : Int32)), .val (.int cs.length.toInt32), .val (.ref a1), .unset, .unset]) H d5_3 rfl rfl rfl ?_
  refine Go.aloadN H d5_4 rfl rfl rfl ?_
  refine Go.iloadN H d5_5 rfl rfl ?_
  refine Go.aloadN H d5_6 rfl rfl rfl ?_
  refine Go.iconst (0 : Int32) H d5_7 rfl rfl ?_
  refine Go.iloadN H d5_8 rfl rfl ?_
  refine Go.callS (rest := []) 0 [(.ref a), (.int (0 : Int32)), (.ref a1), (.int (0 : Int32)), (.int cs.length.toInt32)] H d5_9 rfl w25 w26 w22 w27 pd_N0 (ct_cmp5 l W a a1 cs h2 Fa F6 hL (by omega) z4 ne7) (by simp) rfl rfl rfl (Nat.le_of_eq rfl) (by decide) (by decide) (by decide) (by decide) nh_N0 ?_
  rintro _ h9 _ ⟨rfl, K10, F11, rfl⟩
  replace Fa := Fa.keep K10 (ninS ne7 nin0)
  replace KK := KK.trans K10 (allS (Or.inr sz8) all0)
  show Go _ _ _ _ _ _ h9 [a1] 1 13 12 #[.val (.ref a), .val (.int (0 : Int32)), .val (.int cs.length.toInt32), .val (.ref a1), .unset, .unset] [(.int cs.length.toInt32)]
  refine Go.istore (ls' := #[.val (.ref a), .val (.int (0 : Int32)), .val (.int cs.length.toInt32), .val (.ref a1), .val (.int cs.length.toInt32), .unset]) H d5_12 rfl rfl ?_
  refine Go.iload H d5_14 rfl rfl ?_
  refine Go.iloadN H d5_16 rfl rfl ?_
  refine Go.icmpY (pc' := 57) H d5_17 (teq rfl).1 (by decide) (by decide) ?_
  refine Go.aloadN H d5_57 rfl rfl rfl ?_
  exact Go.areturn [] H d5_58 rfl rfl (own_narR rfl) ⟨_, rfl, own_ext KK, Nat.le_of_eq g3.symm, F11, rfl⟩ all0 (by decide) (by decide)
theorem own_cod (x : Int32) : nar .byte (((x - x).toUInt32 >>> ((31 : Int32) &&& 31).toUInt32).toInt32) = 0 := by rw [Int32.sub_self]; decide
theorem d7_0 : decode jdk_52_method_15_code 0 = .ok (.iload_n 1, 1) := by decide +kernel
theorem d7_1 : decode jdk_52_method_15_code 1 = .ok (.aload_n 0, 1) := by decide +kernel
theorem d7_2 : decode jdk_52_method_15_code 2 = .ok (.arraylength, 1) := by decide +kernel
theorem d7_3 : decode jdk_52_method_15_code 3 = .ok (.isub, 1) := by decide +kernel
theorem d7_4 : decode jdk_52_method_15_code 4 = .ok (.bipush 31, 2) := by decide +kernel
theorem d7_6 : decode jdk_52_method_15_code 6 = .ok (.iushr, 1) := by decide +kernel
theorem d7_7 : decode jdk_52_method_15_code 7 = .ok (.i2b, 1) := by decide +kernel
theorem d7_8 : decode jdk_52_method_15_code 8 = .ok (.ireturn, 1) := by decide +kernel
abbrev N2 : MethodName := ⟨"java/lang/StringUTF16", "coderFromArrayLen", "([BI)B"⟩

abbrev rm_codl : Room := { frames := 0, cells := 0, slots := 0, locals := 0 }
set_option maxRecDepth 65536 in
set_option maxHeartbeats 4000000 in
theorem ct_codl (l : Launch) {Z : State} {n0 : Nat} {z : Int32} {f : Value} {vv dD dA sD sA bD bA oe : Addr} (W : Sx Z z f vv dD dA sD sA bD bA oe) (b : Addr) (bs : List Int32) (n : Int32) (h : Heap) (Fb : Vec Z h b .byte bs) (hb : bs.length.toInt32 = n) :
    Ctr l Z n0 N2 jdk_52_method_15_code 2 (some .byte) rm_codl #[(.ref b), (.int n)] h [] (fun v h' sn => v = some (.int 0) ∧ h = h' ∧ sn = []) := by
  refine Ctr.of_go (ls := #[.val (.ref b), .val (.int n)]) W.1.1 (plainFor_of_name pn_N0) (fun m => by first | (simp [entryFrame, mkF, argsToLocals, Value.category]; done) | rfl) (fun K H => ?_)
  refine Go.iloadN H d7_0 rfl rfl ?_
  refine Go.aloadN H d7_1 rfl rfl rfl ?_
  refine Go.arraylength n H d7_2 rfl Fb hb ?_
  refine Go.isub H d7_3 rfl ?_
  refine Go.bipush (31 : Int32) H d7_4 rfl rfl ?_
  refine Go.iushr H d7_6 rfl ?_
  refine Go.i2b H d7_7 rfl ?_
  exact Go.ireturn (0 : Int32) [] H d7_8 (by simp) (own_nb.trans (own_cod _)) ⟨rfl, rfl, rfl⟩ all0 (by decide) (by decide)
theorem w3 : Jvm.Cond.instantiable "java/lang/String" (4 : Nat) ∈ tables_1 := List.mem_of_getElem? (i := 3) rfl
theorem d3_0 : decode jdk_42_method_149_code 0 = .ok (.aload_n 0, 1) := by decide +kernel
theorem d3_1 : decode jdk_42_method_149_code 1 = .ok (.invokespecial 1, 3) := by decide +kernel
abbrev N3 : MethodName := ⟨"java/lang/Object", "<init>", "()V"⟩
theorem w16 : Jvm.Cond.methodLink "java/lang/String" (1 : Nat) N3 ∈ tables_1 := List.mem_of_getElem? (i := 16) rfl
theorem w17 : Jvm.Cond.instanceMethod N3 ∈ tables_1 := List.mem_of_getElem? (i := 17) rfl
theorem w18 : Jvm.Cond.code N3 object_method_1_code (1 : Nat) (Option.none : Option Jvm.ClassFile.FieldType) ∈ tables_1 := List.mem_of_getElem? (i := 18) rfl
theorem d3_4 : decode jdk_42_method_149_code 4 = .ok (.iload_n 3, 1) := by decide +kernel
theorem d3_5 : decode jdk_42_method_149_code 5 = .ok (.ifCond .ne 22, 3) := by decide +kernel
theorem d3_8 : decode jdk_42_method_149_code 8 = .ok (.aload_n 0, 1) := by decide +kernel
theorem d3_9 : decode jdk_42_method_149_code 9 = .ok (.ldc 7, 2) := by decide +kernel
theorem lt_0 : (∀ c ∈ ("" : String).toList, c.toNat < 256) ∧ ("" : String).toList.map (fun c => Value.int (Jvm.Lit.byteI c.toNat.toUInt16)) = ((([] : List Int32)).map (nar .byte)).map Value.int := by decide +kernel
theorem lt_0_l : ∀ c ∈ ([] : List Int32), isL c := own_an
theorem cm_0 : ("java/lang/String", 7) ∈ consts_1 := by decide
theorem w100 : Jvm.Cond.stringLink "java/lang/String" (7 : Nat) "" ∈ tables_1 := List.mem_of_getElem? (i := 100) rfl
theorem d3_11 : decode jdk_42_method_149_code 11 = .ok (.getfield 9, 3) := by decide +kernel
theorem w33 : Jvm.Cond.fieldLink "java/lang/String" (9 : Nat) "java/lang/String" "value" "[B" ∈ tables_1 := List.mem_of_getElem? (i := 33) rfl
theorem d3_14 : decode jdk_42_method_149_code 14 = .ok (.putfield 9, 3) := by decide +kernel
theorem w34 : Jvm.Cond.laysFinal "java/lang/String" "java/lang/String" "value" "[B" ∈ tables_1 := List.mem_of_getElem? (i := 34) rfl
theorem w32 : Jvm.Cond.laysFinal "java/lang/String" "java/lang/String" "coder" "B" ∈ tables_1 := List.mem_of_getElem? (i := 32) rfl
theorem d3_17 : decode jdk_42_method_149_code 17 = .ok (.aload_n 0, 1) := by decide +kernel
theorem d3_18 : decode jdk_42_method_149_code 18 = .ok (.ldc 7, 2) := by decide +kernel
theorem d3_20 : decode jdk_42_method_149_code 20 = .ok (.getfield 15, 3) := by decide +kernel
theorem w31 : Jvm.Cond.fieldLink "java/lang/String" (15 : Nat) "java/lang/String" "coder" "B" ∈ tables_1 := List.mem_of_getElem? (i := 31) rfl
theorem d3_23 : decode jdk_42_method_149_code 23 = .ok (.putfield 15, 3) := by decide +kernel
theorem d3_26 : decode jdk_42_method_149_code 26 = .ok (.return_, 1) := by decide +kernel
theorem d3_27 : decode jdk_42_method_149_code 27 = .ok (.getstatic 38, 3) := by decide +kernel
theorem w19 : Jvm.Cond.fieldLink "java/lang/String" (38 : Nat) "java/lang/String" "COMPACT_STRINGS" "Z" ∈ tables_1 := List.mem_of_getElem? (i := 19) rfl
theorem d3_30 : decode jdk_42_method_149_code 30 = .ok (.ifCond .eq 28, 3) := by decide +kernel
theorem d3_33 : decode jdk_42_method_149_code 33 = .ok (.aload_n 1, 1) := by decide +kernel
theorem d3_34 : decode jdk_42_method_149_code 34 = .ok (.iload_n 2, 1) := by decide +kernel
theorem d3_35 : decode jdk_42_method_149_code 35 = .ok (.iload_n 3, 1) := by decide +kernel
theorem d3_36 : decode jdk_42_method_149_code 36 = .ok (.invokestatic 177, 3) := by decide +kernel
theorem w23 : Jvm.Cond.code N1 jdk_52_method_16_code (6 : Nat) (Option.some (Jvm.ClassFile.FieldType.array Jvm.ClassFile.FieldType.byte)) ∈ tables_1 := List.mem_of_getElem? (i := 23) rfl
theorem pd_N1 : parseMethodDescriptor N1.desc = some ⟨[(.array .char), .int, .int], (some (.array .byte))⟩ := by decide +kernel
theorem w20 : Jvm.Cond.methodLink "java/lang/String" (177 : Nat) N1 ∈ tables_1 := List.mem_of_getElem? (i := 20) rfl
theorem w21 : Jvm.Cond.static N1 ∈ tables_1 := List.mem_of_getElem? (i := 21) rfl
theorem d3_39 : decode jdk_42_method_149_code 39 = .ok (.astore 5, 2) := by decide +kernel
theorem d3_41 : decode jdk_42_method_149_code 41 = .ok (.aload_n 0, 1) := by decide +kernel
theorem d3_42 : decode jdk_42_method_149_code 42 = .ok (.aload 5, 2) := by decide +kernel
theorem d3_44 : decode jdk_42_method_149_code 44 = .ok (.iload_n 3, 1) := by decide +kernel
theorem d3_45 : decode jdk_42_method_149_code 45 = .ok (.invokestatic 47, 3) := by decide +kernel
theorem w30 : Jvm.Cond.code N2 jdk_52_method_15_code (2 : Nat) (Option.some Jvm.ClassFile.FieldType.byte) ∈ tables_1 := List.mem_of_getElem? (i := 30) rfl
theorem pd_N2 : parseMethodDescriptor N2.desc = some ⟨[(.array .byte), .int], (some .byte)⟩ := by decide +kernel
theorem w28 : Jvm.Cond.methodLink "java/lang/String" (47 : Nat) N2 ∈ tables_1 := List.mem_of_getElem? (i := 28) rfl
theorem w29 : Jvm.Cond.static N2 ∈ tables_1 := List.mem_of_getElem? (i := 29) rfl
theorem d3_48 : decode jdk_42_method_149_code 48 = .ok (.putfield 15, 3) := by decide +kernel
theorem d3_51 : decode jdk_42_method_149_code 51 = .ok (.aload_n 0, 1) := by decide +kernel
theorem d3_52 : decode jdk_42_method_149_code 52 = .ok (.aload 5, 2) := by decide +kernel
theorem d3_54 : decode jdk_42_method_149_code 54 = .ok (.putfield 9, 3) := by decide +kernel
theorem d3_57 : decode jdk_42_method_149_code 57 = .ok (.return_, 1) := by decide +kernel
abbrev N4 : MethodName := ⟨"java/lang/String", "<init>", "([CIILjava/lang/Void;)V"⟩
theorem pn_N4 : plainName N4.cls = true := by first | (simp [plainName, overriddenIn]; done) | decide +kernel

abbrev rm_new4 : Room := { frames := 2, cells := 4, slots := 13, locals := 35 }
set_option maxRecDepth 65536 in
set_option maxHeartbeats 4000000 in
theorem ct_new4 (l : Launch) {Z : State} {n0 : Nat} {z : Int32} {f : Value} {vv dD dA sD sA bD bA oe : Addr} (W : Sx Z z f vv dD dA sD sA bD bA oe) (x a : Addr) (cs : List Int32) (h : Heap) (A : Exa Z h x "java/lang/String") (Fv : Fld Z h x "java/lang/String" "value" "[B" .null) (Fc : Fld Z h x "java/lang/String" "coder" "B" (.int 0)) (Fa : Vec Z h a .char cs) (hL : ∀ c ∈ cs, isL c) (hn : cs.length ≤ 13) (zx : n0 ≤ x) :
    Ctr l Z n0 N4 jdk_42_method_149_code 6 none rm_new4 #[(.ref x), (.ref a), (.int (0 : Int32)), (.int cs.length.toInt32), .null] h [x] (fun v h' sn => v = none ∧ Keep h h' [x] ∧ (∃ b, Str Z h' x b cs) ∧ sn = []) := by
  refine Ctr.of_go (ls := #[.val (.ref x), .val (.ref a), .val (.int (0 : Int32)), .val (.int cs.length.toInt32), .val .null, .unset]) W.1.1 (plainFor_of_name pn_N4) (fun m => by first | (simp [entryFrame, mkF, argsToLocals, Value.category]; done) | rfl) (fun K H => ?_)
  have KK : Keep h h [x] := Keep.refl _ _
  have hax : a ≠ x := Vec.neExa Fa A W.1.1 w3
  refine Go.aloadN H d3_0 rfl rfl rfl ?_
  refine Go.initObj H d3_1 rfl w16 w17 w18 0 rfl (Nat.le_of_eq rfl) (by decide) (by decide) ?_
  refine Go.iloadN H d3_4 rfl rfl ?_
  by_cases c1 : cs = []
  ·
    refine Go.ifN H d3_5 (teq (by rw [c1]; rfl)).2 rfl ?_
    refine Go.aloadN H d3_8 rfl rfl rfl ?_
    refine Go.ldcS ([] : List Int32) (0 : Int32) 0 H d3_9 rfl w100 cm_0 lt_0 lt_0_l (by decide) (by decide) (by decide) (by decide) (by decide) (by decide) ?_
    intro a2 b3 h4 E5 S6 q7
    replace A := A.ext E5
    replace Fv := Fv.ext E5
    replace Fc := Fc.ext E5
    replace Fa := Fa.ext E5
    replace KK := KK.ext E5
    have ne8 : x ≠ a2 := (q7 x (by simp)).1
    have ne9 : x ≠ b3 := (q7 x (by simp)).2
    show Go _ _ _ _ _ _ h4 [x] 2 4 11 #[.val (.ref x), .val (.ref a), .val (.int (0 : Int32)), .val (.int cs.length.toInt32), .val .null, .unset] [(.ref a2), (.ref x)]
    refine Go.getfield H d3_11 rfl w33 S6.2.1 ?_
    refine Go.putfield (v := (.ref b3)) H d3_14 rfl w33 Fv A (Or.inr ⟨w34, rfl, rfl⟩) w3 (ty := (.array .byte)) (by decide) rfl rfl zx (by simp) ?_
    intro h10 Wr11
    have F12 := Fv.same Wr11
    have K13 := Keep.of_wr Wr11
    replace A := A.wr Wr11
    replace Fc := Fc.other Wr11 (Or.inr (own_sne W.1.1 (Or.inr w32) (Or.inr w34) (by decide) (t := .byte) (t' := (.array .byte)) (by decide) (by decide)))
    replace Fa := Fa.keep K13 (ninS hax nin0)
    replace S6 := S6.keep K13 (ninS (Ne.symm ne8) nin0) (ninS (Ne.symm ne9) nin0)
    replace KK := KK.wr Wr11 (Or.inl (by simp))
    refine Go.aloadN H d3_17 rfl rfl rfl ?_
    refine Go.ldcS ([] : List Int32) (0 : Int32) 0 H d3_18 rfl w100 cm_0 lt_0 lt_0_l (by decide) (by decide) (by decide) (by decide) (by decide) (by decide) ?_
    intro a14 b15 h16 E17 S18 q19
    replace A := A.ext E17
    replace Fc := Fc.ext E17
    replace Fa := Fa.ext E17
    replace S6 := S6.ext E17
    replace F12 := F12.ext E17
    replace KK := KK.ext E17
    have ne20 : x ≠ a14 := (q19 x (by simp)).1
    have ne21 : x ≠ b15 := (q19 x (by simp)).2
    show Go _ _ _ _ _ _ h16 [x] 4 8 20 #[.val (.ref x), .val (.ref a), .val (.int (0 : Int32)), .val (.int cs.length.toInt32), .val .null, .unset] [(.ref a14), (.ref x)]
    refine Go.getfield H d3_20 rfl w31 S18.2.2.1 ?_
    refine Go.putfield (v := (.int (0 : Int32))) H d3_23 rfl w31 Fc A (Or.inr ⟨w32, rfl, rfl⟩) w3 (ty := .byte) (by decide) (by decide) (by decide) zx (by simp) ?_
    intro h22 Wr23
    have F24 := Fc.same Wr23
    have K25 := Keep.of_wr Wr23
    replace A := A.wr Wr23
    replace Fa := Fa.keep K25 (ninS hax nin0)
    replace S6 := S6.keep K25 (ninS (Ne.symm ne8) nin0) (ninS (Ne.symm ne9) nin0)
    replace F12 := F12.other Wr23 (Or.inr (own_sne W.1.1 (Or.inr w34) (Or.inr w32) (by decide) (t := (.array .byte)) (t' := .byte) (by decide) (by decide)))
    replace S18 := S18.keep K25 (ninS (Ne.symm ne20) nin0) (ninS (Ne.symm ne21) nin0)
    replace KK := KK.wr Wr23 (Or.inl (by simp))
    exact Go.return_ [] H d3_26 ⟨rfl, KK, ⟨_, ⟨A, F12, F24, (by rw [c1]; exact S6.2.2.2.1), hL, by omega⟩⟩, rfl⟩ all0 (by decide) (by decide)
  ·
    refine Go.ifY (pc' := 27) H d3_5 (feq (own_ne0 (by omega) (List.length_pos_iff.mpr c1))).2 (by decide) (by decide) ?_
    refine Go.getstatic H d3_27 rfl w19 W.1.2.2.1 ?_
    refine Go.ifN H d3_30 (feq W.1.2.1).1 rfl ?_
    refine Go.aloadN H d3_33 rfl rfl rfl ?_
    refine Go.iloadN H d3_34 rfl rfl ?_
    refine Go.iloadN H d3_35 rfl rfl ?_
    refine Go.callS (rest := []) 0 [(.ref a), (.int (0 : Int32)), (.int cs.length.toInt32)] H d3_36 rfl w20 w21 w22 w23 pd_N1 (ct_cmp3 l W a cs h Fa hL hn) all0 rfl rfl rfl (Nat.le_of_eq rfl) (by decide) (by decide) (by decide) (by decide) nh_N0 ?_
    rintro _ h27 _ ⟨b26, rfl, E28, g29, F30, rfl⟩
    have ne32 : x ≠ b26 := Nat.ne_of_lt (Nat.lt_of_lt_of_le A.lt g29)
    have ne33 : a ≠ b26 := Nat.ne_of_lt (Nat.lt_of_lt_of_le Fa.lt g29)
    replace A := A.ext E28
    replace Fv := Fv.ext E28
    replace Fc := Fc.ext E28
    replace Fa := Fa.ext E28
    replace KK := KK.ext E28
    show Go _ _ _ _ _ _ h27 [x] 1 13 39 #[.val (.ref x), .val (.ref a), .val (.int (0 : Int32)), .val (.int cs.length.toInt32), .val .null, .unset] [(.ref b26)]
    refine Go.astore (ls' := #[.val (.ref x), .val (.ref a), .val (.int (0 : Int32)), .val (.int cs.length.toInt32), .val .null, .val (.ref b26)]) H d3_39 rfl rfl rfl ?_
    refine Go.aloadN H d3_41 rfl rfl rfl ?_
    refine Go.aload H d3_42 rfl rfl rfl ?_
    refine Go.iloadN H d3_44 rfl rfl ?_
    refine Go.callS (rest := [(.ref x)]) 1 [(.ref b26), (.int cs.length.toInt32)] H d3_45 rfl w28 w29 w22 w30 pd_N2 (ct_codl l W b26 _ cs.length.toInt32 h27 F30 (by rw [List.length_map])) all0 rfl rfl rfl (Nat.le_of_eq rfl) (by decide) (by decide) (by decide) (by decide) nh_N0 ?_
    rintro _ _ _ ⟨rfl, rfl, rfl⟩
    show Go _ _ _ _ _ _ h27 [x] 1 13 48 #[.val (.ref x), .val (.ref a), .val (.int (0 : Int32)), .val (.int cs.length.toInt32), .val .null, .val (.ref b26)] [(.int (0 : Int32)), (.ref x)]
    refine Go.putfield (v := (.int (0 : Int32))) H d3_48 rfl w31 Fc A (Or.inr ⟨w32, rfl, rfl⟩) w3 (ty := .byte) (by decide) (by decide) (by decide) zx (by simp) ?_
    intro h34 Wr35
    have F36 := Fc.same Wr35
    have K37 := Keep.of_wr Wr35
    replace A := A.wr Wr35
    replace Fv := Fv.other Wr35 (Or.inr (own_sne W.1.1 (Or.inr w34) (Or.inr w32) (by decide) (t := (.array .byte)) (t' := .byte) (by decide) (by decide)))
    replace Fa := Fa.keep K37 (ninS hax nin0)
    replace F30 := F30.keep K37 (ninS (Ne.symm ne32) nin0)
    replace KK := KK.wr Wr35 (Or.inl (by simp))
    refine Go.aloadN H d3_51 rfl rfl rfl ?_
    refine Go.aload H d3_52 rfl rfl rfl ?_
    refine Go.putfield (v := (.ref b26)) H d3_54 rfl w33 Fv A (Or.inr ⟨w34, rfl, rfl⟩) w3 (ty := (.array .byte)) (by decide) rfl rfl zx (by simp) ?_
    intro h38 Wr39
    have F40 := Fv.same Wr39
    have K41 := Keep.of_wr Wr39
    replace A := A.wr Wr39
    replace Fa := Fa.keep K41 (ninS hax nin0)
    replace F30 := F30.keep K41 (ninS (Ne.symm ne32) nin0)
    replace F36 := F36.other Wr39 (Or.inr (own_sne W.1.1 (Or.inr w32) (Or.inr w34) (by decide) (t := .byte) (t' := (.array .byte)) (by decide) (by decide)))
    replace KK := KK.wr Wr39 (Or.inl (by simp))
    exact Go.return_ [] H d3_57 ⟨rfl, KK, ⟨_, ⟨A, F40, F36, F30, hL, by omega⟩⟩, rfl⟩ all0 (by decide) (by decide)
theorem d2_0 : decode jdk_42_method_3_code 0 = .ok (.aload_n 0, 1) := by decide +kernel
theorem d2_1 : decode jdk_42_method_3_code 1 = .ok (.aload_n 1, 1) := by decide +kernel
theorem d2_2 : decode jdk_42_method_3_code 2 = .ok (.iconst 0, 1) := by decide +kernel
theorem d2_3 : decode jdk_42_method_3_code 3 = .ok (.aload_n 1, 1) := by decide +kernel
theorem d2_4 : decode jdk_42_method_3_code 4 = .ok (.arraylength, 1) := by decide +kernel
theorem d2_5 : decode jdk_42_method_3_code 5 = .ok (.aconst_null, 1) := by decide +kernel
theorem d2_6 : decode jdk_42_method_3_code 6 = .ok (.invokespecial 27, 3) := by decide +kernel
theorem w15 : Jvm.Cond.code N4 jdk_42_method_149_code (6 : Nat) (Option.none : Option Jvm.ClassFile.FieldType) ∈ tables_1 := List.mem_of_getElem? (i := 15) rfl
theorem w4 : Jvm.Cond.initialized "java/lang/String" ∈ tables_1 := List.mem_of_getElem? (i := 4) rfl
theorem pd_N4 : parseMethodDescriptor N4.desc = some ⟨[(.array .char), .int, .int, (.object "java/lang/Void")], none⟩ := by decide +kernel
theorem nh_N4 : N4.cls ≠ "java/lang/invoke/MethodHandle" ∧ N4.cls ≠ "java/lang/invoke/VarHandle" := by decide
theorem w12 : Jvm.Cond.methodLink "java/lang/String" (27 : Nat) N4 ∈ tables_1 := List.mem_of_getElem? (i := 12) rfl
theorem w13 : Jvm.Cond.instanceMethod N4 ∈ tables_1 := List.mem_of_getElem? (i := 13) rfl
theorem d2_9 : decode jdk_42_method_3_code 9 = .ok (.return_, 1) := by decide +kernel
abbrev N5 : MethodName := ⟨"java/lang/String", "<init>", "([C)V"⟩

abbrev rm_new1 : Room := { frames := 3, cells := 4, slots := 13, locals := 52 }
set_option maxRecDepth 65536 in
set_option maxHeartbeats 4000000 in
theorem ct_new1 (l : Launch) {Z : State} {n0 : Nat} {z : Int32} {f : Value} {vv dD dA sD sA bD bA oe : Addr} (W : Sx Z z f vv dD dA sD sA bD bA oe) (x a : Addr) (cs : List Int32) (h : Heap) (A : Exa Z h x "java/lang/String") (Fv : Fld Z h x "java/lang/String" "value" "[B" .null) (Fc : Fld Z h x "java/lang/String" "coder" "B" (.int 0)) (Fa : Vec Z h a .char cs) (hL : ∀ c ∈ cs, isL c) (hn : cs.length ≤ 13) (zx : n0 ≤ x) :
    Ctr l Z n0 N5 jdk_42_method_3_code 2 none rm_new1 #[(.ref x), (.ref a)] h [x] (fun v h' sn => v = none ∧ Keep h h' [x] ∧ (∃ b, Str Z h' x b cs) ∧ sn = []) := by
  refine Ctr.of_go (ls := #[.val (.ref x), .val (.ref a)]) W.1.1 (plainFor_of_name pn_N4) (fun m => by first | (simp [entryFrame, mkF, argsToLocals, Value.category]; done) | rfl) (fun K H => ?_)
  have hax : a ≠ x := Vec.neExa Fa A W.1.1 w3
  refine Go.aloadN H d2_0 rfl rfl rfl ?_
  refine Go.aloadN H d2_1 rfl rfl rfl ?_
  refine Go.iconst (0 : Int32) H d2_2 rfl rfl ?_
  refine Go.aloadN H d2_3 rfl rfl rfl ?_
  refine Go.arraylength cs.length.toInt32 H d2_4 rfl Fa rfl ?_
  refine Go.aconstNull H d2_5 rfl ?_
  refine Go.callI (rest := []) 0 [(.ref a), (.int (0 : Int32)), (.int cs.length.toInt32), .null] H d2_6 rfl rfl w12 w13 w4 w15 pd_N4 (ct_new4 l W x a cs h A Fv Fc  Fa hL hn  zx) (by simp) rfl rfl rfl (Nat.le_of_eq rfl) (by decide) (by decide) (by decide) (by decide) nh_N4 ?_
  rintro _ h1 _ ⟨rfl, K2, ⟨b3, S5⟩, rfl⟩
  replace Fa := Fa.keep K2 (ninS hax nin0)
  show Go _ _ _ _ _ _ h1 [x] 4 13 9 #[.val (.ref x), .val (.ref a)] []
  exact Go.return_ [] H d2_9 ⟨rfl, K2, ⟨_, S5⟩, rfl⟩ all0 (by decide) (by decide)
theorem own_eqt {u v : List Int32} {i : Nat} (hl : u.length = v.length) (e : u.take i = v.take i) {p q : Int32} (h1 : u[i]? = some p) (h2 : v[i]? = some q) (hpq : p = q) : u.take (i + 1) = v.take (i + 1) := by
  rw [List.take_add_one, List.take_add_one, h1, h2, hpq, e]
theorem d11_9 : decode jdk_43_method_13_code 9 = .ok (.iload_n 2, 1) := by decide +kernel
theorem d11_10 : decode jdk_43_method_13_code 10 = .ok (.aload_n 0, 1) := by decide +kernel
theorem d11_11 : decode jdk_43_method_13_code 11 = .ok (.arraylength, 1) := by decide +kernel
theorem d11_12 : decode jdk_43_method_13_code 12 = .ok (.if_icmp .ge 20, 3) := by decide +kernel
theorem d11_32 : decode jdk_43_method_13_code 32 = .ok (.iconst 1, 1) := by decide +kernel
theorem d11_33 : decode jdk_43_method_13_code 33 = .ok (.ireturn, 1) := by decide +kernel
theorem d11_15 : decode jdk_43_method_13_code 15 = .ok (.aload_n 0, 1) := by decide +kernel
theorem d11_16 : decode jdk_43_method_13_code 16 = .ok (.iload_n 2, 1) := by decide +kernel
theorem d11_17 : decode jdk_43_method_13_code 17 = .ok (.baload, 1) := by decide +kernel
theorem d11_18 : decode jdk_43_method_13_code 18 = .ok (.aload_n 1, 1) := by decide +kernel
theorem d11_19 : decode jdk_43_method_13_code 19 = .ok (.iload_n 2, 1) := by decide +kernel
theorem d11_20 : decode jdk_43_method_13_code 20 = .ok (.baload, 1) := by decide +kernel
theorem d11_21 : decode jdk_43_method_13_code 21 = .ok (.if_icmp .eq 5, 3) := by decide +kernel
theorem d11_26 : decode jdk_43_method_13_code 26 = .ok (.iinc 2 1, 3) := by decide +kernel
theorem d11_29 : decode jdk_43_method_13_code 29 = .ok (.goto (-20), 3) := by decide +kernel
theorem d11_24 : decode jdk_43_method_13_code 24 = .ok (.iconst 0, 1) := by decide +kernel
theorem d11_25 : decode jdk_43_method_13_code 25 = .ok (.ireturn, 1) := by decide +kernel

set_option maxRecDepth 65536 in
theorem lp_leq (l : Launch) {Z : State} {n0 : Nat} {h : Heap} (a b : Addr) (u w : List Int32) (Fa : Vec Z h a .byte u) (Fb : Vec Z h b .byte w) (hu : u.length < 2 ^ 31) (hl : u.length = w.length) {R : Room} {K : Cx} (H : Ok Z K "java/lang/StringLatin1" jdk_43_method_13_code 3 (some .boolean) "equals") :
    ∀ (m i : Nat), i + m = u.length → u.take i = w.take i → Go l Z n0 R K (fun x h' sn => x = some (.int (if u = w then 1 else 0)) ∧ h = h' ∧ sn = []) h [] 0 0 9 #[.val (.ref a), .val (.ref b), .val (.int i.toInt32)] [] := by
  intro m
  induction m with
  | zero =>
    intro i hi he
    refine Go.iloadN H d11_9 rfl rfl ?_
    refine Go.aloadN H d11_10 rfl rfl rfl ?_
    refine Go.arraylength u.length.toInt32 H d11_11 rfl Fa rfl ?_
    refine Go.icmpY (pc' := 32) H d11_12 (flt (own_nlt (by omega) (by omega))).2.1 (by decide) (by decide) ?_
    refine Go.iconst (1 : Int32) H d11_32 rfl rfl ?_
    exact Go.ireturn 1 [] H d11_33 (by simp) (by decide) ⟨by rw [if_pos (by rw [List.take_of_length_le (by omega), List.take_of_length_le (by omega)] at he; exact he)], rfl, rfl⟩ all0 (Nat.zero_le _) (Nat.zero_le _)
  | succ m ih =>
    intro i hi he
    have hlt : i < u.length := by omega
    obtain ⟨p, hp⟩ : ∃ p, u[i]? = some p := ⟨_, List.getElem?_eq_getElem hlt⟩
    obtain ⟨q, hq⟩ : ∃ q, w[i]? = some q := ⟨_, List.getElem?_eq_getElem (by omega)⟩
    refine Go.iloadN H d11_9 rfl rfl ?_
    refine Go.aloadN H d11_10 rfl rfl rfl ?_
    refine Go.arraylength u.length.toInt32 H d11_11 rfl Fa rfl ?_
    refine Go.icmpN H d11_12 (tlt (own_lt hu hlt)).2.1 rfl ?_
    refine Go.aloadN H d11_15 rfl rfl rfl ?_
    refine Go.iloadN H d11_16 rfl rfl ?_
    refine Go.baload (v := p) H d11_17 rfl Fa i (own_cl (by omega)) (own_n0 (by omega)) hp ?_
    refine Go.aloadN H d11_18 rfl rfl rfl ?_
    refine Go.iloadN H d11_19 rfl rfl ?_
    refine Go.baload (v := q) H d11_20 rfl Fb i (own_cl (by omega)) (own_n0 (by omega)) hq ?_
    by_cases c1 : p = q
    ·
      refine Go.icmpY (pc' := 26) H d11_21 (teq c1).1 (by decide) (by decide) ?_
      refine Go.iinc (ls' := #[.val (.ref a), .val (.ref b), .val (.int (i.toInt32 + (1 : Int32)))]) (1 : Int32) H d11_26 rfl rfl rfl rfl ?_
      refine Go.goto (pc' := 9) H d11_29 (by decide) (by decide) ?_
      rw [own_s i]
      exact ih (i + 1) (by omega) (own_eqt hl he hp hq c1)
    ·
      refine Go.icmpN H d11_21 (feq c1).1 rfl ?_
      refine Go.iconst (0 : Int32) H d11_24 rfl rfl ?_
      exact Go.ireturn 0 [] H d11_25 (by simp) (by decide) ⟨by rw [if_neg (fun e => c1 (Option.some.inj (hp.symm.trans ((congrArg (fun z : List Int32 => z[i]?) e).trans hq))))], rfl, rfl⟩ all0 (Nat.zero_le _) (Nat.zero_le _)
theorem d11_0 : decode jdk_43_method_13_code 0 = .ok (.aload_n 0, 1) := by decide +kernel
theorem d11_1 : decode jdk_43_method_13_code 1 = .ok (.arraylength, 1) := by decide +kernel
theorem d11_2 : decode jdk_43_method_13_code 2 = .ok (.aload_n 1, 1) := by decide +kernel
theorem d11_3 : decode jdk_43_method_13_code 3 = .ok (.arraylength, 1) := by decide +kernel
theorem d11_4 : decode jdk_43_method_13_code 4 = .ok (.if_icmp .ne 30, 3) := by decide +kernel
theorem d11_7 : decode jdk_43_method_13_code 7 = .ok (.iconst 0, 1) := by decide +kernel
theorem d11_8 : decode jdk_43_method_13_code 8 = .ok (.istore_n 2, 1) := by decide +kernel
theorem d11_34 : decode jdk_43_method_13_code 34 = .ok (.iconst 0, 1) := by decide +kernel
theorem d11_35 : decode jdk_43_method_13_code 35 = .ok (.ireturn, 1) := by decide +kernel
abbrev N6 : MethodName := ⟨"java/lang/StringLatin1", "equals", "([B[B)Z"⟩
theorem pn_N6 : plainName N6.cls = true := by first | (simp [plainName, overriddenIn]; done) | decide +kernel

abbrev rm_leq : Room := { frames := 0, cells := 0, slots := 0, locals := 0 }
set_option maxRecDepth 65536 in
set_option maxHeartbeats 4000000 in
theorem ct_leq (l : Launch) {Z : State} {n0 : Nat} {z : Int32} {f : Value} {vv dD dA sD sA bD bA oe : Addr} (W : Sx Z z f vv dD dA sD sA bD bA oe) (a b : Addr) (u w : List Int32) (h : Heap) (Fa : Vec Z h a .byte u) (Fb : Vec Z h b .byte w) (hu : u.length < 2 ^ 31) (hv : w.length < 2 ^ 31) :
    Ctr l Z n0 N6 jdk_43_method_13_code 3 (some .boolean) rm_leq #[(.ref a), (.ref b)] h [] (fun v h' sn => v = some (.int (if u = w then 1 else 0)) ∧ h = h' ∧ sn = []) := by
  refine Ctr.of_go (ls := #[.val (.ref a), .val (.ref b), .unset]) W.1.1 (plainFor_of_name pn_N6) (fun m => by first | (simp [entryFrame, mkF, argsToLocals, Value.category]; done) | rfl) (fun K H => ?_)
  refine Go.aloadN H d11_0 rfl rfl rfl ?_
  refine Go.arraylength u.length.toInt32 H d11_1 rfl Fa rfl ?_
  refine Go.aloadN H d11_2 rfl rfl rfl ?_
  refine Go.arraylength w.length.toInt32 H d11_3 rfl Fb rfl ?_
  by_cases c1 : u.length = w.length
  ·
    refine Go.icmpN H d11_4 (teq (congrArg Nat.toInt32 c1)).2 rfl ?_
    refine Go.iconst (0 : Int32) H d11_7 rfl rfl ?_
    refine Go.istoreN (ls' := #[.val (.ref a), .val (.ref b), .val (.int (0 : Int32))]) H d11_8 rfl rfl ?_
    exact lp_leq l a b u w Fa Fb hu c1 H u.length 0 (by omega) rfl
  ·
    refine Go.icmpY (pc' := 34) H d11_4 (feq (fun e => c1 (own_ofinj hu hv e))).2 (by decide) (by decide) ?_
    refine Go.iconst (0 : Int32) H d11_34 rfl rfl ?_
    exact Go.ireturn 0 [] H d11_35 (by simp) (by decide) ⟨by rw [if_neg (fun e => c1 (congrArg List.length e))], rfl, rfl⟩ all0 (by decide) (by decide)
theorem d10_0 : decode jdk_42_method_66_code 0 = .ok (.aload_n 0, 1) := by decide +kernel
theorem d10_1 : decode jdk_42_method_66_code 1 = .ok (.aload_n 1, 1) := by decide +kernel
theorem d10_2 : decode jdk_42_method_66_code 2 = .ok (.if_acmp .ne 5, 3) := by decide +kernel
theorem d10_5 : decode jdk_42_method_66_code 5 = .ok (.iconst 1, 1) := by decide +kernel
theorem d10_6 : decode jdk_42_method_66_code 6 = .ok (.ireturn, 1) := by decide +kernel
theorem d10_7 : decode jdk_42_method_66_code 7 = .ok (.aload_n 1, 1) := by decide +kernel
theorem d10_8 : decode jdk_42_method_66_code 8 = .ok (.instanceof 10, 3) := by decide +kernel
theorem w63 : Jvm.Cond.classLink "java/lang/String" (10 : Nat) "java/lang/String" ∈ tables_1 := List.mem_of_getElem? (i := 63) rfl
theorem d10_11 : decode jdk_42_method_66_code 11 = .ok (.ifCond .eq 43, 3) := by decide +kernel
theorem d10_14 : decode jdk_42_method_66_code 14 = .ok (.aload_n 1, 1) := by decide +kernel
theorem d10_15 : decode jdk_42_method_66_code 15 = .ok (.checkcast 10, 3) := by decide +kernel
theorem d10_18 : decode jdk_42_method_66_code 18 = .ok (.astore_n 2, 1) := by decide +kernel
theorem d10_19 : decode jdk_42_method_66_code 19 = .ok (.getstatic 38, 3) := by decide +kernel
theorem d10_22 : decode jdk_42_method_66_code 22 = .ok (.ifCond .eq 14, 3) := by decide +kernel
theorem d10_25 : decode jdk_42_method_66_code 25 = .ok (.aload_n 0, 1) := by decide +kernel
theorem d10_26 : decode jdk_42_method_66_code 26 = .ok (.getfield 15, 3) := by decide +kernel
theorem d10_29 : decode jdk_42_method_66_code 29 = .ok (.aload_n 2, 1) := by decide +kernel
theorem d10_30 : decode jdk_42_method_66_code 30 = .ok (.getfield 15, 3) := by decide +kernel
theorem d10_33 : decode jdk_42_method_66_code 33 = .ok (.if_icmp .ne 21, 3) := by decide +kernel
theorem d10_36 : decode jdk_42_method_66_code 36 = .ok (.aload_n 0, 1) := by decide +kernel
theorem d10_37 : decode jdk_42_method_66_code 37 = .ok (.getfield 9, 3) := by decide +kernel
theorem d10_40 : decode jdk_42_method_66_code 40 = .ok (.aload_n 2, 1) := by decide +kernel
theorem d10_41 : decode jdk_42_method_66_code 41 = .ok (.getfield 9, 3) := by decide +kernel
theorem d10_44 : decode jdk_42_method_66_code 44 = .ok (.invokestatic 541, 3) := by decide +kernel
theorem w67 : Jvm.Cond.code N6 jdk_43_method_13_code (3 : Nat) (Option.some Jvm.ClassFile.FieldType.boolean) ∈ tables_1 := List.mem_of_getElem? (i := 67) rfl
theorem w66 : Jvm.Cond.initialized "java/lang/StringLatin1" ∈ tables_1 := List.mem_of_getElem? (i := 66) rfl
theorem pd_N6 : parseMethodDescriptor N6.desc = some ⟨[(.array .byte), (.array .byte)], (some .boolean)⟩ := by decide +kernel
theorem nh_N6 : N6.cls ≠ "java/lang/invoke/MethodHandle" ∧ N6.cls ≠ "java/lang/invoke/VarHandle" := by decide
theorem w64 : Jvm.Cond.methodLink "java/lang/String" (541 : Nat) N6 ∈ tables_1 := List.mem_of_getElem? (i := 64) rfl
theorem w65 : Jvm.Cond.static N6 ∈ tables_1 := List.mem_of_getElem? (i := 65) rfl
theorem d10_47 : decode jdk_42_method_66_code 47 = .ok (.ifCond .eq 7, 3) := by decide +kernel
theorem d10_50 : decode jdk_42_method_66_code 50 = .ok (.iconst 1, 1) := by decide +kernel
theorem d10_51 : decode jdk_42_method_66_code 51 = .ok (.goto 4, 3) := by decide +kernel
theorem d10_55 : decode jdk_42_method_66_code 55 = .ok (.ireturn, 1) := by decide +kernel
theorem d10_54 : decode jdk_42_method_66_code 54 = .ok (.iconst 0, 1) := by decide +kernel
abbrev N7 : MethodName := ⟨"java/lang/String", "equals", "(Ljava/lang/Object;)Z"⟩

abbrev rm_eq : Room := { frames := 1, cells := 0, slots := 0, locals := 14 }
set_option maxRecDepth 65536 in
set_option maxHeartbeats 4000000 in
theorem ct_eq (l : Launch) {Z : State} {n0 : Nat} {z : Int32} {f : Value} {vv dD dA sD sA bD bA oe : Addr} (W : Sx Z z f vv dD dA sD sA bD bA oe) (x b y d : Addr) (cs ds : List Int32) (h : Heap) (S : Str Z h x b cs) (S2 : Str Z h y d ds) :
    Ctr l Z n0 N7 jdk_42_method_66_code 3 (some .boolean) rm_eq #[(.ref x), (.ref y)] h [] (fun v h' sn => v = some (.int (if cs = ds then 1 else 0)) ∧ h = h' ∧ sn = []) := by
  refine Ctr.of_go (ls := #[.val (.ref x), .val (.ref y), .unset]) W.1.1 (plainFor_of_name pn_N4) (fun m => by first | (simp [entryFrame, mkF, argsToLocals, Value.category]; done) | rfl) (fun K H => ?_)
  have S0 := S
  have S20 := S2
  obtain ⟨A, Fv, Fc, Fb, hL, hn⟩ := S
  obtain ⟨A2, Fv2, Fc2, Fb2, hL2, hn2⟩ := S2
  refine Go.aloadN H d10_0 rfl rfl rfl ?_
  refine Go.aloadN H d10_1 rfl rfl rfl ?_
  by_cases c1 : x = y
  ·
    subst c1
    refine Go.acmpN H d10_2 rfl rfl (by simp [XT.acmp]) rfl ?_
    refine Go.iconst (1 : Int32) H d10_5 rfl rfl ?_
    exact Go.ireturn (1 : Int32) [] H d10_6 (by simp) (by decide) ⟨by rw [if_pos (S0.det S20)], rfl, rfl⟩ all0 (by decide) (by decide)
  ·
    refine Go.acmpY (pc' := 7) H d10_2 rfl rfl (by simp [XT.acmp, c1]) (by decide) (by decide) ?_
    refine Go.aloadN H d10_7 rfl rfl rfl ?_
    refine Go.instanceofY H d10_8 rfl w63 (Ins.self A2) ?_
    refine Go.ifN H d10_11 (by decide) rfl ?_
    refine Go.aloadN H d10_14 rfl rfl rfl ?_
    refine Go.checkcast H d10_15 rfl w63 (Ins.self A2) ?_
    refine Go.astoreN (ls' := #[.val (.ref x), .val (.ref y), .val (.ref y)]) H d10_18 rfl rfl rfl ?_
    refine Go.getstatic H d10_19 rfl w19 W.1.2.2.1 ?_
    refine Go.ifN H d10_22 (feq W.1.2.1).1 rfl ?_
    refine Go.aloadN H d10_25 rfl rfl rfl ?_
    refine Go.getfield H d10_26 rfl w31 Fc ?_
    refine Go.aloadN H d10_29 rfl rfl rfl ?_
    refine Go.getfield H d10_30 rfl w31 Fc2 ?_
    refine Go.icmpN H d10_33 (by decide) rfl ?_
    refine Go.aloadN H d10_36 rfl rfl rfl ?_
    refine Go.getfield H d10_37 rfl w33 Fv ?_
    refine Go.aloadN H d10_40 rfl rfl rfl ?_
    refine Go.getfield H d10_41 rfl w33 Fv2 ?_
    refine Go.callS (rest := []) 0 [(.ref b), (.ref d)] H d10_44 rfl w64 w65 w66 w67 pd_N6 (ct_leq l W b d _ _ h Fb Fb2 (by rw [List.length_map]; omega) (by rw [List.length_map]; omega)) all0 rfl rfl rfl (Nat.le_of_eq rfl) (by decide) (by decide) (by decide) (by decide) nh_N6 ?_
    rintro _ _ _ ⟨rfl, rfl, rfl⟩
    show Go _ _ _ _ _ _ h [] 0 0 47 #[.val (.ref x), .val (.ref y), .val (.ref y)] [(.int (if cs.map (nar .byte) = ds.map (nar .byte) then (1 : Int32) else 0))]
    by_cases c2 : cs = ds
    ·
      refine Go.ifN H d10_47 (feq (by rw [if_pos (congrArg _ c2)]; decide)).1 rfl ?_
      refine Go.iconst (1 : Int32) H d10_50 rfl rfl ?_
      refine Go.goto (pc' := 55) H d10_51 (by decide) (by decide) ?_
      exact Go.ireturn (1 : Int32) [] H d10_55 (by simp) (by decide) ⟨by rw [if_pos c2], rfl, rfl⟩ all0 (by decide) (by decide)
    ·
      refine Go.ifY (pc' := 54) H d10_47 (teq (by rw [if_neg (fun e => c2 (own_mapinj hL hL2 e))])).1 (by decide) (by decide) ?_
      refine Go.iconst (0 : Int32) H d10_54 rfl rfl ?_
      exact Go.ireturn (0 : Int32) [] H d10_55 (by simp) (by decide) ⟨by rw [if_neg c2], rfl, rfl⟩ all0 (by decide) (by decide)
theorem d9_0 : decode prog_2_method_1_code 0 = .ok (.getstatic 10, 3) := by decide +kernel
theorem w42 : Jvm.Cond.fieldLink "com/example/cairnstore/cairnstore/layout/Attachment" (10 : Nat) "com/example/cairnstore/cairnstore/layout/Attachment" "$VALUES" "[Lcom/example/cairnstore/cairnstore/layout/Attachment;" ∈ tables_1 := List.mem_of_getElem? (i := 42) rfl
theorem d9_3 : decode prog_2_method_1_code 3 = .ok (.invokevirtual 14, 3) := by decide +kernel
abbrev N8 : MethodName := ⟨"[Lcom/example/cairnstore/cairnstore/layout/Attachment;", "clone", "()Ljava/lang/Object;"⟩
theorem w44 : Jvm.Cond.methodLink "com/example/cairnstore/cairnstore/layout/Attachment" (14 : Nat) N8 ∈ tables_1 := List.mem_of_getElem? (i := 44) rfl
theorem w45 : Jvm.Cond.sameMethod "[Lcom/example/cairnstore/cairnstore/layout/Attachment;" "java/lang/Object" "clone" "()Ljava/lang/Object;" ∈ tables_1 := List.mem_of_getElem? (i := 45) rfl
abbrev N9 : MethodName := ⟨"java/lang/Object", "clone", "()Ljava/lang/Object;"⟩
theorem w49 : Jvm.Cond.native N9 ∈ tables_1 := List.mem_of_getElem? (i := 49) rfl
theorem w47 : Jvm.Cond.instanceMethod N9 ∈ tables_1 := List.mem_of_getElem? (i := 47) rfl
theorem w48 : Jvm.Cond.selects "[Lcom/example/cairnstore/cairnstore/layout/Attachment;" N8 N9 ∈ tables_1 := List.mem_of_getElem? (i := 48) rfl
theorem w50 : Jvm.Cond.castable "[Lcom/example/cairnstore/cairnstore/layout/Attachment;" "java/lang/Cloneable" ∈ tables_1 := List.mem_of_getElem? (i := 50) rfl
theorem d9_6 : decode prog_2_method_1_code 6 = .ok (.checkcast 15, 3) := by decide +kernel
theorem w54 : Jvm.Cond.classLink "com/example/cairnstore/cairnstore/layout/Attachment" (15 : Nat) "[Lcom/example/cairnstore/cairnstore/layout/Attachment;" ∈ tables_1 := List.mem_of_getElem? (i := 54) rfl
theorem d9_9 : decode prog_2_method_1_code 9 = .ok (.areturn, 1) := by decide +kernel
abbrev N10 : MethodName := ⟨"com/example/cairnstore/cairnstore/layout/Attachment", "values", "()[Lcom/example/cairnstore/cairnstore/layout/Attachment;"⟩
theorem pn_N10 : plainName N10.cls = true := by first | (simp [plainName, overriddenIn]; done) | decide +kernel

abbrev rm_vals : Room := { frames := 1, cells := 1, slots := 2, locals := 14 }
set_option maxRecDepth 65536 in
set_option maxHeartbeats 4000000 in
theorem ct_vals (l : Launch) {Z : State} {n0 : Nat} {z : Int32} {f : Value} {vv dD dA sD sA bD bA oe : Addr} (W : Sx Z z f vv dD dA sD sA bD bA oe) (h : Heap) :
    Ctr l Z n0 N10 prog_2_method_1_code 0 (some (.array (.object "com/example/cairnstore/cairnstore/layout/Attachment"))) rm_vals #[] h [] (fun v h' sn => ∃ c, v = some (.ref c) ∧ Ext h h' ∧ h.size ≤ c ∧ Rar Z h' c "com/example/cairnstore/cairnstore/layout/Attachment" "[Lcom/example/cairnstore/cairnstore/layout/Attachment;" [.ref dD, .ref dA] ∧ sn = []) := by
  refine Ctr.of_go (ls := #[]) W.1.1 (plainFor_of_name pn_N10) (fun m => by first | (simp [entryFrame, mkF, argsToLocals, Value.category]; done) | rfl) (fun K H => ?_)
  have KK : Keep h h [] := Keep.refl _ _
  refine Go.withOld (fun hE => ?_)
  have RV := (W.2.2.2.2.2.1).ext hE
  refine Go.getstatic H d9_0 rfl w42 W.2.1 ?_
  refine Go.clone 0 2 H d9_3 rfl w44 w45 w49 w47 w48 w50 RV (Nat.le_of_ble_eq_true rfl) rfl (by decide) (by decide) (by decide) (by decide) (by decide) ?_
  intro a1 h2 g3 z4 E5 F6
  have ne7 : vv ≠ a1 := Nat.ne_of_lt (Nat.lt_of_lt_of_le RV.lt (Nat.le_of_eq g3.symm))
  have sz8 := Nat.le_trans KK.1 (Nat.le_of_eq g3.symm)
  replace RV := RV.ext E5
  replace KK := KK.ext E5
  show Go _ _ _ _ _ _ h2 [a1] 1 2 6 #[] [(.ref a1)]
  refine Go.checkcast H d9_6 rfl w54 (Ins.self F6.exa) ?_
  exact Go.areturn [] H d9_9 rfl rfl (own_narR rfl) ⟨_, rfl, own_ext KK, Nat.le_of_eq g3.symm, F6, rfl⟩ all0 (by decide) (by decide)
theorem d13_0 : decode jdk_31_method_10_code 0 = .ok (.aload_n 0, 1) := by decide +kernel
theorem d13_1 : decode jdk_31_method_10_code 1 = .ok (.ifnonnull 11, 3) := by decide +kernel
theorem d13_12 : decode jdk_31_method_10_code 12 = .ok (.aload_n 0, 1) := by decide +kernel
theorem d13_13 : decode jdk_31_method_10_code 13 = .ok (.areturn, 1) := by decide +kernel
abbrev N11 : MethodName := ⟨"java/util/Objects", "requireNonNull", "(Ljava/lang/Object;)Ljava/lang/Object;"⟩
theorem pn_N11 : plainName N11.cls = true := by first | (simp [plainName, overriddenIn]; done) | decide +kernel

abbrev rm_rnn : Room := { frames := 0, cells := 0, slots := 0, locals := 0 }
set_option maxRecDepth 65536 in
set_option maxHeartbeats 4000000 in
theorem ct_rnn (l : Launch) {Z : State} {n0 : Nat} {z : Int32} {f : Value} {vv dD dA sD sA bD bA oe : Addr} (W : Sx Z z f vv dD dA sD sA bD bA oe) (x : Addr) (h : Heap) :
    Ctr l Z n0 N11 jdk_31_method_10_code 1 (some (.object "java/lang/Object")) rm_rnn #[(.ref x)] h [] (fun v h' sn => v = some (.ref x) ∧ h = h' ∧ sn = []) := by
  refine Ctr.of_go (ls := #[.val (.ref x)]) W.1.1 (plainFor_of_name pn_N11) (fun m => by first | (simp [entryFrame, mkF, argsToLocals, Value.category]; done) | rfl) (fun K H => ?_)
  refine Go.aloadN H d13_0 rfl rfl rfl ?_
  refine Go.ifnonnullY (pc' := 12) H d13_1 (by decide) (by decide) ?_
  refine Go.aloadN H d13_12 rfl rfl rfl ?_
  exact Go.areturn [] H d13_13 rfl rfl (own_narR rfl) ⟨rfl, rfl, rfl⟩ all0 (by decide) (by decide)
theorem d14_0 : decode jdk_32_method_2_code 0 = .ok (.aload_n 0, 1) := by decide +kernel
theorem d14_1 : decode jdk_32_method_2_code 1 = .ok (.invokespecial 7, 3) := by decide +kernel
theorem w82 : Jvm.Cond.methodLink "java/util/Optional" (7 : Nat) N3 ∈ tables_1 := List.mem_of_getElem? (i := 82) rfl
theorem d14_4 : decode jdk_32_method_2_code 4 = .ok (.aload_n 0, 1) := by decide +kernel
theorem d14_5 : decode jdk_32_method_2_code 5 = .ok (.aload_n 1, 1) := by decide +kernel
theorem d14_6 : decode jdk_32_method_2_code 6 = .ok (.putfield 13, 3) := by decide +kernel
theorem w83 : Jvm.Cond.fieldLink "java/util/Optional" (13 : Nat) "java/util/Optional" "value" "Ljava/lang/Object;" ∈ tables_1 := List.mem_of_getElem? (i := 83) rfl
theorem w84 : Jvm.Cond.laysFinal "java/util/Optional" "java/util/Optional" "value" "Ljava/lang/Object;" ∈ tables_1 := List.mem_of_getElem? (i := 84) rfl
theorem w73 : Jvm.Cond.instantiable "java/util/Optional" (1 : Nat) ∈ tables_1 := List.mem_of_getElem? (i := 73) rfl
theorem d14_9 : decode jdk_32_method_2_code 9 = .ok (.return_, 1) := by decide +kernel
abbrev N12 : MethodName := ⟨"java/util/Optional", "<init>", "(Ljava/lang/Object;)V"⟩
theorem pn_N12 : plainName N12.cls = true := by first | (simp [plainName, overriddenIn]; done) | decide +kernel

abbrev rm_opi : Room := { frames := 1, cells := 0, slots := 0, locals := 12 }
set_option maxRecDepth 65536 in
set_option maxHeartbeats 4000000 in
theorem ct_opi (l : Launch) {Z : State} {n0 : Nat} {z : Int32} {f : Value} {vv dD dA sD sA bD bA oe : Addr} (W : Sx Z z f vv dD dA sD sA bD bA oe) (o x : Addr) (h : Heap) (A : Exa Z h o "java/util/Optional") (F : Fld Z h o "java/util/Optional" "value" "Ljava/lang/Object;" .null) (zo : n0 ≤ o) :
    Ctr l Z n0 N12 jdk_32_method_2_code 2 none rm_opi #[(.ref o), (.ref x)] h [o] (fun v h' sn => v = none ∧ Keep h h' [o] ∧ Exa Z h' o "java/util/Optional" ∧ Fld Z h' o "java/util/Optional" "value" "Ljava/lang/Object;" (.ref x) ∧ sn = []) := by
  refine Ctr.of_go (ls := #[.val (.ref o), .val (.ref x)]) W.1.1 (plainFor_of_name pn_N12) (fun m => by first | (simp [entryFrame, mkF, argsToLocals, Value.category]; done) | rfl) (fun K H => ?_)
  have KK : Keep h h [o] := Keep.refl _ _
  refine Go.aloadN H d14_0 rfl rfl rfl ?_
  refine Go.initObj H d14_1 rfl w82 w17 w18 0 rfl (Nat.le_of_eq rfl) (by decide) (by decide) ?_
  refine Go.aloadN H d14_4 rfl rfl rfl ?_
  refine Go.aloadN H d14_5 rfl rfl rfl ?_
  refine Go.putfield (v := (.ref x)) H d14_6 rfl w83 F A (Or.inr ⟨w84, rfl, rfl⟩) w73 (ty := (.object "java/lang/Object")) (by decide) rfl rfl zo (by simp) ?_
  intro h1 Wr2
  have F3 := F.same Wr2
  have K4 := Keep.of_wr Wr2
  replace A := A.wr Wr2
  replace KK := KK.wr Wr2 (Or.inl (by simp))
  exact Go.return_ [] H d14_9 ⟨rfl, KK, A, F3, rfl⟩ all0 (by decide) (by decide)
theorem d12_0 : decode jdk_32_method_3_code 0 = .ok (.new 2, 3) := by decide +kernel
theorem w72 : Jvm.Cond.classLink "java/util/Optional" (2 : Nat) "java/util/Optional" ∈ tables_1 := List.mem_of_getElem? (i := 72) rfl
theorem w70 : Jvm.Cond.initialized "java/util/Optional" ∈ tables_1 := List.mem_of_getElem? (i := 70) rfl
theorem d12_3 : decode jdk_32_method_3_code 3 = .ok (.dup, 1) := by decide +kernel
theorem d12_4 : decode jdk_32_method_3_code 4 = .ok (.aload_n 0, 1) := by decide +kernel
theorem d12_5 : decode jdk_32_method_3_code 5 = .ok (.invokestatic 17, 3) := by decide +kernel
theorem w77 : Jvm.Cond.code N11 jdk_31_method_10_code (1 : Nat) (Option.some (Jvm.ClassFile.FieldType.object "java/lang/Object")) ∈ tables_1 := List.mem_of_getElem? (i := 77) rfl
theorem w76 : Jvm.Cond.initialized "java/util/Objects" ∈ tables_1 := List.mem_of_getElem? (i := 76) rfl
theorem pd_N11 : parseMethodDescriptor N11.desc = some ⟨[(.object "java/lang/Object")], (some (.object "java/lang/Object"))⟩ := by decide +kernel
theorem nh_N11 : N11.cls ≠ "java/lang/invoke/MethodHandle" ∧ N11.cls ≠ "java/lang/invoke/VarHandle" := by decide
theorem w74 : Jvm.Cond.methodLink "java/util/Optional" (17 : Nat) N11 ∈ tables_1 := List.mem_of_getElem? (i := 74) rfl
theorem w75 : Jvm.Cond.static N11 ∈ tables_1 := List.mem_of_getElem? (i := 75) rfl
theorem d12_8 : decode jdk_32_method_3_code 8 = .ok (.invokespecial 23, 3) := by decide +kernel
theorem w81 : Jvm.Cond.code N12 jdk_32_method_2_code (2 : Nat) (Option.none : Option Jvm.ClassFile.FieldType) ∈ tables_1 := List.mem_of_getElem? (i := 81) rfl
theorem pd_N12 : parseMethodDescriptor N12.desc = some ⟨[(.object "java/lang/Object")], none⟩ := by decide +kernel
theorem nh_N12 : N12.cls ≠ "java/lang/invoke/MethodHandle" ∧ N12.cls ≠ "java/lang/invoke/VarHandle" := by decide
theorem w78 : Jvm.Cond.methodLink "java/util/Optional" (23 : Nat) N12 ∈ tables_1 := List.mem_of_getElem? (i := 78) rfl
theorem w79 : Jvm.Cond.instanceMethod N12 ∈ tables_1 := List.mem_of_getElem? (i := 79) rfl
theorem d12_11 : decode jdk_32_method_3_code 11 = .ok (.areturn, 1) := by decide +kernel
abbrev N13 : MethodName := ⟨"java/util/Optional", "of", "(Ljava/lang/Object;)Ljava/util/Optional;"⟩

abbrev rm_opo : Room := { frames := 2, cells := 1, slots := 1, locals := 26 }
set_option maxRecDepth 65536 in
set_option maxHeartbeats 4000000 in
theorem ct_opo (l : Launch) {Z : State} {n0 : Nat} {z : Int32} {f : Value} {vv dD dA sD sA bD bA oe : Addr} (W : Sx Z z f vv dD dA sD sA bD bA oe) (x : Addr) (h : Heap) :
    Ctr l Z n0 N13 jdk_32_method_3_code 1 (some (.object "java/util/Optional")) rm_opo #[(.ref x)] h [] (fun v h' sn => ∃ o, v = some (.ref o) ∧ Ext h h' ∧ Exa Z h' o "java/util/Optional" ∧ Fld Z h' o "java/util/Optional" "value" "Ljava/lang/Object;" (.ref x) ∧ sn = []) := by
  refine Ctr.of_go (ls := #[.val (.ref x)]) W.1.1 (plainFor_of_name pn_N12) (fun m => by first | (simp [entryFrame, mkF, argsToLocals, Value.category]; done) | rfl) (fun K H => ?_)
  have KK : Keep h h [] := Keep.refl _ _
  refine Go.new H d12_0 rfl w72 w73 w70 (by decide) (by decide) ?_
  intro a1 h2 g3 z4 E5 A6 D7
  have sz8 := Nat.le_trans KK.1 (Nat.le_of_eq g3.symm)
  replace KK := KK.ext E5
  have F9 : Fld Z h2 a1 "java/util/Optional" "value" "Ljava/lang/Object;" .null := D7 (Or.inr w84) (ty := (.object "java/lang/Object")) (by decide)
  show Go _ _ _ _ _ _ h2 [a1] 1 1 3 #[.val (.ref x)] [(.ref a1)]
  refine Go.dup H d12_3 rfl rfl ?_
  refine Go.aloadN H d12_4 rfl rfl rfl ?_
  refine Go.callS (rest := [(.ref a1), (.ref a1)]) 2 [(.ref x)] H d12_5 rfl w74 w75 w76 w77 pd_N11 (ct_rnn l W x h2) all0 rfl rfl rfl (Nat.le_of_eq rfl) (by decide) (by decide) (by decide) (by decide) nh_N11 ?_
  rintro _ _ _ ⟨rfl, rfl, rfl⟩
  show Go _ _ _ _ _ _ h2 [a1] 1 1 8 #[.val (.ref x)] [(.ref x), (.ref a1), (.ref a1)]
  refine Go.callI (rest := [(.ref a1)]) 1 [(.ref x)] H d12_8 rfl rfl w78 w79 w70 w81 pd_N12 (ct_opi l W a1 x h2 A6 F9 z4) (by simp) rfl rfl rfl (Nat.le_of_eq rfl) (by decide) (by decide) (by decide) (by decide) nh_N12 ?_
  rintro _ h10 _ ⟨rfl, K11, A12, F13, rfl⟩
  replace KK := KK.trans K11 (allS (Or.inr sz8) all0)
  show Go _ _ _ _ _ _ h10 [a1] 1 1 11 #[.val (.ref x)] [(.ref a1)]
  exact Go.areturn [] H d12_11 rfl rfl (own_narR rfl) ⟨_, rfl, own_ext KK, A12, F13, rfl⟩ all0 (by decide) (by decide)
theorem d17_0 : decode jdk_32_method_1_code 0 = .ok (.getstatic 1, 3) := by decide +kernel
theorem w99 : Jvm.Cond.fieldLink "java/util/Optional" (1 : Nat) "java/util/Optional" "EMPTY" "Ljava/util/Optional;" ∈ tables_1 := List.mem_of_getElem? (i := 99) rfl
theorem d17_3 : decode jdk_32_method_1_code 3 = .ok (.astore_n 0, 1) := by decide +kernel
theorem d17_4 : decode jdk_32_method_1_code 4 = .ok (.aload_n 0, 1) := by decide +kernel
theorem d17_5 : decode jdk_32_method_1_code 5 = .ok (.areturn, 1) := by decide +kernel
abbrev N14 : MethodName := ⟨"java/util/Optional", "empty", "()Ljava/util/Optional;"⟩

abbrev rm_ope : Room := { frames := 0, cells := 0, slots := 0, locals := 0 }
set_option maxRecDepth 65536 in
set_option maxHeartbeats 4000000 in
theorem ct_ope (l : Launch) {Z : State} {n0 : Nat} {z : Int32} {f : Value} {vv dD dA sD sA bD bA oe : Addr} (W : Sx Z z f vv dD dA sD sA bD bA oe) (h : Heap) :
    Ctr l Z n0 N14 jdk_32_method_1_code 1 (some (.object "java/util/Optional")) rm_ope #[] h [] (fun v h' sn => v = some (.ref oe) ∧ h = h' ∧ sn = []) := by
  refine Ctr.of_go (ls := #[.unset]) W.1.1 (plainFor_of_name pn_N12) (fun m => by first | (simp [entryFrame, mkF, argsToLocals, Value.category]; done) | rfl) (fun K H => ?_)
  refine Go.getstatic H d17_0 rfl w99 W.2.2.2.2.1 ?_
  refine Go.astoreN (ls' := #[.val (.ref oe)]) H d17_3 rfl rfl rfl ?_
  refine Go.aloadN H d17_4 rfl rfl rfl ?_
  exact Go.areturn [] H d17_5 rfl rfl (own_narR rfl) ⟨rfl, rfl, rfl⟩ all0 (by decide) (by decide)
theorem d15_0 : decode jdk_32_method_6_code 0 = .ok (.aload_n 0, 1) := by decide +kernel
theorem d15_1 : decode jdk_32_method_6_code 1 = .ok (.getfield 13, 3) := by decide +kernel
theorem d15_4 : decode jdk_32_method_6_code 4 = .ok (.ifnull 7, 3) := by decide +kernel
theorem d15_11 : decode jdk_32_method_6_code 11 = .ok (.iconst 0, 1) := by decide +kernel
theorem d15_12 : decode jdk_32_method_6_code 12 = .ok (.ireturn, 1) := by decide +kernel
abbrev N15 : MethodName := ⟨"java/util/Optional", "isPresent", "()Z"⟩

abbrev rm_isp0 : Room := { frames := 0, cells := 0, slots := 0, locals := 0 }
set_option maxRecDepth 65536 in
set_option maxHeartbeats 4000000 in
theorem ct_isp0 (l : Launch) {Z : State} {n0 : Nat} {z : Int32} {f : Value} {vv dD dA sD sA bD bA oe : Addr} (W : Sx Z z f vv dD dA sD sA bD bA oe) (o : Addr) (h : Heap) (F : Fld Z h o "java/util/Optional" "value" "Ljava/lang/Object;" .null) :
    Ctr l Z n0 N15 jdk_32_method_6_code 1 (some .boolean) rm_isp0 #[(.ref o)] h [] (fun v h' sn => v = some (.int 0) ∧ h = h' ∧ sn = []) := by
  refine Ctr.of_go (ls := #[.val (.ref o)]) W.1.1 (plainFor_of_name pn_N12) (fun m => by first | (simp [entryFrame, mkF, argsToLocals, Value.category]; done) | rfl) (fun K H => ?_)
  refine Go.aloadN H d15_0 rfl rfl rfl ?_
  refine Go.getfield H d15_1 rfl w83 F ?_
  refine Go.ifnullY (pc' := 11) H d15_4 (by decide) (by decide) ?_
  refine Go.iconst (0 : Int32) H d15_11 rfl rfl ?_
  exact Go.ireturn (0 : Int32) [] H d15_12 (by simp) (by decide) ⟨rfl, rfl, rfl⟩ all0 (by decide) (by decide)
theorem d15_7 : decode jdk_32_method_6_code 7 = .ok (.iconst 1, 1) := by decide +kernel
theorem d15_8 : decode jdk_32_method_6_code 8 = .ok (.goto 4, 3) := by decide +kernel

abbrev rm_isp1 : Room := { frames := 0, cells := 0, slots := 0, locals := 0 }
set_option maxRecDepth 65536 in
set_option maxHeartbeats 4000000 in
theorem ct_isp1 (l : Launch) {Z : State} {n0 : Nat} {z : Int32} {f : Value} {vv dD dA sD sA bD bA oe : Addr} (W : Sx Z z f vv dD dA sD sA bD bA oe) (o x : Addr) (h : Heap) (F : Fld Z h o "java/util/Optional" "value" "Ljava/lang/Object;" (.ref x)) :
    Ctr l Z n0 N15 jdk_32_method_6_code 1 (some .boolean) rm_isp1 #[(.ref o)] h [] (fun v h' sn => v = some (.int 1) ∧ h = h' ∧ sn = []) := by
  refine Ctr.of_go (ls := #[.val (.ref o)]) W.1.1 (plainFor_of_name pn_N12) (fun m => by first | (simp [entryFrame, mkF, argsToLocals, Value.category]; done) | rfl) (fun K H => ?_)
  refine Go.aloadN H d15_0 rfl rfl rfl ?_
  refine Go.getfield H d15_1 rfl w83 F ?_
  refine Go.ifnullN H d15_4 rfl ?_
  refine Go.iconst (1 : Int32) H d15_7 rfl rfl ?_
  refine Go.goto (pc' := 12) H d15_8 (by decide) (by decide) ?_
  exact Go.ireturn (1 : Int32) [] H d15_12 (by simp) (by decide) ⟨rfl, rfl, rfl⟩ all0 (by decide) (by decide)
theorem d16_0 : decode jdk_32_method_5_code 0 = .ok (.aload_n 0, 1) := by decide +kernel
theorem d16_1 : decode jdk_32_method_5_code 1 = .ok (.getfield 13, 3) := by decide +kernel
theorem d16_4 : decode jdk_32_method_5_code 4 = .ok (.ifnonnull 13, 3) := by decide +kernel
theorem d16_17 : decode jdk_32_method_5_code 17 = .ok (.aload_n 0, 1) := by decide +kernel
theorem d16_18 : decode jdk_32_method_5_code 18 = .ok (.getfield 13, 3) := by decide +kernel
theorem d16_21 : decode jdk_32_method_5_code 21 = .ok (.areturn, 1) := by decide +kernel
abbrev N16 : MethodName := ⟨"java/util/Optional", "get", "()Ljava/lang/Object;"⟩

abbrev rm_opg : Room := { frames := 0, cells := 0, slots := 0, locals := 0 }
set_option maxRecDepth 65536 in
set_option maxHeartbeats 4000000 in
theorem ct_opg (l : Launch) {Z : State} {n0 : Nat} {z : Int32} {f : Value} {vv dD dA sD sA bD bA oe : Addr} (W : Sx Z z f vv dD dA sD sA bD bA oe) (o x : Addr) (h : Heap) (F : Fld Z h o "java/util/Optional" "value" "Ljava/lang/Object;" (.ref x)) :
    Ctr l Z n0 N16 jdk_32_method_5_code 1 (some (.object "java/lang/Object")) rm_opg #[(.ref o)] h [] (fun v h' sn => v = some (.ref x) ∧ h = h' ∧ sn = []) := by
  refine Ctr.of_go (ls := #[.val (.ref o)]) W.1.1 (plainFor_of_name pn_N12) (fun m => by first | (simp [entryFrame, mkF, argsToLocals, Value.category]; done) | rfl) (fun K H => ?_)
  refine Go.aloadN H d16_0 rfl rfl rfl ?_
  refine Go.getfield H d16_1 rfl w83 F ?_
  refine Go.ifnonnullY (pc' := 17) H d16_4 (by decide) (by decide) ?_
  refine Go.aloadN H d16_17 rfl rfl rfl ?_
  refine Go.getfield H d16_18 rfl w83 F ?_
  exact Go.areturn [] H d16_21 rfl rfl (own_narR rfl) ⟨rfl, rfl, rfl⟩ all0 (by decide) (by decide)
def selV (dD dA : Addr) (cs : List Int32) : Value := if [(102 : Int32), (99 : Int32), (114 : Int32), (58 : Int32), (109 : Int32), (101 : Int32), (116 : Int32), (97 : Int32), (100 : Int32), (97 : Int32), (116 : Int32), (97 : Int32)] = cs then .ref dD else if [(102 : Int32), (99 : Int32), (114 : Int32), (58 : Int32), (97 : Int32), (99 : Int32), (108 : Int32)] = cs then .ref dA else .null
theorem d8_0 : decode prog_2_method_4_code 0 = .ok (.invokestatic 46, 3) := by decide +kernel
theorem w41 : Jvm.Cond.code N10 prog_2_method_1_code (0 : Nat) (Option.some (Jvm.ClassFile.FieldType.array (Jvm.ClassFile.FieldType.object "com/example/cairnstore/cairnstore/layout/Attachment"))) ∈ tables_1 := List.mem_of_getElem? (i := 41) rfl
theorem w37 : Jvm.Cond.initialized "com/example/cairnstore/cairnstore/layout/Attachment" ∈ tables_1 := List.mem_of_getElem? (i := 37) rfl
theorem pd_N10 : parseMethodDescriptor N10.desc = some ⟨[], (some (.array (.object "com/example/cairnstore/cairnstore/layout/Attachment")))⟩ := by decide +kernel
theorem nh_N10 : N10.cls ≠ "java/lang/invoke/MethodHandle" ∧ N10.cls ≠ "java/lang/invoke/VarHandle" := by decide
theorem w39 : Jvm.Cond.methodLink "com/example/cairnstore/cairnstore/layout/Attachment" (46 : Nat) N10 ∈ tables_1 := List.mem_of_getElem? (i := 39) rfl
theorem w40 : Jvm.Cond.static N10 ∈ tables_1 := List.mem_of_getElem? (i := 40) rfl
theorem d8_3 : decode prog_2_method_4_code 3 = .ok (.astore_n 1, 1) := by decide +kernel
theorem d8_4 : decode prog_2_method_4_code 4 = .ok (.aload_n 1, 1) := by decide +kernel
theorem d8_5 : decode prog_2_method_4_code 5 = .ok (.arraylength, 1) := by decide +kernel
theorem d8_6 : decode prog_2_method_4_code 6 = .ok (.istore_n 2, 1) := by decide +kernel
theorem d8_7 : decode prog_2_method_4_code 7 = .ok (.iconst 0, 1) := by decide +kernel
theorem d8_8 : decode prog_2_method_4_code 8 = .ok (.istore_n 3, 1) := by decide +kernel
theorem d8_9 : decode prog_2_method_4_code 9 = .ok (.iload_n 3, 1) := by decide +kernel
theorem d8_10 : decode prog_2_method_4_code 10 = .ok (.iload_n 2, 1) := by decide +kernel
theorem d8_11 : decode prog_2_method_4_code 11 = .ok (.if_icmp .ge 32, 3) := by decide +kernel
theorem d8_14 : decode prog_2_method_4_code 14 = .ok (.aload_n 1, 1) := by decide +kernel
theorem d8_15 : decode prog_2_method_4_code 15 = .ok (.iload_n 3, 1) := by decide +kernel
theorem d8_16 : decode prog_2_method_4_code 16 = .ok (.aaload, 1) := by decide +kernel
theorem d8_17 : decode prog_2_method_4_code 17 = .ok (.astore 4, 2) := by decide +kernel
theorem d8_19 : decode prog_2_method_4_code 19 = .ok (.aload 4, 2) := by decide +kernel
theorem d8_21 : decode prog_2_method_4_code 21 = .ok (.getfield 33, 3) := by decide +kernel
theorem w56 : Jvm.Cond.fieldLink "com/example/cairnstore/cairnstore/layout/Attachment" (33 : Nat) "com/example/cairnstore/cairnstore/layout/Attachment" "segment" "Ljava/lang/String;" ∈ tables_1 := List.mem_of_getElem? (i := 56) rfl
theorem d8_24 : decode prog_2_method_4_code 24 = .ok (.aload_n 0, 1) := by decide +kernel
theorem d8_25 : decode prog_2_method_4_code 25 = .ok (.invokevirtual 50, 3) := by decide +kernel
theorem w62 : Jvm.Cond.code N7 jdk_42_method_66_code (3 : Nat) (Option.some Jvm.ClassFile.FieldType.boolean) ∈ tables_1 := List.mem_of_getElem? (i := 62) rfl
theorem pd_N7 : parseMethodDescriptor N7.desc = some ⟨[(.object "java/lang/Object")], (some .boolean)⟩ := by decide +kernel
theorem w58 : Jvm.Cond.methodLink "com/example/cairnstore/cairnstore/layout/Attachment" (50 : Nat) N7 ∈ tables_1 := List.mem_of_getElem? (i := 58) rfl
theorem w59 : Jvm.Cond.declares N7 ∈ tables_1 := List.mem_of_getElem? (i := 59) rfl
theorem w61 : Jvm.Cond.selects "java/lang/String" N7 N7 ∈ tables_1 := List.mem_of_getElem? (i := 61) rfl
theorem w60 : Jvm.Cond.instanceMethod N7 ∈ tables_1 := List.mem_of_getElem? (i := 60) rfl
theorem d8_28 : decode prog_2_method_4_code 28 = .ok (.ifCond .eq 9, 3) := by decide +kernel
theorem d8_31 : decode prog_2_method_4_code 31 = .ok (.aload 4, 2) := by decide +kernel
theorem d8_33 : decode prog_2_method_4_code 33 = .ok (.invokestatic 56, 3) := by decide +kernel
theorem w71 : Jvm.Cond.code N13 jdk_32_method_3_code (1 : Nat) (Option.some (Jvm.ClassFile.FieldType.object "java/util/Optional")) ∈ tables_1 := List.mem_of_getElem? (i := 71) rfl
theorem pd_N13 : parseMethodDescriptor N13.desc = some ⟨[(.object "java/lang/Object")], (some (.object "java/util/Optional"))⟩ := by decide +kernel
theorem w68 : Jvm.Cond.methodLink "com/example/cairnstore/cairnstore/layout/Attachment" (56 : Nat) N13 ∈ tables_1 := List.mem_of_getElem? (i := 68) rfl
theorem w69 : Jvm.Cond.static N13 ∈ tables_1 := List.mem_of_getElem? (i := 69) rfl
theorem d8_36 : decode prog_2_method_4_code 36 = .ok (.areturn, 1) := by decide +kernel
theorem d8_37 : decode prog_2_method_4_code 37 = .ok (.iinc 3 1, 3) := by decide +kernel
theorem d8_40 : decode prog_2_method_4_code 40 = .ok (.goto (-31), 3) := by decide +kernel
theorem d8_43 : decode prog_2_method_4_code 43 = .ok (.invokestatic 62, 3) := by decide +kernel
theorem w98 : Jvm.Cond.code N14 jdk_32_method_1_code (1 : Nat) (Option.some (Jvm.ClassFile.FieldType.object "java/util/Optional")) ∈ tables_1 := List.mem_of_getElem? (i := 98) rfl
theorem pd_N14 : parseMethodDescriptor N14.desc = some ⟨[], (some (.object "java/util/Optional"))⟩ := by decide +kernel
theorem w96 : Jvm.Cond.methodLink "com/example/cairnstore/cairnstore/layout/Attachment" (62 : Nat) N14 ∈ tables_1 := List.mem_of_getElem? (i := 96) rfl
theorem w97 : Jvm.Cond.static N14 ∈ tables_1 := List.mem_of_getElem? (i := 97) rfl
theorem d8_46 : decode prog_2_method_4_code 46 = .ok (.areturn, 1) := by decide +kernel
abbrev N17 : MethodName := ⟨"com/example/cairnstore/cairnstore/layout/Attachment", "bySegment", "(Ljava/lang/String;)Ljava/util/Optional;"⟩

abbrev rm_bys : Room := { frames := 3, cells := 2, slots := 3, locals := 38 }
set_option maxRecDepth 65536 in
set_option maxHeartbeats 4000000 in
theorem ct_bys (l : Launch) {Z : State} {n0 : Nat} {z : Int32} {f : Value} {vv dD dA sD sA bD bA oe : Addr} (W : Sx Z z f vv dD dA sD sA bD bA oe) (x b : Addr) (cs : List Int32) (h : Heap) (S : Str Z h x b cs) :
    Ctr l Z n0 N17 prog_2_method_4_code 5 (some (.object "java/util/Optional")) rm_bys #[(.ref x)] h [] (fun v h' sn => ∃ o, v = some (.ref o) ∧ Ext h h' ∧ Exa Z h' o "java/util/Optional" ∧ Fld Z h' o "java/util/Optional" "value" "Ljava/lang/Object;" (selV dD dA cs) ∧ sn = []) := by
  refine Ctr.of_go (ls := #[.val (.ref x), .unset, .unset, .unset, .unset]) W.1.1 (plainFor_of_name pn_N10) (fun m => by first | (simp [entryFrame, mkF, argsToLocals, Value.category]; done) | rfl) (fun K H => ?_)
  have KK : Keep h h [] := Keep.refl _ _
  refine Go.withOld (fun hE => ?_)
  have GD := (W.2.2.2.2.2.2.1).ext hE
  have SD := (W.2.2.2.2.2.2.2.1).ext hE
  have GA := (W.2.2.2.2.2.2.2.2.1).ext hE
  have SA := (W.2.2.2.2.2.2.2.2.2.1).ext hE
  have EO := (W.2.2.2.2.2.2.2.2.2.2.1).ext hE
  have FE := (W.2.2.2.2.2.2.2.2.2.2.2).ext hE
  refine Go.callS (rest := []) 0 [] H d8_0 rfl w39 w40 w37 w41 pd_N10 (ct_vals l W h) all0 rfl rfl rfl (Nat.le_of_eq rfl) (by decide) (by decide) (by decide) (by decide) nh_N10 ?_
  rintro _ h2 _ ⟨c1, rfl, E3, g4, F5, rfl⟩
  have ne6 : x ≠ c1 := Nat.ne_of_lt (Nat.lt_of_lt_of_le S.lt g4)
  have ne7 : b ≠ c1 := Nat.ne_of_lt (Nat.lt_of_lt_of_le S.ltb g4)
  have ne8 : dD ≠ c1 := Nat.ne_of_lt (Nat.lt_of_lt_of_le GD.lt g4)
  have ne9 : sD ≠ c1 := Nat.ne_of_lt (Nat.lt_of_lt_of_le SD.lt g4)
  have ne10 : bD ≠ c1 := Nat.ne_of_lt (Nat.lt_of_lt_of_le SD.ltb g4)
  have ne11 : dA ≠ c1 := Nat.ne_of_lt (Nat.lt_of_lt_of_le GA.lt g4)
  have ne12 : sA ≠ c1 := Nat.ne_of_lt (Nat.lt_of_lt_of_le SA.lt g4)
  have ne13 : bA ≠ c1 := Nat.ne_of_lt (Nat.lt_of_lt_of_le SA.ltb g4)
  have ne14 : oe ≠ c1 := Nat.ne_of_lt (Nat.lt_of_lt_of_le EO.lt g4)
  replace S := S.ext E3
  replace GD := GD.ext E3
  replace SD := SD.ext E3
  replace GA := GA.ext E3
  replace SA := SA.ext E3
  replace EO := EO.ext E3
  replace FE := FE.ext E3
  replace KK := KK.ext E3
  show Go _ _ _ _ _ _ h2 [] 1 2 3 #[.val (.ref x), .unset, .unset, .unset, .unset] [(.ref c1)]
  refine Go.astoreN (ls' := #[.val (.ref x), .val (.ref c1), .unset, .unset, .unset]) H d8_3 rfl rfl rfl ?_
  refine Go.aloadN H d8_4 rfl rfl rfl ?_
  refine Go.arraylengthR (2 : Int32) H d8_5 rfl F5 rfl ?_
  refine Go.istoreN (ls' := #[.val (.ref x), .val (.ref c1), .val (.int (2 : Int32)), .unset, .unset]) H d8_6 rfl rfl ?_
  refine Go.iconst (0 : Int32) H d8_7 rfl rfl ?_
  refine Go.istoreN (ls' := #[.val (.ref x), .val (.ref c1), .val (.int (2 : Int32)), .val (.int (0 : Int32)), .unset]) H d8_8 rfl rfl ?_
  refine Go.iloadN H d8_9 rfl rfl ?_
  refine Go.iloadN H d8_10 rfl rfl ?_
  refine Go.icmpN H d8_11 (by decide) rfl ?_
  refine Go.aloadN H d8_14 rfl rfl rfl ?_
  refine Go.iloadN H d8_15 rfl rfl ?_
  refine Go.aaload H d8_16 rfl F5 0 (by decide) (by decide) rfl ?_
  refine Go.astore (ls' := #[.val (.ref x), .val (.ref c1), .val (.int (2 : Int32)), .val (.int (0 : Int32)), .val (.ref dD)]) H d8_17 rfl rfl rfl ?_
  refine Go.aload H d8_19 rfl rfl rfl ?_
  refine Go.getfield H d8_21 rfl w56 GD ?_
  refine Go.aloadN H d8_24 rfl rfl rfl ?_
  refine Go.callV (rest := []) 0 [(.ref x)] H d8_25 rfl SD.1 w58 w59 w61 w60 w4 w62 pd_N7 (ct_eq l W sD bD x b [(102 : Int32), (99 : Int32), (114 : Int32), (58 : Int32), (109 : Int32), (101 : Int32), (116 : Int32), (97 : Int32), (100 : Int32), (97 : Int32), (116 : Int32), (97 : Int32)] cs h2 SD S) all0 rfl rfl rfl (Nat.le_of_eq rfl) (by decide) (by decide) (by decide) (by decide) nh_N4 ?_
  rintro _ _ _ ⟨rfl, rfl, rfl⟩
  show Go _ _ _ _ _ _ h2 [] 1 2 28 #[.val (.ref x), .val (.ref c1), .val (.int (2 : Int32)), .val (.int (0 : Int32)), .val (.ref dD)] [(.int (if [(102 : Int32), (99 : Int32), (114 : Int32), (58 : Int32), (109 : Int32), (101 : Int32), (116 : Int32), (97 : Int32), (100 : Int32), (97 : Int32), (116 : Int32), (97 : Int32)] = cs then (1 : Int32) else 0))]
  by_cases c15 : [(102 : Int32), (99 : Int32), (114 : Int32), (58 : Int32), (109 : Int32), (101 : Int32), (116 : Int32), (97 : Int32), (100 : Int32), (97 : Int32), (116 : Int32), (97 : Int32)] = cs
  ·
    refine Go.ifN H d8_28 (feq (by rw [if_pos c15]; decide)).1 rfl ?_
    refine Go.aload H d8_31 rfl rfl rfl ?_
    refine Go.callS (rest := []) 0 [(.ref dD)] H d8_33 rfl w68 w69 w70 w71 pd_N13 (ct_opo l W dD h2) all0 rfl rfl rfl (Nat.le_of_eq rfl) (by decide) (by decide) (by decide) (by decide) nh_N12 ?_
    rintro _ h17 _ ⟨o16, rfl, E18, A19, F20, rfl⟩
    replace S := S.ext E18
    replace GD := GD.ext E18
    replace SD := SD.ext E18
    replace GA := GA.ext E18
    replace SA := SA.ext E18
    replace EO := EO.ext E18
    replace FE := FE.ext E18
    replace F5 := F5.ext E18
    replace KK := KK.ext E18
    show Go _ _ _ _ _ _ h17 [] 2 3 36 #[.val (.ref x), .val (.ref c1), .val (.int (2 : Int32)), .val (.int (0 : Int32)), .val (.ref dD)] [(.ref o16)]
    exact Go.areturn [] H d8_36 rfl rfl (own_narR rfl) ⟨_, rfl, own_ext KK, A19, (by rw [selV, if_pos c15]; exact F20), rfl⟩ all0 (by decide) (by decide)
  ·
    refine Go.ifY (pc' := 37) H d8_28 (teq (by rw [if_neg c15])).1 (by decide) (by decide) ?_
    refine Go.iinc (ls' := #[.val (.ref x), .val (.ref c1), .val (.int (2 : Int32)), .val (.int ((0 : Int32) + (1 : Int32))), .val (.ref dD)]) (1 : Int32) H d8_37 rfl rfl rfl rfl ?_
    show Go _ _ _ _ _ _ h2 [] 1 2 40 #[.val (.ref x), .val (.ref c1), .val (.int (2 : Int32)), .val (.int (1 : Int32)), .val (.ref dD)] []
    refine Go.goto (pc' := 9) H d8_40 (by decide) (by decide) ?_
    refine Go.iloadN H d8_9 rfl rfl ?_
    refine Go.iloadN H d8_10 rfl rfl ?_
    refine Go.icmpN H d8_11 (by decide) rfl ?_
    refine Go.aloadN H d8_14 rfl rfl rfl ?_
    refine Go.iloadN H d8_15 rfl rfl ?_
    refine Go.aaload H d8_16 rfl F5 1 (by decide) (by decide) rfl ?_
    refine Go.astore (ls' := #[.val (.ref x), .val (.ref c1), .val (.int (2 : Int32)), .val (.int (1 : Int32)), .val (.ref dA)]) H d8_17 rfl rfl rfl ?_
    refine Go.aload H d8_19 rfl rfl rfl ?_
    refine Go.getfield H d8_21 rfl w56 GA ?_
    refine Go.aloadN H d8_24 rfl rfl rfl ?_
    refine Go.callV (rest := []) 0 [(.ref x)] H d8_25 rfl SA.1 w58 w59 w61 w60 w4 w62 pd_N7 (ct_eq l W sA bA x b [(102 : Int32), (99 : Int32), (114 : Int32), (58 : Int32), (97 : Int32), (99 : Int32), (108 : Int32)] cs h2 SA S) all0 rfl rfl rfl (Nat.le_of_eq rfl) (by decide) (by decide) (by decide) (by decide) nh_N4 ?_
    rintro _ _ _ ⟨rfl, rfl, rfl⟩
    show Go _ _ _ _ _ _ h2 [] 1 2 28 #[.val (.ref x), .val (.ref c1), .val (.int (2 : Int32)), .val (.int (1 : Int32)), .val (.ref dA)] [(.int (if [(102 : Int32), (99 : Int32), (114 : Int32), (58 : Int32), (97 : Int32), (99 : Int32), (108 : Int32)] = cs then (1 : Int32) else 0))]
    by_cases c21 : [(102 : Int32), (99 : Int32), (114 : Int32), (58 : Int32), (97 : Int32), (99 : Int32), (108 : Int32)] = cs
    ·
      refine Go.ifN H d8_28 (feq (by rw [if_pos c21]; decide)).1 rfl ?_
      refine Go.aload H d8_31 rfl rfl rfl ?_
      refine Go.callS (rest := []) 0 [(.ref dA)] H d8_33 rfl w68 w69 w70 w71 pd_N13 (ct_opo l W dA h2) all0 rfl rfl rfl (Nat.le_of_eq rfl) (by decide) (by decide) (by decide) (by decide) nh_N12 ?_
      rintro _ h23 _ ⟨o22, rfl, E24, A25, F26, rfl⟩
      replace S := S.ext E24
      replace GD := GD.ext E24
      replace SD := SD.ext E24
      replace GA := GA.ext E24
      replace SA := SA.ext E24
      replace EO := EO.ext E24
      replace FE := FE.ext E24
      replace F5 := F5.ext E24
      replace KK := KK.ext E24
      show Go _ _ _ _ _ _ h23 [] 2 3 36 #[.val (.ref x), .val (.ref c1), .val (.int (2 : Int32)), .val (.int (1 : Int32)), .val (.ref dA)] [(.ref o22)]
      exact Go.areturn [] H d8_36 rfl rfl (own_narR rfl) ⟨_, rfl, own_ext KK, A25, (by rw [selV, if_neg c15, if_pos c21]; exact F26), rfl⟩ all0 (by decide) (by decide)
    ·
      refine Go.ifY (pc' := 37) H d8_28 (teq (by rw [if_neg c21])).1 (by decide) (by decide) ?_
      refine Go.iinc (ls' := #[.val (.ref x), .val (.ref c1), .val (.int (2 : Int32)), .val (.int ((1 : Int32) + (1 : Int32))), .val (.ref dA)]) (1 : Int32) H d8_37 rfl rfl rfl rfl ?_
      show Go _ _ _ _ _ _ h2 [] 1 2 40 #[.val (.ref x), .val (.ref c1), .val (.int (2 : Int32)), .val (.int (2 : Int32)), .val (.ref dA)] []
      refine Go.goto (pc' := 9) H d8_40 (by decide) (by decide) ?_
      refine Go.iloadN H d8_9 rfl rfl ?_
      refine Go.iloadN H d8_10 rfl rfl ?_
      refine Go.icmpY (pc' := 43) H d8_11 (by decide) (by decide) (by decide) ?_
      refine Go.callS (rest := []) 0 [] H d8_43 rfl w96 w97 w70 w98 pd_N14 (ct_ope l W h2) all0 rfl rfl rfl (Nat.le_of_eq rfl) (by decide) (by decide) (by decide) (by decide) nh_N12 ?_
      rintro _ _ _ ⟨rfl, rfl, rfl⟩
      show Go _ _ _ _ _ _ h2 [] 1 2 46 #[.val (.ref x), .val (.ref c1), .val (.int (2 : Int32)), .val (.int (2 : Int32)), .val (.ref dA)] [(.ref oe)]
      exact Go.areturn [] H d8_46 rfl rfl (own_narR rfl) ⟨_, rfl, own_ext KK, EO, (by rw [selV, if_neg c15, if_neg c21]; exact FE), rfl⟩ all0 (by decide) (by decide)
def pd (D : List Int32) (N : Nat) : List Int32 := D ++ List.replicate (N - D.length) 0
theorem pd_len {D : List Int32} {N : Nat} (h : D.length ≤ N) : (pd D N).length = N := by unfold pd; rw [List.length_append, List.length_replicate]; omega
theorem pd_full {D : List Int32} {N : Nat} (h : D.length = N) : pd D N = D := by unfold pd; rw [h, Nat.sub_self]; simp
theorem pd_set {D : List Int32} {N n : Nat} (v : Int32) (hD : D.length = n) (h : n < N) : (pd D N).set n v = pd (D ++ [v]) N := by
  subst hD
  unfold pd
  rw [List.set_append_right _ _ (Nat.le_refl _), Nat.sub_self, show N - D.length = (N - (D ++ [v]).length) + 1 from by rw [List.length_append, List.length_singleton]; omega, List.replicate_succ, List.set_cons_zero]; simp
theorem own_tk {bs : List Int32} {i : Nat} {c : Int32} (h : bs[i]? = some c) : bs.take i ++ [c] = bs.take (i + 1) := by rw [List.take_add_one, h]; rfl
theorem own_tl {bs : List Int32} {i n : Nat} (h : i < n) (g : n ≤ bs.length) : (bs.take i).length = i := by rw [List.length_take]; omega
theorem d1_0 : decode method_3_code 0 = .ok (.iload_n 1, 1) := by decide +kernel
theorem d1_1 : decode method_3_code 1 = .ok (.newarray .char, 2) := by decide +kernel
theorem w0 : Jvm.Cond.arrayClass Jvm.ClassFile.FieldType.char ∈ tables_1 := List.mem_of_getElem? (i := 0) rfl
theorem d1_3 : decode method_3_code 3 = .ok (.astore_n 2, 1) := by decide +kernel
theorem d1_4 : decode method_3_code 4 = .ok (.iload_n 1, 1) := by decide +kernel
theorem d1_5 : decode method_3_code 5 = .ok (.ifCond .le 9, 3) := by decide +kernel
theorem d1_8 : decode method_3_code 8 = .ok (.aload_n 2, 1) := by decide +kernel
theorem d1_9 : decode method_3_code 9 = .ok (.iconst 0, 1) := by decide +kernel
theorem d1_10 : decode method_3_code 10 = .ok (.aload_n 0, 1) := by decide +kernel
theorem d1_11 : decode method_3_code 11 = .ok (.iconst 0, 1) := by decide +kernel
theorem d1_12 : decode method_3_code 12 = .ok (.caload, 1) := by decide +kernel
theorem d1_13 : decode method_3_code 13 = .ok (.castore, 1) := by decide +kernel
theorem d1_14 : decode method_3_code 14 = .ok (.iload_n 1, 1) := by decide +kernel
theorem d1_15 : decode method_3_code 15 = .ok (.iconst 1, 1) := by decide +kernel
theorem d1_16 : decode method_3_code 16 = .ok (.if_icmp .le 9, 3) := by decide +kernel
theorem d1_19 : decode method_3_code 19 = .ok (.aload_n 2, 1) := by decide +kernel
theorem d1_20 : decode method_3_code 20 = .ok (.iconst 1, 1) := by decide +kernel
theorem d1_21 : decode method_3_code 21 = .ok (.aload_n 0, 1) := by decide +kernel
theorem d1_22 : decode method_3_code 22 = .ok (.iconst 1, 1) := by decide +kernel
theorem d1_23 : decode method_3_code 23 = .ok (.caload, 1) := by decide +kernel
theorem d1_24 : decode method_3_code 24 = .ok (.castore, 1) := by decide +kernel
theorem d1_25 : decode method_3_code 25 = .ok (.iload_n 1, 1) := by decide +kernel
theorem d1_26 : decode method_3_code 26 = .ok (.iconst 2, 1) := by decide +kernel
theorem d1_27 : decode method_3_code 27 = .ok (.if_icmp .le 9, 3) := by decide +kernel
theorem d1_30 : decode method_3_code 30 = .ok (.aload_n 2, 1) := by decide +kernel
theorem d1_31 : decode method_3_code 31 = .ok (.iconst 2, 1) := by decide +kernel
theorem d1_32 : decode method_3_code 32 = .ok (.aload_n 0, 1) := by decide +kernel
theorem d1_33 : decode method_3_code 33 = .ok (.iconst 2, 1) := by decide +kernel
theorem d1_34 : decode method_3_code 34 = .ok (.caload, 1) := by decide +kernel
theorem d1_35 : decode method_3_code 35 = .ok (.castore, 1) := by decide +kernel
theorem d1_36 : decode method_3_code 36 = .ok (.iload_n 1, 1) := by decide +kernel
theorem d1_37 : decode method_3_code 37 = .ok (.iconst 3, 1) := by decide +kernel
theorem d1_38 : decode method_3_code 38 = .ok (.if_icmp .le 9, 3) := by decide +kernel
theorem d1_41 : decode method_3_code 41 = .ok (.aload_n 2, 1) := by decide +kernel
theorem d1_42 : decode method_3_code 42 = .ok (.iconst 3, 1) := by decide +kernel
theorem d1_43 : decode method_3_code 43 = .ok (.aload_n 0, 1) := by decide +kernel
theorem d1_44 : decode method_3_code 44 = .ok (.iconst 3, 1) := by decide +kernel
theorem d1_45 : decode method_3_code 45 = .ok (.caload, 1) := by decide +kernel
theorem d1_46 : decode method_3_code 46 = .ok (.castore, 1) := by decide +kernel
theorem d1_47 : decode method_3_code 47 = .ok (.iload_n 1, 1) := by decide +kernel
theorem d1_48 : decode method_3_code 48 = .ok (.iconst 4, 1) := by decide +kernel
theorem d1_49 : decode method_3_code 49 = .ok (.if_icmp .le 9, 3) := by decide +kernel
theorem d1_52 : decode method_3_code 52 = .ok (.aload_n 2, 1) := by decide +kernel
theorem d1_53 : decode method_3_code 53 = .ok (.iconst 4, 1) := by decide +kernel
theorem d1_54 : decode method_3_code 54 = .ok (.aload_n 0, 1) := by decide +kernel
theorem d1_55 : decode method_3_code 55 = .ok (.iconst 4, 1) := by decide +kernel
theorem d1_56 : decode method_3_code 56 = .ok (.caload, 1) := by decide +kernel
theorem d1_57 : decode method_3_code 57 = .ok (.castore, 1) := by decide +kernel
theorem d1_58 : decode method_3_code 58 = .ok (.iload_n 1, 1) := by decide +kernel
theorem d1_59 : decode method_3_code 59 = .ok (.iconst 5, 1) := by decide +kernel
theorem d1_60 : decode method_3_code 60 = .ok (.if_icmp .le 9, 3) := by decide +kernel
theorem d1_63 : decode method_3_code 63 = .ok (.aload_n 2, 1) := by decide +kernel
theorem d1_64 : decode method_3_code 64 = .ok (.iconst 5, 1) := by decide +kernel
theorem d1_65 : decode method_3_code 65 = .ok (.aload_n 0, 1) := by decide +kernel
theorem d1_66 : decode method_3_code 66 = .ok (.iconst 5, 1) := by decide +kernel
theorem d1_67 : decode method_3_code 67 = .ok (.caload, 1) := by decide +kernel
theorem d1_68 : decode method_3_code 68 = .ok (.castore, 1) := by decide +kernel
theorem d1_69 : decode method_3_code 69 = .ok (.iload_n 1, 1) := by decide +kernel
theorem d1_70 : decode method_3_code 70 = .ok (.bipush 6, 2) := by decide +kernel
theorem d1_72 : decode method_3_code 72 = .ok (.if_icmp .le 11, 3) := by decide +kernel
theorem d1_75 : decode method_3_code 75 = .ok (.aload_n 2, 1) := by decide +kernel
theorem d1_76 : decode method_3_code 76 = .ok (.bipush 6, 2) := by decide +kernel
theorem d1_78 : decode method_3_code 78 = .ok (.aload_n 0, 1) := by decide +kernel
theorem d1_79 : decode method_3_code 79 = .ok (.bipush 6, 2) := by decide +kernel
theorem d1_81 : decode method_3_code 81 = .ok (.caload, 1) := by decide +kernel
theorem d1_82 : decode method_3_code 82 = .ok (.castore, 1) := by decide +kernel
theorem d1_83 : decode method_3_code 83 = .ok (.iload_n 1, 1) := by decide +kernel
theorem d1_84 : decode method_3_code 84 = .ok (.bipush 7, 2) := by decide +kernel
theorem d1_86 : decode method_3_code 86 = .ok (.if_icmp .le 11, 3) := by decide +kernel
theorem d1_89 : decode method_3_code 89 = .ok (.aload_n 2, 1) := by decide +kernel
theorem d1_90 : decode method_3_code 90 = .ok (.bipush 7, 2) := by decide +kernel
theorem d1_92 : decode method_3_code 92 = .ok (.aload_n 0, 1) := by decide +kernel
theorem d1_93 : decode method_3_code 93 = .ok (.bipush 7, 2) := by decide +kernel
theorem d1_95 : decode method_3_code 95 = .ok (.caload, 1) := by decide +kernel
theorem d1_96 : decode method_3_code 96 = .ok (.castore, 1) := by decide +kernel
theorem d1_97 : decode method_3_code 97 = .ok (.iload_n 1, 1) := by decide +kernel
theorem d1_98 : decode method_3_code 98 = .ok (.bipush 8, 2) := by decide +kernel
theorem d1_100 : decode method_3_code 100 = .ok (.if_icmp .le 11, 3) := by decide +kernel
theorem d1_103 : decode method_3_code 103 = .ok (.aload_n 2, 1) := by decide +kernel
theorem d1_104 : decode method_3_code 104 = .ok (.bipush 8, 2) := by decide +kernel
theorem d1_106 : decode method_3_code 106 = .ok (.aload_n 0, 1) := by decide +kernel
theorem d1_107 : decode method_3_code 107 = .ok (.bipush 8, 2) := by decide +kernel
theorem d1_109 : decode method_3_code 109 = .ok (.caload, 1) := by decide +kernel
theorem d1_110 : decode method_3_code 110 = .ok (.castore, 1) := by decide +kernel
theorem d1_111 : decode method_3_code 111 = .ok (.iload_n 1, 1) := by decide +kernel
theorem d1_112 : decode method_3_code 112 = .ok (.bipush 9, 2) := by decide +kernel
theorem d1_114 : decode method_3_code 114 = .ok (.if_icmp .le 11, 3) := by decide +kernel
theorem d1_117 : decode method_3_code 117 = .ok (.aload_n 2, 1) := by decide +kernel
theorem d1_118 : decode method_3_code 118 = .ok (.bipush 9, 2) := by decide +kernel
theorem d1_120 : decode method_3_code 120 = .ok (.aload_n 0, 1) := by decide +kernel
theorem d1_121 : decode method_3_code 121 = .ok (.bipush 9, 2) := by decide +kernel
theorem d1_123 : decode method_3_code 123 = .ok (.caload, 1) := by decide +kernel
theorem d1_124 : decode method_3_code 124 = .ok (.castore, 1) := by decide +kernel
theorem d1_125 : decode method_3_code 125 = .ok (.iload_n 1, 1) := by decide +kernel
theorem d1_126 : decode method_3_code 126 = .ok (.bipush 10, 2) := by decide +kernel
theorem d1_128 : decode method_3_code 128 = .ok (.if_icmp .le 11, 3) := by decide +kernel
theorem d1_131 : decode method_3_code 131 = .ok (.aload_n 2, 1) := by decide +kernel
theorem d1_132 : decode method_3_code 132 = .ok (.bipush 10, 2) := by decide +kernel
theorem d1_134 : decode method_3_code 134 = .ok (.aload_n 0, 1) := by decide +kernel
theorem d1_135 : decode method_3_code 135 = .ok (.bipush 10, 2) := by decide +kernel
theorem d1_137 : decode method_3_code 137 = .ok (.caload, 1) := by decide +kernel
theorem d1_138 : decode method_3_code 138 = .ok (.castore, 1) := by decide +kernel
theorem d1_139 : decode method_3_code 139 = .ok (.iload_n 1, 1) := by decide +kernel
theorem d1_140 : decode method_3_code 140 = .ok (.bipush 11, 2) := by decide +kernel
theorem d1_142 : decode method_3_code 142 = .ok (.if_icmp .le 11, 3) := by decide +kernel
theorem d1_145 : decode method_3_code 145 = .ok (.aload_n 2, 1) := by decide +kernel
theorem d1_146 : decode method_3_code 146 = .ok (.bipush 11, 2) := by decide +kernel
theorem d1_148 : decode method_3_code 148 = .ok (.aload_n 0, 1) := by decide +kernel
theorem d1_149 : decode method_3_code 149 = .ok (.bipush 11, 2) := by decide +kernel
theorem d1_151 : decode method_3_code 151 = .ok (.caload, 1) := by decide +kernel
theorem d1_152 : decode method_3_code 152 = .ok (.castore, 1) := by decide +kernel
theorem d1_153 : decode method_3_code 153 = .ok (.iload_n 1, 1) := by decide +kernel
theorem d1_154 : decode method_3_code 154 = .ok (.bipush 12, 2) := by decide +kernel
theorem d1_156 : decode method_3_code 156 = .ok (.if_icmp .le 11, 3) := by decide +kernel
theorem d1_159 : decode method_3_code 159 = .ok (.aload_n 2, 1) := by decide +kernel
theorem d1_160 : decode method_3_code 160 = .ok (.bipush 12, 2) := by decide +kernel
theorem d1_162 : decode method_3_code 162 = .ok (.aload_n 0, 1) := by decide +kernel
theorem d1_163 : decode method_3_code 163 = .ok (.bipush 12, 2) := by decide +kernel
theorem d1_165 : decode method_3_code 165 = .ok (.caload, 1) := by decide +kernel
theorem d1_166 : decode method_3_code 166 = .ok (.castore, 1) := by decide +kernel
theorem d1_167 : decode method_3_code 167 = .ok (.aload_n 2, 1) := by decide +kernel
theorem d1_168 : decode method_3_code 168 = .ok (.areturn, 1) := by decide +kernel
abbrev N18 : MethodName := ⟨"com/example/cairnstore/cairnstore/layout/AttachmentBySegmentPinLaw", "prefix", "([CI)[C"⟩
theorem pn_N18 : plainName N18.cls = true := by first | (simp [plainName, overriddenIn]; done) | decide +kernel

abbrev rm_pre : Room := { frames := 0, cells := 1, slots := 13, locals := 0 }
set_option maxRecDepth 65536 in
set_option maxHeartbeats 4000000 in
theorem ct_pre (l : Launch) {Z : State} {n0 : Nat} {z : Int32} {f : Value} {vv dD dA sD sA bD bA oe : Addr} (W : Sx Z z f vv dD dA sD sA bD bA oe) (a : Addr) (bs : List Int32) (n : Nat) (h : Heap) (Fa : Vec Z h a .char bs) (hn : n ≤ bs.length) (hb : bs.length ≤ 13) (hc : ∀ c ∈ bs, isL c) :
    Ctr l Z n0 N18 method_3_code 3 (some (.array .char)) rm_pre #[(.ref a), (.int n.toInt32)] h [] (fun v h' sn => ∃ r, v = some (.ref r) ∧ Ext h h' ∧ h.size ≤ r ∧ Vec Z h' r .char (bs.take n) ∧ sn = []) := by
  refine Ctr.of_go (ls := #[.val (.ref a), .val (.int n.toInt32), .unset]) W.1.1 (plainFor_of_name pn_N18) (fun m => by first | (simp [entryFrame, mkF, argsToLocals, Value.category]; done) | rfl) (fun K H => ?_)
  have KK : Keep h h [] := Keep.refl _ _
  refine Go.iloadN H d1_0 rfl rfl ?_
  refine Go.newarray n 13 H d1_1 rfl w0 rfl (by decide) (own_n0 (by omega)) (own_cl (by omega)) (by omega) (by decide) (by decide) (by decide) ?_
  intro a1 h2 g3 z4 E5 F6
  have ne7 : a ≠ a1 := Nat.ne_of_lt (Nat.lt_of_lt_of_le Fa.lt (Nat.le_of_eq g3.symm))
  have sz8 := Nat.le_trans KK.1 (Nat.le_of_eq g3.symm)
  replace Fa := Fa.ext E5
  replace KK := KK.ext E5
  show Go _ _ _ _ _ _ h2 [a1] 1 13 3 #[.val (.ref a), .val (.int n.toInt32), .unset] [(.ref a1)]
  refine Go.astoreN (ls' := #[.val (.ref a), .val (.int n.toInt32), .val (.ref a1)]) H d1_3 rfl rfl rfl ?_
  replace F6 : Vec Z h2 a1 .char (pd (bs.take 0) n) := F6
  refine Go.iloadN H d1_4 rfl rfl ?_
  by_cases c9 : 0 < n
  ·
    refine Go.ifN H d1_5 (tlt (own_lt (i := 0) (by omega) c9)).2.2.2 rfl ?_
    have c0n := c9
    obtain ⟨c0, h0⟩ : ∃ q, bs[0]? = some q := ⟨_, List.getElem?_eq_getElem (by omega)⟩
    refine Go.aloadN H d1_8 rfl rfl rfl ?_
    refine Go.iconst (0 : Int32) H d1_9 rfl rfl ?_
    refine Go.aloadN H d1_10 rfl rfl rfl ?_
    refine Go.iconst (0 : Int32) H d1_11 rfl rfl ?_
    refine Go.caload (v := c0) H d1_12 rfl Fa 0 (by decide) (by decide) h0 ?_
    refine Go.castore c0 H d1_13 rfl F6 0 (by decide) (by decide) (by rw [pd_len (by rw [List.length_take]; omega)]; omega) (own_char (hc _ (List.mem_of_getElem? h0)).c) z4 (by simp) ?_
    intro h10 K11 F12
    replace Fa := Fa.keep K11 (ninS ne7 nin0)
    replace KK := KK.trans K11 (allS (Or.inr sz8) all0)
    rw [pd_set _ (own_tl c0n hn) c0n, own_tk h0] at F12
    refine Go.iloadN H d1_14 rfl rfl ?_
    refine Go.iconst (1 : Int32) H d1_15 rfl rfl ?_
    by_cases c13 : 1 < n
    ·
      refine Go.icmpN H d1_16 (tlt (own_lt (i := 1) (by omega) c13)).2.2.2 rfl ?_
      have c1n := c13
      obtain ⟨c1, h1⟩ : ∃ q, bs[1]? = some q := ⟨_, List.getElem?_eq_getElem (by omega)⟩
      refine Go.aloadN H d1_19 rfl rfl rfl ?_
      refine Go.iconst (1 : Int32) H d1_20 rfl rfl ?_
      refine Go.aloadN H d1_21 rfl rfl rfl ?_
      refine Go.iconst (1 : Int32) H d1_22 rfl rfl ?_
      refine Go.caload (v := c1) H d1_23 rfl Fa 1 (by decide) (by decide) h1 ?_
      refine Go.castore c1 H d1_24 rfl F12 1 (by decide) (by decide) (by rw [pd_len (by rw [List.length_take]; omega)]; omega) (own_char (hc _ (List.mem_of_getElem? h1)).c) z4 (by simp) ?_
      intro h14 K15 F16
      replace Fa := Fa.keep K15 (ninS ne7 nin0)
      replace KK := KK.trans K15 (allS (Or.inr sz8) all0)
      rw [pd_set _ (own_tl c1n hn) c1n, own_tk h1] at F16
      refine Go.iloadN H d1_25 rfl rfl ?_
      refine Go.iconst (2 : Int32) H d1_26 rfl rfl ?_
      by_cases c17 : 2 < n
      ·
        refine Go.icmpN H d1_27 (tlt (own_lt (i := 2) (by omega) c17)).2.2.2 rfl ?_
        have c2n := c17
        obtain ⟨c2, h2⟩ : ∃ q, bs[2]? = some q := ⟨_, List.getElem?_eq_getElem (by omega)⟩
        refine Go.aloadN H d1_30 rfl rfl rfl ?_
        refine Go.iconst (2 : Int32) H d1_31 rfl rfl ?_
        refine Go.aloadN H d1_32 rfl rfl rfl ?_
        refine Go.iconst (2 : Int32) H d1_33 rfl rfl ?_
        refine Go.caload (v := c2) H d1_34 rfl Fa 2 (by decide) (by decide) h2 ?_
        refine Go.castore c2 H d1_35 rfl F16 2 (by decide) (by decide) (by rw [pd_len (by rw [List.length_take]; omega)]; omega) (own_char (hc _ (List.mem_of_getElem? h2)).c) z4 (by simp) ?_
        intro h18 K19 F20
        replace Fa := Fa.keep K19 (ninS ne7 nin0)
        replace KK := KK.trans K19 (allS (Or.inr sz8) all0)
        rw [pd_set _ (own_tl c2n hn) c2n, own_tk h2] at F20
        refine Go.iloadN H d1_36 rfl rfl ?_
        refine Go.iconst (3 : Int32) H d1_37 rfl rfl ?_
        by_cases c21 : 3 < n
        ·
          refine Go.icmpN H d1_38 (tlt (own_lt (i := 3) (by omega) c21)).2.2.2 rfl ?_
          have c3n := c21
          obtain ⟨c3, h3⟩ : ∃ q, bs[3]? = some q := ⟨_, List.getElem?_eq_getElem (by omega)⟩
          refine Go.aloadN H d1_41 rfl rfl rfl ?_
          refine Go.iconst (3 : Int32) H d1_42 rfl rfl ?_
          refine Go.aloadN H d1_43 rfl rfl rfl ?_
          refine Go.iconst (3 : Int32) H d1_44 rfl rfl ?_
          refine Go.caload (v := c3) H d1_45 rfl Fa 3 (by decide) (by decide) h3 ?_
          refine Go.castore c3 H d1_46 rfl F20 3 (by decide) (by decide) (by rw [pd_len (by rw [List.length_take]; omega)]; omega) (own_char (hc _ (List.mem_of_getElem? h3)).c) z4 (by simp) ?_
          intro h22 K23 F24
          replace Fa := Fa.keep K23 (ninS ne7 nin0)
          replace KK := KK.trans K23 (allS (Or.inr sz8) all0)
          rw [pd_set _ (own_tl c3n hn) c3n, own_tk h3] at F24
          refine Go.iloadN H d1_47 rfl rfl ?_
          refine Go.iconst (4 : Int32) H d1_48 rfl rfl ?_
          by_cases c25 : 4 < n
          ·
            refine Go.icmpN H d1_49 (tlt (own_lt (i := 4) (by omega) c25)).2.2.2 rfl ?_
            have c4n := c25
            obtain ⟨c4, h4⟩ : ∃ q, bs[4]? = some q := ⟨_, List.getElem?_eq_getElem (by omega)⟩
            refine Go.aloadN H d1_52 rfl rfl rfl ?_
            refine Go.iconst (4 : Int32) H d1_53 rfl rfl ?_
            refine Go.aloadN H d1_54 rfl rfl rfl ?_
            refine Go.iconst (4 : Int32) H d1_55 rfl rfl ?_
            refine Go.caload (v := c4) H d1_56 rfl Fa 4 (by decide) (by decide) h4 ?_
            refine Go.castore c4 H d1_57 rfl F24 4 (by decide) (by decide) (by rw [pd_len (by rw [List.length_take]; omega)]; omega) (own_char (hc _ (List.mem_of_getElem? h4)).c) z4 (by simp) ?_
            intro h26 K27 F28
            replace Fa := Fa.keep K27 (ninS ne7 nin0)
            replace KK := KK.trans K27 (allS (Or.inr sz8) all0)
            rw [pd_set _ (own_tl c4n hn) c4n, own_tk h4] at F28
            refine Go.iloadN H d1_58 rfl rfl ?_
            refine Go.iconst (5 : Int32) H d1_59 rfl rfl ?_
            by_cases c29 : 5 < n
            ·
              refine Go.icmpN H d1_60 (tlt (own_lt (i := 5) (by omega) c29)).2.2.2 rfl ?_
              have c5n := c29
              obtain ⟨c5, h5⟩ : ∃ q, bs[5]? = some q := ⟨_, List.getElem?_eq_getElem (by omega)⟩
              refine Go.aloadN H d1_63 rfl rfl rfl ?_
              refine Go.iconst (5 : Int32) H d1_64 rfl rfl ?_
              refine Go.aloadN H d1_65 rfl rfl rfl ?_
              refine Go.iconst (5 : Int32) H d1_66 rfl rfl ?_
              refine Go.caload (v := c5) H d1_67 rfl Fa 5 (by decide) (by decide) h5 ?_
              refine Go.castore c5 H d1_68 rfl F28 5 (by decide) (by decide) (by rw [pd_len (by rw [List.length_take]; omega)]; omega) (own_char (hc _ (List.mem_of_getElem? h5)).c) z4 (by simp) ?_
              intro h30 K31 F32
              replace Fa := Fa.keep K31 (ninS ne7 nin0)
              replace KK := KK.trans K31 (allS (Or.inr sz8) all0)
              rw [pd_set _ (own_tl c5n hn) c5n, own_tk h5] at F32
              refine Go.iloadN H d1_69 rfl rfl ?_
              refine Go.bipush (6 : Int32) H d1_70 rfl rfl ?_
              by_cases c33 : 6 < n
              ·
                refine Go.icmpN H d1_72 (tlt (own_lt (i := 6) (by omega) c33)).2.2.2 rfl ?_
                have c6n := c33
                obtain ⟨c6, h6⟩ : ∃ q, bs[6]? = some q := ⟨_, List.getElem?_eq_getElem (by omega)⟩
                refine Go.aloadN H d1_75 rfl rfl rfl ?_
                refine Go.bipush (6 : Int32) H d1_76 rfl rfl ?_
                refine Go.aloadN H d1_78 rfl rfl rfl ?_
                refine Go.bipush (6 : Int32) H d1_79 rfl rfl ?_
                refine Go.caload (v := c6) H d1_81 rfl Fa 6 (by decide) (by decide) h6 ?_
                refine Go.castore c6 H d1_82 rfl F32 6 (by decide) (by decide) (by rw [pd_len (by rw [List.length_take]; omega)]; omega) (own_char (hc _ (List.mem_of_getElem? h6)).c) z4 (by simp) ?_
                intro h34 K35 F36
                replace Fa := Fa.keep K35 (ninS ne7 nin0)
                replace KK := KK.trans K35 (allS (Or.inr sz8) all0)
                rw [pd_set _ (own_tl c6n hn) c6n, own_tk h6] at F36
                refine Go.iloadN H d1_83 rfl rfl ?_
                refine Go.bipush (7 : Int32) H d1_84 rfl rfl ?_
                by_cases c37 : 7 < n
                ·
                  refine Go.icmpN H d1_86 (tlt (own_lt (i := 7) (by omega) c37)).2.2.2 rfl ?_
                  have c7n := c37
                  obtain ⟨c7, h7⟩ : ∃ q, bs[7]? = some q := ⟨_, List.getElem?_eq_getElem (by omega)⟩
                  refine Go.aloadN H d1_89 rfl rfl rfl ?_
                  refine Go.bipush (7 : Int32) H d1_90 rfl rfl ?_
                  refine Go.aloadN H d1_92 rfl rfl rfl ?_
                  refine Go.bipush (7 : Int32) H d1_93 rfl rfl ?_
                  refine Go.caload (v := c7) H d1_95 rfl Fa 7 (by decide) (by decide) h7 ?_
                  refine Go.castore c7 H d1_96 rfl F36 7 (by decide) (by decide) (by rw [pd_len (by rw [List.length_take]; omega)]; omega) (own_char (hc _ (List.mem_of_getElem? h7)).c) z4 (by simp) ?_
                  intro h38 K39 F40
                  replace Fa := Fa.keep K39 (ninS ne7 nin0)
                  replace KK := KK.trans K39 (allS (Or.inr sz8) all0)
                  rw [pd_set _ (own_tl c7n hn) c7n, own_tk h7] at F40
                  refine Go.iloadN H d1_97 rfl rfl ?_
                  refine Go.bipush (8 : Int32) H d1_98 rfl rfl ?_
                  by_cases c41 : 8 < n
                  ·
                    refine Go.icmpN H d1_100 (tlt (own_lt (i := 8) (by omega) c41)).2.2.2 rfl ?_
                    have c8n := c41
                    obtain ⟨c8, h8⟩ : ∃ q, bs[8]? = some q := ⟨_, List.getElem?_eq_getElem (by omega)⟩
                    refine Go.aloadN H d1_103 rfl rfl rfl ?_
                    refine Go.bipush (8 : Int32) H d1_104 rfl rfl ?_
                    refine Go.aloadN H d1_106 rfl rfl rfl ?_
                    refine Go.bipush (8 : Int32) H d1_107 rfl rfl ?_
                    refine Go.caload (v := c8) H d1_109 rfl Fa 8 (by decide) (by decide) h8 ?_
                    refine Go.castore c8 H d1_110 rfl F40 8 (by decide) (by decide) (by rw [pd_len (by rw [List.length_take]; omega)]; omega) (own_char (hc _ (List.mem_of_getElem? h8)).c) z4 (by simp) ?_
                    intro h42 K43 F44
                    replace Fa := Fa.keep K43 (ninS ne7 nin0)
                    replace KK := KK.trans K43 (allS (Or.inr sz8) all0)
                    rw [pd_set _ (own_tl c8n hn) c8n, own_tk h8] at F44
                    refine Go.iloadN H d1_111 rfl rfl ?_
                    refine Go.bipush (9 : Int32) H d1_112 rfl rfl ?_
                    by_cases c45 : 9 < n
                    ·
                      refine Go.icmpN H d1_114 (tlt (own_lt (i := 9) (by omega) c45)).2.2.2 rfl ?_
                      have c9n := c45
                      obtain ⟨c9, h9⟩ : ∃ q, bs[9]? = some q := ⟨_, List.getElem?_eq_getElem (by omega)⟩
                      refine Go.aloadN H d1_117 rfl rfl rfl ?_
                      refine Go.bipush (9 : Int32) H d1_118 rfl rfl ?_
                      refine Go.aloadN H d1_120 rfl rfl rfl ?_
                      refine Go.bipush (9 : Int32) H d1_121 rfl rfl ?_
                      refine Go.caload (v := c9) H d1_123 rfl Fa 9 (by decide) (by decide) h9 ?_
                      refine Go.castore c9 H d1_124 rfl F44 9 (by decide) (by decide) (by rw [pd_len (by rw [List.length_take]; omega)]; omega) (own_char (hc _ (List.mem_of_getElem? h9)).c) z4 (by simp) ?_
                      intro h46 K47 F48
                      replace Fa := Fa.keep K47 (ninS ne7 nin0)
                      replace KK := KK.trans K47 (allS (Or.inr sz8) all0)
                      rw [pd_set _ (own_tl c9n hn) c9n, own_tk h9] at F48
                      refine Go.iloadN H d1_125 rfl rfl ?_
                      refine Go.bipush (10 : Int32) H d1_126 rfl rfl ?_
                      by_cases c49 : 10 < n
                      ·
                        refine Go.icmpN H d1_128 (tlt (own_lt (i := 10) (by omega) c49)).2.2.2 rfl ?_
                        have c10n := c49
                        obtain ⟨c10, h10⟩ : ∃ q, bs[10]? = some q := ⟨_, List.getElem?_eq_getElem (by omega)⟩
                        refine Go.aloadN H d1_131 rfl rfl rfl ?_
                        refine Go.bipush (10 : Int32) H d1_132 rfl rfl ?_
                        refine Go.aloadN H d1_134 rfl rfl rfl ?_
                        refine Go.bipush (10 : Int32) H d1_135 rfl rfl ?_
                        refine Go.caload (v := c10) H d1_137 rfl Fa 10 (by decide) (by decide) h10 ?_
                        refine Go.castore c10 H d1_138 rfl F48 10 (by decide) (by decide) (by rw [pd_len (by rw [List.length_take]; omega)]; omega) (own_char (hc _ (List.mem_of_getElem? h10)).c) z4 (by simp) ?_
                        intro h50 K51 F52
                        replace Fa := Fa.keep K51 (ninS ne7 nin0)
                        replace KK := KK.trans K51 (allS (Or.inr sz8) all0)
                        rw [pd_set _ (own_tl c10n hn) c10n, own_tk h10] at F52
                        refine Go.iloadN H d1_139 rfl rfl ?_
                        refine Go.bipush (11 : Int32) H d1_140 rfl rfl ?_
                        by_cases c53 : 11 < n
                        ·
                          refine Go.icmpN H d1_142 (tlt (own_lt (i := 11) (by omega) c53)).2.2.2 rfl ?_
                          have c11n := c53
                          obtain ⟨c11, h11⟩ : ∃ q, bs[11]? = some q := ⟨_, List.getElem?_eq_getElem (by omega)⟩
                          refine Go.aloadN H d1_145 rfl rfl rfl ?_
                          refine Go.bipush (11 : Int32) H d1_146 rfl rfl ?_
                          refine Go.aloadN H d1_148 rfl rfl rfl ?_
                          refine Go.bipush (11 : Int32) H d1_149 rfl rfl ?_
                          refine Go.caload (v := c11) H d1_151 rfl Fa 11 (by decide) (by decide) h11 ?_
                          refine Go.castore c11 H d1_152 rfl F52 11 (by decide) (by decide) (by rw [pd_len (by rw [List.length_take]; omega)]; omega) (own_char (hc _ (List.mem_of_getElem? h11)).c) z4 (by simp) ?_
                          intro h54 K55 F56
                          replace Fa := Fa.keep K55 (ninS ne7 nin0)
                          replace KK := KK.trans K55 (allS (Or.inr sz8) all0)
                          rw [pd_set _ (own_tl c11n hn) c11n, own_tk h11] at F56
                          refine Go.iloadN H d1_153 rfl rfl ?_
                          refine Go.bipush (12 : Int32) H d1_154 rfl rfl ?_
                          by_cases c57 : 12 < n
                          ·
                            refine Go.icmpN H d1_156 (tlt (own_lt (i := 12) (by omega) c57)).2.2.2 rfl ?_
                            have c12n := c57
                            obtain ⟨c12, h12⟩ : ∃ q, bs[12]? = some q := ⟨_, List.getElem?_eq_getElem (by omega)⟩
                            refine Go.aloadN H d1_159 rfl rfl rfl ?_
                            refine Go.bipush (12 : Int32) H d1_160 rfl rfl ?_
                            refine Go.aloadN H d1_162 rfl rfl rfl ?_
                            refine Go.bipush (12 : Int32) H d1_163 rfl rfl ?_
                            refine Go.caload (v := c12) H d1_165 rfl Fa 12 (by decide) (by decide) h12 ?_
                            refine Go.castore c12 H d1_166 rfl F56 12 (by decide) (by decide) (by rw [pd_len (by rw [List.length_take]; omega)]; omega) (own_char (hc _ (List.mem_of_getElem? h12)).c) z4 (by simp) ?_
                            intro h58 K59 F60
                            replace Fa := Fa.keep K59 (ninS ne7 nin0)
                            replace KK := KK.trans K59 (allS (Or.inr sz8) all0)
                            rw [pd_set _ (own_tl c12n hn) c12n, own_tk h12] at F60
                            refine Go.aloadN H d1_167 rfl rfl rfl ?_
                            have hni : n = 13 := by omega
                            subst hni
                            rw [pd_full (by rw [List.length_take]; omega)] at F60
                            exact Go.areturn [] H d1_168 rfl rfl (own_narR rfl) ⟨_, rfl, own_ext KK, Nat.le_of_eq g3.symm, F60, rfl⟩ all0 (by decide) (by decide)
                          ·
                            refine Go.icmpY (pc' := 167) H d1_156 (flt (own_nlt (n := n) (i := 12) (by decide) (by omega))).2.2.2 (by decide) (by decide) ?_
                            refine Go.aloadN H d1_167 rfl rfl rfl ?_
                            have hni : n = 12 := by omega
                            subst hni
                            rw [pd_full (by rw [List.length_take]; omega)] at F56
                            exact Go.areturn [] H d1_168 rfl rfl (own_narR rfl) ⟨_, rfl, own_ext KK, Nat.le_of_eq g3.symm, F56, rfl⟩ all0 (by decide) (by decide)
                        ·
                          refine Go.icmpY (pc' := 153) H d1_142 (flt (own_nlt (n := n) (i := 11) (by decide) (by omega))).2.2.2 (by decide) (by decide) ?_
                          refine Go.iloadN H d1_153 rfl rfl ?_
                          refine Go.bipush (12 : Int32) H d1_154 rfl rfl ?_
                          refine Go.icmpY (pc' := 167) H d1_156 (flt (own_nlt (n := n) (i := 12) (by decide) (by omega))).2.2.2 (by decide) (by decide) ?_
                          refine Go.aloadN H d1_167 rfl rfl rfl ?_
                          have hni : n = 11 := by omega
                          subst hni
                          rw [pd_full (by rw [List.length_take]; omega)] at F52
                          exact Go.areturn [] H d1_168 rfl rfl (own_narR rfl) ⟨_, rfl, own_ext KK, Nat.le_of_eq g3.symm, F52, rfl⟩ all0 (by decide) (by decide)
                      ·
                        refine Go.icmpY (pc' := 139) H d1_128 (flt (own_nlt (n := n) (i := 10) (by decide) (by omega))).2.2.2 (by decide) (by decide) ?_
                        refine Go.iloadN H d1_139 rfl rfl ?_
                        refine Go.bipush (11 : Int32) H d1_140 rfl rfl ?_
                        refine Go.icmpY (pc' := 153) H d1_142 (flt (own_nlt (n := n) (i := 11) (by decide) (by omega))).2.2.2 (by decide) (by decide) ?_
                        refine Go.iloadN H d1_153 rfl rfl ?_
                        refine Go.bipush (12 : Int32) H d1_154 rfl rfl ?_
                        refine Go.icmpY (pc' := 167) H d1_156 (flt (own_nlt (n := n) (i := 12) (by decide) (by omega))).2.2.2 (by decide) (by decide) ?_
                        refine Go.aloadN H d1_167 rfl rfl rfl ?_
                        have hni : n = 10 := by omega
                        subst hni
                        rw [pd_full (by rw [List.length_take]; omega)] at F48
                        exact Go.areturn [] H d1_168 rfl rfl (own_narR rfl) ⟨_, rfl, own_ext KK, Nat.le_of_eq g3.symm, F48, rfl⟩ all0 (by decide) (by decide)
                    ·
                      refine Go.icmpY (pc' := 125) H d1_114 (flt (own_nlt (n := n) (i := 9) (by decide) (by omega))).2.2.2 (by decide) (by decide) ?_
                      refine Go.iloadN H d1_125 rfl rfl ?_
                      refine Go.bipush (10 : Int32) H d1_126 rfl rfl ?_
                      refine Go.icmpY (pc' := 139) H d1_128 (flt (own_nlt (n := n) (i := 10) (by decide) (by omega))).2.2.2 (by decide) (by decide) ?_
                      refine Go.iloadN H d1_139 rfl rfl ?_
                      refine Go.bipush (11 : Int32) H d1_140 rfl rfl ?_
                      refine Go.icmpY (pc' := 153) H d1_142 (flt (own_nlt (n := n) (i := 11) (by decide) (by omega))).2.2.2 (by decide) (by decide) ?_
                      refine Go.iloadN H d1_153 rfl rfl ?_
                      refine Go.bipush (12 : Int32) H d1_154 rfl rfl ?_
                      refine Go.icmpY (pc' := 167) H d1_156 (flt (own_nlt (n := n) (i := 12) (by decide) (by omega))).2.2.2 (by decide) (by decide) ?_
                      refine Go.aloadN H d1_167 rfl rfl rfl ?_
                      have hni : n = 9 := by omega
                      subst hni
                      rw [pd_full (by rw [List.length_take]; omega)] at F44
                      exact Go.areturn [] H d1_168 rfl rfl (own_narR rfl) ⟨_, rfl, own_ext KK, Nat.le_of_eq g3.symm, F44, rfl⟩ all0 (by decide) (by decide)
                  ·
                    refine Go.icmpY (pc' := 111) H d1_100 (flt (own_nlt (n := n) (i := 8) (by decide) (by omega))).2.2.2 (by decide) (by decide) ?_
                    refine Go.iloadN H d1_111 rfl rfl ?_
                    refine Go.bipush (9 : Int32) H d1_112 rfl rfl ?_
                    refine Go.icmpY (pc' := 125) H d1_114 (flt (own_nlt (n := n) (i := 9) (by decide) (by omega))).2.2.2 (by decide) (by decide) ?_
                    refine Go.iloadN H d1_125 rfl rfl ?_
                    refine Go.bipush (10 : Int32) H d1_126 rfl rfl ?_
                    refine Go.icmpY (pc' := 139) H d1_128 (flt (own_nlt (n := n) (i := 10) (by decide) (by omega))).2.2.2 (by decide) (by decide) ?_
                    refine Go.iloadN H d1_139 rfl rfl ?_
                    refine Go.bipush (11 : Int32) H d1_140 rfl rfl ?_
                    refine Go.icmpY (pc' := 153) H d1_142 (flt (own_nlt (n := n) (i := 11) (by decide) (by omega))).2.2.2 (by decide) (by decide) ?_
                    refine Go.iloadN H d1_153 rfl rfl ?_
                    refine Go.bipush (12 : Int32) H d1_154 rfl rfl ?_
                    refine Go.icmpY (pc' := 167) H d1_156 (flt (own_nlt (n := n) (i := 12) (by decide) (by omega))).2.2.2 (by decide) (by decide) ?_
                    refine Go.aloadN H d1_167 rfl rfl rfl ?_
                    have hni : n = 8 := by omega
                    subst hni
                    rw [pd_full (by rw [List.length_take]; omega)] at F40
                    exact Go.areturn [] H d1_168 rfl rfl (own_narR rfl) ⟨_, rfl, own_ext KK, Nat.le_of_eq g3.symm, F40, rfl⟩ all0 (by decide) (by decide)
                ·
                  refine Go.icmpY (pc' := 97) H d1_86 (flt (own_nlt (n := n) (i := 7) (by decide) (by omega))).2.2.2 (by decide) (by decide) ?_
                  refine Go.iloadN H d1_97 rfl rfl ?_
                  refine Go.bipush (8 : Int32) H d1_98 rfl rfl ?_
                  refine Go.icmpY (pc' := 111) H d1_100 (flt (own_nlt (n := n) (i := 8) (by decide) (by omega))).2.2.2 (by decide) (by decide) ?_
                  refine Go.iloadN H d1_111 rfl rfl ?_
                  refine Go.bipush (9 : Int32) H d1_112 rfl rfl ?_
                  refine Go.icmpY (pc' := 125) H d1_114 (flt (own_nlt (n := n) (i := 9) (by decide) (by omega))).2.2.2 (by decide) (by decide) ?_
                  refine Go.iloadN H d1_125 rfl rfl ?_
                  refine Go.bipush (10 : Int32) H d1_126 rfl rfl ?_
                  refine Go.icmpY (pc' := 139) H d1_128 (flt (own_nlt (n := n) (i := 10) (by decide) (by omega))).2.2.2 (by decide) (by decide) ?_
                  refine Go.iloadN H d1_139 rfl rfl ?_
                  refine Go.bipush (11 : Int32) H d1_140 rfl rfl ?_
                  refine Go.icmpY (pc' := 153) H d1_142 (flt (own_nlt (n := n) (i := 11) (by decide) (by omega))).2.2.2 (by decide) (by decide) ?_
                  refine Go.iloadN H d1_153 rfl rfl ?_
                  refine Go.bipush (12 : Int32) H d1_154 rfl rfl ?_
                  refine Go.icmpY (pc' := 167) H d1_156 (flt (own_nlt (n := n) (i := 12) (by decide) (by omega))).2.2.2 (by decide) (by decide) ?_
                  refine Go.aloadN H d1_167 rfl rfl rfl ?_
                  have hni : n = 7 := by omega
                  subst hni
                  rw [pd_full (by rw [List.length_take]; omega)] at F36
                  exact Go.areturn [] H d1_168 rfl rfl (own_narR rfl) ⟨_, rfl, own_ext KK, Nat.le_of_eq g3.symm, F36, rfl⟩ all0 (by decide) (by decide)
              ·
                refine Go.icmpY (pc' := 83) H d1_72 (flt (own_nlt (n := n) (i := 6) (by decide) (by omega))).2.2.2 (by decide) (by decide) ?_
                refine Go.iloadN H d1_83 rfl rfl ?_
                refine Go.bipush (7 : Int32) H d1_84 rfl rfl ?_
                refine Go.icmpY (pc' := 97) H d1_86 (flt (own_nlt (n := n) (i := 7) (by decide) (by omega))).2.2.2 (by decide) (by decide) ?_
                refine Go.iloadN H d1_97 rfl rfl ?_
                refine Go.bipush (8 : Int32) H d1_98 rfl rfl ?_
                refine Go.icmpY (pc' := 111) H d1_100 (flt (own_nlt (n := n) (i := 8) (by decide) (by omega))).2.2.2 (by decide) (by decide) ?_
                refine Go.iloadN H d1_111 rfl rfl ?_
                refine Go.bipush (9 : Int32) H d1_112 rfl rfl ?_
                refine Go.icmpY (pc' := 125) H d1_114 (flt (own_nlt (n := n) (i := 9) (by decide) (by omega))).2.2.2 (by decide) (by decide) ?_
                refine Go.iloadN H d1_125 rfl rfl ?_
                refine Go.bipush (10 : Int32) H d1_126 rfl rfl ?_
                refine Go.icmpY (pc' := 139) H d1_128 (flt (own_nlt (n := n) (i := 10) (by decide) (by omega))).2.2.2 (by decide) (by decide) ?_
                refine Go.iloadN H d1_139 rfl rfl ?_
                refine Go.bipush (11 : Int32) H d1_140 rfl rfl ?_
                refine Go.icmpY (pc' := 153) H d1_142 (flt (own_nlt (n := n) (i := 11) (by decide) (by omega))).2.2.2 (by decide) (by decide) ?_
                refine Go.iloadN H d1_153 rfl rfl ?_
                refine Go.bipush (12 : Int32) H d1_154 rfl rfl ?_
                refine Go.icmpY (pc' := 167) H d1_156 (flt (own_nlt (n := n) (i := 12) (by decide) (by omega))).2.2.2 (by decide) (by decide) ?_
                refine Go.aloadN H d1_167 rfl rfl rfl ?_
                have hni : n = 6 := by omega
                subst hni
                rw [pd_full (by rw [List.length_take]; omega)] at F32
                exact Go.areturn [] H d1_168 rfl rfl (own_narR rfl) ⟨_, rfl, own_ext KK, Nat.le_of_eq g3.symm, F32, rfl⟩ all0 (by decide) (by decide)
            ·
              refine Go.icmpY (pc' := 69) H d1_60 (flt (own_nlt (n := n) (i := 5) (by decide) (by omega))).2.2.2 (by decide) (by decide) ?_
              refine Go.iloadN H d1_69 rfl rfl ?_
              refine Go.bipush (6 : Int32) H d1_70 rfl rfl ?_
              refine Go.icmpY (pc' := 83) H d1_72 (flt (own_nlt (n := n) (i := 6) (by decide) (by omega))).2.2.2 (by decide) (by decide) ?_
              refine Go.iloadN H d1_83 rfl rfl ?_
              refine Go.bipush (7 : Int32) H d1_84 rfl rfl ?_
              refine Go.icmpY (pc' := 97) H d1_86 (flt (own_nlt (n := n) (i := 7) (by decide) (by omega))).2.2.2 (by decide) (by decide) ?_
              refine Go.iloadN H d1_97 rfl rfl ?_
              refine Go.bipush (8 : Int32) H d1_98 rfl rfl ?_
              refine Go.icmpY (pc' := 111) H d1_100 (flt (own_nlt (n := n) (i := 8) (by decide) (by omega))).2.2.2 (by decide) (by decide) ?_
              refine Go.iloadN H d1_111 rfl rfl ?_
              refine Go.bipush (9 : Int32) H d1_112 rfl rfl ?_
              refine Go.icmpY (pc' := 125) H d1_114 (flt (own_nlt (n := n) (i := 9) (by decide) (by omega))).2.2.2 (by decide) (by decide) ?_
              refine Go.iloadN H d1_125 rfl rfl ?_
              refine Go.bipush (10 : Int32) H d1_126 rfl rfl ?_
              refine Go.icmpY (pc' := 139) H d1_128 (flt (own_nlt (n := n) (i := 10) (by decide) (by omega))).2.2.2 (by decide) (by decide) ?_
              refine Go.iloadN H d1_139 rfl rfl ?_
              refine Go.bipush (11 : Int32) H d1_140 rfl rfl ?_
              refine Go.icmpY (pc' := 153) H d1_142 (flt (own_nlt (n := n) (i := 11) (by decide) (by omega))).2.2.2 (by decide) (by decide) ?_
              refine Go.iloadN H d1_153 rfl rfl ?_
              refine Go.bipush (12 : Int32) H d1_154 rfl rfl ?_
              refine Go.icmpY (pc' := 167) H d1_156 (flt (own_nlt (n := n) (i := 12) (by decide) (by omega))).2.2.2 (by decide) (by decide) ?_
              refine Go.aloadN H d1_167 rfl rfl rfl ?_
              have hni : n = 5 := by omega
              subst hni
              rw [pd_full (by rw [List.length_take]; omega)] at F28
              exact Go.areturn [] H d1_168 rfl rfl (own_narR rfl) ⟨_, rfl, own_ext KK, Nat.le_of_eq g3.symm, F28, rfl⟩ all0 (by decide) (by decide)
          ·
            refine Go.icmpY (pc' := 58) H d1_49 (flt (own_nlt (n := n) (i := 4) (by decide) (by omega))).2.2.2 (by decide) (by decide) ?_
            refine Go.iloadN H d1_58 rfl rfl ?_
            refine Go.iconst (5 : Int32) H d1_59 rfl rfl ?_
            refine Go.icmpY (pc' := 69) H d1_60 (flt (own_nlt (n := n) (i := 5) (by decide) (by omega))).2.2.2 (by decide) (by decide) ?_
            refine Go.iloadN H d1_69 rfl rfl ?_
            refine Go.bipush (6 : Int32) H d1_70 rfl rfl ?_
            refine Go.icmpY (pc' := 83) H d1_72 (flt (own_nlt (n := n) (i := 6) (by decide) (by omega))).2.2.2 (by decide) (by decide) ?_
            refine Go.iloadN H d1_83 rfl rfl ?_
            refine Go.bipush (7 : Int32) H d1_84 rfl rfl ?_
            refine Go.icmpY (pc' := 97) H d1_86 (flt (own_nlt (n := n) (i := 7) (by decide) (by omega))).2.2.2 (by decide) (by decide) ?_
            refine Go.iloadN H d1_97 rfl rfl ?_
            refine Go.bipush (8 : Int32) H d1_98 rfl rfl ?_
            refine Go.icmpY (pc' := 111) H d1_100 (flt (own_nlt (n := n) (i := 8) (by decide) (by omega))).2.2.2 (by decide) (by decide) ?_
            refine Go.iloadN H d1_111 rfl rfl ?_
            refine Go.bipush (9 : Int32) H d1_112 rfl rfl ?_
            refine Go.icmpY (pc' := 125) H d1_114 (flt (own_nlt (n := n) (i := 9) (by decide) (by omega))).2.2.2 (by decide) (by decide) ?_
            refine Go.iloadN H d1_125 rfl rfl ?_
            refine Go.bipush (10 : Int32) H d1_126 rfl rfl ?_
            refine Go.icmpY (pc' := 139) H d1_128 (flt (own_nlt (n := n) (i := 10) (by decide) (by omega))).2.2.2 (by decide) (by decide) ?_
            refine Go.iloadN H d1_139 rfl rfl ?_
            refine Go.bipush (11 : Int32) H d1_140 rfl rfl ?_
            refine Go.icmpY (pc' := 153) H d1_142 (flt (own_nlt (n := n) (i := 11) (by decide) (by omega))).2.2.2 (by decide) (by decide) ?_
            refine Go.iloadN H d1_153 rfl rfl ?_
            refine Go.bipush (12 : Int32) H d1_154 rfl rfl ?_
            refine Go.icmpY (pc' := 167) H d1_156 (flt (own_nlt (n := n) (i := 12) (by decide) (by omega))).2.2.2 (by decide) (by decide) ?_
            refine Go.aloadN H d1_167 rfl rfl rfl ?_
            have hni : n = 4 := by omega
            subst hni
            rw [pd_full (by rw [List.length_take]; omega)] at F24
            exact Go.areturn [] H d1_168 rfl rfl (own_narR rfl) ⟨_, rfl, own_ext KK, Nat.le_of_eq g3.symm, F24, rfl⟩ all0 (by decide) (by decide)
        ·
          refine Go.icmpY (pc' := 47) H d1_38 (flt (own_nlt (n := n) (i := 3) (by decide) (by omega))).2.2.2 (by decide) (by decide) ?_
          refine Go.iloadN H d1_47 rfl rfl ?_
          refine Go.iconst (4 : Int32) H d1_48 rfl rfl ?_
          refine Go.icmpY (pc' := 58) H d1_49 (flt (own_nlt (n := n) (i := 4) (by decide) (by omega))).2.2.2 (by decide) (by decide) ?_
          refine Go.iloadN H d1_58 rfl rfl ?_
          refine Go.iconst (5 : Int32) H d1_59 rfl rfl ?_
          refine Go.icmpY (pc' := 69) H d1_60 (flt (own_nlt (n := n) (i := 5) (by decide) (by omega))).2.2.2 (by decide) (by decide) ?_
          refine Go.iloadN H d1_69 rfl rfl ?_
          refine Go.bipush (6 : Int32) H d1_70 rfl rfl ?_
          refine Go.icmpY (pc' := 83) H d1_72 (flt (own_nlt (n := n) (i := 6) (by decide) (by omega))).2.2.2 (by decide) (by decide) ?_
          refine Go.iloadN H d1_83 rfl rfl ?_
          refine Go.bipush (7 : Int32) H d1_84 rfl rfl ?_
          refine Go.icmpY (pc' := 97) H d1_86 (flt (own_nlt (n := n) (i := 7) (by decide) (by omega))).2.2.2 (by decide) (by decide) ?_
          refine Go.iloadN H d1_97 rfl rfl ?_
          refine Go.bipush (8 : Int32) H d1_98 rfl rfl ?_
          refine Go.icmpY (pc' := 111) H d1_100 (flt (own_nlt (n := n) (i := 8) (by decide) (by omega))).2.2.2 (by decide) (by decide) ?_
          refine Go.iloadN H d1_111 rfl rfl ?_
          refine Go.bipush (9 : Int32) H d1_112 rfl rfl ?_
          refine Go.icmpY (pc' := 125) H d1_114 (flt (own_nlt (n := n) (i := 9) (by decide) (by omega))).2.2.2 (by decide) (by decide) ?_
          refine Go.iloadN H d1_125 rfl rfl ?_
          refine Go.bipush (10 : Int32) H d1_126 rfl rfl ?_
          refine Go.icmpY (pc' := 139) H d1_128 (flt (own_nlt (n := n) (i := 10) (by decide) (by omega))).2.2.2 (by decide) (by decide) ?_
          refine Go.iloadN H d1_139 rfl rfl ?_
          refine Go.bipush (11 : Int32) H d1_140 rfl rfl ?_
          refine Go.icmpY (pc' := 153) H d1_142 (flt (own_nlt (n := n) (i := 11) (by decide) (by omega))).2.2.2 (by decide) (by decide) ?_
          refine Go.iloadN H d1_153 rfl rfl ?_
          refine Go.bipush (12 : Int32) H d1_154 rfl rfl ?_
          refine Go.icmpY (pc' := 167) H d1_156 (flt (own_nlt (n := n) (i := 12) (by decide) (by omega))).2.2.2 (by decide) (by decide) ?_
          refine Go.aloadN H d1_167 rfl rfl rfl ?_
          have hni : n = 3 := by omega
          subst hni
          rw [pd_full (by rw [List.length_take]; omega)] at F20
          exact Go.areturn [] H d1_168 rfl rfl (own_narR rfl) ⟨_, rfl, own_ext KK, Nat.le_of_eq g3.symm, F20, rfl⟩ all0 (by decide) (by decide)
      ·
        refine Go.icmpY (pc' := 36) H d1_27 (flt (own_nlt (n := n) (i := 2) (by decide) (by omega))).2.2.2 (by decide) (by decide) ?_
        refine Go.iloadN H d1_36 rfl rfl ?_
        refine Go.iconst (3 : Int32) H d1_37 rfl rfl ?_
        refine Go.icmpY (pc' := 47) H d1_38 (flt (own_nlt (n := n) (i := 3) (by decide) (by omega))).2.2.2 (by decide) (by decide) ?_
        refine Go.iloadN H d1_47 rfl rfl ?_
        refine Go.iconst (4 : Int32) H d1_48 rfl rfl ?_
        refine Go.icmpY (pc' := 58) H d1_49 (flt (own_nlt (n := n) (i := 4) (by decide) (by omega))).2.2.2 (by decide) (by decide) ?_
        refine Go.iloadN H d1_58 rfl rfl ?_
        refine Go.iconst (5 : Int32) H d1_59 rfl rfl ?_
        refine Go.icmpY (pc' := 69) H d1_60 (flt (own_nlt (n := n) (i := 5) (by decide) (by omega))).2.2.2 (by decide) (by decide) ?_
        refine Go.iloadN H d1_69 rfl rfl ?_
        refine Go.bipush (6 : Int32) H d1_70 rfl rfl ?_
        refine Go.icmpY (pc' := 83) H d1_72 (flt (own_nlt (n := n) (i := 6) (by decide) (by omega))).2.2.2 (by decide) (by decide) ?_
        refine Go.iloadN H d1_83 rfl rfl ?_
        refine Go.bipush (7 : Int32) H d1_84 rfl rfl ?_
        refine Go.icmpY (pc' := 97) H d1_86 (flt (own_nlt (n := n) (i := 7) (by decide) (by omega))).2.2.2 (by decide) (by decide) ?_
        refine Go.iloadN H d1_97 rfl rfl ?_
        refine Go.bipush (8 : Int32) H d1_98 rfl rfl ?_
        refine Go.icmpY (pc' := 111) H d1_100 (flt (own_nlt (n := n) (i := 8) (by decide) (by omega))).2.2.2 (by decide) (by decide) ?_
        refine Go.iloadN H d1_111 rfl rfl ?_
        refine Go.bipush (9 : Int32) H d1_112 rfl rfl ?_
        refine Go.icmpY (pc' := 125) H d1_114 (flt (own_nlt (n := n) (i := 9) (by decide) (by omega))).2.2.2 (by decide) (by decide) ?_
        refine Go.iloadN H d1_125 rfl rfl ?_
        refine Go.bipush (10 : Int32) H d1_126 rfl rfl ?_
        refine Go.icmpY (pc' := 139) H d1_128 (flt (own_nlt (n := n) (i := 10) (by decide) (by omega))).2.2.2 (by decide) (by decide) ?_
        refine Go.iloadN H d1_139 rfl rfl ?_
        refine Go.bipush (11 : Int32) H d1_140 rfl rfl ?_
        refine Go.icmpY (pc' := 153) H d1_142 (flt (own_nlt (n := n) (i := 11) (by decide) (by omega))).2.2.2 (by decide) (by decide) ?_
        refine Go.iloadN H d1_153 rfl rfl ?_
        refine Go.bipush (12 : Int32) H d1_154 rfl rfl ?_
        refine Go.icmpY (pc' := 167) H d1_156 (flt (own_nlt (n := n) (i := 12) (by decide) (by omega))).2.2.2 (by decide) (by decide) ?_
        refine Go.aloadN H d1_167 rfl rfl rfl ?_
        have hni : n = 2 := by omega
        subst hni
        rw [pd_full (by rw [List.length_take]; omega)] at F16
        exact Go.areturn [] H d1_168 rfl rfl (own_narR rfl) ⟨_, rfl, own_ext KK, Nat.le_of_eq g3.symm, F16, rfl⟩ all0 (by decide) (by decide)
    ·
      refine Go.icmpY (pc' := 25) H d1_16 (flt (own_nlt (n := n) (i := 1) (by decide) (by omega))).2.2.2 (by decide) (by decide) ?_
      refine Go.iloadN H d1_25 rfl rfl ?_
      refine Go.iconst (2 : Int32) H d1_26 rfl rfl ?_
      refine Go.icmpY (pc' := 36) H d1_27 (flt (own_nlt (n := n) (i := 2) (by decide) (by omega))).2.2.2 (by decide) (by decide) ?_
      refine Go.iloadN H d1_36 rfl rfl ?_
      refine Go.iconst (3 : Int32) H d1_37 rfl rfl ?_
      refine Go.icmpY (pc' := 47) H d1_38 (flt (own_nlt (n := n) (i := 3) (by decide) (by omega))).2.2.2 (by decide) (by decide) ?_
      refine Go.iloadN H d1_47 rfl rfl ?_
      refine Go.iconst (4 : Int32) H d1_48 rfl rfl ?_
      refine Go.icmpY (pc' := 58) H d1_49 (flt (own_nlt (n := n) (i := 4) (by decide) (by omega))).2.2.2 (by decide) (by decide) ?_
      refine Go.iloadN H d1_58 rfl rfl ?_
      refine Go.iconst (5 : Int32) H d1_59 rfl rfl ?_
      refine Go.icmpY (pc' := 69) H d1_60 (flt (own_nlt (n := n) (i := 5) (by decide) (by omega))).2.2.2 (by decide) (by decide) ?_
      refine Go.iloadN H d1_69 rfl rfl ?_
      refine Go.bipush (6 : Int32) H d1_70 rfl rfl ?_
      refine Go.icmpY (pc' := 83) H d1_72 (flt (own_nlt (n := n) (i := 6) (by decide) (by omega))).2.2.2 (by decide) (by decide) ?_
      refine Go.iloadN H d1_83 rfl rfl ?_
      refine Go.bipush (7 : Int32) H d1_84 rfl rfl ?_
      refine Go.icmpY (pc' := 97) H d1_86 (flt (own_nlt (n := n) (i := 7) (by decide) (by omega))).2.2.2 (by decide) (by decide) ?_
      refine Go.iloadN H d1_97 rfl rfl ?_
      refine Go.bipush (8 : Int32) H d1_98 rfl rfl ?_
      refine Go.icmpY (pc' := 111) H d1_100 (flt (own_nlt (n := n) (i := 8) (by decide) (by omega))).2.2.2 (by decide) (by decide) ?_
      refine Go.iloadN H d1_111 rfl rfl ?_
      refine Go.bipush (9 : Int32) H d1_112 rfl rfl ?_
      refine Go.icmpY (pc' := 125) H d1_114 (flt (own_nlt (n := n) (i := 9) (by decide) (by omega))).2.2.2 (by decide) (by decide) ?_
      refine Go.iloadN H d1_125 rfl rfl ?_
      refine Go.bipush (10 : Int32) H d1_126 rfl rfl ?_
      refine Go.icmpY (pc' := 139) H d1_128 (flt (own_nlt (n := n) (i := 10) (by decide) (by omega))).2.2.2 (by decide) (by decide) ?_
      refine Go.iloadN H d1_139 rfl rfl ?_
      refine Go.bipush (11 : Int32) H d1_140 rfl rfl ?_
      refine Go.icmpY (pc' := 153) H d1_142 (flt (own_nlt (n := n) (i := 11) (by decide) (by omega))).2.2.2 (by decide) (by decide) ?_
      refine Go.iloadN H d1_153 rfl rfl ?_
      refine Go.bipush (12 : Int32) H d1_154 rfl rfl ?_
      refine Go.icmpY (pc' := 167) H d1_156 (flt (own_nlt (n := n) (i := 12) (by decide) (by omega))).2.2.2 (by decide) (by decide) ?_
      refine Go.aloadN H d1_167 rfl rfl rfl ?_
      have hni : n = 1 := by omega
      subst hni
      rw [pd_full (by rw [List.length_take]; omega)] at F12
      exact Go.areturn [] H d1_168 rfl rfl (own_narR rfl) ⟨_, rfl, own_ext KK, Nat.le_of_eq g3.symm, F12, rfl⟩ all0 (by decide) (by decide)
  ·
    refine Go.ifY (pc' := 14) H d1_5 (flt (own_nlt (n := n) (i := 0) (by decide) (by omega))).2.2.2 (by decide) (by decide) ?_
    refine Go.iloadN H d1_14 rfl rfl ?_
    refine Go.iconst (1 : Int32) H d1_15 rfl rfl ?_
    refine Go.icmpY (pc' := 25) H d1_16 (flt (own_nlt (n := n) (i := 1) (by decide) (by omega))).2.2.2 (by decide) (by decide) ?_
    refine Go.iloadN H d1_25 rfl rfl ?_
    refine Go.iconst (2 : Int32) H d1_26 rfl rfl ?_
    refine Go.icmpY (pc' := 36) H d1_27 (flt (own_nlt (n := n) (i := 2) (by decide) (by omega))).2.2.2 (by decide) (by decide) ?_
    refine Go.iloadN H d1_36 rfl rfl ?_
    refine Go.iconst (3 : Int32) H d1_37 rfl rfl ?_
    refine Go.icmpY (pc' := 47) H d1_38 (flt (own_nlt (n := n) (i := 3) (by decide) (by omega))).2.2.2 (by decide) (by decide) ?_
    refine Go.iloadN H d1_47 rfl rfl ?_
    refine Go.iconst (4 : Int32) H d1_48 rfl rfl ?_
    refine Go.icmpY (pc' := 58) H d1_49 (flt (own_nlt (n := n) (i := 4) (by decide) (by omega))).2.2.2 (by decide) (by decide) ?_
    refine Go.iloadN H d1_58 rfl rfl ?_
    refine Go.iconst (5 : Int32) H d1_59 rfl rfl ?_
    refine Go.icmpY (pc' := 69) H d1_60 (flt (own_nlt (n := n) (i := 5) (by decide) (by omega))).2.2.2 (by decide) (by decide) ?_
    refine Go.iloadN H d1_69 rfl rfl ?_
    refine Go.bipush (6 : Int32) H d1_70 rfl rfl ?_
    refine Go.icmpY (pc' := 83) H d1_72 (flt (own_nlt (n := n) (i := 6) (by decide) (by omega))).2.2.2 (by decide) (by decide) ?_
    refine Go.iloadN H d1_83 rfl rfl ?_
    refine Go.bipush (7 : Int32) H d1_84 rfl rfl ?_
    refine Go.icmpY (pc' := 97) H d1_86 (flt (own_nlt (n := n) (i := 7) (by decide) (by omega))).2.2.2 (by decide) (by decide) ?_
    refine Go.iloadN H d1_97 rfl rfl ?_
    refine Go.bipush (8 : Int32) H d1_98 rfl rfl ?_
    refine Go.icmpY (pc' := 111) H d1_100 (flt (own_nlt (n := n) (i := 8) (by decide) (by omega))).2.2.2 (by decide) (by decide) ?_
    refine Go.iloadN H d1_111 rfl rfl ?_
    refine Go.bipush (9 : Int32) H d1_112 rfl rfl ?_
    refine Go.icmpY (pc' := 125) H d1_114 (flt (own_nlt (n := n) (i := 9) (by decide) (by omega))).2.2.2 (by decide) (by decide) ?_
    refine Go.iloadN H d1_125 rfl rfl ?_
    refine Go.bipush (10 : Int32) H d1_126 rfl rfl ?_
    refine Go.icmpY (pc' := 139) H d1_128 (flt (own_nlt (n := n) (i := 10) (by decide) (by omega))).2.2.2 (by decide) (by decide) ?_
    refine Go.iloadN H d1_139 rfl rfl ?_
    refine Go.bipush (11 : Int32) H d1_140 rfl rfl ?_
    refine Go.icmpY (pc' := 153) H d1_142 (flt (own_nlt (n := n) (i := 11) (by decide) (by omega))).2.2.2 (by decide) (by decide) ?_
    refine Go.iloadN H d1_153 rfl rfl ?_
    refine Go.bipush (12 : Int32) H d1_154 rfl rfl ?_
    refine Go.icmpY (pc' := 167) H d1_156 (flt (own_nlt (n := n) (i := 12) (by decide) (by omega))).2.2.2 (by decide) (by decide) ?_
    refine Go.aloadN H d1_167 rfl rfl rfl ?_
    have hni : n = 0 := by omega
    subst hni
    rw [pd_full (by rw [List.length_take]; omega)] at F6
    exact Go.areturn [] H d1_168 rfl rfl (own_narR rfl) ⟨_, rfl, own_ext KK, Nat.le_of_eq g3.symm, F6, rfl⟩ all0 (by decide) (by decide)
theorem sel_miss {dD dA : Addr} {cs : List Int32} (h1 : ¬ [(102 : Int32), (99 : Int32), (114 : Int32), (58 : Int32), (109 : Int32), (101 : Int32), (116 : Int32), (97 : Int32), (100 : Int32), (97 : Int32), (116 : Int32), (97 : Int32)] = cs) (h2 : ¬ [(102 : Int32), (99 : Int32), (114 : Int32), (58 : Int32), (97 : Int32), (99 : Int32), (108 : Int32)] = cs) : selV dD dA cs = .null := by rw [selV, if_neg h1, if_neg h2]
theorem own_lenne {A cs : List Int32} (h : A.length ≠ cs.length) : ¬ A = cs := fun e => h (congrArg _ e)
theorem own_gd {L : List Int32} {p : Nat} (h : p < L.length) : L[p]? = some (L.getD p 0) := by simp [List.getD, h]
theorem own_setsame {L : List Int32} {p : Nat} {v : Int32} (h : p < L.length) (e : L.getD p 0 = v) : L.set p v = L := by
  subst e
  apply List.ext_getElem?
  intro i
  rw [List.getElem?_set]
  split
  · rename_i q; subst q; simp [h, List.getD]
  · rfl
theorem own_setL {L : List Int32} {p : Nat} {v : Int32} (h : ∀ c ∈ L, isL c) (hv : isL v) : ∀ c ∈ L.set p v, isL c := fun c m => by
  rcases List.mem_or_eq_of_mem_set m with q | q
  · exact h c q
  · exact q ▸ hv
theorem own_takeL' {L : List Int32} {n : Nat} (h : ∀ c ∈ L, isL c) : ∀ c ∈ L.take n, isL c := fun c m => h c (List.mem_of_mem_take m)
theorem selA_hit {dD dA : Addr} {x : Int32} : selV dD dA ([(102 : Int32), (99 : Int32), (114 : Int32), (58 : Int32), (97 : Int32), (99 : Int32), (108 : Int32), x].take 7) = .ref dA := by simp [selV]
theorem selA_hit7 {dD dA : Addr} {x v : Int32} {p : Nat} (h : ¬ p < 7) (h2 : p < 8) : selV dD dA (([(102 : Int32), (99 : Int32), (114 : Int32), (58 : Int32), (97 : Int32), (99 : Int32), (108 : Int32), x].set p v).take 7) = .ref dA := by
  obtain rfl : p = 7 := by omega
  simp [selV]
theorem selA_len {dD dA : Addr} {M : List Int32} {n : Nat} (hM : M.length = 8) (hn : n ≤ 8) (h : ¬ n = 7) : selV dD dA (M.take n) = .null :=
  sel_miss (own_lenne (by rw [List.length_take, hM]; simp; omega)) (own_lenne (by rw [List.length_take, hM]; simp; omega))
theorem selA_ne {dD dA : Addr} {x v : Int32} {p : Nat} (h : p < 7) (hv : ¬ [(102 : Int32), (99 : Int32), (114 : Int32), (58 : Int32), (97 : Int32), (99 : Int32), (108 : Int32), x].getD p 0 = v) : selV dD dA (([(102 : Int32), (99 : Int32), (114 : Int32), (58 : Int32), (97 : Int32), (99 : Int32), (108 : Int32), x].set p v).take 7) = .null := by
  refine sel_miss (own_lenne (by simp)) (fun e => ?_)
  obtain rfl | rfl | rfl | rfl | rfl | rfl | rfl : p = 0 ∨ p = 1 ∨ p = 2 ∨ p = 3 ∨ p = 4 ∨ p = 5 ∨ p = 6 := by omega
  all_goals (simp at e hv; first | exact hv e | exact hv e.symm)
theorem selD_hit {dD dA : Addr} {x : Int32} : selV dD dA ([(102 : Int32), (99 : Int32), (114 : Int32), (58 : Int32), (109 : Int32), (101 : Int32), (116 : Int32), (97 : Int32), (100 : Int32), (97 : Int32), (116 : Int32), (97 : Int32), x].take 12) = .ref dD := by simp [selV]
theorem selD_hit12 {dD dA : Addr} {x v : Int32} {p : Nat} (h : ¬ p < 12) (h2 : p < 13) : selV dD dA (([(102 : Int32), (99 : Int32), (114 : Int32), (58 : Int32), (109 : Int32), (101 : Int32), (116 : Int32), (97 : Int32), (100 : Int32), (97 : Int32), (116 : Int32), (97 : Int32), x].set p v).take 12) = .ref dD := by
  obtain rfl : p = 12 := by omega
  simp [selV]
theorem selD_na {x v : Int32} {p n : Nat} (h : p < 13) : ¬ [(102 : Int32), (99 : Int32), (114 : Int32), (58 : Int32), (97 : Int32), (99 : Int32), (108 : Int32)] = ([(102 : Int32), (99 : Int32), (114 : Int32), (58 : Int32), (109 : Int32), (101 : Int32), (116 : Int32), (97 : Int32), (100 : Int32), (97 : Int32), (116 : Int32), (97 : Int32), x].set p v).take n := fun e => by
  have h4 := congrArg (fun z : List Int32 => z[4]?) e
  have h5 := congrArg (fun z : List Int32 => z[5]?) e
  have hl := congrArg List.length e
  simp only [List.length_take, List.length_set, List.length_cons, List.length_nil] at hl
  simp only [List.getElem?_take, List.getElem?_set] at h4 h5
  rw [if_pos (by omega)] at h4 h5
  by_cases q : p = 4
  · subst q; simp at h5
  · rw [if_neg q] at h4; simp at h4
theorem selD_na0 {x : Int32} {n : Nat} : ¬ [(102 : Int32), (99 : Int32), (114 : Int32), (58 : Int32), (97 : Int32), (99 : Int32), (108 : Int32)] = [(102 : Int32), (99 : Int32), (114 : Int32), (58 : Int32), (109 : Int32), (101 : Int32), (116 : Int32), (97 : Int32), (100 : Int32), (97 : Int32), (116 : Int32), (97 : Int32), x].take n := fun e => by
  have h4 := congrArg (fun z : List Int32 => z[4]?) e
  have hl := congrArg List.length e
  simp only [List.length_take, List.length_cons, List.length_nil] at hl
  simp only [List.getElem?_take] at h4
  rw [if_pos (by omega)] at h4
  simp at h4
theorem selD_len {dD dA : Addr} {x v : Int32} {p n : Nat} (hp : p < 13) (hn : n ≤ 13) (h : ¬ n = 12) : selV dD dA (([(102 : Int32), (99 : Int32), (114 : Int32), (58 : Int32), (109 : Int32), (101 : Int32), (116 : Int32), (97 : Int32), (100 : Int32), (97 : Int32), (116 : Int32), (97 : Int32), x].set p v).take n) = .null :=
  sel_miss (own_lenne (by rw [List.length_take, List.length_set]; simp; omega)) (selD_na hp)
theorem selD_len0 {dD dA : Addr} {x : Int32} {n : Nat} (hn : n ≤ 13) (h : ¬ n = 12) : selV dD dA ([(102 : Int32), (99 : Int32), (114 : Int32), (58 : Int32), (109 : Int32), (101 : Int32), (116 : Int32), (97 : Int32), (100 : Int32), (97 : Int32), (116 : Int32), (97 : Int32), x].take n) = .null :=
  sel_miss (own_lenne (by rw [List.length_take]; simp; omega)) selD_na0
theorem selD_ne {dD dA : Addr} {x v : Int32} {p : Nat} (h : p < 12) (hv : ¬ [(102 : Int32), (99 : Int32), (114 : Int32), (58 : Int32), (109 : Int32), (101 : Int32), (116 : Int32), (97 : Int32), (100 : Int32), (97 : Int32), (116 : Int32), (97 : Int32), x].getD p 0 = v) : selV dD dA (([(102 : Int32), (99 : Int32), (114 : Int32), (58 : Int32), (109 : Int32), (101 : Int32), (116 : Int32), (97 : Int32), (100 : Int32), (97 : Int32), (116 : Int32), (97 : Int32), x].set p v).take 12) = .null := by
  refine sel_miss (fun e => ?_) (selD_na (by omega))
  obtain rfl | rfl | rfl | rfl | rfl | rfl | rfl | rfl | rfl | rfl | rfl | rfl : p = 0 ∨ p = 1 ∨ p = 2 ∨ p = 3 ∨ p = 4 ∨ p = 5 ∨ p = 6 ∨ p = 7 ∨ p = 8 ∨ p = 9 ∨ p = 10 ∨ p = 11 := by omega
  all_goals (simp at e hv; first | exact hv e | exact hv e.symm)
theorem own_mod8 (x : Int32) : ∃ n : Nat, (x &&& 2147483647) % 8 = n.toInt32 ∧ n < 8 := by
  have m1 := c_mask x 2147483647 31 (by decide) (by decide)
  have q1 := (c_irem (x &&& 2147483647) 8 8 (by decide)).1 (by omega)
  refine ⟨((x &&& 2147483647) % 8).toInt.toNat, Int32.toInt_inj.mp ?_, by omega⟩
  rw [own_len (by omega)]; omega
theorem own_mod9 (x : Int32) : ∃ n : Nat, (x &&& 2147483647) % 9 = n.toInt32 ∧ n < 9 := by
  have m1 := c_mask x 2147483647 31 (by decide) (by decide)
  have q1 := (c_irem (x &&& 2147483647) 9 9 (by decide)).1 (by omega)
  refine ⟨((x &&& 2147483647) % 9).toInt.toNat, Int32.toInt_inj.mp ?_, by omega⟩
  rw [own_len (by omega)]; omega
theorem own_mod13 (x : Int32) : ∃ n : Nat, (x &&& 2147483647) % 13 = n.toInt32 ∧ n < 13 := by
  have m1 := c_mask x 2147483647 31 (by decide) (by decide)
  have q1 := (c_irem (x &&& 2147483647) 13 13 (by decide)).1 (by omega)
  refine ⟨((x &&& 2147483647) % 13).toInt.toNat, Int32.toInt_inj.mp ?_, by omega⟩
  rw [own_len (by omega)]; omega
theorem own_mod14 (x : Int32) : ∃ n : Nat, (x &&& 2147483647) % 14 = n.toInt32 ∧ n < 14 := by
  have m1 := c_mask x 2147483647 31 (by decide) (by decide)
  have q1 := (c_irem (x &&& 2147483647) 14 14 (by decide)).1 (by omega)
  refine ⟨((x &&& 2147483647) % 14).toInt.toNat, Int32.toInt_inj.mp ?_, by omega⟩
  rw [own_len (by omega)]; omega

theorem w1 : Jvm.Cond.constant "com/example/cairnstore/cairnstore/layout/AttachmentBySegmentPinLaw" (7 : Nat) (2147483647 : Int32) ∈ tables_1 := List.mem_of_getElem? (i := 1) rfl
theorem w2 : Jvm.Cond.classLink "com/example/cairnstore/cairnstore/layout/AttachmentBySegmentPinLaw" (8 : Nat) "java/lang/String" ∈ tables_1 := List.mem_of_getElem? (i := 2) rfl
theorem w8 : Jvm.Cond.code N18 method_3_code (3 : Nat) (Option.some (Jvm.ClassFile.FieldType.array Jvm.ClassFile.FieldType.char)) ∈ tables_1 := List.mem_of_getElem? (i := 8) rfl
theorem w7 : Jvm.Cond.initialized "com/example/cairnstore/cairnstore/layout/AttachmentBySegmentPinLaw" ∈ tables_1 := List.mem_of_getElem? (i := 7) rfl
theorem pd_N18 : parseMethodDescriptor N18.desc = some ⟨[(.array .char), .int], (some (.array .char))⟩ := by decide +kernel
theorem nh_N18 : N18.cls ≠ "java/lang/invoke/MethodHandle" ∧ N18.cls ≠ "java/lang/invoke/VarHandle" := by decide
theorem w5 : Jvm.Cond.methodLink "com/example/cairnstore/cairnstore/layout/AttachmentBySegmentPinLaw" (10 : Nat) N18 ∈ tables_1 := List.mem_of_getElem? (i := 5) rfl
theorem w6 : Jvm.Cond.static N18 ∈ tables_1 := List.mem_of_getElem? (i := 6) rfl
theorem w11 : Jvm.Cond.code N5 jdk_42_method_3_code (2 : Nat) (Option.none : Option Jvm.ClassFile.FieldType) ∈ tables_1 := List.mem_of_getElem? (i := 11) rfl
theorem pd_N5 : parseMethodDescriptor N5.desc = some ⟨[(.array .char)], none⟩ := by decide +kernel
theorem w9 : Jvm.Cond.methodLink "com/example/cairnstore/cairnstore/layout/AttachmentBySegmentPinLaw" (16 : Nat) N5 ∈ tables_1 := List.mem_of_getElem? (i := 9) rfl
theorem w10 : Jvm.Cond.instanceMethod N5 ∈ tables_1 := List.mem_of_getElem? (i := 10) rfl
theorem w38 : Jvm.Cond.code N17 prog_2_method_4_code (5 : Nat) (Option.some (Jvm.ClassFile.FieldType.object "java/util/Optional")) ∈ tables_1 := List.mem_of_getElem? (i := 38) rfl
theorem pd_N17 : parseMethodDescriptor N17.desc = some ⟨[(.object "java/lang/String")], (some (.object "java/util/Optional"))⟩ := by decide +kernel
theorem w35 : Jvm.Cond.methodLink "com/example/cairnstore/cairnstore/layout/AttachmentBySegmentPinLaw" (19 : Nat) N17 ∈ tables_1 := List.mem_of_getElem? (i := 35) rfl
theorem w36 : Jvm.Cond.static N17 ∈ tables_1 := List.mem_of_getElem? (i := 36) rfl
theorem w85 : Jvm.Cond.fieldLink "com/example/cairnstore/cairnstore/layout/AttachmentBySegmentPinLaw" (35 : Nat) "com/example/cairnstore/cairnstore/layout/Attachment" "DESCRIPTION" "Lcom/example/cairnstore/cairnstore/layout/Attachment;" ∈ tables_1 := List.mem_of_getElem? (i := 85) rfl
theorem w90 : Jvm.Cond.code N15 jdk_32_method_6_code (1 : Nat) (Option.some Jvm.ClassFile.FieldType.boolean) ∈ tables_1 := List.mem_of_getElem? (i := 90) rfl
theorem pd_N15 : parseMethodDescriptor N15.desc = some ⟨[], (some .boolean)⟩ := by decide +kernel
theorem w86 : Jvm.Cond.methodLink "com/example/cairnstore/cairnstore/layout/AttachmentBySegmentPinLaw" (25 : Nat) N15 ∈ tables_1 := List.mem_of_getElem? (i := 86) rfl
theorem w87 : Jvm.Cond.declares N15 ∈ tables_1 := List.mem_of_getElem? (i := 87) rfl
theorem w89 : Jvm.Cond.selects "java/util/Optional" N15 N15 ∈ tables_1 := List.mem_of_getElem? (i := 89) rfl
theorem w88 : Jvm.Cond.instanceMethod N15 ∈ tables_1 := List.mem_of_getElem? (i := 88) rfl
theorem w95 : Jvm.Cond.code N16 jdk_32_method_5_code (1 : Nat) (Option.some (Jvm.ClassFile.FieldType.object "java/lang/Object")) ∈ tables_1 := List.mem_of_getElem? (i := 95) rfl
theorem pd_N16 : parseMethodDescriptor N16.desc = some ⟨[], (some (.object "java/lang/Object"))⟩ := by decide +kernel
theorem w91 : Jvm.Cond.methodLink "com/example/cairnstore/cairnstore/layout/AttachmentBySegmentPinLaw" (38 : Nat) N16 ∈ tables_1 := List.mem_of_getElem? (i := 91) rfl
theorem w92 : Jvm.Cond.declares N16 ∈ tables_1 := List.mem_of_getElem? (i := 92) rfl
theorem w94 : Jvm.Cond.selects "java/util/Optional" N16 N16 ∈ tables_1 := List.mem_of_getElem? (i := 94) rfl
theorem w93 : Jvm.Cond.instanceMethod N16 ∈ tables_1 := List.mem_of_getElem? (i := 93) rfl
theorem w103 : Jvm.Cond.fieldLink "com/example/cairnstore/cairnstore/layout/AttachmentBySegmentPinLaw" (31 : Nat) "com/example/cairnstore/cairnstore/layout/Attachment" "ACL" "Lcom/example/cairnstore/cairnstore/layout/Attachment;" ∈ tables_1 := List.mem_of_getElem? (i := 103) rfl
abbrev N19 : MethodName := ⟨"com/example/cairnstore/cairnstore/layout/AttachmentBySegmentPinLaw", "law", "(IIIII)Z"⟩
set_option maxRecDepth 65536 in
set_option maxHeartbeats 40000000 in
theorem ct_law (l : Launch) {Z : State} {n0 : Nat} {z : Int32} {f : Value} {vv dD dA sD sA bD bA oe : Addr} (W : Sx Z z f vv dD dA sD sA bD bA oe) (a : Int32) (b : Int32) (c : Int32) (d : Int32) (e : Int32) (h : Heap) : Ctr l Z n0 x code maxLocals ret room_1 #[(.int a), (.int b), (.int c), (.int d), (.int e)] h [] (fun v h' sn => v = some (.int 1) ∧ True) := by
  refine Ctr.of_go (ls := #[.val (.int a), .val (.int b), .val (.int c), .val (.int d), .val (.int e), .unset, .unset, .unset, .unset, .unset, .unset, .unset, .unset, .unset, .unset, .unset, .unset, .unset]) W.1.1 (plainFor_of_name pn_N18) (fun m => by simp [entryFrame, mkF, argsToLocals, Value.category, maxLocals]) (fun K H0 => ?_)
  have H : Ok Z K "com/example/cairnstore/cairnstore/layout/AttachmentBySegmentPinLaw" code 18 (some .boolean) "law" := H0
  refine Go.iloadN H at_0 rfl rfl ?_
  refine Go.iconst (1 : Int32) H at_1 rfl rfl ?_
  refine Go.iand H at_2 rfl ?_
  by_cases c1 : (a &&& (1 : Int32)) = (0 : Int32)
  ·
    refine Go.ifY (pc' := 10) H at_3 (teq c1).1 (by decide) (by decide) ?_
    refine Go.iconst (0 : Int32) H at_10 rfl rfl ?_
    refine Go.istore (ls' := #[.val (.int a), .val (.int b), .val (.int c), .val (.int d), .val (.int e), .val (.int (0 : Int32)), .unset, .unset, .unset, .unset, .unset, .unset, .unset, .unset, .unset, .unset, .unset, .unset]) H at_11 rfl rfl ?_
    refine Go.iloadN H at_13 rfl rfl ?_
    refine Go.iconst (1 : Int32) H at_14 rfl rfl ?_
    refine Go.ishr H at_15 rfl ?_
    refine Go.iconst (1 : Int32) H at_16 rfl rfl ?_
    refine Go.iand H at_17 rfl ?_
    by_cases c2 : ((a >>> ((1 : Int32) &&& 31)) &&& (1 : Int32)) = (0 : Int32)
    ·
      refine Go.ifY (pc' := 25) H at_18 (teq c2).1 (by decide) (by decide) ?_
      refine Go.iconst (0 : Int32) H at_25 rfl rfl ?_
      refine Go.istore (ls' := #[.val (.int a), .val (.int b), .val (.int c), .val (.int d), .val (.int e), .val (.int (0 : Int32)), .val (.int (0 : Int32)), .unset, .unset, .unset, .unset, .unset, .unset, .unset, .unset, .unset, .unset, .unset]) H at_26 rfl rfl ?_
      refine Go.iloadN H at_28 rfl rfl ?_
      refine Go.iconst (2 : Int32) H at_29 rfl rfl ?_
      refine Go.ishr H at_30 rfl ?_
      refine Go.iconst (3 : Int32) H at_31 rfl rfl ?_
      refine Go.iand H at_32 rfl ?_
      refine Go.istore (ls' := #[.val (.int a), .val (.int b), .val (.int c), .val (.int d), .val (.int e), .val (.int (0 : Int32)), .val (.int (0 : Int32)), .val (.int ((a >>> ((2 : Int32) &&& 31)) &&& (3 : Int32))), .unset, .unset, .unset, .unset, .unset, .unset, .unset, .unset, .unset, .unset]) H at_33 rfl rfl ?_
      refine Go.iload H at_35 rfl rfl ?_
      refine Go.ifY (pc' := 91) H at_37 (by decide) (by decide) (by decide) ?_
      refine Go.bipush (13 : Int32) H at_91 rfl rfl ?_
      refine Go.newarray 13 13 H at_93 rfl w0 rfl (by decide) (by decide) (by decide) (by decide) (by decide) (by decide) (by decide) ?_
      intro a3 h4 g5 z6 E7 F8
      replace F8 : Vec Z h4 a3 .char [(0 : Int32), (0 : Int32), (0 : Int32), (0 : Int32), (0 : Int32), (0 : Int32), (0 : Int32), (0 : Int32), (0 : Int32), (0 : Int32), (0 : Int32), (0 : Int32), (0 : Int32)] := F8
      show Go _ _ _ _ _ _ h4 [a3] 1 13 95 #[.val (.int a), .val (.int b), .val (.int c), .val (.int d), .val (.int e), .val (.int (0 : Int32)), .val (.int (0 : Int32)), .val (.int ((a >>> ((2 : Int32) &&& 31)) &&& (3 : Int32))), .unset, .unset, .unset, .unset, .unset, .unset, .unset, .unset, .unset, .unset] [(.ref a3)]
      refine Go.dup H at_95 rfl rfl ?_
      refine Go.iconst (0 : Int32) H at_96 rfl rfl ?_
      refine Go.bipush (102 : Int32) H at_97 rfl rfl ?_
      refine Go.castore (102 : Int32) H at_99 rfl F8 0 (by decide) (by decide) (Nat.le_of_ble_eq_true rfl) (by decide) z6 (by simp) ?_
      intro h9 K10 F11
      replace F11 : Vec Z h9 a3 .char [(102 : Int32), (0 : Int32), (0 : Int32), (0 : Int32), (0 : Int32), (0 : Int32), (0 : Int32), (0 : Int32), (0 : Int32), (0 : Int32), (0 : Int32), (0 : Int32), (0 : Int32)] := F11
      refine Go.dup H at_100 rfl rfl ?_
      refine Go.iconst (1 : Int32) H at_101 rfl rfl ?_
      refine Go.bipush (99 : Int32) H at_102 rfl rfl ?_
      refine Go.castore (99 : Int32) H at_104 rfl F11 1 (by decide) (by decide) (Nat.le_of_ble_eq_true rfl) (by decide) z6 (by simp) ?_
      intro h12 K13 F14
      replace F14 : Vec Z h12 a3 .char [(102 : Int32), (99 : Int32), (0 : Int32), (0 : Int32), (0 : Int32), (0 : Int32), (0 : Int32), (0 : Int32), (0 : Int32), (0 : Int32), (0 : Int32), (0 : Int32), (0 : Int32)] := F14
      refine Go.dup H at_105 rfl rfl ?_
      refine Go.iconst (2 : Int32) H at_106 rfl rfl ?_
      refine Go.bipush (114 : Int32) H at_107 rfl rfl ?_
      refine Go.castore (114 : Int32) H at_109 rfl F14 2 (by decide) (by decide) (Nat.le_of_ble_eq_true rfl) (by decide) z6 (by simp) ?_
      intro h15 K16 F17
      replace F17 : Vec Z h15 a3 .char [(102 : Int32), (99 : Int32), (114 : Int32), (0 : Int32), (0 : Int32), (0 : Int32), (0 : Int32), (0 : Int32), (0 : Int32), (0 : Int32), (0 : Int32), (0 : Int32), (0 : Int32)] := F17
      refine Go.dup H at_110 rfl rfl ?_
      refine Go.iconst (3 : Int32) H at_111 rfl rfl ?_
      refine Go.bipush (58 : Int32) H at_112 rfl rfl ?_
      refine Go.castore (58 : Int32) H at_114 rfl F17 3 (by decide) (by decide) (Nat.le_of_ble_eq_true rfl) (by decide) z6 (by simp) ?_
      intro h18 K19 F20
      replace F20 : Vec Z h18 a3 .char [(102 : Int32), (99 : Int32), (114 : Int32), (58 : Int32), (0 : Int32), (0 : Int32), (0 : Int32), (0 : Int32), (0 : Int32), (0 : Int32), (0 : Int32), (0 : Int32), (0 : Int32)] := F20
      refine Go.dup H at_115 rfl rfl ?_
      refine Go.iconst (4 : Int32) H at_116 rfl rfl ?_
      refine Go.bipush (109 : Int32) H at_117 rfl rfl ?_
      refine Go.castore (109 : Int32) H at_119 rfl F20 4 (by decide) (by decide) (Nat.le_of_ble_eq_true rfl) (by decide) z6 (by simp) ?_
      intro h21 K22 F23
      replace F23 : Vec Z h21 a3 .char [(102 : Int32), (99 : Int32), (114 : Int32), (58 : Int32), (109 : Int32), (0 : Int32), (0 : Int32), (0 : Int32), (0 : Int32), (0 : Int32), (0 : Int32), (0 : Int32), (0 : Int32)] := F23
      refine Go.dup H at_120 rfl rfl ?_
      refine Go.iconst (5 : Int32) H at_121 rfl rfl ?_
      refine Go.bipush (101 : Int32) H at_122 rfl rfl ?_
      refine Go.castore (101 : Int32) H at_124 rfl F23 5 (by decide) (by decide) (Nat.le_of_ble_eq_true rfl) (by decide) z6 (by simp) ?_
      intro h24 K25 F26
      replace F26 : Vec Z h24 a3 .char [(102 : Int32), (99 : Int32), (114 : Int32), (58 : Int32), (109 : Int32), (101 : Int32), (0 : Int32), (0 : Int32), (0 : Int32), (0 : Int32), (0 : Int32), (0 : Int32), (0 : Int32)] := F26
      refine Go.dup H at_125 rfl rfl ?_
      refine Go.bipush (6 : Int32) H at_126 rfl rfl ?_
      refine Go.bipush (116 : Int32) H at_128 rfl rfl ?_
      refine Go.castore (116 : Int32) H at_130 rfl F26 6 (by decide) (by decide) (Nat.le_of_ble_eq_true rfl) (by decide) z6 (by simp) ?_
      intro h27 K28 F29
      replace F29 : Vec Z h27 a3 .char [(102 : Int32), (99 : Int32), (114 : Int32), (58 : Int32), (109 : Int32), (101 : Int32), (116 : Int32), (0 : Int32), (0 : Int32), (0 : Int32), (0 : Int32), (0 : Int32), (0 : Int32)] := F29
      refine Go.dup H at_131 rfl rfl ?_
      refine Go.bipush (7 : Int32) H at_132 rfl rfl ?_
      refine Go.bipush (97 : Int32) H at_134 rfl rfl ?_
      refine Go.castore (97 : Int32) H at_136 rfl F29 7 (by decide) (by decide) (Nat.le_of_ble_eq_true rfl) (by decide) z6 (by simp) ?_
      intro h30 K31 F32
      replace F32 : Vec Z h30 a3 .char [(102 : Int32), (99 : Int32), (114 : Int32), (58 : Int32), (109 : Int32), (101 : Int32), (116 : Int32), (97 : Int32), (0 : Int32), (0 : Int32), (0 : Int32), (0 : Int32), (0 : Int32)] := F32
      refine Go.dup H at_137 rfl rfl ?_
      refine Go.bipush (8 : Int32) H at_138 rfl rfl ?_
      refine Go.bipush (100 : Int32) H at_140 rfl rfl ?_
      refine Go.castore (100 : Int32) H at_142 rfl F32 8 (by decide) (by decide) (Nat.le_of_ble_eq_true rfl) (by decide) z6 (by simp) ?_
      intro h33 K34 F35
      replace F35 : Vec Z h33 a3 .char [(102 : Int32), (99 : Int32), (114 : Int32), (58 : Int32), (109 : Int32), (101 : Int32), (116 : Int32), (97 : Int32), (100 : Int32), (0 : Int32), (0 : Int32), (0 : Int32), (0 : Int32)] := F35
      refine Go.dup H at_143 rfl rfl ?_
      refine Go.bipush (9 : Int32) H at_144 rfl rfl ?_
      refine Go.bipush (97 : Int32) H at_146 rfl rfl ?_
      refine Go.castore (97 : Int32) H at_148 rfl F35 9 (by decide) (by decide) (Nat.le_of_ble_eq_true rfl) (by decide) z6 (by simp) ?_
      intro h36 K37 F38
      replace F38 : Vec Z h36 a3 .char [(102 : Int32), (99 : Int32), (114 : Int32), (58 : Int32), (109 : Int32), (101 : Int32), (116 : Int32), (97 : Int32), (100 : Int32), (97 : Int32), (0 : Int32), (0 : Int32), (0 : Int32)] := F38
      refine Go.dup H at_149 rfl rfl ?_
      refine Go.bipush (10 : Int32) H at_150 rfl rfl ?_
      refine Go.bipush (116 : Int32) H at_152 rfl rfl ?_
      refine Go.castore (116 : Int32) H at_154 rfl F38 10 (by decide) (by decide) (Nat.le_of_ble_eq_true rfl) (by decide) z6 (by simp) ?_
      intro h39 K40 F41
      replace F41 : Vec Z h39 a3 .char [(102 : Int32), (99 : Int32), (114 : Int32), (58 : Int32), (109 : Int32), (101 : Int32), (116 : Int32), (97 : Int32), (100 : Int32), (97 : Int32), (116 : Int32), (0 : Int32), (0 : Int32)] := F41
      refine Go.dup H at_155 rfl rfl ?_
      refine Go.bipush (11 : Int32) H at_156 rfl rfl ?_
      refine Go.bipush (97 : Int32) H at_158 rfl rfl ?_
      refine Go.castore (97 : Int32) H at_160 rfl F41 11 (by decide) (by decide) (Nat.le_of_ble_eq_true rfl) (by decide) z6 (by simp) ?_
      intro h42 K43 F44
      replace F44 : Vec Z h42 a3 .char [(102 : Int32), (99 : Int32), (114 : Int32), (58 : Int32), (109 : Int32), (101 : Int32), (116 : Int32), (97 : Int32), (100 : Int32), (97 : Int32), (116 : Int32), (97 : Int32), (0 : Int32)] := F44
      refine Go.dup H at_161 rfl rfl ?_
      refine Go.bipush (12 : Int32) H at_162 rfl rfl ?_
      refine Go.bipush (120 : Int32) H at_164 rfl rfl ?_
      refine Go.castore (120 : Int32) H at_166 rfl F44 12 (by decide) (by decide) (Nat.le_of_ble_eq_true rfl) (by decide) z6 (by simp) ?_
      intro h45 K46 F47
      replace F47 : Vec Z h45 a3 .char [(102 : Int32), (99 : Int32), (114 : Int32), (58 : Int32), (109 : Int32), (101 : Int32), (116 : Int32), (97 : Int32), (100 : Int32), (97 : Int32), (116 : Int32), (97 : Int32), (120 : Int32)] := F47
      refine Go.astore (ls' := #[.val (.int a), .val (.int b), .val (.int c), .val (.int d), .val (.int e), .val (.int (0 : Int32)), .val (.int (0 : Int32)), .val (.int ((a >>> ((2 : Int32) &&& 31)) &&& (3 : Int32))), .val (.ref a3), .unset, .unset, .unset, .unset, .unset, .unset, .unset, .unset, .unset]) H at_167 rfl rfl rfl ?_
      refine Go.aload H at_169 rfl rfl rfl ?_
      refine Go.arraylength (13 : Int32) H at_171 rfl F47 rfl ?_
      refine Go.iconst (1 : Int32) H at_172 rfl rfl ?_
      refine Go.isub H at_173 rfl ?_
      show Go _ _ _ _ _ _ h45 [a3] 1 13 174 #[.val (.int a), .val (.int b), .val (.int c), .val (.int d), .val (.int e), .val (.int (0 : Int32)), .val (.int (0 : Int32)), .val (.int ((a >>> ((2 : Int32) &&& 31)) &&& (3 : Int32))), .val (.ref a3), .unset, .unset, .unset, .unset, .unset, .unset, .unset, .unset, .unset] [(.int (12 : Int32))]
      refine Go.istore (ls' := #[.val (.int a), .val (.int b), .val (.int c), .val (.int d), .val (.int e), .val (.int (0 : Int32)), .val (.int (0 : Int32)), .val (.int ((a >>> ((2 : Int32) &&& 31)) &&& (3 : Int32))), .val (.ref a3), .val (.int (12 : Int32)), .unset, .unset, .unset, .unset, .unset, .unset, .unset, .unset]) H at_174 rfl rfl ?_
      refine Go.aload H at_176 rfl rfl rfl ?_
      refine Go.iload H at_178 rfl rfl ?_
      refine Go.iload H at_180 rfl rfl ?_
      refine Go.sipush (255 : Int32) H at_182 rfl rfl ?_
      refine Go.iand H at_185 rfl ?_
      refine Go.i2c H at_186 rfl ?_
      refine Go.castore (nar .char (e &&& (255 : Int32))) H at_187 rfl F47 12 (by decide) (by decide) (Nat.le_of_ble_eq_true rfl) own_nn z6 (by simp) ?_
      intro h48 K49 F50
      replace F50 : Vec Z h48 a3 .char [(102 : Int32), (99 : Int32), (114 : Int32), (58 : Int32), (109 : Int32), (101 : Int32), (116 : Int32), (97 : Int32), (100 : Int32), (97 : Int32), (116 : Int32), (97 : Int32), (nar .char (e &&& (255 : Int32)))] := F50
      refine Go.iloadN H at_188 rfl rfl ?_
      refine Go.ldcInt H at_189 rfl w1 ?_
      refine Go.iand H at_191 rfl ?_
      refine Go.iload H at_192 rfl rfl ?_
      refine Go.iconst (1 : Int32) H at_194 rfl rfl ?_
      refine Go.iadd H at_195 rfl ?_
      show Go _ _ _ _ _ _ h48 [a3] 1 13 196 #[.val (.int a), .val (.int b), .val (.int c), .val (.int d), .val (.int e), .val (.int (0 : Int32)), .val (.int (0 : Int32)), .val (.int ((a >>> ((2 : Int32) &&& 31)) &&& (3 : Int32))), .val (.ref a3), .val (.int (12 : Int32)), .unset, .unset, .unset, .unset, .unset, .unset, .unset, .unset] [(.int (13 : Int32)), (.int (b &&& (2147483647 : Int32)))]
      refine Go.irem H at_196 rfl (by decide) ?_
      obtain ⟨p, hp, hp2⟩ := own_mod13 b
      rw [hp]
      refine Go.istore (ls' := #[.val (.int a), .val (.int b), .val (.int c), .val (.int d), .val (.int e), .val (.int (0 : Int32)), .val (.int (0 : Int32)), .val (.int ((a >>> ((2 : Int32) &&& 31)) &&& (3 : Int32))), .val (.ref a3), .val (.int (12 : Int32)), .val (.int p.toInt32), .unset, .unset, .unset, .unset, .unset, .unset, .unset]) H at_197 rfl rfl ?_
      refine Go.iloadN H at_199 rfl rfl ?_
      refine Go.sipush (255 : Int32) H at_200 rfl rfl ?_
      refine Go.iand H at_203 rfl ?_
      refine Go.i2c H at_204 rfl ?_
      refine Go.istore (ls' := #[.val (.int a), .val (.int b), .val (.int c), .val (.int d), .val (.int e), .val (.int (0 : Int32)), .val (.int (0 : Int32)), .val (.int ((a >>> ((2 : Int32) &&& 31)) &&& (3 : Int32))), .val (.ref a3), .val (.int (12 : Int32)), .val (.int p.toInt32), .val (.int (nar .char (c &&& (255 : Int32)))), .unset, .unset, .unset, .unset, .unset, .unset]) H at_205 rfl rfl ?_
      refine Go.aload H at_207 rfl rfl rfl ?_
      refine Go.iload H at_209 rfl rfl ?_
      refine Go.caload (v := ([(102 : Int32), (99 : Int32), (114 : Int32), (58 : Int32), (109 : Int32), (101 : Int32), (116 : Int32), (97 : Int32), (100 : Int32), (97 : Int32), (116 : Int32), (97 : Int32), (nar .char (e &&& (255 : Int32)))].getD p 0)) H at_211 rfl F50 p (own_cl (by omega)) (own_n0 (by omega)) (own_gd (show p < [(102 : Int32), (99 : Int32), (114 : Int32), (58 : Int32), (109 : Int32), (101 : Int32), (116 : Int32), (97 : Int32), (100 : Int32), (97 : Int32), (116 : Int32), (97 : Int32), (nar .char (e &&& (255 : Int32)))].length from hp2)) ?_
      refine Go.iload H at_212 rfl rfl ?_
      by_cases c51 : ([(102 : Int32), (99 : Int32), (114 : Int32), (58 : Int32), (109 : Int32), (101 : Int32), (116 : Int32), (97 : Int32), (100 : Int32), (97 : Int32), (116 : Int32), (97 : Int32), (nar .char (e &&& (255 : Int32)))].getD p 0) = (nar .char (c &&& (255 : Int32)))
      ·
        refine Go.icmpN H at_214 (teq c51).2 rfl ?_
        refine Go.iconst (1 : Int32) H at_217 rfl rfl ?_
        refine Go.goto (pc' := 222) H at_218 (by decide) (by decide) ?_
        refine Go.istore (ls' := #[.val (.int a), .val (.int b), .val (.int c), .val (.int d), .val (.int e), .val (.int (0 : Int32)), .val (.int (0 : Int32)), .val (.int ((a >>> ((2 : Int32) &&& 31)) &&& (3 : Int32))), .val (.ref a3), .val (.int (12 : Int32)), .val (.int p.toInt32), .val (.int (nar .char (c &&& (255 : Int32)))), .val (.int (1 : Int32)), .unset, .unset, .unset, .unset, .unset]) H at_222 rfl rfl ?_
        refine Go.iload H at_224 rfl rfl ?_
        refine Go.ifY (pc' := 236) H at_226 (by decide) (by decide) (by decide) ?_
        refine Go.iload H at_236 rfl rfl ?_
        by_cases c52 : ((a >>> ((2 : Int32) &&& 31)) &&& (3 : Int32)) = (0 : Int32)
        ·
          refine Go.ifN H at_238 (teq c52).2 rfl ?_
          refine Go.iload H at_241 rfl rfl ?_
          refine Go.istore (ls' := #[.val (.int a), .val (.int b), .val (.int c), .val (.int d), .val (.int e), .val (.int (0 : Int32)), .val (.int (0 : Int32)), .val (.int ((a >>> ((2 : Int32) &&& 31)) &&& (3 : Int32))), .val (.ref a3), .val (.int (12 : Int32)), .val (.int p.toInt32), .val (.int (nar .char (c &&& (255 : Int32)))), .val (.int (1 : Int32)), .val (.int (12 : Int32)), .unset, .unset, .unset, .unset]) H at_243 rfl rfl ?_
          refine Go.goto (pc' := 274) H at_245 (by decide) (by decide) ?_
          refine Go.new H at_274 rfl w2 w3 w4 (by decide) (by decide) ?_
          intro a53 h54 g55 z56 E57 A58 D59
          have ne60 : a3 ≠ a53 := Nat.ne_of_lt (Nat.lt_of_lt_of_le F50.lt (Nat.le_of_eq g55.symm))
          replace F50 := F50.ext E57
          have F61 : Fld Z h54 a53 "java/lang/String" "coder" "B" (.int (0 : Int32)) := D59 (Or.inr w32) (ty := .byte) (by decide)
          have F62 : Fld Z h54 a53 "java/lang/String" "value" "[B" .null := D59 (Or.inr w34) (ty := (.array .byte)) (by decide)
          show Go _ _ _ _ _ _ h54 [a53, a3] 2 17 277 #[.val (.int a), .val (.int b), .val (.int c), .val (.int d), .val (.int e), .val (.int (0 : Int32)), .val (.int (0 : Int32)), .val (.int ((a >>> ((2 : Int32) &&& 31)) &&& (3 : Int32))), .val (.ref a3), .val (.int (12 : Int32)), .val (.int p.toInt32), .val (.int (nar .char (c &&& (255 : Int32)))), .val (.int (1 : Int32)), .val (.int (12 : Int32)), .unset, .unset, .unset, .unset] [(.ref a53)]
          refine Go.dup H at_277 rfl rfl ?_
          refine Go.aload H at_278 rfl rfl rfl ?_
          refine Go.iload H at_280 rfl rfl ?_
          refine Go.callS (rest := [(.ref a53), (.ref a53)]) 2 [(.ref a3), (.int (12 : Int32))] H at_282 rfl w5 w6 w7 w8 pd_N18 (ct_pre l W a3 [(102 : Int32), (99 : Int32), (114 : Int32), (58 : Int32), (109 : Int32), (101 : Int32), (116 : Int32), (97 : Int32), (100 : Int32), (97 : Int32), (116 : Int32), (97 : Int32), (nar .char (e &&& (255 : Int32)))] 12 h54 F50 (show _ ≤ 13 by omega) (Nat.le_of_ble_eq_true rfl) (own_ac (show isL (102 : Int32) from ⟨by decide, by decide⟩) (own_ac (show isL (99 : Int32) from ⟨by decide, by decide⟩) (own_ac (show isL (114 : Int32) from ⟨by decide, by decide⟩) (own_ac (show isL (58 : Int32) from ⟨by decide, by decide⟩) (own_ac (show isL (109 : Int32) from ⟨by decide, by decide⟩) (own_ac (show isL (101 : Int32) from ⟨by decide, by decide⟩) (own_ac (show isL (116 : Int32) from ⟨by decide, by decide⟩) (own_ac (show isL (97 : Int32) from ⟨by decide, by decide⟩) (own_ac (show isL (100 : Int32) from ⟨by decide, by decide⟩) (own_ac (show isL (97 : Int32) from ⟨by decide, by decide⟩) (own_ac (show isL (116 : Int32) from ⟨by decide, by decide⟩) (own_ac (show isL (97 : Int32) from ⟨by decide, by decide⟩) (own_ac (own_and255 _) own_an)))))))))))))) all0 rfl rfl rfl (Nat.le_of_eq rfl) (by decide) (by decide) (by decide) (by decide) nh_N18 ?_
          rintro _ h64 _ ⟨r63, rfl, E65, g66, F67, rfl⟩
          have ne68 : a3 ≠ r63 := Nat.ne_of_lt (Nat.lt_of_lt_of_le F50.lt g66)
          have ne69 : a53 ≠ r63 := Nat.ne_of_lt (Nat.lt_of_lt_of_le A58.lt g66)
          replace F50 := F50.ext E65
          replace A58 := A58.ext E65
          replace F61 := F61.ext E65
          replace F62 := F62.ext E65
          show Go _ _ _ _ _ _ h64 [a53, a3] 3 30 285 #[.val (.int a), .val (.int b), .val (.int c), .val (.int d), .val (.int e), .val (.int (0 : Int32)), .val (.int (0 : Int32)), .val (.int ((a >>> ((2 : Int32) &&& 31)) &&& (3 : Int32))), .val (.ref a3), .val (.int (12 : Int32)), .val (.int p.toInt32), .val (.int (nar .char (c &&& (255 : Int32)))), .val (.int (1 : Int32)), .val (.int (12 : Int32)), .unset, .unset, .unset, .unset] [(.ref r63), (.ref a53), (.ref a53)]
          refine Go.callI (rest := [(.ref a53)]) 1 [(.ref r63)] H at_285 rfl rfl w9 w10 w4 w11 pd_N5 (ct_new1 l W a53 r63 ([(102 : Int32), (99 : Int32), (114 : Int32), (58 : Int32), (109 : Int32), (101 : Int32), (116 : Int32), (97 : Int32), (100 : Int32), (97 : Int32), (116 : Int32), (97 : Int32), (nar .char (e &&& (255 : Int32)))].take 12) h64 A58 F62 F61  F67 (own_takeL' (own_ac (show isL (102 : Int32) from ⟨by decide, by decide⟩) (own_ac (show isL (99 : Int32) from ⟨by decide, by decide⟩) (own_ac (show isL (114 : Int32) from ⟨by decide, by decide⟩) (own_ac (show isL (58 : Int32) from ⟨by decide, by decide⟩) (own_ac (show isL (109 : Int32) from ⟨by decide, by decide⟩) (own_ac (show isL (101 : Int32) from ⟨by decide, by decide⟩) (own_ac (show isL (116 : Int32) from ⟨by decide, by decide⟩) (own_ac (show isL (97 : Int32) from ⟨by decide, by decide⟩) (own_ac (show isL (100 : Int32) from ⟨by decide, by decide⟩) (own_ac (show isL (97 : Int32) from ⟨by decide, by decide⟩) (own_ac (show isL (116 : Int32) from ⟨by decide, by decide⟩) (own_ac (show isL (97 : Int32) from ⟨by decide, by decide⟩) (own_ac (own_and255 _) own_an)))))))))))))) (by rw [List.length_take]; exact Nat.le_trans (Nat.min_le_right _ _) (Nat.le_of_ble_eq_true rfl))  z56) (by simp) rfl rfl rfl (Nat.le_of_eq rfl) (by decide) (by decide) (by decide) (by decide) nh_N4 ?_
          rintro _ h70 _ ⟨rfl, K71, ⟨b72, S74⟩, rfl⟩
          replace F50 := F50.keep K71 (ninS ne60 nin0)
          replace F67 := F67.keep K71 (ninS (Ne.symm ne69) nin0)
          show Go _ _ _ _ _ _ h70 [a53, a3] 7 43 288 #[.val (.int a), .val (.int b), .val (.int c), .val (.int d), .val (.int e), .val (.int (0 : Int32)), .val (.int (0 : Int32)), .val (.int ((a >>> ((2 : Int32) &&& 31)) &&& (3 : Int32))), .val (.ref a3), .val (.int (12 : Int32)), .val (.int p.toInt32), .val (.int (nar .char (c &&& (255 : Int32)))), .val (.int (1 : Int32)), .val (.int (12 : Int32)), .unset, .unset, .unset, .unset] [(.ref a53)]
          refine Go.astore (ls' := #[.val (.int a), .val (.int b), .val (.int c), .val (.int d), .val (.int e), .val (.int (0 : Int32)), .val (.int (0 : Int32)), .val (.int ((a >>> ((2 : Int32) &&& 31)) &&& (3 : Int32))), .val (.ref a3), .val (.int (12 : Int32)), .val (.int p.toInt32), .val (.int (nar .char (c &&& (255 : Int32)))), .val (.int (1 : Int32)), .val (.int (12 : Int32)), .val (.ref a53), .unset, .unset, .unset]) H at_288 rfl rfl rfl ?_
          refine Go.aload H at_290 rfl rfl rfl ?_
          refine Go.callS (rest := []) 0 [(.ref a53)] H at_292 rfl w35 w36 w37 w38 pd_N17 (ct_bys l W a53 b72 ([(102 : Int32), (99 : Int32), (114 : Int32), (58 : Int32), (109 : Int32), (101 : Int32), (116 : Int32), (97 : Int32), (100 : Int32), (97 : Int32), (116 : Int32), (97 : Int32), (nar .char (e &&& (255 : Int32)))].take 12) h70 S74) all0 rfl rfl rfl (Nat.le_of_eq rfl) (by decide) (by decide) (by decide) (by decide) nh_N10 ?_
          rintro _ h76 _ ⟨o75, rfl, E77, A78, F79, rfl⟩
          replace F50 := F50.ext E77
          replace F67 := F67.ext E77
          replace S74 := S74.ext E77
          show Go _ _ _ _ _ _ h76 [a53, a3] 9 46 295 #[.val (.int a), .val (.int b), .val (.int c), .val (.int d), .val (.int e), .val (.int (0 : Int32)), .val (.int (0 : Int32)), .val (.int ((a >>> ((2 : Int32) &&& 31)) &&& (3 : Int32))), .val (.ref a3), .val (.int (12 : Int32)), .val (.int p.toInt32), .val (.int (nar .char (c &&& (255 : Int32)))), .val (.int (1 : Int32)), .val (.int (12 : Int32)), .val (.ref a53), .unset, .unset, .unset] [(.ref o75)]
          refine Go.astore (ls' := #[.val (.int a), .val (.int b), .val (.int c), .val (.int d), .val (.int e), .val (.int (0 : Int32)), .val (.int (0 : Int32)), .val (.int ((a >>> ((2 : Int32) &&& 31)) &&& (3 : Int32))), .val (.ref a3), .val (.int (12 : Int32)), .val (.int p.toInt32), .val (.int (nar .char (c &&& (255 : Int32)))), .val (.int (1 : Int32)), .val (.int (12 : Int32)), .val (.ref a53), .val (.ref o75), .unset, .unset]) H at_295 rfl rfl rfl ?_
          refine Go.iload H at_297 rfl rfl ?_
          refine Go.iload H at_299 rfl rfl ?_
          refine Go.icmpN H at_301 (by decide) rfl ?_
          refine Go.iload H at_304 rfl rfl ?_
          refine Go.ifY (pc' := 321) H at_306 (by decide) (by decide) (by decide) ?_
          refine Go.iconst (1 : Int32) H at_321 rfl rfl ?_
          refine Go.goto (pc' := 326) H at_322 (by decide) (by decide) ?_
          refine Go.istore (ls' := #[.val (.int a), .val (.int b), .val (.int c), .val (.int d), .val (.int e), .val (.int (0 : Int32)), .val (.int (0 : Int32)), .val (.int ((a >>> ((2 : Int32) &&& 31)) &&& (3 : Int32))), .val (.ref a3), .val (.int (12 : Int32)), .val (.int p.toInt32), .val (.int (nar .char (c &&& (255 : Int32)))), .val (.int (1 : Int32)), .val (.int (12 : Int32)), .val (.ref a53), .val (.ref o75), .val (.int (1 : Int32)), .unset]) H at_326 rfl rfl ?_
          refine Go.iload H at_328 rfl rfl ?_
          refine Go.ifY (pc' := 347) H at_330 (by decide) (by decide) (by decide) ?_
          have e80 : selV dD dA ([(102 : Int32), (99 : Int32), (114 : Int32), (58 : Int32), (109 : Int32), (101 : Int32), (116 : Int32), (97 : Int32), (100 : Int32), (97 : Int32), (116 : Int32), (97 : Int32), (nar .char (e &&& (255 : Int32)))].take 12) = .ref dD := selD_hit
          rw [e80] at F79
          refine Go.iload H at_347 rfl rfl ?_
          refine Go.ifY (pc' := 358) H at_349 (by decide) (by decide) (by decide) ?_
          refine Go.getstatic H at_358 rfl w85 W.2.2.1 ?_
          refine Go.astore (ls' := #[.val (.int a), .val (.int b), .val (.int c), .val (.int d), .val (.int e), .val (.int (0 : Int32)), .val (.int (0 : Int32)), .val (.int ((a >>> ((2 : Int32) &&& 31)) &&& (3 : Int32))), .val (.ref a3), .val (.int (12 : Int32)), .val (.int p.toInt32), .val (.int (nar .char (c &&& (255 : Int32)))), .val (.int (1 : Int32)), .val (.int (12 : Int32)), .val (.ref a53), .val (.ref o75), .val (.int (1 : Int32)), .val (.ref dD)]) H at_361 rfl rfl rfl ?_
          refine Go.aload H at_363 rfl rfl rfl ?_
          refine Go.callV (rest := []) 0 [] H at_365 rfl A78 w86 w87 w89 w88 w70 w90 pd_N15 (ct_isp1 l W o75 dD h76 F79) all0 rfl rfl rfl (Nat.le_of_eq rfl) (by decide) (by decide) (by decide) (by decide) nh_N12 ?_
          rintro _ _ _ ⟨rfl, rfl, rfl⟩
          show Go _ _ _ _ _ _ h76 [a53, a3] 9 46 368 #[.val (.int a), .val (.int b), .val (.int c), .val (.int d), .val (.int e), .val (.int (0 : Int32)), .val (.int (0 : Int32)), .val (.int ((a >>> ((2 : Int32) &&& 31)) &&& (3 : Int32))), .val (.ref a3), .val (.int (12 : Int32)), .val (.int p.toInt32), .val (.int (nar .char (c &&& (255 : Int32)))), .val (.int (1 : Int32)), .val (.int (12 : Int32)), .val (.ref a53), .val (.ref o75), .val (.int (1 : Int32)), .val (.ref dD)] [(.int (1 : Int32))]
          refine Go.ifN H at_368 (by decide) rfl ?_
          refine Go.aload H at_371 rfl rfl rfl ?_
          refine Go.callV (rest := []) 0 [] H at_373 rfl A78 w91 w92 w94 w93 w70 w95 pd_N16 (ct_opg l W o75 dD h76 F79) all0 rfl rfl rfl (Nat.le_of_eq rfl) (by decide) (by decide) (by decide) (by decide) nh_N12 ?_
          rintro _ _ _ ⟨rfl, rfl, rfl⟩
          show Go _ _ _ _ _ _ h76 [a53, a3] 9 46 376 #[.val (.int a), .val (.int b), .val (.int c), .val (.int d), .val (.int e), .val (.int (0 : Int32)), .val (.int (0 : Int32)), .val (.int ((a >>> ((2 : Int32) &&& 31)) &&& (3 : Int32))), .val (.ref a3), .val (.int (12 : Int32)), .val (.int p.toInt32), .val (.int (nar .char (c &&& (255 : Int32)))), .val (.int (1 : Int32)), .val (.int (12 : Int32)), .val (.ref a53), .val (.ref o75), .val (.int (1 : Int32)), .val (.ref dD)] [(.ref dD)]
          refine Go.aload H at_376 rfl rfl rfl ?_
          refine Go.acmpN H at_378 rfl rfl (by simp [XT.acmp]) rfl ?_
          refine Go.iconst (1 : Int32) H at_381 rfl rfl ?_
          refine Go.goto (pc' := 386) H at_382 (by decide) (by decide) ?_
          exact Go.ireturn 1 [] H at_386 (by simp) (by decide) ⟨rfl, trivial⟩ all0 (by decide) (by decide)
        ·
          refine Go.ifY (pc' := 248) H at_238 (feq c52).2 (by decide) (by decide) ?_
          refine Go.iload H at_248 rfl rfl ?_
          refine Go.iconst (1 : Int32) H at_250 rfl rfl ?_
          by_cases c81 : ((a >>> ((2 : Int32) &&& 31)) &&& (3 : Int32)) = (1 : Int32)
          ·
            refine Go.icmpN H at_251 (teq c81).2 rfl ?_
            refine Go.iload H at_254 rfl rfl ?_
            refine Go.iconst (1 : Int32) H at_256 rfl rfl ?_
            refine Go.iadd H at_257 rfl ?_
            show Go _ _ _ _ _ _ h48 [a3] 1 13 258 #[.val (.int a), .val (.int b), .val (.int c), .val (.int d), .val (.int e), .val (.int (0 : Int32)), .val (.int (0 : Int32)), .val (.int ((a >>> ((2 : Int32) &&& 31)) &&& (3 : Int32))), .val (.ref a3), .val (.int (12 : Int32)), .val (.int p.toInt32), .val (.int (nar .char (c &&& (255 : Int32)))), .val (.int (1 : Int32)), .unset, .unset, .unset, .unset, .unset] [(.int (13 : Int32))]
            refine Go.istore (ls' := #[.val (.int a), .val (.int b), .val (.int c), .val (.int d), .val (.int e), .val (.int (0 : Int32)), .val (.int (0 : Int32)), .val (.int ((a >>> ((2 : Int32) &&& 31)) &&& (3 : Int32))), .val (.ref a3), .val (.int (12 : Int32)), .val (.int p.toInt32), .val (.int (nar .char (c &&& (255 : Int32)))), .val (.int (1 : Int32)), .val (.int (13 : Int32)), .unset, .unset, .unset, .unset]) H at_258 rfl rfl ?_
            refine Go.goto (pc' := 274) H at_260 (by decide) (by decide) ?_
            refine Go.new H at_274 rfl w2 w3 w4 (by decide) (by decide) ?_
            intro a82 h83 g84 z85 E86 A87 D88
            have ne89 : a3 ≠ a82 := Nat.ne_of_lt (Nat.lt_of_lt_of_le F50.lt (Nat.le_of_eq g84.symm))
            replace F50 := F50.ext E86
            have F90 : Fld Z h83 a82 "java/lang/String" "coder" "B" (.int (0 : Int32)) := D88 (Or.inr w32) (ty := .byte) (by decide)
            have F91 : Fld Z h83 a82 "java/lang/String" "value" "[B" .null := D88 (Or.inr w34) (ty := (.array .byte)) (by decide)
            show Go _ _ _ _ _ _ h83 [a82, a3] 2 17 277 #[.val (.int a), .val (.int b), .val (.int c), .val (.int d), .val (.int e), .val (.int (0 : Int32)), .val (.int (0 : Int32)), .val (.int ((a >>> ((2 : Int32) &&& 31)) &&& (3 : Int32))), .val (.ref a3), .val (.int (12 : Int32)), .val (.int p.toInt32), .val (.int (nar .char (c &&& (255 : Int32)))), .val (.int (1 : Int32)), .val (.int (13 : Int32)), .unset, .unset, .unset, .unset] [(.ref a82)]
            refine Go.dup H at_277 rfl rfl ?_
            refine Go.aload H at_278 rfl rfl rfl ?_
            refine Go.iload H at_280 rfl rfl ?_
            refine Go.callS (rest := [(.ref a82), (.ref a82)]) 2 [(.ref a3), (.int (13 : Int32))] H at_282 rfl w5 w6 w7 w8 pd_N18 (ct_pre l W a3 [(102 : Int32), (99 : Int32), (114 : Int32), (58 : Int32), (109 : Int32), (101 : Int32), (116 : Int32), (97 : Int32), (100 : Int32), (97 : Int32), (116 : Int32), (97 : Int32), (nar .char (e &&& (255 : Int32)))] 13 h83 F50 (show _ ≤ 13 by omega) (Nat.le_of_ble_eq_true rfl) (own_ac (show isL (102 : Int32) from ⟨by decide, by decide⟩) (own_ac (show isL (99 : Int32) from ⟨by decide, by decide⟩) (own_ac (show isL (114 : Int32) from ⟨by decide, by decide⟩) (own_ac (show isL (58 : Int32) from ⟨by decide, by decide⟩) (own_ac (show isL (109 : Int32) from ⟨by decide, by decide⟩) (own_ac (show isL (101 : Int32) from ⟨by decide, by decide⟩) (own_ac (show isL (116 : Int32) from ⟨by decide, by decide⟩) (own_ac (show isL (97 : Int32) from ⟨by decide, by decide⟩) (own_ac (show isL (100 : Int32) from ⟨by decide, by decide⟩) (own_ac (show isL (97 : Int32) from ⟨by decide, by decide⟩) (own_ac (show isL (116 : Int32) from ⟨by decide, by decide⟩) (own_ac (show isL (97 : Int32) from ⟨by decide, by decide⟩) (own_ac (own_and255 _) own_an)))))))))))))) all0 rfl rfl rfl (Nat.le_of_eq rfl) (by decide) (by decide) (by decide) (by decide) nh_N18 ?_
            rintro _ h93 _ ⟨r92, rfl, E94, g95, F96, rfl⟩
            have ne97 : a3 ≠ r92 := Nat.ne_of_lt (Nat.lt_of_lt_of_le F50.lt g95)
            have ne98 : a82 ≠ r92 := Nat.ne_of_lt (Nat.lt_of_lt_of_le A87.lt g95)
            replace F50 := F50.ext E94
            replace A87 := A87.ext E94
            replace F90 := F90.ext E94
            replace F91 := F91.ext E94
            show Go _ _ _ _ _ _ h93 [a82, a3] 3 30 285 #[.val (.int a), .val (.int b), .val (.int c), .val (.int d), .val (.int e), .val (.int (0 : Int32)), .val (.int (0 : Int32)), .val (.int ((a >>> ((2 : Int32) &&& 31)) &&& (3 : Int32))), .val (.ref a3), .val (.int (12 : Int32)), .val (.int p.toInt32), .val (.int (nar .char (c &&& (255 : Int32)))), .val (.int (1 : Int32)), .val (.int (13 : Int32)), .unset, .unset, .unset, .unset] [(.ref r92), (.ref a82), (.ref a82)]
            refine Go.callI (rest := [(.ref a82)]) 1 [(.ref r92)] H at_285 rfl rfl w9 w10 w4 w11 pd_N5 (ct_new1 l W a82 r92 ([(102 : Int32), (99 : Int32), (114 : Int32), (58 : Int32), (109 : Int32), (101 : Int32), (116 : Int32), (97 : Int32), (100 : Int32), (97 : Int32), (116 : Int32), (97 : Int32), (nar .char (e &&& (255 : Int32)))].take 13) h93 A87 F91 F90  F96 (own_takeL' (own_ac (show isL (102 : Int32) from ⟨by decide, by decide⟩) (own_ac (show isL (99 : Int32) from ⟨by decide, by decide⟩) (own_ac (show isL (114 : Int32) from ⟨by decide, by decide⟩) (own_ac (show isL (58 : Int32) from ⟨by decide, by decide⟩) (own_ac (show isL (109 : Int32) from ⟨by decide, by decide⟩) (own_ac (show isL (101 : Int32) from ⟨by decide, by decide⟩) (own_ac (show isL (116 : Int32) from ⟨by decide, by decide⟩) (own_ac (show isL (97 : Int32) from ⟨by decide, by decide⟩) (own_ac (show isL (100 : Int32) from ⟨by decide, by decide⟩) (own_ac (show isL (97 : Int32) from ⟨by decide, by decide⟩) (own_ac (show isL (116 : Int32) from ⟨by decide, by decide⟩) (own_ac (show isL (97 : Int32) from ⟨by decide, by decide⟩) (own_ac (own_and255 _) own_an)))))))))))))) (by rw [List.length_take]; exact Nat.le_trans (Nat.min_le_right _ _) (Nat.le_of_ble_eq_true rfl))  z85) (by simp) rfl rfl rfl (Nat.le_of_eq rfl) (by decide) (by decide) (by decide) (by decide) nh_N4 ?_
            rintro _ h99 _ ⟨rfl, K100, ⟨b101, S103⟩, rfl⟩
            replace F50 := F50.keep K100 (ninS ne89 nin0)
            replace F96 := F96.keep K100 (ninS (Ne.symm ne98) nin0)
            show Go _ _ _ _ _ _ h99 [a82, a3] 7 43 288 #[.val (.int a), .val (.int b), .val (.int c), .val (.int d), .val (.int e), .val (.int (0 : Int32)), .val (.int (0 : Int32)), .val (.int ((a >>> ((2 : Int32) &&& 31)) &&& (3 : Int32))), .val (.ref a3), .val (.int (12 : Int32)), .val (.int p.toInt32), .val (.int (nar .char (c &&& (255 : Int32)))), .val (.int (1 : Int32)), .val (.int (13 : Int32)), .unset, .unset, .unset, .unset] [(.ref a82)]
            refine Go.astore (ls' := #[.val (.int a), .val (.int b), .val (.int c), .val (.int d), .val (.int e), .val (.int (0 : Int32)), .val (.int (0 : Int32)), .val (.int ((a >>> ((2 : Int32) &&& 31)) &&& (3 : Int32))), .val (.ref a3), .val (.int (12 : Int32)), .val (.int p.toInt32), .val (.int (nar .char (c &&& (255 : Int32)))), .val (.int (1 : Int32)), .val (.int (13 : Int32)), .val (.ref a82), .unset, .unset, .unset]) H at_288 rfl rfl rfl ?_
            refine Go.aload H at_290 rfl rfl rfl ?_
            refine Go.callS (rest := []) 0 [(.ref a82)] H at_292 rfl w35 w36 w37 w38 pd_N17 (ct_bys l W a82 b101 ([(102 : Int32), (99 : Int32), (114 : Int32), (58 : Int32), (109 : Int32), (101 : Int32), (116 : Int32), (97 : Int32), (100 : Int32), (97 : Int32), (116 : Int32), (97 : Int32), (nar .char (e &&& (255 : Int32)))].take 13) h99 S103) all0 rfl rfl rfl (Nat.le_of_eq rfl) (by decide) (by decide) (by decide) (by decide) nh_N10 ?_
            rintro _ h105 _ ⟨o104, rfl, E106, A107, F108, rfl⟩
            replace F50 := F50.ext E106
            replace F96 := F96.ext E106
            replace S103 := S103.ext E106
            show Go _ _ _ _ _ _ h105 [a82, a3] 9 46 295 #[.val (.int a), .val (.int b), .val (.int c), .val (.int d), .val (.int e), .val (.int (0 : Int32)), .val (.int (0 : Int32)), .val (.int ((a >>> ((2 : Int32) &&& 31)) &&& (3 : Int32))), .val (.ref a3), .val (.int (12 : Int32)), .val (.int p.toInt32), .val (.int (nar .char (c &&& (255 : Int32)))), .val (.int (1 : Int32)), .val (.int (13 : Int32)), .val (.ref a82), .unset, .unset, .unset] [(.ref o104)]
            refine Go.astore (ls' := #[.val (.int a), .val (.int b), .val (.int c), .val (.int d), .val (.int e), .val (.int (0 : Int32)), .val (.int (0 : Int32)), .val (.int ((a >>> ((2 : Int32) &&& 31)) &&& (3 : Int32))), .val (.ref a3), .val (.int (12 : Int32)), .val (.int p.toInt32), .val (.int (nar .char (c &&& (255 : Int32)))), .val (.int (1 : Int32)), .val (.int (13 : Int32)), .val (.ref a82), .val (.ref o104), .unset, .unset]) H at_295 rfl rfl rfl ?_
            refine Go.iload H at_297 rfl rfl ?_
            refine Go.iload H at_299 rfl rfl ?_
            refine Go.icmpY (pc' := 325) H at_301 (by decide) (by decide) (by decide) ?_
            refine Go.iconst (0 : Int32) H at_325 rfl rfl ?_
            refine Go.istore (ls' := #[.val (.int a), .val (.int b), .val (.int c), .val (.int d), .val (.int e), .val (.int (0 : Int32)), .val (.int (0 : Int32)), .val (.int ((a >>> ((2 : Int32) &&& 31)) &&& (3 : Int32))), .val (.ref a3), .val (.int (12 : Int32)), .val (.int p.toInt32), .val (.int (nar .char (c &&& (255 : Int32)))), .val (.int (1 : Int32)), .val (.int (13 : Int32)), .val (.ref a82), .val (.ref o104), .val (.int (0 : Int32)), .unset]) H at_326 rfl rfl ?_
            refine Go.iload H at_328 rfl rfl ?_
            refine Go.ifN H at_330 (by decide) rfl ?_
            have e109 : selV dD dA ([(102 : Int32), (99 : Int32), (114 : Int32), (58 : Int32), (109 : Int32), (101 : Int32), (116 : Int32), (97 : Int32), (100 : Int32), (97 : Int32), (116 : Int32), (97 : Int32), (nar .char (e &&& (255 : Int32)))].take 13) = .null := selD_len0 (by omega) (by decide)
            rw [e109] at F108
            refine Go.aload H at_333 rfl rfl rfl ?_
            refine Go.callV (rest := []) 0 [] H at_335 rfl A107 w86 w87 w89 w88 w70 w90 pd_N15 (ct_isp0 l W o104 h105 F108) all0 rfl rfl rfl (Nat.le_of_eq rfl) (by decide) (by decide) (by decide) (by decide) nh_N12 ?_
            rintro _ _ _ ⟨rfl, rfl, rfl⟩
            show Go _ _ _ _ _ _ h105 [a82, a3] 9 46 338 #[.val (.int a), .val (.int b), .val (.int c), .val (.int d), .val (.int e), .val (.int (0 : Int32)), .val (.int (0 : Int32)), .val (.int ((a >>> ((2 : Int32) &&& 31)) &&& (3 : Int32))), .val (.ref a3), .val (.int (12 : Int32)), .val (.int p.toInt32), .val (.int (nar .char (c &&& (255 : Int32)))), .val (.int (1 : Int32)), .val (.int (13 : Int32)), .val (.ref a82), .val (.ref o104), .val (.int (0 : Int32)), .unset] [(.int (0 : Int32))]
            refine Go.ifN H at_338 (by decide) rfl ?_
            refine Go.iconst (1 : Int32) H at_341 rfl rfl ?_
            refine Go.goto (pc' := 346) H at_342 (by decide) (by decide) ?_
            exact Go.ireturn 1 [] H at_346 (by simp) (by decide) ⟨rfl, trivial⟩ all0 (by decide) (by decide)
          ·
            refine Go.icmpY (pc' := 263) H at_251 (feq c81).2 (by decide) (by decide) ?_
            refine Go.iloadN H at_263 rfl rfl ?_
            refine Go.ldcInt H at_264 rfl w1 ?_
            refine Go.iand H at_266 rfl ?_
            refine Go.iload H at_267 rfl rfl ?_
            refine Go.iconst (2 : Int32) H at_269 rfl rfl ?_
            refine Go.iadd H at_270 rfl ?_
            show Go _ _ _ _ _ _ h48 [a3] 1 13 271 #[.val (.int a), .val (.int b), .val (.int c), .val (.int d), .val (.int e), .val (.int (0 : Int32)), .val (.int (0 : Int32)), .val (.int ((a >>> ((2 : Int32) &&& 31)) &&& (3 : Int32))), .val (.ref a3), .val (.int (12 : Int32)), .val (.int p.toInt32), .val (.int (nar .char (c &&& (255 : Int32)))), .val (.int (1 : Int32)), .unset, .unset, .unset, .unset, .unset] [(.int (14 : Int32)), (.int (d &&& (2147483647 : Int32)))]
            refine Go.irem H at_271 rfl (by decide) ?_
            obtain ⟨q, hq, hq2⟩ := own_mod14 d
            rw [hq]
            refine Go.istore (ls' := #[.val (.int a), .val (.int b), .val (.int c), .val (.int d), .val (.int e), .val (.int (0 : Int32)), .val (.int (0 : Int32)), .val (.int ((a >>> ((2 : Int32) &&& 31)) &&& (3 : Int32))), .val (.ref a3), .val (.int (12 : Int32)), .val (.int p.toInt32), .val (.int (nar .char (c &&& (255 : Int32)))), .val (.int (1 : Int32)), .val (.int q.toInt32), .unset, .unset, .unset, .unset]) H at_272 rfl rfl ?_
            refine Go.new H at_274 rfl w2 w3 w4 (by decide) (by decide) ?_
            intro a110 h111 g112 z113 E114 A115 D116
            have ne117 : a3 ≠ a110 := Nat.ne_of_lt (Nat.lt_of_lt_of_le F50.lt (Nat.le_of_eq g112.symm))
            replace F50 := F50.ext E114
            have F118 : Fld Z h111 a110 "java/lang/String" "coder" "B" (.int (0 : Int32)) := D116 (Or.inr w32) (ty := .byte) (by decide)
            have F119 : Fld Z h111 a110 "java/lang/String" "value" "[B" .null := D116 (Or.inr w34) (ty := (.array .byte)) (by decide)
            show Go _ _ _ _ _ _ h111 [a110, a3] 2 17 277 #[.val (.int a), .val (.int b), .val (.int c), .val (.int d), .val (.int e), .val (.int (0 : Int32)), .val (.int (0 : Int32)), .val (.int ((a >>> ((2 : Int32) &&& 31)) &&& (3 : Int32))), .val (.ref a3), .val (.int (12 : Int32)), .val (.int p.toInt32), .val (.int (nar .char (c &&& (255 : Int32)))), .val (.int (1 : Int32)), .val (.int q.toInt32), .unset, .unset, .unset, .unset] [(.ref a110)]
            refine Go.dup H at_277 rfl rfl ?_
            refine Go.aload H at_278 rfl rfl rfl ?_
            refine Go.iload H at_280 rfl rfl ?_
            refine Go.callS (rest := [(.ref a110), (.ref a110)]) 2 [(.ref a3), (.int q.toInt32)] H at_282 rfl w5 w6 w7 w8 pd_N18 (ct_pre l W a3 [(102 : Int32), (99 : Int32), (114 : Int32), (58 : Int32), (109 : Int32), (101 : Int32), (116 : Int32), (97 : Int32), (100 : Int32), (97 : Int32), (116 : Int32), (97 : Int32), (nar .char (e &&& (255 : Int32)))] q h111 F50 (show _ ≤ 13 by omega) (Nat.le_of_ble_eq_true rfl) (own_ac (show isL (102 : Int32) from ⟨by decide, by decide⟩) (own_ac (show isL (99 : Int32) from ⟨by decide, by decide⟩) (own_ac (show isL (114 : Int32) from ⟨by decide, by decide⟩) (own_ac (show isL (58 : Int32) from ⟨by decide, by decide⟩) (own_ac (show isL (109 : Int32) from ⟨by decide, by decide⟩) (own_ac (show isL (101 : Int32) from ⟨by decide, by decide⟩) (own_ac (show isL (116 : Int32) from ⟨by decide, by decide⟩) (own_ac (show isL (97 : Int32) from ⟨by decide, by decide⟩) (own_ac (show isL (100 : Int32) from ⟨by decide, by decide⟩) (own_ac (show isL (97 : Int32) from ⟨by decide, by decide⟩) (own_ac (show isL (116 : Int32) from ⟨by decide, by decide⟩) (own_ac (show isL (97 : Int32) from ⟨by decide, by decide⟩) (own_ac (own_and255 _) own_an)))))))))))))) all0 rfl rfl rfl (Nat.le_of_eq rfl) (by decide) (by decide) (by decide) (by decide) nh_N18 ?_
            rintro _ h121 _ ⟨r120, rfl, E122, g123, F124, rfl⟩
            have ne125 : a3 ≠ r120 := Nat.ne_of_lt (Nat.lt_of_lt_of_le F50.lt g123)
            have ne126 : a110 ≠ r120 := Nat.ne_of_lt (Nat.lt_of_lt_of_le A115.lt g123)
            replace F50 := F50.ext E122
            replace A115 := A115.ext E122
            replace F118 := F118.ext E122
            replace F119 := F119.ext E122
            show Go _ _ _ _ _ _ h121 [a110, a3] 3 30 285 #[.val (.int a), .val (.int b), .val (.int c), .val (.int d), .val (.int e), .val (.int (0 : Int32)), .val (.int (0 : Int32)), .val (.int ((a >>> ((2 : Int32) &&& 31)) &&& (3 : Int32))), .val (.ref a3), .val (.int (12 : Int32)), .val (.int p.toInt32), .val (.int (nar .char (c &&& (255 : Int32)))), .val (.int (1 : Int32)), .val (.int q.toInt32), .unset, .unset, .unset, .unset] [(.ref r120), (.ref a110), (.ref a110)]
            refine Go.callI (rest := [(.ref a110)]) 1 [(.ref r120)] H at_285 rfl rfl w9 w10 w4 w11 pd_N5 (ct_new1 l W a110 r120 ([(102 : Int32), (99 : Int32), (114 : Int32), (58 : Int32), (109 : Int32), (101 : Int32), (116 : Int32), (97 : Int32), (100 : Int32), (97 : Int32), (116 : Int32), (97 : Int32), (nar .char (e &&& (255 : Int32)))].take q) h121 A115 F119 F118  F124 (own_takeL' (own_ac (show isL (102 : Int32) from ⟨by decide, by decide⟩) (own_ac (show isL (99 : Int32) from ⟨by decide, by decide⟩) (own_ac (show isL (114 : Int32) from ⟨by decide, by decide⟩) (own_ac (show isL (58 : Int32) from ⟨by decide, by decide⟩) (own_ac (show isL (109 : Int32) from ⟨by decide, by decide⟩) (own_ac (show isL (101 : Int32) from ⟨by decide, by decide⟩) (own_ac (show isL (116 : Int32) from ⟨by decide, by decide⟩) (own_ac (show isL (97 : Int32) from ⟨by decide, by decide⟩) (own_ac (show isL (100 : Int32) from ⟨by decide, by decide⟩) (own_ac (show isL (97 : Int32) from ⟨by decide, by decide⟩) (own_ac (show isL (116 : Int32) from ⟨by decide, by decide⟩) (own_ac (show isL (97 : Int32) from ⟨by decide, by decide⟩) (own_ac (own_and255 _) own_an)))))))))))))) (by rw [List.length_take]; exact Nat.le_trans (Nat.min_le_right _ _) (Nat.le_of_ble_eq_true rfl))  z113) (by simp) rfl rfl rfl (Nat.le_of_eq rfl) (by decide) (by decide) (by decide) (by decide) nh_N4 ?_
            rintro _ h127 _ ⟨rfl, K128, ⟨b129, S131⟩, rfl⟩
            replace F50 := F50.keep K128 (ninS ne117 nin0)
            replace F124 := F124.keep K128 (ninS (Ne.symm ne126) nin0)
            show Go _ _ _ _ _ _ h127 [a110, a3] 7 43 288 #[.val (.int a), .val (.int b), .val (.int c), .val (.int d), .val (.int e), .val (.int (0 : Int32)), .val (.int (0 : Int32)), .val (.int ((a >>> ((2 : Int32) &&& 31)) &&& (3 : Int32))), .val (.ref a3), .val (.int (12 : Int32)), .val (.int p.toInt32), .val (.int (nar .char (c &&& (255 : Int32)))), .val (.int (1 : Int32)), .val (.int q.toInt32), .unset, .unset, .unset, .unset] [(.ref a110)]
            refine Go.astore (ls' := #[.val (.int a), .val (.int b), .val (.int c), .val (.int d), .val (.int e), .val (.int (0 : Int32)), .val (.int (0 : Int32)), .val (.int ((a >>> ((2 : Int32) &&& 31)) &&& (3 : Int32))), .val (.ref a3), .val (.int (12 : Int32)), .val (.int p.toInt32), .val (.int (nar .char (c &&& (255 : Int32)))), .val (.int (1 : Int32)), .val (.int q.toInt32), .val (.ref a110), .unset, .unset, .unset]) H at_288 rfl rfl rfl ?_
            refine Go.aload H at_290 rfl rfl rfl ?_
            refine Go.callS (rest := []) 0 [(.ref a110)] H at_292 rfl w35 w36 w37 w38 pd_N17 (ct_bys l W a110 b129 ([(102 : Int32), (99 : Int32), (114 : Int32), (58 : Int32), (109 : Int32), (101 : Int32), (116 : Int32), (97 : Int32), (100 : Int32), (97 : Int32), (116 : Int32), (97 : Int32), (nar .char (e &&& (255 : Int32)))].take q) h127 S131) all0 rfl rfl rfl (Nat.le_of_eq rfl) (by decide) (by decide) (by decide) (by decide) nh_N10 ?_
            rintro _ h133 _ ⟨o132, rfl, E134, A135, F136, rfl⟩
            replace F50 := F50.ext E134
            replace F124 := F124.ext E134
            replace S131 := S131.ext E134
            show Go _ _ _ _ _ _ h133 [a110, a3] 9 46 295 #[.val (.int a), .val (.int b), .val (.int c), .val (.int d), .val (.int e), .val (.int (0 : Int32)), .val (.int (0 : Int32)), .val (.int ((a >>> ((2 : Int32) &&& 31)) &&& (3 : Int32))), .val (.ref a3), .val (.int (12 : Int32)), .val (.int p.toInt32), .val (.int (nar .char (c &&& (255 : Int32)))), .val (.int (1 : Int32)), .val (.int q.toInt32), .val (.ref a110), .unset, .unset, .unset] [(.ref o132)]
            refine Go.astore (ls' := #[.val (.int a), .val (.int b), .val (.int c), .val (.int d), .val (.int e), .val (.int (0 : Int32)), .val (.int (0 : Int32)), .val (.int ((a >>> ((2 : Int32) &&& 31)) &&& (3 : Int32))), .val (.ref a3), .val (.int (12 : Int32)), .val (.int p.toInt32), .val (.int (nar .char (c &&& (255 : Int32)))), .val (.int (1 : Int32)), .val (.int q.toInt32), .val (.ref a110), .val (.ref o132), .unset, .unset]) H at_295 rfl rfl rfl ?_
            refine Go.iload H at_297 rfl rfl ?_
            refine Go.iload H at_299 rfl rfl ?_
            by_cases c137 : q = 12
            ·
              refine Go.icmpN H at_301 (teq (by rw [c137]; rfl)).2 rfl ?_
              refine Go.iload H at_304 rfl rfl ?_
              refine Go.ifY (pc' := 321) H at_306 (by decide) (by decide) (by decide) ?_
              refine Go.iconst (1 : Int32) H at_321 rfl rfl ?_
              refine Go.goto (pc' := 326) H at_322 (by decide) (by decide) ?_
              refine Go.istore (ls' := #[.val (.int a), .val (.int b), .val (.int c), .val (.int d), .val (.int e), .val (.int (0 : Int32)), .val (.int (0 : Int32)), .val (.int ((a >>> ((2 : Int32) &&& 31)) &&& (3 : Int32))), .val (.ref a3), .val (.int (12 : Int32)), .val (.int p.toInt32), .val (.int (nar .char (c &&& (255 : Int32)))), .val (.int (1 : Int32)), .val (.int q.toInt32), .val (.ref a110), .val (.ref o132), .val (.int (1 : Int32)), .unset]) H at_326 rfl rfl ?_
              refine Go.iload H at_328 rfl rfl ?_
              refine Go.ifY (pc' := 347) H at_330 (by decide) (by decide) (by decide) ?_
              have e138 : selV dD dA ([(102 : Int32), (99 : Int32), (114 : Int32), (58 : Int32), (109 : Int32), (101 : Int32), (116 : Int32), (97 : Int32), (100 : Int32), (97 : Int32), (116 : Int32), (97 : Int32), (nar .char (e &&& (255 : Int32)))].take q) = .ref dD := (by rw [c137]; exact selD_hit)
              rw [e138] at F136
              refine Go.iload H at_347 rfl rfl ?_
              refine Go.ifY (pc' := 358) H at_349 (by decide) (by decide) (by decide) ?_
              refine Go.getstatic H at_358 rfl w85 W.2.2.1 ?_
              refine Go.astore (ls' := #[.val (.int a), .val (.int b), .val (.int c), .val (.int d), .val (.int e), .val (.int (0 : Int32)), .val (.int (0 : Int32)), .val (.int ((a >>> ((2 : Int32) &&& 31)) &&& (3 : Int32))), .val (.ref a3), .val (.int (12 : Int32)), .val (.int p.toInt32), .val (.int (nar .char (c &&& (255 : Int32)))), .val (.int (1 : Int32)), .val (.int q.toInt32), .val (.ref a110), .val (.ref o132), .val (.int (1 : Int32)), .val (.ref dD)]) H at_361 rfl rfl rfl ?_
              refine Go.aload H at_363 rfl rfl rfl ?_
              refine Go.callV (rest := []) 0 [] H at_365 rfl A135 w86 w87 w89 w88 w70 w90 pd_N15 (ct_isp1 l W o132 dD h133 F136) all0 rfl rfl rfl (Nat.le_of_eq rfl) (by decide) (by decide) (by decide) (by decide) nh_N12 ?_
              rintro _ _ _ ⟨rfl, rfl, rfl⟩
              show Go _ _ _ _ _ _ h133 [a110, a3] 9 46 368 #[.val (.int a), .val (.int b), .val (.int c), .val (.int d), .val (.int e), .val (.int (0 : Int32)), .val (.int (0 : Int32)), .val (.int ((a >>> ((2 : Int32) &&& 31)) &&& (3 : Int32))), .val (.ref a3), .val (.int (12 : Int32)), .val (.int p.toInt32), .val (.int (nar .char (c &&& (255 : Int32)))), .val (.int (1 : Int32)), .val (.int q.toInt32), .val (.ref a110), .val (.ref o132), .val (.int (1 : Int32)), .val (.ref dD)] [(.int (1 : Int32))]
              refine Go.ifN H at_368 (by decide) rfl ?_
              refine Go.aload H at_371 rfl rfl rfl ?_
              refine Go.callV (rest := []) 0 [] H at_373 rfl A135 w91 w92 w94 w93 w70 w95 pd_N16 (ct_opg l W o132 dD h133 F136) all0 rfl rfl rfl (Nat.le_of_eq rfl) (by decide) (by decide) (by decide) (by decide) nh_N12 ?_
              rintro _ _ _ ⟨rfl, rfl, rfl⟩
              show Go _ _ _ _ _ _ h133 [a110, a3] 9 46 376 #[.val (.int a), .val (.int b), .val (.int c), .val (.int d), .val (.int e), .val (.int (0 : Int32)), .val (.int (0 : Int32)), .val (.int ((a >>> ((2 : Int32) &&& 31)) &&& (3 : Int32))), .val (.ref a3), .val (.int (12 : Int32)), .val (.int p.toInt32), .val (.int (nar .char (c &&& (255 : Int32)))), .val (.int (1 : Int32)), .val (.int q.toInt32), .val (.ref a110), .val (.ref o132), .val (.int (1 : Int32)), .val (.ref dD)] [(.ref dD)]
              refine Go.aload H at_376 rfl rfl rfl ?_
              refine Go.acmpN H at_378 rfl rfl (by simp [XT.acmp]) rfl ?_
              refine Go.iconst (1 : Int32) H at_381 rfl rfl ?_
              refine Go.goto (pc' := 386) H at_382 (by decide) (by decide) ?_
              exact Go.ireturn 1 [] H at_386 (by simp) (by decide) ⟨rfl, trivial⟩ all0 (by decide) (by decide)
            ·
              refine Go.icmpY (pc' := 325) H at_301 (feq (fun e => c137 (own_ofinj (n := 12) (by omega) (by decide) e))).2 (by decide) (by decide) ?_
              refine Go.iconst (0 : Int32) H at_325 rfl rfl ?_
              refine Go.istore (ls' := #[.val (.int a), .val (.int b), .val (.int c), .val (.int d), .val (.int e), .val (.int (0 : Int32)), .val (.int (0 : Int32)), .val (.int ((a >>> ((2 : Int32) &&& 31)) &&& (3 : Int32))), .val (.ref a3), .val (.int (12 : Int32)), .val (.int p.toInt32), .val (.int (nar .char (c &&& (255 : Int32)))), .val (.int (1 : Int32)), .val (.int q.toInt32), .val (.ref a110), .val (.ref o132), .val (.int (0 : Int32)), .unset]) H at_326 rfl rfl ?_
              refine Go.iload H at_328 rfl rfl ?_
              refine Go.ifN H at_330 (by decide) rfl ?_
              have e139 : selV dD dA ([(102 : Int32), (99 : Int32), (114 : Int32), (58 : Int32), (109 : Int32), (101 : Int32), (116 : Int32), (97 : Int32), (100 : Int32), (97 : Int32), (116 : Int32), (97 : Int32), (nar .char (e &&& (255 : Int32)))].take q) = .null := selD_len0 (by omega) c137
              rw [e139] at F136
              refine Go.aload H at_333 rfl rfl rfl ?_
              refine Go.callV (rest := []) 0 [] H at_335 rfl A135 w86 w87 w89 w88 w70 w90 pd_N15 (ct_isp0 l W o132 h133 F136) all0 rfl rfl rfl (Nat.le_of_eq rfl) (by decide) (by decide) (by decide) (by decide) nh_N12 ?_
              rintro _ _ _ ⟨rfl, rfl, rfl⟩
              show Go _ _ _ _ _ _ h133 [a110, a3] 9 46 338 #[.val (.int a), .val (.int b), .val (.int c), .val (.int d), .val (.int e), .val (.int (0 : Int32)), .val (.int (0 : Int32)), .val (.int ((a >>> ((2 : Int32) &&& 31)) &&& (3 : Int32))), .val (.ref a3), .val (.int (12 : Int32)), .val (.int p.toInt32), .val (.int (nar .char (c &&& (255 : Int32)))), .val (.int (1 : Int32)), .val (.int q.toInt32), .val (.ref a110), .val (.ref o132), .val (.int (0 : Int32)), .unset] [(.int (0 : Int32))]
              refine Go.ifN H at_338 (by decide) rfl ?_
              refine Go.iconst (1 : Int32) H at_341 rfl rfl ?_
              refine Go.goto (pc' := 346) H at_342 (by decide) (by decide) ?_
              exact Go.ireturn 1 [] H at_346 (by simp) (by decide) ⟨rfl, trivial⟩ all0 (by decide) (by decide)
      ·
        refine Go.icmpY (pc' := 221) H at_214 (feq c51).2 (by decide) (by decide) ?_
        refine Go.iconst (0 : Int32) H at_221 rfl rfl ?_
        refine Go.istore (ls' := #[.val (.int a), .val (.int b), .val (.int c), .val (.int d), .val (.int e), .val (.int (0 : Int32)), .val (.int (0 : Int32)), .val (.int ((a >>> ((2 : Int32) &&& 31)) &&& (3 : Int32))), .val (.ref a3), .val (.int (12 : Int32)), .val (.int p.toInt32), .val (.int (nar .char (c &&& (255 : Int32)))), .val (.int (0 : Int32)), .unset, .unset, .unset, .unset, .unset]) H at_222 rfl rfl ?_
        refine Go.iload H at_224 rfl rfl ?_
        refine Go.ifY (pc' := 236) H at_226 (by decide) (by decide) (by decide) ?_
        refine Go.iload H at_236 rfl rfl ?_
        by_cases c140 : ((a >>> ((2 : Int32) &&& 31)) &&& (3 : Int32)) = (0 : Int32)
        ·
          refine Go.ifN H at_238 (teq c140).2 rfl ?_
          refine Go.iload H at_241 rfl rfl ?_
          refine Go.istore (ls' := #[.val (.int a), .val (.int b), .val (.int c), .val (.int d), .val (.int e), .val (.int (0 : Int32)), .val (.int (0 : Int32)), .val (.int ((a >>> ((2 : Int32) &&& 31)) &&& (3 : Int32))), .val (.ref a3), .val (.int (12 : Int32)), .val (.int p.toInt32), .val (.int (nar .char (c &&& (255 : Int32)))), .val (.int (0 : Int32)), .val (.int (12 : Int32)), .unset, .unset, .unset, .unset]) H at_243 rfl rfl ?_
          refine Go.goto (pc' := 274) H at_245 (by decide) (by decide) ?_
          refine Go.new H at_274 rfl w2 w3 w4 (by decide) (by decide) ?_
          intro a141 h142 g143 z144 E145 A146 D147
          have ne148 : a3 ≠ a141 := Nat.ne_of_lt (Nat.lt_of_lt_of_le F50.lt (Nat.le_of_eq g143.symm))
          replace F50 := F50.ext E145
          have F149 : Fld Z h142 a141 "java/lang/String" "coder" "B" (.int (0 : Int32)) := D147 (Or.inr w32) (ty := .byte) (by decide)
          have F150 : Fld Z h142 a141 "java/lang/String" "value" "[B" .null := D147 (Or.inr w34) (ty := (.array .byte)) (by decide)
          show Go _ _ _ _ _ _ h142 [a141, a3] 2 17 277 #[.val (.int a), .val (.int b), .val (.int c), .val (.int d), .val (.int e), .val (.int (0 : Int32)), .val (.int (0 : Int32)), .val (.int ((a >>> ((2 : Int32) &&& 31)) &&& (3 : Int32))), .val (.ref a3), .val (.int (12 : Int32)), .val (.int p.toInt32), .val (.int (nar .char (c &&& (255 : Int32)))), .val (.int (0 : Int32)), .val (.int (12 : Int32)), .unset, .unset, .unset, .unset] [(.ref a141)]
          refine Go.dup H at_277 rfl rfl ?_
          refine Go.aload H at_278 rfl rfl rfl ?_
          refine Go.iload H at_280 rfl rfl ?_
          refine Go.callS (rest := [(.ref a141), (.ref a141)]) 2 [(.ref a3), (.int (12 : Int32))] H at_282 rfl w5 w6 w7 w8 pd_N18 (ct_pre l W a3 [(102 : Int32), (99 : Int32), (114 : Int32), (58 : Int32), (109 : Int32), (101 : Int32), (116 : Int32), (97 : Int32), (100 : Int32), (97 : Int32), (116 : Int32), (97 : Int32), (nar .char (e &&& (255 : Int32)))] 12 h142 F50 (show _ ≤ 13 by omega) (Nat.le_of_ble_eq_true rfl) (own_ac (show isL (102 : Int32) from ⟨by decide, by decide⟩) (own_ac (show isL (99 : Int32) from ⟨by decide, by decide⟩) (own_ac (show isL (114 : Int32) from ⟨by decide, by decide⟩) (own_ac (show isL (58 : Int32) from ⟨by decide, by decide⟩) (own_ac (show isL (109 : Int32) from ⟨by decide, by decide⟩) (own_ac (show isL (101 : Int32) from ⟨by decide, by decide⟩) (own_ac (show isL (116 : Int32) from ⟨by decide, by decide⟩) (own_ac (show isL (97 : Int32) from ⟨by decide, by decide⟩) (own_ac (show isL (100 : Int32) from ⟨by decide, by decide⟩) (own_ac (show isL (97 : Int32) from ⟨by decide, by decide⟩) (own_ac (show isL (116 : Int32) from ⟨by decide, by decide⟩) (own_ac (show isL (97 : Int32) from ⟨by decide, by decide⟩) (own_ac (own_and255 _) own_an)))))))))))))) all0 rfl rfl rfl (Nat.le_of_eq rfl) (by decide) (by decide) (by decide) (by decide) nh_N18 ?_
          rintro _ h152 _ ⟨r151, rfl, E153, g154, F155, rfl⟩
          have ne156 : a3 ≠ r151 := Nat.ne_of_lt (Nat.lt_of_lt_of_le F50.lt g154)
          have ne157 : a141 ≠ r151 := Nat.ne_of_lt (Nat.lt_of_lt_of_le A146.lt g154)
          replace F50 := F50.ext E153
          replace A146 := A146.ext E153
          replace F149 := F149.ext E153
          replace F150 := F150.ext E153
          show Go _ _ _ _ _ _ h152 [a141, a3] 3 30 285 #[.val (.int a), .val (.int b), .val (.int c), .val (.int d), .val (.int e), .val (.int (0 : Int32)), .val (.int (0 : Int32)), .val (.int ((a >>> ((2 : Int32) &&& 31)) &&& (3 : Int32))), .val (.ref a3), .val (.int (12 : Int32)), .val (.int p.toInt32), .val (.int (nar .char (c &&& (255 : Int32)))), .val (.int (0 : Int32)), .val (.int (12 : Int32)), .unset, .unset, .unset, .unset] [(.ref r151), (.ref a141), (.ref a141)]
          refine Go.callI (rest := [(.ref a141)]) 1 [(.ref r151)] H at_285 rfl rfl w9 w10 w4 w11 pd_N5 (ct_new1 l W a141 r151 ([(102 : Int32), (99 : Int32), (114 : Int32), (58 : Int32), (109 : Int32), (101 : Int32), (116 : Int32), (97 : Int32), (100 : Int32), (97 : Int32), (116 : Int32), (97 : Int32), (nar .char (e &&& (255 : Int32)))].take 12) h152 A146 F150 F149  F155 (own_takeL' (own_ac (show isL (102 : Int32) from ⟨by decide, by decide⟩) (own_ac (show isL (99 : Int32) from ⟨by decide, by decide⟩) (own_ac (show isL (114 : Int32) from ⟨by decide, by decide⟩) (own_ac (show isL (58 : Int32) from ⟨by decide, by decide⟩) (own_ac (show isL (109 : Int32) from ⟨by decide, by decide⟩) (own_ac (show isL (101 : Int32) from ⟨by decide, by decide⟩) (own_ac (show isL (116 : Int32) from ⟨by decide, by decide⟩) (own_ac (show isL (97 : Int32) from ⟨by decide, by decide⟩) (own_ac (show isL (100 : Int32) from ⟨by decide, by decide⟩) (own_ac (show isL (97 : Int32) from ⟨by decide, by decide⟩) (own_ac (show isL (116 : Int32) from ⟨by decide, by decide⟩) (own_ac (show isL (97 : Int32) from ⟨by decide, by decide⟩) (own_ac (own_and255 _) own_an)))))))))))))) (by rw [List.length_take]; exact Nat.le_trans (Nat.min_le_right _ _) (Nat.le_of_ble_eq_true rfl))  z144) (by simp) rfl rfl rfl (Nat.le_of_eq rfl) (by decide) (by decide) (by decide) (by decide) nh_N4 ?_
          rintro _ h158 _ ⟨rfl, K159, ⟨b160, S162⟩, rfl⟩
          replace F50 := F50.keep K159 (ninS ne148 nin0)
          replace F155 := F155.keep K159 (ninS (Ne.symm ne157) nin0)
          show Go _ _ _ _ _ _ h158 [a141, a3] 7 43 288 #[.val (.int a), .val (.int b), .val (.int c), .val (.int d), .val (.int e), .val (.int (0 : Int32)), .val (.int (0 : Int32)), .val (.int ((a >>> ((2 : Int32) &&& 31)) &&& (3 : Int32))), .val (.ref a3), .val (.int (12 : Int32)), .val (.int p.toInt32), .val (.int (nar .char (c &&& (255 : Int32)))), .val (.int (0 : Int32)), .val (.int (12 : Int32)), .unset, .unset, .unset, .unset] [(.ref a141)]
          refine Go.astore (ls' := #[.val (.int a), .val (.int b), .val (.int c), .val (.int d), .val (.int e), .val (.int (0 : Int32)), .val (.int (0 : Int32)), .val (.int ((a >>> ((2 : Int32) &&& 31)) &&& (3 : Int32))), .val (.ref a3), .val (.int (12 : Int32)), .val (.int p.toInt32), .val (.int (nar .char (c &&& (255 : Int32)))), .val (.int (0 : Int32)), .val (.int (12 : Int32)), .val (.ref a141), .unset, .unset, .unset]) H at_288 rfl rfl rfl ?_
          refine Go.aload H at_290 rfl rfl rfl ?_
          refine Go.callS (rest := []) 0 [(.ref a141)] H at_292 rfl w35 w36 w37 w38 pd_N17 (ct_bys l W a141 b160 ([(102 : Int32), (99 : Int32), (114 : Int32), (58 : Int32), (109 : Int32), (101 : Int32), (116 : Int32), (97 : Int32), (100 : Int32), (97 : Int32), (116 : Int32), (97 : Int32), (nar .char (e &&& (255 : Int32)))].take 12) h158 S162) all0 rfl rfl rfl (Nat.le_of_eq rfl) (by decide) (by decide) (by decide) (by decide) nh_N10 ?_
          rintro _ h164 _ ⟨o163, rfl, E165, A166, F167, rfl⟩
          replace F50 := F50.ext E165
          replace F155 := F155.ext E165
          replace S162 := S162.ext E165
          show Go _ _ _ _ _ _ h164 [a141, a3] 9 46 295 #[.val (.int a), .val (.int b), .val (.int c), .val (.int d), .val (.int e), .val (.int (0 : Int32)), .val (.int (0 : Int32)), .val (.int ((a >>> ((2 : Int32) &&& 31)) &&& (3 : Int32))), .val (.ref a3), .val (.int (12 : Int32)), .val (.int p.toInt32), .val (.int (nar .char (c &&& (255 : Int32)))), .val (.int (0 : Int32)), .val (.int (12 : Int32)), .val (.ref a141), .unset, .unset, .unset] [(.ref o163)]
          refine Go.astore (ls' := #[.val (.int a), .val (.int b), .val (.int c), .val (.int d), .val (.int e), .val (.int (0 : Int32)), .val (.int (0 : Int32)), .val (.int ((a >>> ((2 : Int32) &&& 31)) &&& (3 : Int32))), .val (.ref a3), .val (.int (12 : Int32)), .val (.int p.toInt32), .val (.int (nar .char (c &&& (255 : Int32)))), .val (.int (0 : Int32)), .val (.int (12 : Int32)), .val (.ref a141), .val (.ref o163), .unset, .unset]) H at_295 rfl rfl rfl ?_
          refine Go.iload H at_297 rfl rfl ?_
          refine Go.iload H at_299 rfl rfl ?_
          refine Go.icmpN H at_301 (by decide) rfl ?_
          refine Go.iload H at_304 rfl rfl ?_
          refine Go.ifY (pc' := 321) H at_306 (by decide) (by decide) (by decide) ?_
          refine Go.iconst (1 : Int32) H at_321 rfl rfl ?_
          refine Go.goto (pc' := 326) H at_322 (by decide) (by decide) ?_
          refine Go.istore (ls' := #[.val (.int a), .val (.int b), .val (.int c), .val (.int d), .val (.int e), .val (.int (0 : Int32)), .val (.int (0 : Int32)), .val (.int ((a >>> ((2 : Int32) &&& 31)) &&& (3 : Int32))), .val (.ref a3), .val (.int (12 : Int32)), .val (.int p.toInt32), .val (.int (nar .char (c &&& (255 : Int32)))), .val (.int (0 : Int32)), .val (.int (12 : Int32)), .val (.ref a141), .val (.ref o163), .val (.int (1 : Int32)), .unset]) H at_326 rfl rfl ?_
          refine Go.iload H at_328 rfl rfl ?_
          refine Go.ifY (pc' := 347) H at_330 (by decide) (by decide) (by decide) ?_
          have e168 : selV dD dA ([(102 : Int32), (99 : Int32), (114 : Int32), (58 : Int32), (109 : Int32), (101 : Int32), (116 : Int32), (97 : Int32), (100 : Int32), (97 : Int32), (116 : Int32), (97 : Int32), (nar .char (e &&& (255 : Int32)))].take 12) = .ref dD := selD_hit
          rw [e168] at F167
          refine Go.iload H at_347 rfl rfl ?_
          refine Go.ifY (pc' := 358) H at_349 (by decide) (by decide) (by decide) ?_
          refine Go.getstatic H at_358 rfl w85 W.2.2.1 ?_
          refine Go.astore (ls' := #[.val (.int a), .val (.int b), .val (.int c), .val (.int d), .val (.int e), .val (.int (0 : Int32)), .val (.int (0 : Int32)), .val (.int ((a >>> ((2 : Int32) &&& 31)) &&& (3 : Int32))), .val (.ref a3), .val (.int (12 : Int32)), .val (.int p.toInt32), .val (.int (nar .char (c &&& (255 : Int32)))), .val (.int (0 : Int32)), .val (.int (12 : Int32)), .val (.ref a141), .val (.ref o163), .val (.int (1 : Int32)), .val (.ref dD)]) H at_361 rfl rfl rfl ?_
          refine Go.aload H at_363 rfl rfl rfl ?_
          refine Go.callV (rest := []) 0 [] H at_365 rfl A166 w86 w87 w89 w88 w70 w90 pd_N15 (ct_isp1 l W o163 dD h164 F167) all0 rfl rfl rfl (Nat.le_of_eq rfl) (by decide) (by decide) (by decide) (by decide) nh_N12 ?_
          rintro _ _ _ ⟨rfl, rfl, rfl⟩
          show Go _ _ _ _ _ _ h164 [a141, a3] 9 46 368 #[.val (.int a), .val (.int b), .val (.int c), .val (.int d), .val (.int e), .val (.int (0 : Int32)), .val (.int (0 : Int32)), .val (.int ((a >>> ((2 : Int32) &&& 31)) &&& (3 : Int32))), .val (.ref a3), .val (.int (12 : Int32)), .val (.int p.toInt32), .val (.int (nar .char (c &&& (255 : Int32)))), .val (.int (0 : Int32)), .val (.int (12 : Int32)), .val (.ref a141), .val (.ref o163), .val (.int (1 : Int32)), .val (.ref dD)] [(.int (1 : Int32))]
          refine Go.ifN H at_368 (by decide) rfl ?_
          refine Go.aload H at_371 rfl rfl rfl ?_
          refine Go.callV (rest := []) 0 [] H at_373 rfl A166 w91 w92 w94 w93 w70 w95 pd_N16 (ct_opg l W o163 dD h164 F167) all0 rfl rfl rfl (Nat.le_of_eq rfl) (by decide) (by decide) (by decide) (by decide) nh_N12 ?_
          rintro _ _ _ ⟨rfl, rfl, rfl⟩
          show Go _ _ _ _ _ _ h164 [a141, a3] 9 46 376 #[.val (.int a), .val (.int b), .val (.int c), .val (.int d), .val (.int e), .val (.int (0 : Int32)), .val (.int (0 : Int32)), .val (.int ((a >>> ((2 : Int32) &&& 31)) &&& (3 : Int32))), .val (.ref a3), .val (.int (12 : Int32)), .val (.int p.toInt32), .val (.int (nar .char (c &&& (255 : Int32)))), .val (.int (0 : Int32)), .val (.int (12 : Int32)), .val (.ref a141), .val (.ref o163), .val (.int (1 : Int32)), .val (.ref dD)] [(.ref dD)]
          refine Go.aload H at_376 rfl rfl rfl ?_
          refine Go.acmpN H at_378 rfl rfl (by simp [XT.acmp]) rfl ?_
          refine Go.iconst (1 : Int32) H at_381 rfl rfl ?_
          refine Go.goto (pc' := 386) H at_382 (by decide) (by decide) ?_
          exact Go.ireturn 1 [] H at_386 (by simp) (by decide) ⟨rfl, trivial⟩ all0 (by decide) (by decide)
        ·
          refine Go.ifY (pc' := 248) H at_238 (feq c140).2 (by decide) (by decide) ?_
          refine Go.iload H at_248 rfl rfl ?_
          refine Go.iconst (1 : Int32) H at_250 rfl rfl ?_
          by_cases c169 : ((a >>> ((2 : Int32) &&& 31)) &&& (3 : Int32)) = (1 : Int32)
          ·
            refine Go.icmpN H at_251 (teq c169).2 rfl ?_
            refine Go.iload H at_254 rfl rfl ?_
            refine Go.iconst (1 : Int32) H at_256 rfl rfl ?_
            refine Go.iadd H at_257 rfl ?_
            show Go _ _ _ _ _ _ h48 [a3] 1 13 258 #[.val (.int a), .val (.int b), .val (.int c), .val (.int d), .val (.int e), .val (.int (0 : Int32)), .val (.int (0 : Int32)), .val (.int ((a >>> ((2 : Int32) &&& 31)) &&& (3 : Int32))), .val (.ref a3), .val (.int (12 : Int32)), .val (.int p.toInt32), .val (.int (nar .char (c &&& (255 : Int32)))), .val (.int (0 : Int32)), .unset, .unset, .unset, .unset, .unset] [(.int (13 : Int32))]
            refine Go.istore (ls' := #[.val (.int a), .val (.int b), .val (.int c), .val (.int d), .val (.int e), .val (.int (0 : Int32)), .val (.int (0 : Int32)), .val (.int ((a >>> ((2 : Int32) &&& 31)) &&& (3 : Int32))), .val (.ref a3), .val (.int (12 : Int32)), .val (.int p.toInt32), .val (.int (nar .char (c &&& (255 : Int32)))), .val (.int (0 : Int32)), .val (.int (13 : Int32)), .unset, .unset, .unset, .unset]) H at_258 rfl rfl ?_
            refine Go.goto (pc' := 274) H at_260 (by decide) (by decide) ?_
            refine Go.new H at_274 rfl w2 w3 w4 (by decide) (by decide) ?_
            intro a170 h171 g172 z173 E174 A175 D176
            have ne177 : a3 ≠ a170 := Nat.ne_of_lt (Nat.lt_of_lt_of_le F50.lt (Nat.le_of_eq g172.symm))
            replace F50 := F50.ext E174
            have F178 : Fld Z h171 a170 "java/lang/String" "coder" "B" (.int (0 : Int32)) := D176 (Or.inr w32) (ty := .byte) (by decide)
            have F179 : Fld Z h171 a170 "java/lang/String" "value" "[B" .null := D176 (Or.inr w34) (ty := (.array .byte)) (by decide)
            show Go _ _ _ _ _ _ h171 [a170, a3] 2 17 277 #[.val (.int a), .val (.int b), .val (.int c), .val (.int d), .val (.int e), .val (.int (0 : Int32)), .val (.int (0 : Int32)), .val (.int ((a >>> ((2 : Int32) &&& 31)) &&& (3 : Int32))), .val (.ref a3), .val (.int (12 : Int32)), .val (.int p.toInt32), .val (.int (nar .char (c &&& (255 : Int32)))), .val (.int (0 : Int32)), .val (.int (13 : Int32)), .unset, .unset, .unset, .unset] [(.ref a170)]
            refine Go.dup H at_277 rfl rfl ?_
            refine Go.aload H at_278 rfl rfl rfl ?_
            refine Go.iload H at_280 rfl rfl ?_
            refine Go.callS (rest := [(.ref a170), (.ref a170)]) 2 [(.ref a3), (.int (13 : Int32))] H at_282 rfl w5 w6 w7 w8 pd_N18 (ct_pre l W a3 [(102 : Int32), (99 : Int32), (114 : Int32), (58 : Int32), (109 : Int32), (101 : Int32), (116 : Int32), (97 : Int32), (100 : Int32), (97 : Int32), (116 : Int32), (97 : Int32), (nar .char (e &&& (255 : Int32)))] 13 h171 F50 (show _ ≤ 13 by omega) (Nat.le_of_ble_eq_true rfl) (own_ac (show isL (102 : Int32) from ⟨by decide, by decide⟩) (own_ac (show isL (99 : Int32) from ⟨by decide, by decide⟩) (own_ac (show isL (114 : Int32) from ⟨by decide, by decide⟩) (own_ac (show isL (58 : Int32) from ⟨by decide, by decide⟩) (own_ac (show isL (109 : Int32) from ⟨by decide, by decide⟩) (own_ac (show isL (101 : Int32) from ⟨by decide, by decide⟩) (own_ac (show isL (116 : Int32) from ⟨by decide, by decide⟩) (own_ac (show isL (97 : Int32) from ⟨by decide, by decide⟩) (own_ac (show isL (100 : Int32) from ⟨by decide, by decide⟩) (own_ac (show isL (97 : Int32) from ⟨by decide, by decide⟩) (own_ac (show isL (116 : Int32) from ⟨by decide, by decide⟩) (own_ac (show isL (97 : Int32) from ⟨by decide, by decide⟩) (own_ac (own_and255 _) own_an)))))))))))))) all0 rfl rfl rfl (Nat.le_of_eq rfl) (by decide) (by decide) (by decide) (by decide) nh_N18 ?_
            rintro _ h181 _ ⟨r180, rfl, E182, g183, F184, rfl⟩
            have ne185 : a3 ≠ r180 := Nat.ne_of_lt (Nat.lt_of_lt_of_le F50.lt g183)
            have ne186 : a170 ≠ r180 := Nat.ne_of_lt (Nat.lt_of_lt_of_le A175.lt g183)
            replace F50 := F50.ext E182
            replace A175 := A175.ext E182
            replace F178 := F178.ext E182
            replace F179 := F179.ext E182
            show Go _ _ _ _ _ _ h181 [a170, a3] 3 30 285 #[.val (.int a), .val (.int b), .val (.int c), .val (.int d), .val (.int e), .val (.int (0 : Int32)), .val (.int (0 : Int32)), .val (.int ((a >>> ((2 : Int32) &&& 31)) &&& (3 : Int32))), .val (.ref a3), .val (.int (12 : Int32)), .val (.int p.toInt32), .val (.int (nar .char (c &&& (255 : Int32)))), .val (.int (0 : Int32)), .val (.int (13 : Int32)), .unset, .unset, .unset, .unset] [(.ref r180), (.ref a170), (.ref a170)]
            refine Go.callI (rest := [(.ref a170)]) 1 [(.ref r180)] H at_285 rfl rfl w9 w10 w4 w11 pd_N5 (ct_new1 l W a170 r180 ([(102 : Int32), (99 : Int32), (114 : Int32), (58 : Int32), (109 : Int32), (101 : Int32), (116 : Int32), (97 : Int32), (100 : Int32), (97 : Int32), (116 : Int32), (97 : Int32), (nar .char (e &&& (255 : Int32)))].take 13) h181 A175 F179 F178  F184 (own_takeL' (own_ac (show isL (102 : Int32) from ⟨by decide, by decide⟩) (own_ac (show isL (99 : Int32) from ⟨by decide, by decide⟩) (own_ac (show isL (114 : Int32) from ⟨by decide, by decide⟩) (own_ac (show isL (58 : Int32) from ⟨by decide, by decide⟩) (own_ac (show isL (109 : Int32) from ⟨by decide, by decide⟩) (own_ac (show isL (101 : Int32) from ⟨by decide, by decide⟩) (own_ac (show isL (116 : Int32) from ⟨by decide, by decide⟩) (own_ac (show isL (97 : Int32) from ⟨by decide, by decide⟩) (own_ac (show isL (100 : Int32) from ⟨by decide, by decide⟩) (own_ac (show isL (97 : Int32) from ⟨by decide, by decide⟩) (own_ac (show isL (116 : Int32) from ⟨by decide, by decide⟩) (own_ac (show isL (97 : Int32) from ⟨by decide, by decide⟩) (own_ac (own_and255 _) own_an)))))))))))))) (by rw [List.length_take]; exact Nat.le_trans (Nat.min_le_right _ _) (Nat.le_of_ble_eq_true rfl))  z173) (by simp) rfl rfl rfl (Nat.le_of_eq rfl) (by decide) (by decide) (by decide) (by decide) nh_N4 ?_
            rintro _ h187 _ ⟨rfl, K188, ⟨b189, S191⟩, rfl⟩
            replace F50 := F50.keep K188 (ninS ne177 nin0)
            replace F184 := F184.keep K188 (ninS (Ne.symm ne186) nin0)
            show Go _ _ _ _ _ _ h187 [a170, a3] 7 43 288 #[.val (.int a), .val (.int b), .val (.int c), .val (.int d), .val (.int e), .val (.int (0 : Int32)), .val (.int (0 : Int32)), .val (.int ((a >>> ((2 : Int32) &&& 31)) &&& (3 : Int32))), .val (.ref a3), .val (.int (12 : Int32)), .val (.int p.toInt32), .val (.int (nar .char (c &&& (255 : Int32)))), .val (.int (0 : Int32)), .val (.int (13 : Int32)), .unset, .unset, .unset, .unset] [(.ref a170)]
            refine Go.astore (ls' := #[.val (.int a), .val (.int b), .val (.int c), .val (.int d), .val (.int e), .val (.int (0 : Int32)), .val (.int (0 : Int32)), .val (.int ((a >>> ((2 : Int32) &&& 31)) &&& (3 : Int32))), .val (.ref a3), .val (.int (12 : Int32)), .val (.int p.toInt32), .val (.int (nar .char (c &&& (255 : Int32)))), .val (.int (0 : Int32)), .val (.int (13 : Int32)), .val (.ref a170), .unset, .unset, .unset]) H at_288 rfl rfl rfl ?_
            refine Go.aload H at_290 rfl rfl rfl ?_
            refine Go.callS (rest := []) 0 [(.ref a170)] H at_292 rfl w35 w36 w37 w38 pd_N17 (ct_bys l W a170 b189 ([(102 : Int32), (99 : Int32), (114 : Int32), (58 : Int32), (109 : Int32), (101 : Int32), (116 : Int32), (97 : Int32), (100 : Int32), (97 : Int32), (116 : Int32), (97 : Int32), (nar .char (e &&& (255 : Int32)))].take 13) h187 S191) all0 rfl rfl rfl (Nat.le_of_eq rfl) (by decide) (by decide) (by decide) (by decide) nh_N10 ?_
            rintro _ h193 _ ⟨o192, rfl, E194, A195, F196, rfl⟩
            replace F50 := F50.ext E194
            replace F184 := F184.ext E194
            replace S191 := S191.ext E194
            show Go _ _ _ _ _ _ h193 [a170, a3] 9 46 295 #[.val (.int a), .val (.int b), .val (.int c), .val (.int d), .val (.int e), .val (.int (0 : Int32)), .val (.int (0 : Int32)), .val (.int ((a >>> ((2 : Int32) &&& 31)) &&& (3 : Int32))), .val (.ref a3), .val (.int (12 : Int32)), .val (.int p.toInt32), .val (.int (nar .char (c &&& (255 : Int32)))), .val (.int (0 : Int32)), .val (.int (13 : Int32)), .val (.ref a170), .unset, .unset, .unset] [(.ref o192)]
            refine Go.astore (ls' := #[.val (.int a), .val (.int b), .val (.int c), .val (.int d), .val (.int e), .val (.int (0 : Int32)), .val (.int (0 : Int32)), .val (.int ((a >>> ((2 : Int32) &&& 31)) &&& (3 : Int32))), .val (.ref a3), .val (.int (12 : Int32)), .val (.int p.toInt32), .val (.int (nar .char (c &&& (255 : Int32)))), .val (.int (0 : Int32)), .val (.int (13 : Int32)), .val (.ref a170), .val (.ref o192), .unset, .unset]) H at_295 rfl rfl rfl ?_
            refine Go.iload H at_297 rfl rfl ?_
            refine Go.iload H at_299 rfl rfl ?_
            refine Go.icmpY (pc' := 325) H at_301 (by decide) (by decide) (by decide) ?_
            refine Go.iconst (0 : Int32) H at_325 rfl rfl ?_
            refine Go.istore (ls' := #[.val (.int a), .val (.int b), .val (.int c), .val (.int d), .val (.int e), .val (.int (0 : Int32)), .val (.int (0 : Int32)), .val (.int ((a >>> ((2 : Int32) &&& 31)) &&& (3 : Int32))), .val (.ref a3), .val (.int (12 : Int32)), .val (.int p.toInt32), .val (.int (nar .char (c &&& (255 : Int32)))), .val (.int (0 : Int32)), .val (.int (13 : Int32)), .val (.ref a170), .val (.ref o192), .val (.int (0 : Int32)), .unset]) H at_326 rfl rfl ?_
            refine Go.iload H at_328 rfl rfl ?_
            refine Go.ifN H at_330 (by decide) rfl ?_
            have e197 : selV dD dA ([(102 : Int32), (99 : Int32), (114 : Int32), (58 : Int32), (109 : Int32), (101 : Int32), (116 : Int32), (97 : Int32), (100 : Int32), (97 : Int32), (116 : Int32), (97 : Int32), (nar .char (e &&& (255 : Int32)))].take 13) = .null := selD_len0 (by omega) (by decide)
            rw [e197] at F196
            refine Go.aload H at_333 rfl rfl rfl ?_
            refine Go.callV (rest := []) 0 [] H at_335 rfl A195 w86 w87 w89 w88 w70 w90 pd_N15 (ct_isp0 l W o192 h193 F196) all0 rfl rfl rfl (Nat.le_of_eq rfl) (by decide) (by decide) (by decide) (by decide) nh_N12 ?_
            rintro _ _ _ ⟨rfl, rfl, rfl⟩
            show Go _ _ _ _ _ _ h193 [a170, a3] 9 46 338 #[.val (.int a), .val (.int b), .val (.int c), .val (.int d), .val (.int e), .val (.int (0 : Int32)), .val (.int (0 : Int32)), .val (.int ((a >>> ((2 : Int32) &&& 31)) &&& (3 : Int32))), .val (.ref a3), .val (.int (12 : Int32)), .val (.int p.toInt32), .val (.int (nar .char (c &&& (255 : Int32)))), .val (.int (0 : Int32)), .val (.int (13 : Int32)), .val (.ref a170), .val (.ref o192), .val (.int (0 : Int32)), .unset] [(.int (0 : Int32))]
            refine Go.ifN H at_338 (by decide) rfl ?_
            refine Go.iconst (1 : Int32) H at_341 rfl rfl ?_
            refine Go.goto (pc' := 346) H at_342 (by decide) (by decide) ?_
            exact Go.ireturn 1 [] H at_346 (by simp) (by decide) ⟨rfl, trivial⟩ all0 (by decide) (by decide)
          ·
            refine Go.icmpY (pc' := 263) H at_251 (feq c169).2 (by decide) (by decide) ?_
            refine Go.iloadN H at_263 rfl rfl ?_
            refine Go.ldcInt H at_264 rfl w1 ?_
            refine Go.iand H at_266 rfl ?_
            refine Go.iload H at_267 rfl rfl ?_
            refine Go.iconst (2 : Int32) H at_269 rfl rfl ?_
            refine Go.iadd H at_270 rfl ?_
            show Go _ _ _ _ _ _ h48 [a3] 1 13 271 #[.val (.int a), .val (.int b), .val (.int c), .val (.int d), .val (.int e), .val (.int (0 : Int32)), .val (.int (0 : Int32)), .val (.int ((a >>> ((2 : Int32) &&& 31)) &&& (3 : Int32))), .val (.ref a3), .val (.int (12 : Int32)), .val (.int p.toInt32), .val (.int (nar .char (c &&& (255 : Int32)))), .val (.int (0 : Int32)), .unset, .unset, .unset, .unset, .unset] [(.int (14 : Int32)), (.int (d &&& (2147483647 : Int32)))]
            refine Go.irem H at_271 rfl (by decide) ?_
            obtain ⟨q, hq, hq2⟩ := own_mod14 d
            rw [hq]
            refine Go.istore (ls' := #[.val (.int a), .val (.int b), .val (.int c), .val (.int d), .val (.int e), .val (.int (0 : Int32)), .val (.int (0 : Int32)), .val (.int ((a >>> ((2 : Int32) &&& 31)) &&& (3 : Int32))), .val (.ref a3), .val (.int (12 : Int32)), .val (.int p.toInt32), .val (.int (nar .char (c &&& (255 : Int32)))), .val (.int (0 : Int32)), .val (.int q.toInt32), .unset, .unset, .unset, .unset]) H at_272 rfl rfl ?_
            refine Go.new H at_274 rfl w2 w3 w4 (by decide) (by decide) ?_
            intro a198 h199 g200 z201 E202 A203 D204
            have ne205 : a3 ≠ a198 := Nat.ne_of_lt (Nat.lt_of_lt_of_le F50.lt (Nat.le_of_eq g200.symm))
            replace F50 := F50.ext E202
            have F206 : Fld Z h199 a198 "java/lang/String" "coder" "B" (.int (0 : Int32)) := D204 (Or.inr w32) (ty := .byte) (by decide)
            have F207 : Fld Z h199 a198 "java/lang/String" "value" "[B" .null := D204 (Or.inr w34) (ty := (.array .byte)) (by decide)
            show Go _ _ _ _ _ _ h199 [a198, a3] 2 17 277 #[.val (.int a), .val (.int b), .val (.int c), .val (.int d), .val (.int e), .val (.int (0 : Int32)), .val (.int (0 : Int32)), .val (.int ((a >>> ((2 : Int32) &&& 31)) &&& (3 : Int32))), .val (.ref a3), .val (.int (12 : Int32)), .val (.int p.toInt32), .val (.int (nar .char (c &&& (255 : Int32)))), .val (.int (0 : Int32)), .val (.int q.toInt32), .unset, .unset, .unset, .unset] [(.ref a198)]
            refine Go.dup H at_277 rfl rfl ?_
            refine Go.aload H at_278 rfl rfl rfl ?_
            refine Go.iload H at_280 rfl rfl ?_
            refine Go.callS (rest := [(.ref a198), (.ref a198)]) 2 [(.ref a3), (.int q.toInt32)] H at_282 rfl w5 w6 w7 w8 pd_N18 (ct_pre l W a3 [(102 : Int32), (99 : Int32), (114 : Int32), (58 : Int32), (109 : Int32), (101 : Int32), (116 : Int32), (97 : Int32), (100 : Int32), (97 : Int32), (116 : Int32), (97 : Int32), (nar .char (e &&& (255 : Int32)))] q h199 F50 (show _ ≤ 13 by omega) (Nat.le_of_ble_eq_true rfl) (own_ac (show isL (102 : Int32) from ⟨by decide, by decide⟩) (own_ac (show isL (99 : Int32) from ⟨by decide, by decide⟩) (own_ac (show isL (114 : Int32) from ⟨by decide, by decide⟩) (own_ac (show isL (58 : Int32) from ⟨by decide, by decide⟩) (own_ac (show isL (109 : Int32) from ⟨by decide, by decide⟩) (own_ac (show isL (101 : Int32) from ⟨by decide, by decide⟩) (own_ac (show isL (116 : Int32) from ⟨by decide, by decide⟩) (own_ac (show isL (97 : Int32) from ⟨by decide, by decide⟩) (own_ac (show isL (100 : Int32) from ⟨by decide, by decide⟩) (own_ac (show isL (97 : Int32) from ⟨by decide, by decide⟩) (own_ac (show isL (116 : Int32) from ⟨by decide, by decide⟩) (own_ac (show isL (97 : Int32) from ⟨by decide, by decide⟩) (own_ac (own_and255 _) own_an)))))))))))))) all0 rfl rfl rfl (Nat.le_of_eq rfl) (by decide) (by decide) (by decide) (by decide) nh_N18 ?_
            rintro _ h209 _ ⟨r208, rfl, E210, g211, F212, rfl⟩
            have ne213 : a3 ≠ r208 := Nat.ne_of_lt (Nat.lt_of_lt_of_le F50.lt g211)
            have ne214 : a198 ≠ r208 := Nat.ne_of_lt (Nat.lt_of_lt_of_le A203.lt g211)
            replace F50 := F50.ext E210
            replace A203 := A203.ext E210
            replace F206 := F206.ext E210
            replace F207 := F207.ext E210
            show Go _ _ _ _ _ _ h209 [a198, a3] 3 30 285 #[.val (.int a), .val (.int b), .val (.int c), .val (.int d), .val (.int e), .val (.int (0 : Int32)), .val (.int (0 : Int32)), .val (.int ((a >>> ((2 : Int32) &&& 31)) &&& (3 : Int32))), .val (.ref a3), .val (.int (12 : Int32)), .val (.int p.toInt32), .val (.int (nar .char (c &&& (255 : Int32)))), .val (.int (0 : Int32)), .val (.int q.toInt32), .unset, .unset, .unset, .unset] [(.ref r208), (.ref a198), (.ref a198)]
            refine Go.callI (rest := [(.ref a198)]) 1 [(.ref r208)] H at_285 rfl rfl w9 w10 w4 w11 pd_N5 (ct_new1 l W a198 r208 ([(102 : Int32), (99 : Int32), (114 : Int32), (58 : Int32), (109 : Int32), (101 : Int32), (116 : Int32), (97 : Int32), (100 : Int32), (97 : Int32), (116 : Int32), (97 : Int32), (nar .char (e &&& (255 : Int32)))].take q) h209 A203 F207 F206  F212 (own_takeL' (own_ac (show isL (102 : Int32) from ⟨by decide, by decide⟩) (own_ac (show isL (99 : Int32) from ⟨by decide, by decide⟩) (own_ac (show isL (114 : Int32) from ⟨by decide, by decide⟩) (own_ac (show isL (58 : Int32) from ⟨by decide, by decide⟩) (own_ac (show isL (109 : Int32) from ⟨by decide, by decide⟩) (own_ac (show isL (101 : Int32) from ⟨by decide, by decide⟩) (own_ac (show isL (116 : Int32) from ⟨by decide, by decide⟩) (own_ac (show isL (97 : Int32) from ⟨by decide, by decide⟩) (own_ac (show isL (100 : Int32) from ⟨by decide, by decide⟩) (own_ac (show isL (97 : Int32) from ⟨by decide, by decide⟩) (own_ac (show isL (116 : Int32) from ⟨by decide, by decide⟩) (own_ac (show isL (97 : Int32) from ⟨by decide, by decide⟩) (own_ac (own_and255 _) own_an)))))))))))))) (by rw [List.length_take]; exact Nat.le_trans (Nat.min_le_right _ _) (Nat.le_of_ble_eq_true rfl))  z201) (by simp) rfl rfl rfl (Nat.le_of_eq rfl) (by decide) (by decide) (by decide) (by decide) nh_N4 ?_
            rintro _ h215 _ ⟨rfl, K216, ⟨b217, S219⟩, rfl⟩
            replace F50 := F50.keep K216 (ninS ne205 nin0)
            replace F212 := F212.keep K216 (ninS (Ne.symm ne214) nin0)
            show Go _ _ _ _ _ _ h215 [a198, a3] 7 43 288 #[.val (.int a), .val (.int b), .val (.int c), .val (.int d), .val (.int e), .val (.int (0 : Int32)), .val (.int (0 : Int32)), .val (.int ((a >>> ((2 : Int32) &&& 31)) &&& (3 : Int32))), .val (.ref a3), .val (.int (12 : Int32)), .val (.int p.toInt32), .val (.int (nar .char (c &&& (255 : Int32)))), .val (.int (0 : Int32)), .val (.int q.toInt32), .unset, .unset, .unset, .unset] [(.ref a198)]
            refine Go.astore (ls' := #[.val (.int a), .val (.int b), .val (.int c), .val (.int d), .val (.int e), .val (.int (0 : Int32)), .val (.int (0 : Int32)), .val (.int ((a >>> ((2 : Int32) &&& 31)) &&& (3 : Int32))), .val (.ref a3), .val (.int (12 : Int32)), .val (.int p.toInt32), .val (.int (nar .char (c &&& (255 : Int32)))), .val (.int (0 : Int32)), .val (.int q.toInt32), .val (.ref a198), .unset, .unset, .unset]) H at_288 rfl rfl rfl ?_
            refine Go.aload H at_290 rfl rfl rfl ?_
            refine Go.callS (rest := []) 0 [(.ref a198)] H at_292 rfl w35 w36 w37 w38 pd_N17 (ct_bys l W a198 b217 ([(102 : Int32), (99 : Int32), (114 : Int32), (58 : Int32), (109 : Int32), (101 : Int32), (116 : Int32), (97 : Int32), (100 : Int32), (97 : Int32), (116 : Int32), (97 : Int32), (nar .char (e &&& (255 : Int32)))].take q) h215 S219) all0 rfl rfl rfl (Nat.le_of_eq rfl) (by decide) (by decide) (by decide) (by decide) nh_N10 ?_
            rintro _ h221 _ ⟨o220, rfl, E222, A223, F224, rfl⟩
            replace F50 := F50.ext E222
            replace F212 := F212.ext E222
            replace S219 := S219.ext E222
            show Go _ _ _ _ _ _ h221 [a198, a3] 9 46 295 #[.val (.int a), .val (.int b), .val (.int c), .val (.int d), .val (.int e), .val (.int (0 : Int32)), .val (.int (0 : Int32)), .val (.int ((a >>> ((2 : Int32) &&& 31)) &&& (3 : Int32))), .val (.ref a3), .val (.int (12 : Int32)), .val (.int p.toInt32), .val (.int (nar .char (c &&& (255 : Int32)))), .val (.int (0 : Int32)), .val (.int q.toInt32), .val (.ref a198), .unset, .unset, .unset] [(.ref o220)]
            refine Go.astore (ls' := #[.val (.int a), .val (.int b), .val (.int c), .val (.int d), .val (.int e), .val (.int (0 : Int32)), .val (.int (0 : Int32)), .val (.int ((a >>> ((2 : Int32) &&& 31)) &&& (3 : Int32))), .val (.ref a3), .val (.int (12 : Int32)), .val (.int p.toInt32), .val (.int (nar .char (c &&& (255 : Int32)))), .val (.int (0 : Int32)), .val (.int q.toInt32), .val (.ref a198), .val (.ref o220), .unset, .unset]) H at_295 rfl rfl rfl ?_
            refine Go.iload H at_297 rfl rfl ?_
            refine Go.iload H at_299 rfl rfl ?_
            by_cases c225 : q = 12
            ·
              refine Go.icmpN H at_301 (teq (by rw [c225]; rfl)).2 rfl ?_
              refine Go.iload H at_304 rfl rfl ?_
              refine Go.ifY (pc' := 321) H at_306 (by decide) (by decide) (by decide) ?_
              refine Go.iconst (1 : Int32) H at_321 rfl rfl ?_
              refine Go.goto (pc' := 326) H at_322 (by decide) (by decide) ?_
              refine Go.istore (ls' := #[.val (.int a), .val (.int b), .val (.int c), .val (.int d), .val (.int e), .val (.int (0 : Int32)), .val (.int (0 : Int32)), .val (.int ((a >>> ((2 : Int32) &&& 31)) &&& (3 : Int32))), .val (.ref a3), .val (.int (12 : Int32)), .val (.int p.toInt32), .val (.int (nar .char (c &&& (255 : Int32)))), .val (.int (0 : Int32)), .val (.int q.toInt32), .val (.ref a198), .val (.ref o220), .val (.int (1 : Int32)), .unset]) H at_326 rfl rfl ?_
              refine Go.iload H at_328 rfl rfl ?_
              refine Go.ifY (pc' := 347) H at_330 (by decide) (by decide) (by decide) ?_
              have e226 : selV dD dA ([(102 : Int32), (99 : Int32), (114 : Int32), (58 : Int32), (109 : Int32), (101 : Int32), (116 : Int32), (97 : Int32), (100 : Int32), (97 : Int32), (116 : Int32), (97 : Int32), (nar .char (e &&& (255 : Int32)))].take q) = .ref dD := (by rw [c225]; exact selD_hit)
              rw [e226] at F224
              refine Go.iload H at_347 rfl rfl ?_
              refine Go.ifY (pc' := 358) H at_349 (by decide) (by decide) (by decide) ?_
              refine Go.getstatic H at_358 rfl w85 W.2.2.1 ?_
              refine Go.astore (ls' := #[.val (.int a), .val (.int b), .val (.int c), .val (.int d), .val (.int e), .val (.int (0 : Int32)), .val (.int (0 : Int32)), .val (.int ((a >>> ((2 : Int32) &&& 31)) &&& (3 : Int32))), .val (.ref a3), .val (.int (12 : Int32)), .val (.int p.toInt32), .val (.int (nar .char (c &&& (255 : Int32)))), .val (.int (0 : Int32)), .val (.int q.toInt32), .val (.ref a198), .val (.ref o220), .val (.int (1 : Int32)), .val (.ref dD)]) H at_361 rfl rfl rfl ?_
              refine Go.aload H at_363 rfl rfl rfl ?_
              refine Go.callV (rest := []) 0 [] H at_365 rfl A223 w86 w87 w89 w88 w70 w90 pd_N15 (ct_isp1 l W o220 dD h221 F224) all0 rfl rfl rfl (Nat.le_of_eq rfl) (by decide) (by decide) (by decide) (by decide) nh_N12 ?_
              rintro _ _ _ ⟨rfl, rfl, rfl⟩
              show Go _ _ _ _ _ _ h221 [a198, a3] 9 46 368 #[.val (.int a), .val (.int b), .val (.int c), .val (.int d), .val (.int e), .val (.int (0 : Int32)), .val (.int (0 : Int32)), .val (.int ((a >>> ((2 : Int32) &&& 31)) &&& (3 : Int32))), .val (.ref a3), .val (.int (12 : Int32)), .val (.int p.toInt32), .val (.int (nar .char (c &&& (255 : Int32)))), .val (.int (0 : Int32)), .val (.int q.toInt32), .val (.ref a198), .val (.ref o220), .val (.int (1 : Int32)), .val (.ref dD)] [(.int (1 : Int32))]
              refine Go.ifN H at_368 (by decide) rfl ?_
              refine Go.aload H at_371 rfl rfl rfl ?_
              refine Go.callV (rest := []) 0 [] H at_373 rfl A223 w91 w92 w94 w93 w70 w95 pd_N16 (ct_opg l W o220 dD h221 F224) all0 rfl rfl rfl (Nat.le_of_eq rfl) (by decide) (by decide) (by decide) (by decide) nh_N12 ?_
              rintro _ _ _ ⟨rfl, rfl, rfl⟩
              show Go _ _ _ _ _ _ h221 [a198, a3] 9 46 376 #[.val (.int a), .val (.int b), .val (.int c), .val (.int d), .val (.int e), .val (.int (0 : Int32)), .val (.int (0 : Int32)), .val (.int ((a >>> ((2 : Int32) &&& 31)) &&& (3 : Int32))), .val (.ref a3), .val (.int (12 : Int32)), .val (.int p.toInt32), .val (.int (nar .char (c &&& (255 : Int32)))), .val (.int (0 : Int32)), .val (.int q.toInt32), .val (.ref a198), .val (.ref o220), .val (.int (1 : Int32)), .val (.ref dD)] [(.ref dD)]
              refine Go.aload H at_376 rfl rfl rfl ?_
              refine Go.acmpN H at_378 rfl rfl (by simp [XT.acmp]) rfl ?_
              refine Go.iconst (1 : Int32) H at_381 rfl rfl ?_
              refine Go.goto (pc' := 386) H at_382 (by decide) (by decide) ?_
              exact Go.ireturn 1 [] H at_386 (by simp) (by decide) ⟨rfl, trivial⟩ all0 (by decide) (by decide)
            ·
              refine Go.icmpY (pc' := 325) H at_301 (feq (fun e => c225 (own_ofinj (n := 12) (by omega) (by decide) e))).2 (by decide) (by decide) ?_
              refine Go.iconst (0 : Int32) H at_325 rfl rfl ?_
              refine Go.istore (ls' := #[.val (.int a), .val (.int b), .val (.int c), .val (.int d), .val (.int e), .val (.int (0 : Int32)), .val (.int (0 : Int32)), .val (.int ((a >>> ((2 : Int32) &&& 31)) &&& (3 : Int32))), .val (.ref a3), .val (.int (12 : Int32)), .val (.int p.toInt32), .val (.int (nar .char (c &&& (255 : Int32)))), .val (.int (0 : Int32)), .val (.int q.toInt32), .val (.ref a198), .val (.ref o220), .val (.int (0 : Int32)), .unset]) H at_326 rfl rfl ?_
              refine Go.iload H at_328 rfl rfl ?_
              refine Go.ifN H at_330 (by decide) rfl ?_
              have e227 : selV dD dA ([(102 : Int32), (99 : Int32), (114 : Int32), (58 : Int32), (109 : Int32), (101 : Int32), (116 : Int32), (97 : Int32), (100 : Int32), (97 : Int32), (116 : Int32), (97 : Int32), (nar .char (e &&& (255 : Int32)))].take q) = .null := selD_len0 (by omega) c225
              rw [e227] at F224
              refine Go.aload H at_333 rfl rfl rfl ?_
              refine Go.callV (rest := []) 0 [] H at_335 rfl A223 w86 w87 w89 w88 w70 w90 pd_N15 (ct_isp0 l W o220 h221 F224) all0 rfl rfl rfl (Nat.le_of_eq rfl) (by decide) (by decide) (by decide) (by decide) nh_N12 ?_
              rintro _ _ _ ⟨rfl, rfl, rfl⟩
              show Go _ _ _ _ _ _ h221 [a198, a3] 9 46 338 #[.val (.int a), .val (.int b), .val (.int c), .val (.int d), .val (.int e), .val (.int (0 : Int32)), .val (.int (0 : Int32)), .val (.int ((a >>> ((2 : Int32) &&& 31)) &&& (3 : Int32))), .val (.ref a3), .val (.int (12 : Int32)), .val (.int p.toInt32), .val (.int (nar .char (c &&& (255 : Int32)))), .val (.int (0 : Int32)), .val (.int q.toInt32), .val (.ref a198), .val (.ref o220), .val (.int (0 : Int32)), .unset] [(.int (0 : Int32))]
              refine Go.ifN H at_338 (by decide) rfl ?_
              refine Go.iconst (1 : Int32) H at_341 rfl rfl ?_
              refine Go.goto (pc' := 346) H at_342 (by decide) (by decide) ?_
              exact Go.ireturn 1 [] H at_346 (by simp) (by decide) ⟨rfl, trivial⟩ all0 (by decide) (by decide)
    ·
      refine Go.ifN H at_18 (feq c2).1 rfl ?_
      refine Go.iconst (1 : Int32) H at_21 rfl rfl ?_
      refine Go.goto (pc' := 26) H at_22 (by decide) (by decide) ?_
      refine Go.istore (ls' := #[.val (.int a), .val (.int b), .val (.int c), .val (.int d), .val (.int e), .val (.int (0 : Int32)), .val (.int (1 : Int32)), .unset, .unset, .unset, .unset, .unset, .unset, .unset, .unset, .unset, .unset, .unset]) H at_26 rfl rfl ?_
      refine Go.iloadN H at_28 rfl rfl ?_
      refine Go.iconst (2 : Int32) H at_29 rfl rfl ?_
      refine Go.ishr H at_30 rfl ?_
      refine Go.iconst (3 : Int32) H at_31 rfl rfl ?_
      refine Go.iand H at_32 rfl ?_
      refine Go.istore (ls' := #[.val (.int a), .val (.int b), .val (.int c), .val (.int d), .val (.int e), .val (.int (0 : Int32)), .val (.int (1 : Int32)), .val (.int ((a >>> ((2 : Int32) &&& 31)) &&& (3 : Int32))), .unset, .unset, .unset, .unset, .unset, .unset, .unset, .unset, .unset, .unset]) H at_33 rfl rfl ?_
      refine Go.iload H at_35 rfl rfl ?_
      refine Go.ifY (pc' := 91) H at_37 (by decide) (by decide) (by decide) ?_
      refine Go.bipush (13 : Int32) H at_91 rfl rfl ?_
      refine Go.newarray 13 13 H at_93 rfl w0 rfl (by decide) (by decide) (by decide) (by decide) (by decide) (by decide) (by decide) ?_
      intro a228 h229 g230 z231 E232 F233
      replace F233 : Vec Z h229 a228 .char [(0 : Int32), (0 : Int32), (0 : Int32), (0 : Int32), (0 : Int32), (0 : Int32), (0 : Int32), (0 : Int32), (0 : Int32), (0 : Int32), (0 : Int32), (0 : Int32), (0 : Int32)] := F233
      show Go _ _ _ _ _ _ h229 [a228] 1 13 95 #[.val (.int a), .val (.int b), .val (.int c), .val (.int d), .val (.int e), .val (.int (0 : Int32)), .val (.int (1 : Int32)), .val (.int ((a >>> ((2 : Int32) &&& 31)) &&& (3 : Int32))), .unset, .unset, .unset, .unset, .unset, .unset, .unset, .unset, .unset, .unset] [(.ref a228)]
      refine Go.dup H at_95 rfl rfl ?_
      refine Go.iconst (0 : Int32) H at_96 rfl rfl ?_
      refine Go.bipush (102 : Int32) H at_97 rfl rfl ?_
      refine Go.castore (102 : Int32) H at_99 rfl F233 0 (by decide) (by decide) (Nat.le_of_ble_eq_true rfl) (by decide) z231 (by simp) ?_
      intro h234 K235 F236
      replace F236 : Vec Z h234 a228 .char [(102 : Int32), (0 : Int32), (0 : Int32), (0 : Int32), (0 : Int32), (0 : Int32), (0 : Int32), (0 : Int32), (0 : Int32), (0 : Int32), (0 : Int32), (0 : Int32), (0 : Int32)] := F236
      refine Go.dup H at_100 rfl rfl ?_
      refine Go.iconst (1 : Int32) H at_101 rfl rfl ?_
      refine Go.bipush (99 : Int32) H at_102 rfl rfl ?_
      refine Go.castore (99 : Int32) H at_104 rfl F236 1 (by decide) (by decide) (Nat.le_of_ble_eq_true rfl) (by decide) z231 (by simp) ?_
      intro h237 K238 F239
      replace F239 : Vec Z h237 a228 .char [(102 : Int32), (99 : Int32), (0 : Int32), (0 : Int32), (0 : Int32), (0 : Int32), (0 : Int32), (0 : Int32), (0 : Int32), (0 : Int32), (0 : Int32), (0 : Int32), (0 : Int32)] := F239
      refine Go.dup H at_105 rfl rfl ?_
      refine Go.iconst (2 : Int32) H at_106 rfl rfl ?_
      refine Go.bipush (114 : Int32) H at_107 rfl rfl ?_
      refine Go.castore (114 : Int32) H at_109 rfl F239 2 (by decide) (by decide) (Nat.le_of_ble_eq_true rfl) (by decide) z231 (by simp) ?_
      intro h240 K241 F242
      replace F242 : Vec Z h240 a228 .char [(102 : Int32), (99 : Int32), (114 : Int32), (0 : Int32), (0 : Int32), (0 : Int32), (0 : Int32), (0 : Int32), (0 : Int32), (0 : Int32), (0 : Int32), (0 : Int32), (0 : Int32)] := F242
      refine Go.dup H at_110 rfl rfl ?_
      refine Go.iconst (3 : Int32) H at_111 rfl rfl ?_
      refine Go.bipush (58 : Int32) H at_112 rfl rfl ?_
      refine Go.castore (58 : Int32) H at_114 rfl F242 3 (by decide) (by decide) (Nat.le_of_ble_eq_true rfl) (by decide) z231 (by simp) ?_
      intro h243 K244 F245
      replace F245 : Vec Z h243 a228 .char [(102 : Int32), (99 : Int32), (114 : Int32), (58 : Int32), (0 : Int32), (0 : Int32), (0 : Int32), (0 : Int32), (0 : Int32), (0 : Int32), (0 : Int32), (0 : Int32), (0 : Int32)] := F245
      refine Go.dup H at_115 rfl rfl ?_
      refine Go.iconst (4 : Int32) H at_116 rfl rfl ?_
      refine Go.bipush (109 : Int32) H at_117 rfl rfl ?_
      refine Go.castore (109 : Int32) H at_119 rfl F245 4 (by decide) (by decide) (Nat.le_of_ble_eq_true rfl) (by decide) z231 (by simp) ?_
      intro h246 K247 F248
      replace F248 : Vec Z h246 a228 .char [(102 : Int32), (99 : Int32), (114 : Int32), (58 : Int32), (109 : Int32), (0 : Int32), (0 : Int32), (0 : Int32), (0 : Int32), (0 : Int32), (0 : Int32), (0 : Int32), (0 : Int32)] := F248
      refine Go.dup H at_120 rfl rfl ?_
      refine Go.iconst (5 : Int32) H at_121 rfl rfl ?_
      refine Go.bipush (101 : Int32) H at_122 rfl rfl ?_
      refine Go.castore (101 : Int32) H at_124 rfl F248 5 (by decide) (by decide) (Nat.le_of_ble_eq_true rfl) (by decide) z231 (by simp) ?_
      intro h249 K250 F251
      replace F251 : Vec Z h249 a228 .char [(102 : Int32), (99 : Int32), (114 : Int32), (58 : Int32), (109 : Int32), (101 : Int32), (0 : Int32), (0 : Int32), (0 : Int32), (0 : Int32), (0 : Int32), (0 : Int32), (0 : Int32)] := F251
      refine Go.dup H at_125 rfl rfl ?_
      refine Go.bipush (6 : Int32) H at_126 rfl rfl ?_
      refine Go.bipush (116 : Int32) H at_128 rfl rfl ?_
      refine Go.castore (116 : Int32) H at_130 rfl F251 6 (by decide) (by decide) (Nat.le_of_ble_eq_true rfl) (by decide) z231 (by simp) ?_
      intro h252 K253 F254
      replace F254 : Vec Z h252 a228 .char [(102 : Int32), (99 : Int32), (114 : Int32), (58 : Int32), (109 : Int32), (101 : Int32), (116 : Int32), (0 : Int32), (0 : Int32), (0 : Int32), (0 : Int32), (0 : Int32), (0 : Int32)] := F254
      refine Go.dup H at_131 rfl rfl ?_
      refine Go.bipush (7 : Int32) H at_132 rfl rfl ?_
      refine Go.bipush (97 : Int32) H at_134 rfl rfl ?_
      refine Go.castore (97 : Int32) H at_136 rfl F254 7 (by decide) (by decide) (Nat.le_of_ble_eq_true rfl) (by decide) z231 (by simp) ?_
      intro h255 K256 F257
      replace F257 : Vec Z h255 a228 .char [(102 : Int32), (99 : Int32), (114 : Int32), (58 : Int32), (109 : Int32), (101 : Int32), (116 : Int32), (97 : Int32), (0 : Int32), (0 : Int32), (0 : Int32), (0 : Int32), (0 : Int32)] := F257
      refine Go.dup H at_137 rfl rfl ?_
      refine Go.bipush (8 : Int32) H at_138 rfl rfl ?_
      refine Go.bipush (100 : Int32) H at_140 rfl rfl ?_
      refine Go.castore (100 : Int32) H at_142 rfl F257 8 (by decide) (by decide) (Nat.le_of_ble_eq_true rfl) (by decide) z231 (by simp) ?_
      intro h258 K259 F260
      replace F260 : Vec Z h258 a228 .char [(102 : Int32), (99 : Int32), (114 : Int32), (58 : Int32), (109 : Int32), (101 : Int32), (116 : Int32), (97 : Int32), (100 : Int32), (0 : Int32), (0 : Int32), (0 : Int32), (0 : Int32)] := F260
      refine Go.dup H at_143 rfl rfl ?_
      refine Go.bipush (9 : Int32) H at_144 rfl rfl ?_
      refine Go.bipush (97 : Int32) H at_146 rfl rfl ?_
      refine Go.castore (97 : Int32) H at_148 rfl F260 9 (by decide) (by decide) (Nat.le_of_ble_eq_true rfl) (by decide) z231 (by simp) ?_
      intro h261 K262 F263
      replace F263 : Vec Z h261 a228 .char [(102 : Int32), (99 : Int32), (114 : Int32), (58 : Int32), (109 : Int32), (101 : Int32), (116 : Int32), (97 : Int32), (100 : Int32), (97 : Int32), (0 : Int32), (0 : Int32), (0 : Int32)] := F263
      refine Go.dup H at_149 rfl rfl ?_
      refine Go.bipush (10 : Int32) H at_150 rfl rfl ?_
      refine Go.bipush (116 : Int32) H at_152 rfl rfl ?_
      refine Go.castore (116 : Int32) H at_154 rfl F263 10 (by decide) (by decide) (Nat.le_of_ble_eq_true rfl) (by decide) z231 (by simp) ?_
      intro h264 K265 F266
      replace F266 : Vec Z h264 a228 .char [(102 : Int32), (99 : Int32), (114 : Int32), (58 : Int32), (109 : Int32), (101 : Int32), (116 : Int32), (97 : Int32), (100 : Int32), (97 : Int32), (116 : Int32), (0 : Int32), (0 : Int32)] := F266
      refine Go.dup H at_155 rfl rfl ?_
      refine Go.bipush (11 : Int32) H at_156 rfl rfl ?_
      refine Go.bipush (97 : Int32) H at_158 rfl rfl ?_
      refine Go.castore (97 : Int32) H at_160 rfl F266 11 (by decide) (by decide) (Nat.le_of_ble_eq_true rfl) (by decide) z231 (by simp) ?_
      intro h267 K268 F269
      replace F269 : Vec Z h267 a228 .char [(102 : Int32), (99 : Int32), (114 : Int32), (58 : Int32), (109 : Int32), (101 : Int32), (116 : Int32), (97 : Int32), (100 : Int32), (97 : Int32), (116 : Int32), (97 : Int32), (0 : Int32)] := F269
      refine Go.dup H at_161 rfl rfl ?_
      refine Go.bipush (12 : Int32) H at_162 rfl rfl ?_
      refine Go.bipush (120 : Int32) H at_164 rfl rfl ?_
      refine Go.castore (120 : Int32) H at_166 rfl F269 12 (by decide) (by decide) (Nat.le_of_ble_eq_true rfl) (by decide) z231 (by simp) ?_
      intro h270 K271 F272
      replace F272 : Vec Z h270 a228 .char [(102 : Int32), (99 : Int32), (114 : Int32), (58 : Int32), (109 : Int32), (101 : Int32), (116 : Int32), (97 : Int32), (100 : Int32), (97 : Int32), (116 : Int32), (97 : Int32), (120 : Int32)] := F272
      refine Go.astore (ls' := #[.val (.int a), .val (.int b), .val (.int c), .val (.int d), .val (.int e), .val (.int (0 : Int32)), .val (.int (1 : Int32)), .val (.int ((a >>> ((2 : Int32) &&& 31)) &&& (3 : Int32))), .val (.ref a228), .unset, .unset, .unset, .unset, .unset, .unset, .unset, .unset, .unset]) H at_167 rfl rfl rfl ?_
      refine Go.aload H at_169 rfl rfl rfl ?_
      refine Go.arraylength (13 : Int32) H at_171 rfl F272 rfl ?_
      refine Go.iconst (1 : Int32) H at_172 rfl rfl ?_
      refine Go.isub H at_173 rfl ?_
      show Go _ _ _ _ _ _ h270 [a228] 1 13 174 #[.val (.int a), .val (.int b), .val (.int c), .val (.int d), .val (.int e), .val (.int (0 : Int32)), .val (.int (1 : Int32)), .val (.int ((a >>> ((2 : Int32) &&& 31)) &&& (3 : Int32))), .val (.ref a228), .unset, .unset, .unset, .unset, .unset, .unset, .unset, .unset, .unset] [(.int (12 : Int32))]
      refine Go.istore (ls' := #[.val (.int a), .val (.int b), .val (.int c), .val (.int d), .val (.int e), .val (.int (0 : Int32)), .val (.int (1 : Int32)), .val (.int ((a >>> ((2 : Int32) &&& 31)) &&& (3 : Int32))), .val (.ref a228), .val (.int (12 : Int32)), .unset, .unset, .unset, .unset, .unset, .unset, .unset, .unset]) H at_174 rfl rfl ?_
      refine Go.aload H at_176 rfl rfl rfl ?_
      refine Go.iload H at_178 rfl rfl ?_
      refine Go.iload H at_180 rfl rfl ?_
      refine Go.sipush (255 : Int32) H at_182 rfl rfl ?_
      refine Go.iand H at_185 rfl ?_
      refine Go.i2c H at_186 rfl ?_
      refine Go.castore (nar .char (e &&& (255 : Int32))) H at_187 rfl F272 12 (by decide) (by decide) (Nat.le_of_ble_eq_true rfl) own_nn z231 (by simp) ?_
      intro h273 K274 F275
      replace F275 : Vec Z h273 a228 .char [(102 : Int32), (99 : Int32), (114 : Int32), (58 : Int32), (109 : Int32), (101 : Int32), (116 : Int32), (97 : Int32), (100 : Int32), (97 : Int32), (116 : Int32), (97 : Int32), (nar .char (e &&& (255 : Int32)))] := F275
      refine Go.iloadN H at_188 rfl rfl ?_
      refine Go.ldcInt H at_189 rfl w1 ?_
      refine Go.iand H at_191 rfl ?_
      refine Go.iload H at_192 rfl rfl ?_
      refine Go.iconst (1 : Int32) H at_194 rfl rfl ?_
      refine Go.iadd H at_195 rfl ?_
      show Go _ _ _ _ _ _ h273 [a228] 1 13 196 #[.val (.int a), .val (.int b), .val (.int c), .val (.int d), .val (.int e), .val (.int (0 : Int32)), .val (.int (1 : Int32)), .val (.int ((a >>> ((2 : Int32) &&& 31)) &&& (3 : Int32))), .val (.ref a228), .val (.int (12 : Int32)), .unset, .unset, .unset, .unset, .unset, .unset, .unset, .unset] [(.int (13 : Int32)), (.int (b &&& (2147483647 : Int32)))]
      refine Go.irem H at_196 rfl (by decide) ?_
      obtain ⟨p, hp, hp2⟩ := own_mod13 b
      rw [hp]
      refine Go.istore (ls' := #[.val (.int a), .val (.int b), .val (.int c), .val (.int d), .val (.int e), .val (.int (0 : Int32)), .val (.int (1 : Int32)), .val (.int ((a >>> ((2 : Int32) &&& 31)) &&& (3 : Int32))), .val (.ref a228), .val (.int (12 : Int32)), .val (.int p.toInt32), .unset, .unset, .unset, .unset, .unset, .unset, .unset]) H at_197 rfl rfl ?_
      refine Go.iloadN H at_199 rfl rfl ?_
      refine Go.sipush (255 : Int32) H at_200 rfl rfl ?_
      refine Go.iand H at_203 rfl ?_
      refine Go.i2c H at_204 rfl ?_
      refine Go.istore (ls' := #[.val (.int a), .val (.int b), .val (.int c), .val (.int d), .val (.int e), .val (.int (0 : Int32)), .val (.int (1 : Int32)), .val (.int ((a >>> ((2 : Int32) &&& 31)) &&& (3 : Int32))), .val (.ref a228), .val (.int (12 : Int32)), .val (.int p.toInt32), .val (.int (nar .char (c &&& (255 : Int32)))), .unset, .unset, .unset, .unset, .unset, .unset]) H at_205 rfl rfl ?_
      refine Go.aload H at_207 rfl rfl rfl ?_
      refine Go.iload H at_209 rfl rfl ?_
      refine Go.caload (v := ([(102 : Int32), (99 : Int32), (114 : Int32), (58 : Int32), (109 : Int32), (101 : Int32), (116 : Int32), (97 : Int32), (100 : Int32), (97 : Int32), (116 : Int32), (97 : Int32), (nar .char (e &&& (255 : Int32)))].getD p 0)) H at_211 rfl F275 p (own_cl (by omega)) (own_n0 (by omega)) (own_gd (show p < [(102 : Int32), (99 : Int32), (114 : Int32), (58 : Int32), (109 : Int32), (101 : Int32), (116 : Int32), (97 : Int32), (100 : Int32), (97 : Int32), (116 : Int32), (97 : Int32), (nar .char (e &&& (255 : Int32)))].length from hp2)) ?_
      refine Go.iload H at_212 rfl rfl ?_
      by_cases c276 : ([(102 : Int32), (99 : Int32), (114 : Int32), (58 : Int32), (109 : Int32), (101 : Int32), (116 : Int32), (97 : Int32), (100 : Int32), (97 : Int32), (116 : Int32), (97 : Int32), (nar .char (e &&& (255 : Int32)))].getD p 0) = (nar .char (c &&& (255 : Int32)))
      ·
        refine Go.icmpN H at_214 (teq c276).2 rfl ?_
        refine Go.iconst (1 : Int32) H at_217 rfl rfl ?_
        refine Go.goto (pc' := 222) H at_218 (by decide) (by decide) ?_
        refine Go.istore (ls' := #[.val (.int a), .val (.int b), .val (.int c), .val (.int d), .val (.int e), .val (.int (0 : Int32)), .val (.int (1 : Int32)), .val (.int ((a >>> ((2 : Int32) &&& 31)) &&& (3 : Int32))), .val (.ref a228), .val (.int (12 : Int32)), .val (.int p.toInt32), .val (.int (nar .char (c &&& (255 : Int32)))), .val (.int (1 : Int32)), .unset, .unset, .unset, .unset, .unset]) H at_222 rfl rfl ?_
        refine Go.iload H at_224 rfl rfl ?_
        refine Go.ifN H at_226 (by decide) rfl ?_
        refine Go.aload H at_229 rfl rfl rfl ?_
        refine Go.iload H at_231 rfl rfl ?_
        refine Go.iload H at_233 rfl rfl ?_
        refine Go.castore (nar .char (c &&& (255 : Int32))) H at_235 rfl F275 p (own_cl (by omega)) (own_n0 (by omega)) (show p < [(102 : Int32), (99 : Int32), (114 : Int32), (58 : Int32), (109 : Int32), (101 : Int32), (116 : Int32), (97 : Int32), (100 : Int32), (97 : Int32), (116 : Int32), (97 : Int32), (nar .char (e &&& (255 : Int32)))].length from hp2) own_nn z231 (by simp) ?_
        intro h277 K278 F279
        refine Go.iload H at_236 rfl rfl ?_
        by_cases c280 : ((a >>> ((2 : Int32) &&& 31)) &&& (3 : Int32)) = (0 : Int32)
        ·
          refine Go.ifN H at_238 (teq c280).2 rfl ?_
          refine Go.iload H at_241 rfl rfl ?_
          refine Go.istore (ls' := #[.val (.int a), .val (.int b), .val (.int c), .val (.int d), .val (.int e), .val (.int (0 : Int32)), .val (.int (1 : Int32)), .val (.int ((a >>> ((2 : Int32) &&& 31)) &&& (3 : Int32))), .val (.ref a228), .val (.int (12 : Int32)), .val (.int p.toInt32), .val (.int (nar .char (c &&& (255 : Int32)))), .val (.int (1 : Int32)), .val (.int (12 : Int32)), .unset, .unset, .unset, .unset]) H at_243 rfl rfl ?_
          refine Go.goto (pc' := 274) H at_245 (by decide) (by decide) ?_
          refine Go.new H at_274 rfl w2 w3 w4 (by decide) (by decide) ?_
          intro a281 h282 g283 z284 E285 A286 D287
          have ne288 : a228 ≠ a281 := Nat.ne_of_lt (Nat.lt_of_lt_of_le F279.lt (Nat.le_of_eq g283.symm))
          replace F279 := F279.ext E285
          have F289 : Fld Z h282 a281 "java/lang/String" "coder" "B" (.int (0 : Int32)) := D287 (Or.inr w32) (ty := .byte) (by decide)
          have F290 : Fld Z h282 a281 "java/lang/String" "value" "[B" .null := D287 (Or.inr w34) (ty := (.array .byte)) (by decide)
          show Go _ _ _ _ _ _ h282 [a281, a228] 2 17 277 #[.val (.int a), .val (.int b), .val (.int c), .val (.int d), .val (.int e), .val (.int (0 : Int32)), .val (.int (1 : Int32)), .val (.int ((a >>> ((2 : Int32) &&& 31)) &&& (3 : Int32))), .val (.ref a228), .val (.int (12 : Int32)), .val (.int p.toInt32), .val (.int (nar .char (c &&& (255 : Int32)))), .val (.int (1 : Int32)), .val (.int (12 : Int32)), .unset, .unset, .unset, .unset] [(.ref a281)]
          refine Go.dup H at_277 rfl rfl ?_
          refine Go.aload H at_278 rfl rfl rfl ?_
          refine Go.iload H at_280 rfl rfl ?_
          refine Go.callS (rest := [(.ref a281), (.ref a281)]) 2 [(.ref a228), (.int (12 : Int32))] H at_282 rfl w5 w6 w7 w8 pd_N18 (ct_pre l W a228 ([(102 : Int32), (99 : Int32), (114 : Int32), (58 : Int32), (109 : Int32), (101 : Int32), (116 : Int32), (97 : Int32), (100 : Int32), (97 : Int32), (116 : Int32), (97 : Int32), (nar .char (e &&& (255 : Int32)))].set p (nar .char (c &&& (255 : Int32)))) 12 h282 F279 (by rw [List.length_set]; show _ ≤ 13; omega) (by rw [List.length_set]; exact Nat.le_of_ble_eq_true rfl) (own_setL (own_ac (show isL (102 : Int32) from ⟨by decide, by decide⟩) (own_ac (show isL (99 : Int32) from ⟨by decide, by decide⟩) (own_ac (show isL (114 : Int32) from ⟨by decide, by decide⟩) (own_ac (show isL (58 : Int32) from ⟨by decide, by decide⟩) (own_ac (show isL (109 : Int32) from ⟨by decide, by decide⟩) (own_ac (show isL (101 : Int32) from ⟨by decide, by decide⟩) (own_ac (show isL (116 : Int32) from ⟨by decide, by decide⟩) (own_ac (show isL (97 : Int32) from ⟨by decide, by decide⟩) (own_ac (show isL (100 : Int32) from ⟨by decide, by decide⟩) (own_ac (show isL (97 : Int32) from ⟨by decide, by decide⟩) (own_ac (show isL (116 : Int32) from ⟨by decide, by decide⟩) (own_ac (show isL (97 : Int32) from ⟨by decide, by decide⟩) (own_ac (own_and255 _) own_an))))))))))))) (own_and255 _))) all0 rfl rfl rfl (Nat.le_of_eq rfl) (by decide) (by decide) (by decide) (by decide) nh_N18 ?_
          rintro _ h292 _ ⟨r291, rfl, E293, g294, F295, rfl⟩
          have ne296 : a228 ≠ r291 := Nat.ne_of_lt (Nat.lt_of_lt_of_le F279.lt g294)
          have ne297 : a281 ≠ r291 := Nat.ne_of_lt (Nat.lt_of_lt_of_le A286.lt g294)
          replace F279 := F279.ext E293
          replace A286 := A286.ext E293
          replace F289 := F289.ext E293
          replace F290 := F290.ext E293
          show Go _ _ _ _ _ _ h292 [a281, a228] 3 30 285 #[.val (.int a), .val (.int b), .val (.int c), .val (.int d), .val (.int e), .val (.int (0 : Int32)), .val (.int (1 : Int32)), .val (.int ((a >>> ((2 : Int32) &&& 31)) &&& (3 : Int32))), .val (.ref a228), .val (.int (12 : Int32)), .val (.int p.toInt32), .val (.int (nar .char (c &&& (255 : Int32)))), .val (.int (1 : Int32)), .val (.int (12 : Int32)), .unset, .unset, .unset, .unset] [(.ref r291), (.ref a281), (.ref a281)]
          refine Go.callI (rest := [(.ref a281)]) 1 [(.ref r291)] H at_285 rfl rfl w9 w10 w4 w11 pd_N5 (ct_new1 l W a281 r291 (([(102 : Int32), (99 : Int32), (114 : Int32), (58 : Int32), (109 : Int32), (101 : Int32), (116 : Int32), (97 : Int32), (100 : Int32), (97 : Int32), (116 : Int32), (97 : Int32), (nar .char (e &&& (255 : Int32)))].set p (nar .char (c &&& (255 : Int32)))).take 12) h292 A286 F290 F289  F295 (own_takeL' (own_setL (own_ac (show isL (102 : Int32) from ⟨by decide, by decide⟩) (own_ac (show isL (99 : Int32) from ⟨by decide, by decide⟩) (own_ac (show isL (114 : Int32) from ⟨by decide, by decide⟩) (own_ac (show isL (58 : Int32) from ⟨by decide, by decide⟩) (own_ac (show isL (109 : Int32) from ⟨by decide, by decide⟩) (own_ac (show isL (101 : Int32) from ⟨by decide, by decide⟩) (own_ac (show isL (116 : Int32) from ⟨by decide, by decide⟩) (own_ac (show isL (97 : Int32) from ⟨by decide, by decide⟩) (own_ac (show isL (100 : Int32) from ⟨by decide, by decide⟩) (own_ac (show isL (97 : Int32) from ⟨by decide, by decide⟩) (own_ac (show isL (116 : Int32) from ⟨by decide, by decide⟩) (own_ac (show isL (97 : Int32) from ⟨by decide, by decide⟩) (own_ac (own_and255 _) own_an))))))))))))) (own_and255 _))) (by rw [List.length_take, List.length_set]; exact Nat.le_trans (Nat.min_le_right _ _) (Nat.le_of_ble_eq_true rfl))  z284) (by simp) rfl rfl rfl (Nat.le_of_eq rfl) (by decide) (by decide) (by decide) (by decide) nh_N4 ?_
          rintro _ h298 _ ⟨rfl, K299, ⟨b300, S302⟩, rfl⟩
          replace F279 := F279.keep K299 (ninS ne288 nin0)
          replace F295 := F295.keep K299 (ninS (Ne.symm ne297) nin0)
          show Go _ _ _ _ _ _ h298 [a281, a228] 7 43 288 #[.val (.int a), .val (.int b), .val (.int c), .val (.int d), .val (.int e), .val (.int (0 : Int32)), .val (.int (1 : Int32)), .val (.int ((a >>> ((2 : Int32) &&& 31)) &&& (3 : Int32))), .val (.ref a228), .val (.int (12 : Int32)), .val (.int p.toInt32), .val (.int (nar .char (c &&& (255 : Int32)))), .val (.int (1 : Int32)), .val (.int (12 : Int32)), .unset, .unset, .unset, .unset] [(.ref a281)]
          refine Go.astore (ls' := #[.val (.int a), .val (.int b), .val (.int c), .val (.int d), .val (.int e), .val (.int (0 : Int32)), .val (.int (1 : Int32)), .val (.int ((a >>> ((2 : Int32) &&& 31)) &&& (3 : Int32))), .val (.ref a228), .val (.int (12 : Int32)), .val (.int p.toInt32), .val (.int (nar .char (c &&& (255 : Int32)))), .val (.int (1 : Int32)), .val (.int (12 : Int32)), .val (.ref a281), .unset, .unset, .unset]) H at_288 rfl rfl rfl ?_
          refine Go.aload H at_290 rfl rfl rfl ?_
          refine Go.callS (rest := []) 0 [(.ref a281)] H at_292 rfl w35 w36 w37 w38 pd_N17 (ct_bys l W a281 b300 (([(102 : Int32), (99 : Int32), (114 : Int32), (58 : Int32), (109 : Int32), (101 : Int32), (116 : Int32), (97 : Int32), (100 : Int32), (97 : Int32), (116 : Int32), (97 : Int32), (nar .char (e &&& (255 : Int32)))].set p (nar .char (c &&& (255 : Int32)))).take 12) h298 S302) all0 rfl rfl rfl (Nat.le_of_eq rfl) (by decide) (by decide) (by decide) (by decide) nh_N10 ?_
          rintro _ h304 _ ⟨o303, rfl, E305, A306, F307, rfl⟩
          replace F279 := F279.ext E305
          replace F295 := F295.ext E305
          replace S302 := S302.ext E305
          show Go _ _ _ _ _ _ h304 [a281, a228] 9 46 295 #[.val (.int a), .val (.int b), .val (.int c), .val (.int d), .val (.int e), .val (.int (0 : Int32)), .val (.int (1 : Int32)), .val (.int ((a >>> ((2 : Int32) &&& 31)) &&& (3 : Int32))), .val (.ref a228), .val (.int (12 : Int32)), .val (.int p.toInt32), .val (.int (nar .char (c &&& (255 : Int32)))), .val (.int (1 : Int32)), .val (.int (12 : Int32)), .val (.ref a281), .unset, .unset, .unset] [(.ref o303)]
          refine Go.astore (ls' := #[.val (.int a), .val (.int b), .val (.int c), .val (.int d), .val (.int e), .val (.int (0 : Int32)), .val (.int (1 : Int32)), .val (.int ((a >>> ((2 : Int32) &&& 31)) &&& (3 : Int32))), .val (.ref a228), .val (.int (12 : Int32)), .val (.int p.toInt32), .val (.int (nar .char (c &&& (255 : Int32)))), .val (.int (1 : Int32)), .val (.int (12 : Int32)), .val (.ref a281), .val (.ref o303), .unset, .unset]) H at_295 rfl rfl rfl ?_
          refine Go.iload H at_297 rfl rfl ?_
          refine Go.iload H at_299 rfl rfl ?_
          refine Go.icmpN H at_301 (by decide) rfl ?_
          refine Go.iload H at_304 rfl rfl ?_
          refine Go.ifN H at_306 (by decide) rfl ?_
          refine Go.iload H at_309 rfl rfl ?_
          refine Go.iload H at_311 rfl rfl ?_
          by_cases c308 : p < 12
          ·
            refine Go.icmpN H at_313 (tlt (own_lt (n := 12) (by decide) c308)).2.1 rfl ?_
            refine Go.iload H at_316 rfl rfl ?_
            refine Go.ifN H at_318 (by decide) rfl ?_
            refine Go.iconst (1 : Int32) H at_321 rfl rfl ?_
            refine Go.goto (pc' := 326) H at_322 (by decide) (by decide) ?_
            refine Go.istore (ls' := #[.val (.int a), .val (.int b), .val (.int c), .val (.int d), .val (.int e), .val (.int (0 : Int32)), .val (.int (1 : Int32)), .val (.int ((a >>> ((2 : Int32) &&& 31)) &&& (3 : Int32))), .val (.ref a228), .val (.int (12 : Int32)), .val (.int p.toInt32), .val (.int (nar .char (c &&& (255 : Int32)))), .val (.int (1 : Int32)), .val (.int (12 : Int32)), .val (.ref a281), .val (.ref o303), .val (.int (1 : Int32)), .unset]) H at_326 rfl rfl ?_
            refine Go.iload H at_328 rfl rfl ?_
            refine Go.ifY (pc' := 347) H at_330 (by decide) (by decide) (by decide) ?_
            have e309 : selV dD dA (([(102 : Int32), (99 : Int32), (114 : Int32), (58 : Int32), (109 : Int32), (101 : Int32), (116 : Int32), (97 : Int32), (100 : Int32), (97 : Int32), (116 : Int32), (97 : Int32), (nar .char (e &&& (255 : Int32)))].set p (nar .char (c &&& (255 : Int32)))).take 12) = .ref dD := (by rw [own_setsame hp2 c276]; exact selD_hit)
            rw [e309] at F307
            refine Go.iload H at_347 rfl rfl ?_
            refine Go.ifY (pc' := 358) H at_349 (by decide) (by decide) (by decide) ?_
            refine Go.getstatic H at_358 rfl w85 W.2.2.1 ?_
            refine Go.astore (ls' := #[.val (.int a), .val (.int b), .val (.int c), .val (.int d), .val (.int e), .val (.int (0 : Int32)), .val (.int (1 : Int32)), .val (.int ((a >>> ((2 : Int32) &&& 31)) &&& (3 : Int32))), .val (.ref a228), .val (.int (12 : Int32)), .val (.int p.toInt32), .val (.int (nar .char (c &&& (255 : Int32)))), .val (.int (1 : Int32)), .val (.int (12 : Int32)), .val (.ref a281), .val (.ref o303), .val (.int (1 : Int32)), .val (.ref dD)]) H at_361 rfl rfl rfl ?_
            refine Go.aload H at_363 rfl rfl rfl ?_
            refine Go.callV (rest := []) 0 [] H at_365 rfl A306 w86 w87 w89 w88 w70 w90 pd_N15 (ct_isp1 l W o303 dD h304 F307) all0 rfl rfl rfl (Nat.le_of_eq rfl) (by decide) (by decide) (by decide) (by decide) nh_N12 ?_
            rintro _ _ _ ⟨rfl, rfl, rfl⟩
            show Go _ _ _ _ _ _ h304 [a281, a228] 9 46 368 #[.val (.int a), .val (.int b), .val (.int c), .val (.int d), .val (.int e), .val (.int (0 : Int32)), .val (.int (1 : Int32)), .val (.int ((a >>> ((2 : Int32) &&& 31)) &&& (3 : Int32))), .val (.ref a228), .val (.int (12 : Int32)), .val (.int p.toInt32), .val (.int (nar .char (c &&& (255 : Int32)))), .val (.int (1 : Int32)), .val (.int (12 : Int32)), .val (.ref a281), .val (.ref o303), .val (.int (1 : Int32)), .val (.ref dD)] [(.int (1 : Int32))]
            refine Go.ifN H at_368 (by decide) rfl ?_
            refine Go.aload H at_371 rfl rfl rfl ?_
            refine Go.callV (rest := []) 0 [] H at_373 rfl A306 w91 w92 w94 w93 w70 w95 pd_N16 (ct_opg l W o303 dD h304 F307) all0 rfl rfl rfl (Nat.le_of_eq rfl) (by decide) (by decide) (by decide) (by decide) nh_N12 ?_
            rintro _ _ _ ⟨rfl, rfl, rfl⟩
            show Go _ _ _ _ _ _ h304 [a281, a228] 9 46 376 #[.val (.int a), .val (.int b), .val (.int c), .val (.int d), .val (.int e), .val (.int (0 : Int32)), .val (.int (1 : Int32)), .val (.int ((a >>> ((2 : Int32) &&& 31)) &&& (3 : Int32))), .val (.ref a228), .val (.int (12 : Int32)), .val (.int p.toInt32), .val (.int (nar .char (c &&& (255 : Int32)))), .val (.int (1 : Int32)), .val (.int (12 : Int32)), .val (.ref a281), .val (.ref o303), .val (.int (1 : Int32)), .val (.ref dD)] [(.ref dD)]
            refine Go.aload H at_376 rfl rfl rfl ?_
            refine Go.acmpN H at_378 rfl rfl (by simp [XT.acmp]) rfl ?_
            refine Go.iconst (1 : Int32) H at_381 rfl rfl ?_
            refine Go.goto (pc' := 386) H at_382 (by decide) (by decide) ?_
            exact Go.ireturn 1 [] H at_386 (by simp) (by decide) ⟨rfl, trivial⟩ all0 (by decide) (by decide)
          ·
            refine Go.icmpY (pc' := 321) H at_313 (flt (own_nlt (n := 12) (by omega) (by omega))).2.1 (by decide) (by decide) ?_
            refine Go.iconst (1 : Int32) H at_321 rfl rfl ?_
            refine Go.goto (pc' := 326) H at_322 (by decide) (by decide) ?_
            refine Go.istore (ls' := #[.val (.int a), .val (.int b), .val (.int c), .val (.int d), .val (.int e), .val (.int (0 : Int32)), .val (.int (1 : Int32)), .val (.int ((a >>> ((2 : Int32) &&& 31)) &&& (3 : Int32))), .val (.ref a228), .val (.int (12 : Int32)), .val (.int p.toInt32), .val (.int (nar .char (c &&& (255 : Int32)))), .val (.int (1 : Int32)), .val (.int (12 : Int32)), .val (.ref a281), .val (.ref o303), .val (.int (1 : Int32)), .unset]) H at_326 rfl rfl ?_
            refine Go.iload H at_328 rfl rfl ?_
            refine Go.ifY (pc' := 347) H at_330 (by decide) (by decide) (by decide) ?_
            have e310 : selV dD dA (([(102 : Int32), (99 : Int32), (114 : Int32), (58 : Int32), (109 : Int32), (101 : Int32), (116 : Int32), (97 : Int32), (100 : Int32), (97 : Int32), (116 : Int32), (97 : Int32), (nar .char (e &&& (255 : Int32)))].set p (nar .char (c &&& (255 : Int32)))).take 12) = .ref dD := selD_hit12 c308 hp2
            rw [e310] at F307
            refine Go.iload H at_347 rfl rfl ?_
            refine Go.ifY (pc' := 358) H at_349 (by decide) (by decide) (by decide) ?_
            refine Go.getstatic H at_358 rfl w85 W.2.2.1 ?_
            refine Go.astore (ls' := #[.val (.int a), .val (.int b), .val (.int c), .val (.int d), .val (.int e), .val (.int (0 : Int32)), .val (.int (1 : Int32)), .val (.int ((a >>> ((2 : Int32) &&& 31)) &&& (3 : Int32))), .val (.ref a228), .val (.int (12 : Int32)), .val (.int p.toInt32), .val (.int (nar .char (c &&& (255 : Int32)))), .val (.int (1 : Int32)), .val (.int (12 : Int32)), .val (.ref a281), .val (.ref o303), .val (.int (1 : Int32)), .val (.ref dD)]) H at_361 rfl rfl rfl ?_
            refine Go.aload H at_363 rfl rfl rfl ?_
            refine Go.callV (rest := []) 0 [] H at_365 rfl A306 w86 w87 w89 w88 w70 w90 pd_N15 (ct_isp1 l W o303 dD h304 F307) all0 rfl rfl rfl (Nat.le_of_eq rfl) (by decide) (by decide) (by decide) (by decide) nh_N12 ?_
            rintro _ _ _ ⟨rfl, rfl, rfl⟩
            show Go _ _ _ _ _ _ h304 [a281, a228] 9 46 368 #[.val (.int a), .val (.int b), .val (.int c), .val (.int d), .val (.int e), .val (.int (0 : Int32)), .val (.int (1 : Int32)), .val (.int ((a >>> ((2 : Int32) &&& 31)) &&& (3 : Int32))), .val (.ref a228), .val (.int (12 : Int32)), .val (.int p.toInt32), .val (.int (nar .char (c &&& (255 : Int32)))), .val (.int (1 : Int32)), .val (.int (12 : Int32)), .val (.ref a281), .val (.ref o303), .val (.int (1 : Int32)), .val (.ref dD)] [(.int (1 : Int32))]
            refine Go.ifN H at_368 (by decide) rfl ?_
            refine Go.aload H at_371 rfl rfl rfl ?_
            refine Go.callV (rest := []) 0 [] H at_373 rfl A306 w91 w92 w94 w93 w70 w95 pd_N16 (ct_opg l W o303 dD h304 F307) all0 rfl rfl rfl (Nat.le_of_eq rfl) (by decide) (by decide) (by decide) (by decide) nh_N12 ?_
            rintro _ _ _ ⟨rfl, rfl, rfl⟩
            show Go _ _ _ _ _ _ h304 [a281, a228] 9 46 376 #[.val (.int a), .val (.int b), .val (.int c), .val (.int d), .val (.int e), .val (.int (0 : Int32)), .val (.int (1 : Int32)), .val (.int ((a >>> ((2 : Int32) &&& 31)) &&& (3 : Int32))), .val (.ref a228), .val (.int (12 : Int32)), .val (.int p.toInt32), .val (.int (nar .char (c &&& (255 : Int32)))), .val (.int (1 : Int32)), .val (.int (12 : Int32)), .val (.ref a281), .val (.ref o303), .val (.int (1 : Int32)), .val (.ref dD)] [(.ref dD)]
            refine Go.aload H at_376 rfl rfl rfl ?_
            refine Go.acmpN H at_378 rfl rfl (by simp [XT.acmp]) rfl ?_
            refine Go.iconst (1 : Int32) H at_381 rfl rfl ?_
            refine Go.goto (pc' := 386) H at_382 (by decide) (by decide) ?_
            exact Go.ireturn 1 [] H at_386 (by simp) (by decide) ⟨rfl, trivial⟩ all0 (by decide) (by decide)
        ·
          refine Go.ifY (pc' := 248) H at_238 (feq c280).2 (by decide) (by decide) ?_
          refine Go.iload H at_248 rfl rfl ?_
          refine Go.iconst (1 : Int32) H at_250 rfl rfl ?_
          by_cases c311 : ((a >>> ((2 : Int32) &&& 31)) &&& (3 : Int32)) = (1 : Int32)
          ·
            refine Go.icmpN H at_251 (teq c311).2 rfl ?_
            refine Go.iload H at_254 rfl rfl ?_
            refine Go.iconst (1 : Int32) H at_256 rfl rfl ?_
            refine Go.iadd H at_257 rfl ?_
            show Go _ _ _ _ _ _ h277 [a228] 1 13 258 #[.val (.int a), .val (.int b), .val (.int c), .val (.int d), .val (.int e), .val (.int (0 : Int32)), .val (.int (1 : Int32)), .val (.int ((a >>> ((2 : Int32) &&& 31)) &&& (3 : Int32))), .val (.ref a228), .val (.int (12 : Int32)), .val (.int p.toInt32), .val (.int (nar .char (c &&& (255 : Int32)))), .val (.int (1 : Int32)), .unset, .unset, .unset, .unset, .unset] [(.int (13 : Int32))]
            refine Go.istore (ls' := #[.val (.int a), .val (.int b), .val (.int c), .val (.int d), .val (.int e), .val (.int (0 : Int32)), .val (.int (1 : Int32)), .val (.int ((a >>> ((2 : Int32) &&& 31)) &&& (3 : Int32))), .val (.ref a228), .val (.int (12 : Int32)), .val (.int p.toInt32), .val (.int (nar .char (c &&& (255 : Int32)))), .val (.int (1 : Int32)), .val (.int (13 : Int32)), .unset, .unset, .unset, .unset]) H at_258 rfl rfl ?_
            refine Go.goto (pc' := 274) H at_260 (by decide) (by decide) ?_
            refine Go.new H at_274 rfl w2 w3 w4 (by decide) (by decide) ?_
            intro a312 h313 g314 z315 E316 A317 D318
            have ne319 : a228 ≠ a312 := Nat.ne_of_lt (Nat.lt_of_lt_of_le F279.lt (Nat.le_of_eq g314.symm))
            replace F279 := F279.ext E316
            have F320 : Fld Z h313 a312 "java/lang/String" "coder" "B" (.int (0 : Int32)) := D318 (Or.inr w32) (ty := .byte) (by decide)
            have F321 : Fld Z h313 a312 "java/lang/String" "value" "[B" .null := D318 (Or.inr w34) (ty := (.array .byte)) (by decide)
            show Go _ _ _ _ _ _ h313 [a312, a228] 2 17 277 #[.val (.int a), .val (.int b), .val (.int c), .val (.int d), .val (.int e), .val (.int (0 : Int32)), .val (.int (1 : Int32)), .val (.int ((a >>> ((2 : Int32) &&& 31)) &&& (3 : Int32))), .val (.ref a228), .val (.int (12 : Int32)), .val (.int p.toInt32), .val (.int (nar .char (c &&& (255 : Int32)))), .val (.int (1 : Int32)), .val (.int (13 : Int32)), .unset, .unset, .unset, .unset] [(.ref a312)]
            refine Go.dup H at_277 rfl rfl ?_
            refine Go.aload H at_278 rfl rfl rfl ?_
            refine Go.iload H at_280 rfl rfl ?_
            refine Go.callS (rest := [(.ref a312), (.ref a312)]) 2 [(.ref a228), (.int (13 : Int32))] H at_282 rfl w5 w6 w7 w8 pd_N18 (ct_pre l W a228 ([(102 : Int32), (99 : Int32), (114 : Int32), (58 : Int32), (109 : Int32), (101 : Int32), (116 : Int32), (97 : Int32), (100 : Int32), (97 : Int32), (116 : Int32), (97 : Int32), (nar .char (e &&& (255 : Int32)))].set p (nar .char (c &&& (255 : Int32)))) 13 h313 F279 (by rw [List.length_set]; show _ ≤ 13; omega) (by rw [List.length_set]; exact Nat.le_of_ble_eq_true rfl) (own_setL (own_ac (show isL (102 : Int32) from ⟨by decide, by decide⟩) (own_ac (show isL (99 : Int32) from ⟨by decide, by decide⟩) (own_ac (show isL (114 : Int32) from ⟨by decide, by decide⟩) (own_ac (show isL (58 : Int32) from ⟨by decide, by decide⟩) (own_ac (show isL (109 : Int32) from ⟨by decide, by decide⟩) (own_ac (show isL (101 : Int32) from ⟨by decide, by decide⟩) (own_ac (show isL (116 : Int32) from ⟨by decide, by decide⟩) (own_ac (show isL (97 : Int32) from ⟨by decide, by decide⟩) (own_ac (show isL (100 : Int32) from ⟨by decide, by decide⟩) (own_ac (show isL (97 : Int32) from ⟨by decide, by decide⟩) (own_ac (show isL (116 : Int32) from ⟨by decide, by decide⟩) (own_ac (show isL (97 : Int32) from ⟨by decide, by decide⟩) (own_ac (own_and255 _) own_an))))))))))))) (own_and255 _))) all0 rfl rfl rfl (Nat.le_of_eq rfl) (by decide) (by decide) (by decide) (by decide) nh_N18 ?_
            rintro _ h323 _ ⟨r322, rfl, E324, g325, F326, rfl⟩
            have ne327 : a228 ≠ r322 := Nat.ne_of_lt (Nat.lt_of_lt_of_le F279.lt g325)
            have ne328 : a312 ≠ r322 := Nat.ne_of_lt (Nat.lt_of_lt_of_le A317.lt g325)
            replace F279 := F279.ext E324
            replace A317 := A317.ext E324
            replace F320 := F320.ext E324
            replace F321 := F321.ext E324
            show Go _ _ _ _ _ _ h323 [a312, a228] 3 30 285 #[.val (.int a), .val (.int b), .val (.int c), .val (.int d), .val (.int e), .val (.int (0 : Int32)), .val (.int (1 : Int32)), .val (.int ((a >>> ((2 : Int32) &&& 31)) &&& (3 : Int32))), .val (.ref a228), .val (.int (12 : Int32)), .val (.int p.toInt32), .val (.int (nar .char (c &&& (255 : Int32)))), .val (.int (1 : Int32)), .val (.int (13 : Int32)), .unset, .unset, .unset, .unset] [(.ref r322), (.ref a312), (.ref a312)]
            refine Go.callI (rest := [(.ref a312)]) 1 [(.ref r322)] H at_285 rfl rfl w9 w10 w4 w11 pd_N5 (ct_new1 l W a312 r322 (([(102 : Int32), (99 : Int32), (114 : Int32), (58 : Int32), (109 : Int32), (101 : Int32), (116 : Int32), (97 : Int32), (100 : Int32), (97 : Int32), (116 : Int32), (97 : Int32), (nar .char (e &&& (255 : Int32)))].set p (nar .char (c &&& (255 : Int32)))).take 13) h323 A317 F321 F320  F326 (own_takeL' (own_setL (own_ac (show isL (102 : Int32) from ⟨by decide, by decide⟩) (own_ac (show isL (99 : Int32) from ⟨by decide, by decide⟩) (own_ac (show isL (114 : Int32) from ⟨by decide, by decide⟩) (own_ac (show isL (58 : Int32) from ⟨by decide, by decide⟩) (own_ac (show isL (109 : Int32) from ⟨by decide, by decide⟩) (own_ac (show isL (101 : Int32) from ⟨by decide, by decide⟩) (own_ac (show isL (116 : Int32) from ⟨by decide, by decide⟩) (own_ac (show isL (97 : Int32) from ⟨by decide, by decide⟩) (own_ac (show isL (100 : Int32) from ⟨by decide, by decide⟩) (own_ac (show isL (97 : Int32) from ⟨by decide, by decide⟩) (own_ac (show isL (116 : Int32) from ⟨by decide, by decide⟩) (own_ac (show isL (97 : Int32) from ⟨by decide, by decide⟩) (own_ac (own_and255 _) own_an))))))))))))) (own_and255 _))) (by rw [List.length_take, List.length_set]; exact Nat.le_trans (Nat.min_le_right _ _) (Nat.le_of_ble_eq_true rfl))  z315) (by simp) rfl rfl rfl (Nat.le_of_eq rfl) (by decide) (by decide) (by decide) (by decide) nh_N4 ?_
            rintro _ h329 _ ⟨rfl, K330, ⟨b331, S333⟩, rfl⟩
            replace F279 := F279.keep K330 (ninS ne319 nin0)
            replace F326 := F326.keep K330 (ninS (Ne.symm ne328) nin0)
            show Go _ _ _ _ _ _ h329 [a312, a228] 7 43 288 #[.val (.int a), .val (.int b), .val (.int c), .val (.int d), .val (.int e), .val (.int (0 : Int32)), .val (.int (1 : Int32)), .val (.int ((a >>> ((2 : Int32) &&& 31)) &&& (3 : Int32))), .val (.ref a228), .val (.int (12 : Int32)), .val (.int p.toInt32), .val (.int (nar .char (c &&& (255 : Int32)))), .val (.int (1 : Int32)), .val (.int (13 : Int32)), .unset, .unset, .unset, .unset] [(.ref a312)]
            refine Go.astore (ls' := #[.val (.int a), .val (.int b), .val (.int c), .val (.int d), .val (.int e), .val (.int (0 : Int32)), .val (.int (1 : Int32)), .val (.int ((a >>> ((2 : Int32) &&& 31)) &&& (3 : Int32))), .val (.ref a228), .val (.int (12 : Int32)), .val (.int p.toInt32), .val (.int (nar .char (c &&& (255 : Int32)))), .val (.int (1 : Int32)), .val (.int (13 : Int32)), .val (.ref a312), .unset, .unset, .unset]) H at_288 rfl rfl rfl ?_
            refine Go.aload H at_290 rfl rfl rfl ?_
            refine Go.callS (rest := []) 0 [(.ref a312)] H at_292 rfl w35 w36 w37 w38 pd_N17 (ct_bys l W a312 b331 (([(102 : Int32), (99 : Int32), (114 : Int32), (58 : Int32), (109 : Int32), (101 : Int32), (116 : Int32), (97 : Int32), (100 : Int32), (97 : Int32), (116 : Int32), (97 : Int32), (nar .char (e &&& (255 : Int32)))].set p (nar .char (c &&& (255 : Int32)))).take 13) h329 S333) all0 rfl rfl rfl (Nat.le_of_eq rfl) (by decide) (by decide) (by decide) (by decide) nh_N10 ?_
            rintro _ h335 _ ⟨o334, rfl, E336, A337, F338, rfl⟩
            replace F279 := F279.ext E336
            replace F326 := F326.ext E336
            replace S333 := S333.ext E336
            show Go _ _ _ _ _ _ h335 [a312, a228] 9 46 295 #[.val (.int a), .val (.int b), .val (.int c), .val (.int d), .val (.int e), .val (.int (0 : Int32)), .val (.int (1 : Int32)), .val (.int ((a >>> ((2 : Int32) &&& 31)) &&& (3 : Int32))), .val (.ref a228), .val (.int (12 : Int32)), .val (.int p.toInt32), .val (.int (nar .char (c &&& (255 : Int32)))), .val (.int (1 : Int32)), .val (.int (13 : Int32)), .val (.ref a312), .unset, .unset, .unset] [(.ref o334)]
            refine Go.astore (ls' := #[.val (.int a), .val (.int b), .val (.int c), .val (.int d), .val (.int e), .val (.int (0 : Int32)), .val (.int (1 : Int32)), .val (.int ((a >>> ((2 : Int32) &&& 31)) &&& (3 : Int32))), .val (.ref a228), .val (.int (12 : Int32)), .val (.int p.toInt32), .val (.int (nar .char (c &&& (255 : Int32)))), .val (.int (1 : Int32)), .val (.int (13 : Int32)), .val (.ref a312), .val (.ref o334), .unset, .unset]) H at_295 rfl rfl rfl ?_
            refine Go.iload H at_297 rfl rfl ?_
            refine Go.iload H at_299 rfl rfl ?_
            refine Go.icmpY (pc' := 325) H at_301 (by decide) (by decide) (by decide) ?_
            refine Go.iconst (0 : Int32) H at_325 rfl rfl ?_
            refine Go.istore (ls' := #[.val (.int a), .val (.int b), .val (.int c), .val (.int d), .val (.int e), .val (.int (0 : Int32)), .val (.int (1 : Int32)), .val (.int ((a >>> ((2 : Int32) &&& 31)) &&& (3 : Int32))), .val (.ref a228), .val (.int (12 : Int32)), .val (.int p.toInt32), .val (.int (nar .char (c &&& (255 : Int32)))), .val (.int (1 : Int32)), .val (.int (13 : Int32)), .val (.ref a312), .val (.ref o334), .val (.int (0 : Int32)), .unset]) H at_326 rfl rfl ?_
            refine Go.iload H at_328 rfl rfl ?_
            refine Go.ifN H at_330 (by decide) rfl ?_
            have e339 : selV dD dA (([(102 : Int32), (99 : Int32), (114 : Int32), (58 : Int32), (109 : Int32), (101 : Int32), (116 : Int32), (97 : Int32), (100 : Int32), (97 : Int32), (116 : Int32), (97 : Int32), (nar .char (e &&& (255 : Int32)))].set p (nar .char (c &&& (255 : Int32)))).take 13) = .null := selD_len hp2 (by omega) (by decide)
            rw [e339] at F338
            refine Go.aload H at_333 rfl rfl rfl ?_
            refine Go.callV (rest := []) 0 [] H at_335 rfl A337 w86 w87 w89 w88 w70 w90 pd_N15 (ct_isp0 l W o334 h335 F338) all0 rfl rfl rfl (Nat.le_of_eq rfl) (by decide) (by decide) (by decide) (by decide) nh_N12 ?_
            rintro _ _ _ ⟨rfl, rfl, rfl⟩
            show Go _ _ _ _ _ _ h335 [a312, a228] 9 46 338 #[.val (.int a), .val (.int b), .val (.int c), .val (.int d), .val (.int e), .val (.int (0 : Int32)), .val (.int (1 : Int32)), .val (.int ((a >>> ((2 : Int32) &&& 31)) &&& (3 : Int32))), .val (.ref a228), .val (.int (12 : Int32)), .val (.int p.toInt32), .val (.int (nar .char (c &&& (255 : Int32)))), .val (.int (1 : Int32)), .val (.int (13 : Int32)), .val (.ref a312), .val (.ref o334), .val (.int (0 : Int32)), .unset] [(.int (0 : Int32))]
            refine Go.ifN H at_338 (by decide) rfl ?_
            refine Go.iconst (1 : Int32) H at_341 rfl rfl ?_
            refine Go.goto (pc' := 346) H at_342 (by decide) (by decide) ?_
            exact Go.ireturn 1 [] H at_346 (by simp) (by decide) ⟨rfl, trivial⟩ all0 (by decide) (by decide)
          ·
            refine Go.icmpY (pc' := 263) H at_251 (feq c311).2 (by decide) (by decide) ?_
            refine Go.iloadN H at_263 rfl rfl ?_
            refine Go.ldcInt H at_264 rfl w1 ?_
            refine Go.iand H at_266 rfl ?_
            refine Go.iload H at_267 rfl rfl ?_
            refine Go.iconst (2 : Int32) H at_269 rfl rfl ?_
            refine Go.iadd H at_270 rfl ?_
            show Go _ _ _ _ _ _ h277 [a228] 1 13 271 #[.val (.int a), .val (.int b), .val (.int c), .val (.int d), .val (.int e), .val (.int (0 : Int32)), .val (.int (1 : Int32)), .val (.int ((a >>> ((2 : Int32) &&& 31)) &&& (3 : Int32))), .val (.ref a228), .val (.int (12 : Int32)), .val (.int p.toInt32), .val (.int (nar .char (c &&& (255 : Int32)))), .val (.int (1 : Int32)), .unset, .unset, .unset, .unset, .unset] [(.int (14 : Int32)), (.int (d &&& (2147483647 : Int32)))]
            refine Go.irem H at_271 rfl (by decide) ?_
            obtain ⟨q, hq, hq2⟩ := own_mod14 d
            rw [hq]
            refine Go.istore (ls' := #[.val (.int a), .val (.int b), .val (.int c), .val (.int d), .val (.int e), .val (.int (0 : Int32)), .val (.int (1 : Int32)), .val (.int ((a >>> ((2 : Int32) &&& 31)) &&& (3 : Int32))), .val (.ref a228), .val (.int (12 : Int32)), .val (.int p.toInt32), .val (.int (nar .char (c &&& (255 : Int32)))), .val (.int (1 : Int32)), .val (.int q.toInt32), .unset, .unset, .unset, .unset]) H at_272 rfl rfl ?_
            refine Go.new H at_274 rfl w2 w3 w4 (by decide) (by decide) ?_
            intro a340 h341 g342 z343 E344 A345 D346
            have ne347 : a228 ≠ a340 := Nat.ne_of_lt (Nat.lt_of_lt_of_le F279.lt (Nat.le_of_eq g342.symm))
            replace F279 := F279.ext E344
            have F348 : Fld Z h341 a340 "java/lang/String" "coder" "B" (.int (0 : Int32)) := D346 (Or.inr w32) (ty := .byte) (by decide)
            have F349 : Fld Z h341 a340 "java/lang/String" "value" "[B" .null := D346 (Or.inr w34) (ty := (.array .byte)) (by decide)
            show Go _ _ _ _ _ _ h341 [a340, a228] 2 17 277 #[.val (.int a), .val (.int b), .val (.int c), .val (.int d), .val (.int e), .val (.int (0 : Int32)), .val (.int (1 : Int32)), .val (.int ((a >>> ((2 : Int32) &&& 31)) &&& (3 : Int32))), .val (.ref a228), .val (.int (12 : Int32)), .val (.int p.toInt32), .val (.int (nar .char (c &&& (255 : Int32)))), .val (.int (1 : Int32)), .val (.int q.toInt32), .unset, .unset, .unset, .unset] [(.ref a340)]
            refine Go.dup H at_277 rfl rfl ?_
            refine Go.aload H at_278 rfl rfl rfl ?_
            refine Go.iload H at_280 rfl rfl ?_
            refine Go.callS (rest := [(.ref a340), (.ref a340)]) 2 [(.ref a228), (.int q.toInt32)] H at_282 rfl w5 w6 w7 w8 pd_N18 (ct_pre l W a228 ([(102 : Int32), (99 : Int32), (114 : Int32), (58 : Int32), (109 : Int32), (101 : Int32), (116 : Int32), (97 : Int32), (100 : Int32), (97 : Int32), (116 : Int32), (97 : Int32), (nar .char (e &&& (255 : Int32)))].set p (nar .char (c &&& (255 : Int32)))) q h341 F279 (by rw [List.length_set]; show _ ≤ 13; omega) (by rw [List.length_set]; exact Nat.le_of_ble_eq_true rfl) (own_setL (own_ac (show isL (102 : Int32) from ⟨by decide, by decide⟩) (own_ac (show isL (99 : Int32) from ⟨by decide, by decide⟩) (own_ac (show isL (114 : Int32) from ⟨by decide, by decide⟩) (own_ac (show isL (58 : Int32) from ⟨by decide, by decide⟩) (own_ac (show isL (109 : Int32) from ⟨by decide, by decide⟩) (own_ac (show isL (101 : Int32) from ⟨by decide, by decide⟩) (own_ac (show isL (116 : Int32) from ⟨by decide, by decide⟩) (own_ac (show isL (97 : Int32) from ⟨by decide, by decide⟩) (own_ac (show isL (100 : Int32) from ⟨by decide, by decide⟩) (own_ac (show isL (97 : Int32) from ⟨by decide, by decide⟩) (own_ac (show isL (116 : Int32) from ⟨by decide, by decide⟩) (own_ac (show isL (97 : Int32) from ⟨by decide, by decide⟩) (own_ac (own_and255 _) own_an))))))))))))) (own_and255 _))) all0 rfl rfl rfl (Nat.le_of_eq rfl) (by decide) (by decide) (by decide) (by decide) nh_N18 ?_
            rintro _ h351 _ ⟨r350, rfl, E352, g353, F354, rfl⟩
            have ne355 : a228 ≠ r350 := Nat.ne_of_lt (Nat.lt_of_lt_of_le F279.lt g353)
            have ne356 : a340 ≠ r350 := Nat.ne_of_lt (Nat.lt_of_lt_of_le A345.lt g353)
            replace F279 := F279.ext E352
            replace A345 := A345.ext E352
            replace F348 := F348.ext E352
            replace F349 := F349.ext E352
            show Go _ _ _ _ _ _ h351 [a340, a228] 3 30 285 #[.val (.int a), .val (.int b), .val (.int c), .val (.int d), .val (.int e), .val (.int (0 : Int32)), .val (.int (1 : Int32)), .val (.int ((a >>> ((2 : Int32) &&& 31)) &&& (3 : Int32))), .val (.ref a228), .val (.int (12 : Int32)), .val (.int p.toInt32), .val (.int (nar .char (c &&& (255 : Int32)))), .val (.int (1 : Int32)), .val (.int q.toInt32), .unset, .unset, .unset, .unset] [(.ref r350), (.ref a340), (.ref a340)]
            refine Go.callI (rest := [(.ref a340)]) 1 [(.ref r350)] H at_285 rfl rfl w9 w10 w4 w11 pd_N5 (ct_new1 l W a340 r350 (([(102 : Int32), (99 : Int32), (114 : Int32), (58 : Int32), (109 : Int32), (101 : Int32), (116 : Int32), (97 : Int32), (100 : Int32), (97 : Int32), (116 : Int32), (97 : Int32), (nar .char (e &&& (255 : Int32)))].set p (nar .char (c &&& (255 : Int32)))).take q) h351 A345 F349 F348  F354 (own_takeL' (own_setL (own_ac (show isL (102 : Int32) from ⟨by decide, by decide⟩) (own_ac (show isL (99 : Int32) from ⟨by decide, by decide⟩) (own_ac (show isL (114 : Int32) from ⟨by decide, by decide⟩) (own_ac (show isL (58 : Int32) from ⟨by decide, by decide⟩) (own_ac (show isL (109 : Int32) from ⟨by decide, by decide⟩) (own_ac (show isL (101 : Int32) from ⟨by decide, by decide⟩) (own_ac (show isL (116 : Int32) from ⟨by decide, by decide⟩) (own_ac (show isL (97 : Int32) from ⟨by decide, by decide⟩) (own_ac (show isL (100 : Int32) from ⟨by decide, by decide⟩) (own_ac (show isL (97 : Int32) from ⟨by decide, by decide⟩) (own_ac (show isL (116 : Int32) from ⟨by decide, by decide⟩) (own_ac (show isL (97 : Int32) from ⟨by decide, by decide⟩) (own_ac (own_and255 _) own_an))))))))))))) (own_and255 _))) (by rw [List.length_take, List.length_set]; exact Nat.le_trans (Nat.min_le_right _ _) (Nat.le_of_ble_eq_true rfl))  z343) (by simp) rfl rfl rfl (Nat.le_of_eq rfl) (by decide) (by decide) (by decide) (by decide) nh_N4 ?_
            rintro _ h357 _ ⟨rfl, K358, ⟨b359, S361⟩, rfl⟩
            replace F279 := F279.keep K358 (ninS ne347 nin0)
            replace F354 := F354.keep K358 (ninS (Ne.symm ne356) nin0)
            show Go _ _ _ _ _ _ h357 [a340, a228] 7 43 288 #[.val (.int a), .val (.int b), .val (.int c), .val (.int d), .val (.int e), .val (.int (0 : Int32)), .val (.int (1 : Int32)), .val (.int ((a >>> ((2 : Int32) &&& 31)) &&& (3 : Int32))), .val (.ref a228), .val (.int (12 : Int32)), .val (.int p.toInt32), .val (.int (nar .char (c &&& (255 : Int32)))), .val (.int (1 : Int32)), .val (.int q.toInt32), .unset, .unset, .unset, .unset] [(.ref a340)]
            refine Go.astore (ls' := #[.val (.int a), .val (.int b), .val (.int c), .val (.int d), .val (.int e), .val (.int (0 : Int32)), .val (.int (1 : Int32)), .val (.int ((a >>> ((2 : Int32) &&& 31)) &&& (3 : Int32))), .val (.ref a228), .val (.int (12 : Int32)), .val (.int p.toInt32), .val (.int (nar .char (c &&& (255 : Int32)))), .val (.int (1 : Int32)), .val (.int q.toInt32), .val (.ref a340), .unset, .unset, .unset]) H at_288 rfl rfl rfl ?_
            refine Go.aload H at_290 rfl rfl rfl ?_
            refine Go.callS (rest := []) 0 [(.ref a340)] H at_292 rfl w35 w36 w37 w38 pd_N17 (ct_bys l W a340 b359 (([(102 : Int32), (99 : Int32), (114 : Int32), (58 : Int32), (109 : Int32), (101 : Int32), (116 : Int32), (97 : Int32), (100 : Int32), (97 : Int32), (116 : Int32), (97 : Int32), (nar .char (e &&& (255 : Int32)))].set p (nar .char (c &&& (255 : Int32)))).take q) h357 S361) all0 rfl rfl rfl (Nat.le_of_eq rfl) (by decide) (by decide) (by decide) (by decide) nh_N10 ?_
            rintro _ h363 _ ⟨o362, rfl, E364, A365, F366, rfl⟩
            replace F279 := F279.ext E364
            replace F354 := F354.ext E364
            replace S361 := S361.ext E364
            show Go _ _ _ _ _ _ h363 [a340, a228] 9 46 295 #[.val (.int a), .val (.int b), .val (.int c), .val (.int d), .val (.int e), .val (.int (0 : Int32)), .val (.int (1 : Int32)), .val (.int ((a >>> ((2 : Int32) &&& 31)) &&& (3 : Int32))), .val (.ref a228), .val (.int (12 : Int32)), .val (.int p.toInt32), .val (.int (nar .char (c &&& (255 : Int32)))), .val (.int (1 : Int32)), .val (.int q.toInt32), .val (.ref a340), .unset, .unset, .unset] [(.ref o362)]
            refine Go.astore (ls' := #[.val (.int a), .val (.int b), .val (.int c), .val (.int d), .val (.int e), .val (.int (0 : Int32)), .val (.int (1 : Int32)), .val (.int ((a >>> ((2 : Int32) &&& 31)) &&& (3 : Int32))), .val (.ref a228), .val (.int (12 : Int32)), .val (.int p.toInt32), .val (.int (nar .char (c &&& (255 : Int32)))), .val (.int (1 : Int32)), .val (.int q.toInt32), .val (.ref a340), .val (.ref o362), .unset, .unset]) H at_295 rfl rfl rfl ?_
            refine Go.iload H at_297 rfl rfl ?_
            refine Go.iload H at_299 rfl rfl ?_
            by_cases c367 : q = 12
            ·
              refine Go.icmpN H at_301 (teq (by rw [c367]; rfl)).2 rfl ?_
              refine Go.iload H at_304 rfl rfl ?_
              refine Go.ifN H at_306 (by decide) rfl ?_
              refine Go.iload H at_309 rfl rfl ?_
              refine Go.iload H at_311 rfl rfl ?_
              by_cases c368 : p < 12
              ·
                refine Go.icmpN H at_313 (tlt (own_lt (n := 12) (by decide) c368)).2.1 rfl ?_
                refine Go.iload H at_316 rfl rfl ?_
                refine Go.ifN H at_318 (by decide) rfl ?_
                refine Go.iconst (1 : Int32) H at_321 rfl rfl ?_
                refine Go.goto (pc' := 326) H at_322 (by decide) (by decide) ?_
                refine Go.istore (ls' := #[.val (.int a), .val (.int b), .val (.int c), .val (.int d), .val (.int e), .val (.int (0 : Int32)), .val (.int (1 : Int32)), .val (.int ((a >>> ((2 : Int32) &&& 31)) &&& (3 : Int32))), .val (.ref a228), .val (.int (12 : Int32)), .val (.int p.toInt32), .val (.int (nar .char (c &&& (255 : Int32)))), .val (.int (1 : Int32)), .val (.int q.toInt32), .val (.ref a340), .val (.ref o362), .val (.int (1 : Int32)), .unset]) H at_326 rfl rfl ?_
                refine Go.iload H at_328 rfl rfl ?_
                refine Go.ifY (pc' := 347) H at_330 (by decide) (by decide) (by decide) ?_
                have e369 : selV dD dA (([(102 : Int32), (99 : Int32), (114 : Int32), (58 : Int32), (109 : Int32), (101 : Int32), (116 : Int32), (97 : Int32), (100 : Int32), (97 : Int32), (116 : Int32), (97 : Int32), (nar .char (e &&& (255 : Int32)))].set p (nar .char (c &&& (255 : Int32)))).take q) = .ref dD := (by rw [c367]; exact (by rw [own_setsame hp2 c276]; exact selD_hit))
                rw [e369] at F366
                refine Go.iload H at_347 rfl rfl ?_
                refine Go.ifY (pc' := 358) H at_349 (by decide) (by decide) (by decide) ?_
                refine Go.getstatic H at_358 rfl w85 W.2.2.1 ?_
                refine Go.astore (ls' := #[.val (.int a), .val (.int b), .val (.int c), .val (.int d), .val (.int e), .val (.int (0 : Int32)), .val (.int (1 : Int32)), .val (.int ((a >>> ((2 : Int32) &&& 31)) &&& (3 : Int32))), .val (.ref a228), .val (.int (12 : Int32)), .val (.int p.toInt32), .val (.int (nar .char (c &&& (255 : Int32)))), .val (.int (1 : Int32)), .val (.int q.toInt32), .val (.ref a340), .val (.ref o362), .val (.int (1 : Int32)), .val (.ref dD)]) H at_361 rfl rfl rfl ?_
                refine Go.aload H at_363 rfl rfl rfl ?_
                refine Go.callV (rest := []) 0 [] H at_365 rfl A365 w86 w87 w89 w88 w70 w90 pd_N15 (ct_isp1 l W o362 dD h363 F366) all0 rfl rfl rfl (Nat.le_of_eq rfl) (by decide) (by decide) (by decide) (by decide) nh_N12 ?_
                rintro _ _ _ ⟨rfl, rfl, rfl⟩
                show Go _ _ _ _ _ _ h363 [a340, a228] 9 46 368 #[.val (.int a), .val (.int b), .val (.int c), .val (.int d), .val (.int e), .val (.int (0 : Int32)), .val (.int (1 : Int32)), .val (.int ((a >>> ((2 : Int32) &&& 31)) &&& (3 : Int32))), .val (.ref a228), .val (.int (12 : Int32)), .val (.int p.toInt32), .val (.int (nar .char (c &&& (255 : Int32)))), .val (.int (1 : Int32)), .val (.int q.toInt32), .val (.ref a340), .val (.ref o362), .val (.int (1 : Int32)), .val (.ref dD)] [(.int (1 : Int32))]
                refine Go.ifN H at_368 (by decide) rfl ?_
                refine Go.aload H at_371 rfl rfl rfl ?_
                refine Go.callV (rest := []) 0 [] H at_373 rfl A365 w91 w92 w94 w93 w70 w95 pd_N16 (ct_opg l W o362 dD h363 F366) all0 rfl rfl rfl (Nat.le_of_eq rfl) (by decide) (by decide) (by decide) (by decide) nh_N12 ?_
                rintro _ _ _ ⟨rfl, rfl, rfl⟩
                show Go _ _ _ _ _ _ h363 [a340, a228] 9 46 376 #[.val (.int a), .val (.int b), .val (.int c), .val (.int d), .val (.int e), .val (.int (0 : Int32)), .val (.int (1 : Int32)), .val (.int ((a >>> ((2 : Int32) &&& 31)) &&& (3 : Int32))), .val (.ref a228), .val (.int (12 : Int32)), .val (.int p.toInt32), .val (.int (nar .char (c &&& (255 : Int32)))), .val (.int (1 : Int32)), .val (.int q.toInt32), .val (.ref a340), .val (.ref o362), .val (.int (1 : Int32)), .val (.ref dD)] [(.ref dD)]
                refine Go.aload H at_376 rfl rfl rfl ?_
                refine Go.acmpN H at_378 rfl rfl (by simp [XT.acmp]) rfl ?_
                refine Go.iconst (1 : Int32) H at_381 rfl rfl ?_
                refine Go.goto (pc' := 386) H at_382 (by decide) (by decide) ?_
                exact Go.ireturn 1 [] H at_386 (by simp) (by decide) ⟨rfl, trivial⟩ all0 (by decide) (by decide)
              ·
                refine Go.icmpY (pc' := 321) H at_313 (flt (own_nlt (n := 12) (by omega) (by omega))).2.1 (by decide) (by decide) ?_
                refine Go.iconst (1 : Int32) H at_321 rfl rfl ?_
                refine Go.goto (pc' := 326) H at_322 (by decide) (by decide) ?_
                refine Go.istore (ls' := #[.val (.int a), .val (.int b), .val (.int c), .val (.int d), .val (.int e), .val (.int (0 : Int32)), .val (.int (1 : Int32)), .val (.int ((a >>> ((2 : Int32) &&& 31)) &&& (3 : Int32))), .val (.ref a228), .val (.int (12 : Int32)), .val (.int p.toInt32), .val (.int (nar .char (c &&& (255 : Int32)))), .val (.int (1 : Int32)), .val (.int q.toInt32), .val (.ref a340), .val (.ref o362), .val (.int (1 : Int32)), .unset]) H at_326 rfl rfl ?_
                refine Go.iload H at_328 rfl rfl ?_
                refine Go.ifY (pc' := 347) H at_330 (by decide) (by decide) (by decide) ?_
                have e370 : selV dD dA (([(102 : Int32), (99 : Int32), (114 : Int32), (58 : Int32), (109 : Int32), (101 : Int32), (116 : Int32), (97 : Int32), (100 : Int32), (97 : Int32), (116 : Int32), (97 : Int32), (nar .char (e &&& (255 : Int32)))].set p (nar .char (c &&& (255 : Int32)))).take q) = .ref dD := (by rw [c367]; exact selD_hit12 c368 hp2)
                rw [e370] at F366
                refine Go.iload H at_347 rfl rfl ?_
                refine Go.ifY (pc' := 358) H at_349 (by decide) (by decide) (by decide) ?_
                refine Go.getstatic H at_358 rfl w85 W.2.2.1 ?_
                refine Go.astore (ls' := #[.val (.int a), .val (.int b), .val (.int c), .val (.int d), .val (.int e), .val (.int (0 : Int32)), .val (.int (1 : Int32)), .val (.int ((a >>> ((2 : Int32) &&& 31)) &&& (3 : Int32))), .val (.ref a228), .val (.int (12 : Int32)), .val (.int p.toInt32), .val (.int (nar .char (c &&& (255 : Int32)))), .val (.int (1 : Int32)), .val (.int q.toInt32), .val (.ref a340), .val (.ref o362), .val (.int (1 : Int32)), .val (.ref dD)]) H at_361 rfl rfl rfl ?_
                refine Go.aload H at_363 rfl rfl rfl ?_
                refine Go.callV (rest := []) 0 [] H at_365 rfl A365 w86 w87 w89 w88 w70 w90 pd_N15 (ct_isp1 l W o362 dD h363 F366) all0 rfl rfl rfl (Nat.le_of_eq rfl) (by decide) (by decide) (by decide) (by decide) nh_N12 ?_
                rintro _ _ _ ⟨rfl, rfl, rfl⟩
                show Go _ _ _ _ _ _ h363 [a340, a228] 9 46 368 #[.val (.int a), .val (.int b), .val (.int c), .val (.int d), .val (.int e), .val (.int (0 : Int32)), .val (.int (1 : Int32)), .val (.int ((a >>> ((2 : Int32) &&& 31)) &&& (3 : Int32))), .val (.ref a228), .val (.int (12 : Int32)), .val (.int p.toInt32), .val (.int (nar .char (c &&& (255 : Int32)))), .val (.int (1 : Int32)), .val (.int q.toInt32), .val (.ref a340), .val (.ref o362), .val (.int (1 : Int32)), .val (.ref dD)] [(.int (1 : Int32))]
                refine Go.ifN H at_368 (by decide) rfl ?_
                refine Go.aload H at_371 rfl rfl rfl ?_
                refine Go.callV (rest := []) 0 [] H at_373 rfl A365 w91 w92 w94 w93 w70 w95 pd_N16 (ct_opg l W o362 dD h363 F366) all0 rfl rfl rfl (Nat.le_of_eq rfl) (by decide) (by decide) (by decide) (by decide) nh_N12 ?_
                rintro _ _ _ ⟨rfl, rfl, rfl⟩
                show Go _ _ _ _ _ _ h363 [a340, a228] 9 46 376 #[.val (.int a), .val (.int b), .val (.int c), .val (.int d), .val (.int e), .val (.int (0 : Int32)), .val (.int (1 : Int32)), .val (.int ((a >>> ((2 : Int32) &&& 31)) &&& (3 : Int32))), .val (.ref a228), .val (.int (12 : Int32)), .val (.int p.toInt32), .val (.int (nar .char (c &&& (255 : Int32)))), .val (.int (1 : Int32)), .val (.int q.toInt32), .val (.ref a340), .val (.ref o362), .val (.int (1 : Int32)), .val (.ref dD)] [(.ref dD)]
                refine Go.aload H at_376 rfl rfl rfl ?_
                refine Go.acmpN H at_378 rfl rfl (by simp [XT.acmp]) rfl ?_
                refine Go.iconst (1 : Int32) H at_381 rfl rfl ?_
                refine Go.goto (pc' := 386) H at_382 (by decide) (by decide) ?_
                exact Go.ireturn 1 [] H at_386 (by simp) (by decide) ⟨rfl, trivial⟩ all0 (by decide) (by decide)
            ·
              refine Go.icmpY (pc' := 325) H at_301 (feq (fun e => c367 (own_ofinj (n := 12) (by omega) (by decide) e))).2 (by decide) (by decide) ?_
              refine Go.iconst (0 : Int32) H at_325 rfl rfl ?_
              refine Go.istore (ls' := #[.val (.int a), .val (.int b), .val (.int c), .val (.int d), .val (.int e), .val (.int (0 : Int32)), .val (.int (1 : Int32)), .val (.int ((a >>> ((2 : Int32) &&& 31)) &&& (3 : Int32))), .val (.ref a228), .val (.int (12 : Int32)), .val (.int p.toInt32), .val (.int (nar .char (c &&& (255 : Int32)))), .val (.int (1 : Int32)), .val (.int q.toInt32), .val (.ref a340), .val (.ref o362), .val (.int (0 : Int32)), .unset]) H at_326 rfl rfl ?_
              refine Go.iload H at_328 rfl rfl ?_
              refine Go.ifN H at_330 (by decide) rfl ?_
              have e371 : selV dD dA (([(102 : Int32), (99 : Int32), (114 : Int32), (58 : Int32), (109 : Int32), (101 : Int32), (116 : Int32), (97 : Int32), (100 : Int32), (97 : Int32), (116 : Int32), (97 : Int32), (nar .char (e &&& (255 : Int32)))].set p (nar .char (c &&& (255 : Int32)))).take q) = .null := selD_len hp2 (by omega) c367
              rw [e371] at F366
              refine Go.aload H at_333 rfl rfl rfl ?_
              refine Go.callV (rest := []) 0 [] H at_335 rfl A365 w86 w87 w89 w88 w70 w90 pd_N15 (ct_isp0 l W o362 h363 F366) all0 rfl rfl rfl (Nat.le_of_eq rfl) (by decide) (by decide) (by decide) (by decide) nh_N12 ?_
              rintro _ _ _ ⟨rfl, rfl, rfl⟩
              show Go _ _ _ _ _ _ h363 [a340, a228] 9 46 338 #[.val (.int a), .val (.int b), .val (.int c), .val (.int d), .val (.int e), .val (.int (0 : Int32)), .val (.int (1 : Int32)), .val (.int ((a >>> ((2 : Int32) &&& 31)) &&& (3 : Int32))), .val (.ref a228), .val (.int (12 : Int32)), .val (.int p.toInt32), .val (.int (nar .char (c &&& (255 : Int32)))), .val (.int (1 : Int32)), .val (.int q.toInt32), .val (.ref a340), .val (.ref o362), .val (.int (0 : Int32)), .unset] [(.int (0 : Int32))]
              refine Go.ifN H at_338 (by decide) rfl ?_
              refine Go.iconst (1 : Int32) H at_341 rfl rfl ?_
              refine Go.goto (pc' := 346) H at_342 (by decide) (by decide) ?_
              exact Go.ireturn 1 [] H at_346 (by simp) (by decide) ⟨rfl, trivial⟩ all0 (by decide) (by decide)
      ·
        refine Go.icmpY (pc' := 221) H at_214 (feq c276).2 (by decide) (by decide) ?_
        refine Go.iconst (0 : Int32) H at_221 rfl rfl ?_
        refine Go.istore (ls' := #[.val (.int a), .val (.int b), .val (.int c), .val (.int d), .val (.int e), .val (.int (0 : Int32)), .val (.int (1 : Int32)), .val (.int ((a >>> ((2 : Int32) &&& 31)) &&& (3 : Int32))), .val (.ref a228), .val (.int (12 : Int32)), .val (.int p.toInt32), .val (.int (nar .char (c &&& (255 : Int32)))), .val (.int (0 : Int32)), .unset, .unset, .unset, .unset, .unset]) H at_222 rfl rfl ?_
        refine Go.iload H at_224 rfl rfl ?_
        refine Go.ifN H at_226 (by decide) rfl ?_
        refine Go.aload H at_229 rfl rfl rfl ?_
        refine Go.iload H at_231 rfl rfl ?_
        refine Go.iload H at_233 rfl rfl ?_
        refine Go.castore (nar .char (c &&& (255 : Int32))) H at_235 rfl F275 p (own_cl (by omega)) (own_n0 (by omega)) (show p < [(102 : Int32), (99 : Int32), (114 : Int32), (58 : Int32), (109 : Int32), (101 : Int32), (116 : Int32), (97 : Int32), (100 : Int32), (97 : Int32), (116 : Int32), (97 : Int32), (nar .char (e &&& (255 : Int32)))].length from hp2) own_nn z231 (by simp) ?_
        intro h372 K373 F374
        refine Go.iload H at_236 rfl rfl ?_
        by_cases c375 : ((a >>> ((2 : Int32) &&& 31)) &&& (3 : Int32)) = (0 : Int32)
        ·
          refine Go.ifN H at_238 (teq c375).2 rfl ?_
          refine Go.iload H at_241 rfl rfl ?_
          refine Go.istore (ls' := #[.val (.int a), .val (.int b), .val (.int c), .val (.int d), .val (.int e), .val (.int (0 : Int32)), .val (.int (1 : Int32)), .val (.int ((a >>> ((2 : Int32) &&& 31)) &&& (3 : Int32))), .val (.ref a228), .val (.int (12 : Int32)), .val (.int p.toInt32), .val (.int (nar .char (c &&& (255 : Int32)))), .val (.int (0 : Int32)), .val (.int (12 : Int32)), .unset, .unset, .unset, .unset]) H at_243 rfl rfl ?_
          refine Go.goto (pc' := 274) H at_245 (by decide) (by decide) ?_
          refine Go.new H at_274 rfl w2 w3 w4 (by decide) (by decide) ?_
          intro a376 h377 g378 z379 E380 A381 D382
          have ne383 : a228 ≠ a376 := Nat.ne_of_lt (Nat.lt_of_lt_of_le F374.lt (Nat.le_of_eq g378.symm))
          replace F374 := F374.ext E380
          have F384 : Fld Z h377 a376 "java/lang/String" "coder" "B" (.int (0 : Int32)) := D382 (Or.inr w32) (ty := .byte) (by decide)
          have F385 : Fld Z h377 a376 "java/lang/String" "value" "[B" .null := D382 (Or.inr w34) (ty := (.array .byte)) (by decide)
          show Go _ _ _ _ _ _ h377 [a376, a228] 2 17 277 #[.val (.int a), .val (.int b), .val (.int c), .val (.int d), .val (.int e), .val (.int (0 : Int32)), .val (.int (1 : Int32)), .val (.int ((a >>> ((2 : Int32) &&& 31)) &&& (3 : Int32))), .val (.ref a228), .val (.int (12 : Int32)), .val (.int p.toInt32), .val (.int (nar .char (c &&& (255 : Int32)))), .val (.int (0 : Int32)), .val (.int (12 : Int32)), .unset, .unset, .unset, .unset] [(.ref a376)]
          refine Go.dup H at_277 rfl rfl ?_
          refine Go.aload H at_278 rfl rfl rfl ?_
          refine Go.iload H at_280 rfl rfl ?_
          refine Go.callS (rest := [(.ref a376), (.ref a376)]) 2 [(.ref a228), (.int (12 : Int32))] H at_282 rfl w5 w6 w7 w8 pd_N18 (ct_pre l W a228 ([(102 : Int32), (99 : Int32), (114 : Int32), (58 : Int32), (109 : Int32), (101 : Int32), (116 : Int32), (97 : Int32), (100 : Int32), (97 : Int32), (116 : Int32), (97 : Int32), (nar .char (e &&& (255 : Int32)))].set p (nar .char (c &&& (255 : Int32)))) 12 h377 F374 (by rw [List.length_set]; show _ ≤ 13; omega) (by rw [List.length_set]; exact Nat.le_of_ble_eq_true rfl) (own_setL (own_ac (show isL (102 : Int32) from ⟨by decide, by decide⟩) (own_ac (show isL (99 : Int32) from ⟨by decide, by decide⟩) (own_ac (show isL (114 : Int32) from ⟨by decide, by decide⟩) (own_ac (show isL (58 : Int32) from ⟨by decide, by decide⟩) (own_ac (show isL (109 : Int32) from ⟨by decide, by decide⟩) (own_ac (show isL (101 : Int32) from ⟨by decide, by decide⟩) (own_ac (show isL (116 : Int32) from ⟨by decide, by decide⟩) (own_ac (show isL (97 : Int32) from ⟨by decide, by decide⟩) (own_ac (show isL (100 : Int32) from ⟨by decide, by decide⟩) (own_ac (show isL (97 : Int32) from ⟨by decide, by decide⟩) (own_ac (show isL (116 : Int32) from ⟨by decide, by decide⟩) (own_ac (show isL (97 : Int32) from ⟨by decide, by decide⟩) (own_ac (own_and255 _) own_an))))))))))))) (own_and255 _))) all0 rfl rfl rfl (Nat.le_of_eq rfl) (by decide) (by decide) (by decide) (by decide) nh_N18 ?_
          rintro _ h387 _ ⟨r386, rfl, E388, g389, F390, rfl⟩
          have ne391 : a228 ≠ r386 := Nat.ne_of_lt (Nat.lt_of_lt_of_le F374.lt g389)
          have ne392 : a376 ≠ r386 := Nat.ne_of_lt (Nat.lt_of_lt_of_le A381.lt g389)
          replace F374 := F374.ext E388
          replace A381 := A381.ext E388
          replace F384 := F384.ext E388
          replace F385 := F385.ext E388
          show Go _ _ _ _ _ _ h387 [a376, a228] 3 30 285 #[.val (.int a), .val (.int b), .val (.int c), .val (.int d), .val (.int e), .val (.int (0 : Int32)), .val (.int (1 : Int32)), .val (.int ((a >>> ((2 : Int32) &&& 31)) &&& (3 : Int32))), .val (.ref a228), .val (.int (12 : Int32)), .val (.int p.toInt32), .val (.int (nar .char (c &&& (255 : Int32)))), .val (.int (0 : Int32)), .val (.int (12 : Int32)), .unset, .unset, .unset, .unset] [(.ref r386), (.ref a376), (.ref a376)]
          refine Go.callI (rest := [(.ref a376)]) 1 [(.ref r386)] H at_285 rfl rfl w9 w10 w4 w11 pd_N5 (ct_new1 l W a376 r386 (([(102 : Int32), (99 : Int32), (114 : Int32), (58 : Int32), (109 : Int32), (101 : Int32), (116 : Int32), (97 : Int32), (100 : Int32), (97 : Int32), (116 : Int32), (97 : Int32), (nar .char (e &&& (255 : Int32)))].set p (nar .char (c &&& (255 : Int32)))).take 12) h387 A381 F385 F384  F390 (own_takeL' (own_setL (own_ac (show isL (102 : Int32) from ⟨by decide, by decide⟩) (own_ac (show isL (99 : Int32) from ⟨by decide, by decide⟩) (own_ac (show isL (114 : Int32) from ⟨by decide, by decide⟩) (own_ac (show isL (58 : Int32) from ⟨by decide, by decide⟩) (own_ac (show isL (109 : Int32) from ⟨by decide, by decide⟩) (own_ac (show isL (101 : Int32) from ⟨by decide, by decide⟩) (own_ac (show isL (116 : Int32) from ⟨by decide, by decide⟩) (own_ac (show isL (97 : Int32) from ⟨by decide, by decide⟩) (own_ac (show isL (100 : Int32) from ⟨by decide, by decide⟩) (own_ac (show isL (97 : Int32) from ⟨by decide, by decide⟩) (own_ac (show isL (116 : Int32) from ⟨by decide, by decide⟩) (own_ac (show isL (97 : Int32) from ⟨by decide, by decide⟩) (own_ac (own_and255 _) own_an))))))))))))) (own_and255 _))) (by rw [List.length_take, List.length_set]; exact Nat.le_trans (Nat.min_le_right _ _) (Nat.le_of_ble_eq_true rfl))  z379) (by simp) rfl rfl rfl (Nat.le_of_eq rfl) (by decide) (by decide) (by decide) (by decide) nh_N4 ?_
          rintro _ h393 _ ⟨rfl, K394, ⟨b395, S397⟩, rfl⟩
          replace F374 := F374.keep K394 (ninS ne383 nin0)
          replace F390 := F390.keep K394 (ninS (Ne.symm ne392) nin0)
          show Go _ _ _ _ _ _ h393 [a376, a228] 7 43 288 #[.val (.int a), .val (.int b), .val (.int c), .val (.int d), .val (.int e), .val (.int (0 : Int32)), .val (.int (1 : Int32)), .val (.int ((a >>> ((2 : Int32) &&& 31)) &&& (3 : Int32))), .val (.ref a228), .val (.int (12 : Int32)), .val (.int p.toInt32), .val (.int (nar .char (c &&& (255 : Int32)))), .val (.int (0 : Int32)), .val (.int (12 : Int32)), .unset, .unset, .unset, .unset] [(.ref a376)]
          refine Go.astore (ls' := #[.val (.int a), .val (.int b), .val (.int c), .val (.int d), .val (.int e), .val (.int (0 : Int32)), .val (.int (1 : Int32)), .val (.int ((a >>> ((2 : Int32) &&& 31)) &&& (3 : Int32))), .val (.ref a228), .val (.int (12 : Int32)), .val (.int p.toInt32), .val (.int (nar .char (c &&& (255 : Int32)))), .val (.int (0 : Int32)), .val (.int (12 : Int32)), .val (.ref a376), .unset, .unset, .unset]) H at_288 rfl rfl rfl ?_
          refine Go.aload H at_290 rfl rfl rfl ?_
          refine Go.callS (rest := []) 0 [(.ref a376)] H at_292 rfl w35 w36 w37 w38 pd_N17 (ct_bys l W a376 b395 (([(102 : Int32), (99 : Int32), (114 : Int32), (58 : Int32), (109 : Int32), (101 : Int32), (116 : Int32), (97 : Int32), (100 : Int32), (97 : Int32), (116 : Int32), (97 : Int32), (nar .char (e &&& (255 : Int32)))].set p (nar .char (c &&& (255 : Int32)))).take 12) h393 S397) all0 rfl rfl rfl (Nat.le_of_eq rfl) (by decide) (by decide) (by decide) (by decide) nh_N10 ?_
          rintro _ h399 _ ⟨o398, rfl, E400, A401, F402, rfl⟩
          replace F374 := F374.ext E400
          replace F390 := F390.ext E400
          replace S397 := S397.ext E400
          show Go _ _ _ _ _ _ h399 [a376, a228] 9 46 295 #[.val (.int a), .val (.int b), .val (.int c), .val (.int d), .val (.int e), .val (.int (0 : Int32)), .val (.int (1 : Int32)), .val (.int ((a >>> ((2 : Int32) &&& 31)) &&& (3 : Int32))), .val (.ref a228), .val (.int (12 : Int32)), .val (.int p.toInt32), .val (.int (nar .char (c &&& (255 : Int32)))), .val (.int (0 : Int32)), .val (.int (12 : Int32)), .val (.ref a376), .unset, .unset, .unset] [(.ref o398)]
          refine Go.astore (ls' := #[.val (.int a), .val (.int b), .val (.int c), .val (.int d), .val (.int e), .val (.int (0 : Int32)), .val (.int (1 : Int32)), .val (.int ((a >>> ((2 : Int32) &&& 31)) &&& (3 : Int32))), .val (.ref a228), .val (.int (12 : Int32)), .val (.int p.toInt32), .val (.int (nar .char (c &&& (255 : Int32)))), .val (.int (0 : Int32)), .val (.int (12 : Int32)), .val (.ref a376), .val (.ref o398), .unset, .unset]) H at_295 rfl rfl rfl ?_
          refine Go.iload H at_297 rfl rfl ?_
          refine Go.iload H at_299 rfl rfl ?_
          refine Go.icmpN H at_301 (by decide) rfl ?_
          refine Go.iload H at_304 rfl rfl ?_
          refine Go.ifN H at_306 (by decide) rfl ?_
          refine Go.iload H at_309 rfl rfl ?_
          refine Go.iload H at_311 rfl rfl ?_
          by_cases c403 : p < 12
          ·
            refine Go.icmpN H at_313 (tlt (own_lt (n := 12) (by decide) c403)).2.1 rfl ?_
            refine Go.iload H at_316 rfl rfl ?_
            refine Go.ifY (pc' := 325) H at_318 (by decide) (by decide) (by decide) ?_
            refine Go.iconst (0 : Int32) H at_325 rfl rfl ?_
            refine Go.istore (ls' := #[.val (.int a), .val (.int b), .val (.int c), .val (.int d), .val (.int e), .val (.int (0 : Int32)), .val (.int (1 : Int32)), .val (.int ((a >>> ((2 : Int32) &&& 31)) &&& (3 : Int32))), .val (.ref a228), .val (.int (12 : Int32)), .val (.int p.toInt32), .val (.int (nar .char (c &&& (255 : Int32)))), .val (.int (0 : Int32)), .val (.int (12 : Int32)), .val (.ref a376), .val (.ref o398), .val (.int (0 : Int32)), .unset]) H at_326 rfl rfl ?_
            refine Go.iload H at_328 rfl rfl ?_
            refine Go.ifN H at_330 (by decide) rfl ?_
            have e404 : selV dD dA (([(102 : Int32), (99 : Int32), (114 : Int32), (58 : Int32), (109 : Int32), (101 : Int32), (116 : Int32), (97 : Int32), (100 : Int32), (97 : Int32), (116 : Int32), (97 : Int32), (nar .char (e &&& (255 : Int32)))].set p (nar .char (c &&& (255 : Int32)))).take 12) = .null := selD_ne c403 c276
            rw [e404] at F402
            refine Go.aload H at_333 rfl rfl rfl ?_
            refine Go.callV (rest := []) 0 [] H at_335 rfl A401 w86 w87 w89 w88 w70 w90 pd_N15 (ct_isp0 l W o398 h399 F402) all0 rfl rfl rfl (Nat.le_of_eq rfl) (by decide) (by decide) (by decide) (by decide) nh_N12 ?_
            rintro _ _ _ ⟨rfl, rfl, rfl⟩
            show Go _ _ _ _ _ _ h399 [a376, a228] 9 46 338 #[.val (.int a), .val (.int b), .val (.int c), .val (.int d), .val (.int e), .val (.int (0 : Int32)), .val (.int (1 : Int32)), .val (.int ((a >>> ((2 : Int32) &&& 31)) &&& (3 : Int32))), .val (.ref a228), .val (.int (12 : Int32)), .val (.int p.toInt32), .val (.int (nar .char (c &&& (255 : Int32)))), .val (.int (0 : Int32)), .val (.int (12 : Int32)), .val (.ref a376), .val (.ref o398), .val (.int (0 : Int32)), .unset] [(.int (0 : Int32))]
            refine Go.ifN H at_338 (by decide) rfl ?_
            refine Go.iconst (1 : Int32) H at_341 rfl rfl ?_
            refine Go.goto (pc' := 346) H at_342 (by decide) (by decide) ?_
            exact Go.ireturn 1 [] H at_346 (by simp) (by decide) ⟨rfl, trivial⟩ all0 (by decide) (by decide)
          ·
            refine Go.icmpY (pc' := 321) H at_313 (flt (own_nlt (n := 12) (by omega) (by omega))).2.1 (by decide) (by decide) ?_
            refine Go.iconst (1 : Int32) H at_321 rfl rfl ?_
            refine Go.goto (pc' := 326) H at_322 (by decide) (by decide) ?_
            refine Go.istore (ls' := #[.val (.int a), .val (.int b), .val (.int c), .val (.int d), .val (.int e), .val (.int (0 : Int32)), .val (.int (1 : Int32)), .val (.int ((a >>> ((2 : Int32) &&& 31)) &&& (3 : Int32))), .val (.ref a228), .val (.int (12 : Int32)), .val (.int p.toInt32), .val (.int (nar .char (c &&& (255 : Int32)))), .val (.int (0 : Int32)), .val (.int (12 : Int32)), .val (.ref a376), .val (.ref o398), .val (.int (1 : Int32)), .unset]) H at_326 rfl rfl ?_
            refine Go.iload H at_328 rfl rfl ?_
            refine Go.ifY (pc' := 347) H at_330 (by decide) (by decide) (by decide) ?_
            have e405 : selV dD dA (([(102 : Int32), (99 : Int32), (114 : Int32), (58 : Int32), (109 : Int32), (101 : Int32), (116 : Int32), (97 : Int32), (100 : Int32), (97 : Int32), (116 : Int32), (97 : Int32), (nar .char (e &&& (255 : Int32)))].set p (nar .char (c &&& (255 : Int32)))).take 12) = .ref dD := selD_hit12 c403 hp2
            rw [e405] at F402
            refine Go.iload H at_347 rfl rfl ?_
            refine Go.ifY (pc' := 358) H at_349 (by decide) (by decide) (by decide) ?_
            refine Go.getstatic H at_358 rfl w85 W.2.2.1 ?_
            refine Go.astore (ls' := #[.val (.int a), .val (.int b), .val (.int c), .val (.int d), .val (.int e), .val (.int (0 : Int32)), .val (.int (1 : Int32)), .val (.int ((a >>> ((2 : Int32) &&& 31)) &&& (3 : Int32))), .val (.ref a228), .val (.int (12 : Int32)), .val (.int p.toInt32), .val (.int (nar .char (c &&& (255 : Int32)))), .val (.int (0 : Int32)), .val (.int (12 : Int32)), .val (.ref a376), .val (.ref o398), .val (.int (1 : Int32)), .val (.ref dD)]) H at_361 rfl rfl rfl ?_
            refine Go.aload H at_363 rfl rfl rfl ?_
            refine Go.callV (rest := []) 0 [] H at_365 rfl A401 w86 w87 w89 w88 w70 w90 pd_N15 (ct_isp1 l W o398 dD h399 F402) all0 rfl rfl rfl (Nat.le_of_eq rfl) (by decide) (by decide) (by decide) (by decide) nh_N12 ?_
            rintro _ _ _ ⟨rfl, rfl, rfl⟩
            show Go _ _ _ _ _ _ h399 [a376, a228] 9 46 368 #[.val (.int a), .val (.int b), .val (.int c), .val (.int d), .val (.int e), .val (.int (0 : Int32)), .val (.int (1 : Int32)), .val (.int ((a >>> ((2 : Int32) &&& 31)) &&& (3 : Int32))), .val (.ref a228), .val (.int (12 : Int32)), .val (.int p.toInt32), .val (.int (nar .char (c &&& (255 : Int32)))), .val (.int (0 : Int32)), .val (.int (12 : Int32)), .val (.ref a376), .val (.ref o398), .val (.int (1 : Int32)), .val (.ref dD)] [(.int (1 : Int32))]
            refine Go.ifN H at_368 (by decide) rfl ?_
            refine Go.aload H at_371 rfl rfl rfl ?_
            refine Go.callV (rest := []) 0 [] H at_373 rfl A401 w91 w92 w94 w93 w70 w95 pd_N16 (ct_opg l W o398 dD h399 F402) all0 rfl rfl rfl (Nat.le_of_eq rfl) (by decide) (by decide) (by decide) (by decide) nh_N12 ?_
            rintro _ _ _ ⟨rfl, rfl, rfl⟩
            show Go _ _ _ _ _ _ h399 [a376, a228] 9 46 376 #[.val (.int a), .val (.int b), .val (.int c), .val (.int d), .val (.int e), .val (.int (0 : Int32)), .val (.int (1 : Int32)), .val (.int ((a >>> ((2 : Int32) &&& 31)) &&& (3 : Int32))), .val (.ref a228), .val (.int (12 : Int32)), .val (.int p.toInt32), .val (.int (nar .char (c &&& (255 : Int32)))), .val (.int (0 : Int32)), .val (.int (12 : Int32)), .val (.ref a376), .val (.ref o398), .val (.int (1 : Int32)), .val (.ref dD)] [(.ref dD)]
            refine Go.aload H at_376 rfl rfl rfl ?_
            refine Go.acmpN H at_378 rfl rfl (by simp [XT.acmp]) rfl ?_
            refine Go.iconst (1 : Int32) H at_381 rfl rfl ?_
            refine Go.goto (pc' := 386) H at_382 (by decide) (by decide) ?_
            exact Go.ireturn 1 [] H at_386 (by simp) (by decide) ⟨rfl, trivial⟩ all0 (by decide) (by decide)
        ·
          refine Go.ifY (pc' := 248) H at_238 (feq c375).2 (by decide) (by decide) ?_
          refine Go.iload H at_248 rfl rfl ?_
          refine Go.iconst (1 : Int32) H at_250 rfl rfl ?_
          by_cases c406 : ((a >>> ((2 : Int32) &&& 31)) &&& (3 : Int32)) = (1 : Int32)
          ·
            refine Go.icmpN H at_251 (teq c406).2 rfl ?_
            refine Go.iload H at_254 rfl rfl ?_
            refine Go.iconst (1 : Int32) H at_256 rfl rfl ?_
            refine Go.iadd H at_257 rfl ?_
            show Go _ _ _ _ _ _ h372 [a228] 1 13 258 #[.val (.int a), .val (.int b), .val (.int c), .val (.int d), .val (.int e), .val (.int (0 : Int32)), .val (.int (1 : Int32)), .val (.int ((a >>> ((2 : Int32) &&& 31)) &&& (3 : Int32))), .val (.ref a228), .val (.int (12 : Int32)), .val (.int p.toInt32), .val (.int (nar .char (c &&& (255 : Int32)))), .val (.int (0 : Int32)), .unset, .unset, .unset, .unset, .unset] [(.int (13 : Int32))]
            refine Go.istore (ls' := #[.val (.int a), .val (.int b), .val (.int c), .val (.int d), .val (.int e), .val (.int (0 : Int32)), .val (.int (1 : Int32)), .val (.int ((a >>> ((2 : Int32) &&& 31)) &&& (3 : Int32))), .val (.ref a228), .val (.int (12 : Int32)), .val (.int p.toInt32), .val (.int (nar .char (c &&& (255 : Int32)))), .val (.int (0 : Int32)), .val (.int (13 : Int32)), .unset, .unset, .unset, .unset]) H at_258 rfl rfl ?_
            refine Go.goto (pc' := 274) H at_260 (by decide) (by decide) ?_
            refine Go.new H at_274 rfl w2 w3 w4 (by decide) (by decide) ?_
            intro a407 h408 g409 z410 E411 A412 D413
            have ne414 : a228 ≠ a407 := Nat.ne_of_lt (Nat.lt_of_lt_of_le F374.lt (Nat.le_of_eq g409.symm))
            replace F374 := F374.ext E411
            have F415 : Fld Z h408 a407 "java/lang/String" "coder" "B" (.int (0 : Int32)) := D413 (Or.inr w32) (ty := .byte) (by decide)
            have F416 : Fld Z h408 a407 "java/lang/String" "value" "[B" .null := D413 (Or.inr w34) (ty := (.array .byte)) (by decide)
            show Go _ _ _ _ _ _ h408 [a407, a228] 2 17 277 #[.val (.int a), .val (.int b), .val (.int c), .val (.int d), .val (.int e), .val (.int (0 : Int32)), .val (.int (1 : Int32)), .val (.int ((a >>> ((2 : Int32) &&& 31)) &&& (3 : Int32))), .val (.ref a228), .val (.int (12 : Int32)), .val (.int p.toInt32), .val (.int (nar .char (c &&& (255 : Int32)))), .val (.int (0 : Int32)), .val (.int (13 : Int32)), .unset, .unset, .unset, .unset] [(.ref a407)]
            refine Go.dup H at_277 rfl rfl ?_
            refine Go.aload H at_278 rfl rfl rfl ?_
            refine Go.iload H at_280 rfl rfl ?_
            refine Go.callS (rest := [(.ref a407), (.ref a407)]) 2 [(.ref a228), (.int (13 : Int32))] H at_282 rfl w5 w6 w7 w8 pd_N18 (ct_pre l W a228 ([(102 : Int32), (99 : Int32), (114 : Int32), (58 : Int32), (109 : Int32), (101 : Int32), (116 : Int32), (97 : Int32), (100 : Int32), (97 : Int32), (116 : Int32), (97 : Int32), (nar .char (e &&& (255 : Int32)))].set p (nar .char (c &&& (255 : Int32)))) 13 h408 F374 (by rw [List.length_set]; show _ ≤ 13; omega) (by rw [List.length_set]; exact Nat.le_of_ble_eq_true rfl) (own_setL (own_ac (show isL (102 : Int32) from ⟨by decide, by decide⟩) (own_ac (show isL (99 : Int32) from ⟨by decide, by decide⟩) (own_ac (show isL (114 : Int32) from ⟨by decide, by decide⟩) (own_ac (show isL (58 : Int32) from ⟨by decide, by decide⟩) (own_ac (show isL (109 : Int32) from ⟨by decide, by decide⟩) (own_ac (show isL (101 : Int32) from ⟨by decide, by decide⟩) (own_ac (show isL (116 : Int32) from ⟨by decide, by decide⟩) (own_ac (show isL (97 : Int32) from ⟨by decide, by decide⟩) (own_ac (show isL (100 : Int32) from ⟨by decide, by decide⟩) (own_ac (show isL (97 : Int32) from ⟨by decide, by decide⟩) (own_ac (show isL (116 : Int32) from ⟨by decide, by decide⟩) (own_ac (show isL (97 : Int32) from ⟨by decide, by decide⟩) (own_ac (own_and255 _) own_an))))))))))))) (own_and255 _))) all0 rfl rfl rfl (Nat.le_of_eq rfl) (by decide) (by decide) (by decide) (by decide) nh_N18 ?_
            rintro _ h418 _ ⟨r417, rfl, E419, g420, F421, rfl⟩
            have ne422 : a228 ≠ r417 := Nat.ne_of_lt (Nat.lt_of_lt_of_le F374.lt g420)
            have ne423 : a407 ≠ r417 := Nat.ne_of_lt (Nat.lt_of_lt_of_le A412.lt g420)
            replace F374 := F374.ext E419
            replace A412 := A412.ext E419
            replace F415 := F415.ext E419
            replace F416 := F416.ext E419
            show Go _ _ _ _ _ _ h418 [a407, a228] 3 30 285 #[.val (.int a), .val (.int b), .val (.int c), .val (.int d), .val (.int e), .val (.int (0 : Int32)), .val (.int (1 : Int32)), .val (.int ((a >>> ((2 : Int32) &&& 31)) &&& (3 : Int32))), .val (.ref a228), .val (.int (12 : Int32)), .val (.int p.toInt32), .val (.int (nar .char (c &&& (255 : Int32)))), .val (.int (0 : Int32)), .val (.int (13 : Int32)), .unset, .unset, .unset, .unset] [(.ref r417), (.ref a407), (.ref a407)]
            refine Go.callI (rest := [(.ref a407)]) 1 [(.ref r417)] H at_285 rfl rfl w9 w10 w4 w11 pd_N5 (ct_new1 l W a407 r417 (([(102 : Int32), (99 : Int32), (114 : Int32), (58 : Int32), (109 : Int32), (101 : Int32), (116 : Int32), (97 : Int32), (100 : Int32), (97 : Int32), (116 : Int32), (97 : Int32), (nar .char (e &&& (255 : Int32)))].set p (nar .char (c &&& (255 : Int32)))).take 13) h418 A412 F416 F415  F421 (own_takeL' (own_setL (own_ac (show isL (102 : Int32) from ⟨by decide, by decide⟩) (own_ac (show isL (99 : Int32) from ⟨by decide, by decide⟩) (own_ac (show isL (114 : Int32) from ⟨by decide, by decide⟩) (own_ac (show isL (58 : Int32) from ⟨by decide, by decide⟩) (own_ac (show isL (109 : Int32) from ⟨by decide, by decide⟩) (own_ac (show isL (101 : Int32) from ⟨by decide, by decide⟩) (own_ac (show isL (116 : Int32) from ⟨by decide, by decide⟩) (own_ac (show isL (97 : Int32) from ⟨by decide, by decide⟩) (own_ac (show isL (100 : Int32) from ⟨by decide, by decide⟩) (own_ac (show isL (97 : Int32) from ⟨by decide, by decide⟩) (own_ac (show isL (116 : Int32) from ⟨by decide, by decide⟩) (own_ac (show isL (97 : Int32) from ⟨by decide, by decide⟩) (own_ac (own_and255 _) own_an))))))))))))) (own_and255 _))) (by rw [List.length_take, List.length_set]; exact Nat.le_trans (Nat.min_le_right _ _) (Nat.le_of_ble_eq_true rfl))  z410) (by simp) rfl rfl rfl (Nat.le_of_eq rfl) (by decide) (by decide) (by decide) (by decide) nh_N4 ?_
            rintro _ h424 _ ⟨rfl, K425, ⟨b426, S428⟩, rfl⟩
            replace F374 := F374.keep K425 (ninS ne414 nin0)
            replace F421 := F421.keep K425 (ninS (Ne.symm ne423) nin0)
            show Go _ _ _ _ _ _ h424 [a407, a228] 7 43 288 #[.val (.int a), .val (.int b), .val (.int c), .val (.int d), .val (.int e), .val (.int (0 : Int32)), .val (.int (1 : Int32)), .val (.int ((a >>> ((2 : Int32) &&& 31)) &&& (3 : Int32))), .val (.ref a228), .val (.int (12 : Int32)), .val (.int p.toInt32), .val (.int (nar .char (c &&& (255 : Int32)))), .val (.int (0 : Int32)), .val (.int (13 : Int32)), .unset, .unset, .unset, .unset] [(.ref a407)]
            refine Go.astore (ls' := #[.val (.int a), .val (.int b), .val (.int c), .val (.int d), .val (.int e), .val (.int (0 : Int32)), .val (.int (1 : Int32)), .val (.int ((a >>> ((2 : Int32) &&& 31)) &&& (3 : Int32))), .val (.ref a228), .val (.int (12 : Int32)), .val (.int p.toInt32), .val (.int (nar .char (c &&& (255 : Int32)))), .val (.int (0 : Int32)), .val (.int (13 : Int32)), .val (.ref a407), .unset, .unset, .unset]) H at_288 rfl rfl rfl ?_
            refine Go.aload H at_290 rfl rfl rfl ?_
            refine Go.callS (rest := []) 0 [(.ref a407)] H at_292 rfl w35 w36 w37 w38 pd_N17 (ct_bys l W a407 b426 (([(102 : Int32), (99 : Int32), (114 : Int32), (58 : Int32), (109 : Int32), (101 : Int32), (116 : Int32), (97 : Int32), (100 : Int32), (97 : Int32), (116 : Int32), (97 : Int32), (nar .char (e &&& (255 : Int32)))].set p (nar .char (c &&& (255 : Int32)))).take 13) h424 S428) all0 rfl rfl rfl (Nat.le_of_eq rfl) (by decide) (by decide) (by decide) (by decide) nh_N10 ?_
            rintro _ h430 _ ⟨o429, rfl, E431, A432, F433, rfl⟩
            replace F374 := F374.ext E431
            replace F421 := F421.ext E431
            replace S428 := S428.ext E431
            show Go _ _ _ _ _ _ h430 [a407, a228] 9 46 295 #[.val (.int a), .val (.int b), .val (.int c), .val (.int d), .val (.int e), .val (.int (0 : Int32)), .val (.int (1 : Int32)), .val (.int ((a >>> ((2 : Int32) &&& 31)) &&& (3 : Int32))), .val (.ref a228), .val (.int (12 : Int32)), .val (.int p.toInt32), .val (.int (nar .char (c &&& (255 : Int32)))), .val (.int (0 : Int32)), .val (.int (13 : Int32)), .val (.ref a407), .unset, .unset, .unset] [(.ref o429)]
            refine Go.astore (ls' := #[.val (.int a), .val (.int b), .val (.int c), .val (.int d), .val (.int e), .val (.int (0 : Int32)), .val (.int (1 : Int32)), .val (.int ((a >>> ((2 : Int32) &&& 31)) &&& (3 : Int32))), .val (.ref a228), .val (.int (12 : Int32)), .val (.int p.toInt32), .val (.int (nar .char (c &&& (255 : Int32)))), .val (.int (0 : Int32)), .val (.int (13 : Int32)), .val (.ref a407), .val (.ref o429), .unset, .unset]) H at_295 rfl rfl rfl ?_
            refine Go.iload H at_297 rfl rfl ?_
            refine Go.iload H at_299 rfl rfl ?_
            refine Go.icmpY (pc' := 325) H at_301 (by decide) (by decide) (by decide) ?_
            refine Go.iconst (0 : Int32) H at_325 rfl rfl ?_
            refine Go.istore (ls' := #[.val (.int a), .val (.int b), .val (.int c), .val (.int d), .val (.int e), .val (.int (0 : Int32)), .val (.int (1 : Int32)), .val (.int ((a >>> ((2 : Int32) &&& 31)) &&& (3 : Int32))), .val (.ref a228), .val (.int (12 : Int32)), .val (.int p.toInt32), .val (.int (nar .char (c &&& (255 : Int32)))), .val (.int (0 : Int32)), .val (.int (13 : Int32)), .val (.ref a407), .val (.ref o429), .val (.int (0 : Int32)), .unset]) H at_326 rfl rfl ?_
            refine Go.iload H at_328 rfl rfl ?_
            refine Go.ifN H at_330 (by decide) rfl ?_
            have e434 : selV dD dA (([(102 : Int32), (99 : Int32), (114 : Int32), (58 : Int32), (109 : Int32), (101 : Int32), (116 : Int32), (97 : Int32), (100 : Int32), (97 : Int32), (116 : Int32), (97 : Int32), (nar .char (e &&& (255 : Int32)))].set p (nar .char (c &&& (255 : Int32)))).take 13) = .null := selD_len hp2 (by omega) (by decide)
            rw [e434] at F433
            refine Go.aload H at_333 rfl rfl rfl ?_
            refine Go.callV (rest := []) 0 [] H at_335 rfl A432 w86 w87 w89 w88 w70 w90 pd_N15 (ct_isp0 l W o429 h430 F433) all0 rfl rfl rfl (Nat.le_of_eq rfl) (by decide) (by decide) (by decide) (by decide) nh_N12 ?_
            rintro _ _ _ ⟨rfl, rfl, rfl⟩
            show Go _ _ _ _ _ _ h430 [a407, a228] 9 46 338 #[.val (.int a), .val (.int b), .val (.int c), .val (.int d), .val (.int e), .val (.int (0 : Int32)), .val (.int (1 : Int32)), .val (.int ((a >>> ((2 : Int32) &&& 31)) &&& (3 : Int32))), .val (.ref a228), .val (.int (12 : Int32)), .val (.int p.toInt32), .val (.int (nar .char (c &&& (255 : Int32)))), .val (.int (0 : Int32)), .val (.int (13 : Int32)), .val (.ref a407), .val (.ref o429), .val (.int (0 : Int32)), .unset] [(.int (0 : Int32))]
            refine Go.ifN H at_338 (by decide) rfl ?_
            refine Go.iconst (1 : Int32) H at_341 rfl rfl ?_
            refine Go.goto (pc' := 346) H at_342 (by decide) (by decide) ?_
            exact Go.ireturn 1 [] H at_346 (by simp) (by decide) ⟨rfl, trivial⟩ all0 (by decide) (by decide)
          ·
            refine Go.icmpY (pc' := 263) H at_251 (feq c406).2 (by decide) (by decide) ?_
            refine Go.iloadN H at_263 rfl rfl ?_
            refine Go.ldcInt H at_264 rfl w1 ?_
            refine Go.iand H at_266 rfl ?_
            refine Go.iload H at_267 rfl rfl ?_
            refine Go.iconst (2 : Int32) H at_269 rfl rfl ?_
            refine Go.iadd H at_270 rfl ?_
            show Go _ _ _ _ _ _ h372 [a228] 1 13 271 #[.val (.int a), .val (.int b), .val (.int c), .val (.int d), .val (.int e), .val (.int (0 : Int32)), .val (.int (1 : Int32)), .val (.int ((a >>> ((2 : Int32) &&& 31)) &&& (3 : Int32))), .val (.ref a228), .val (.int (12 : Int32)), .val (.int p.toInt32), .val (.int (nar .char (c &&& (255 : Int32)))), .val (.int (0 : Int32)), .unset, .unset, .unset, .unset, .unset] [(.int (14 : Int32)), (.int (d &&& (2147483647 : Int32)))]
            refine Go.irem H at_271 rfl (by decide) ?_
            obtain ⟨q, hq, hq2⟩ := own_mod14 d
            rw [hq]
            refine Go.istore (ls' := #[.val (.int a), .val (.int b), .val (.int c), .val (.int d), .val (.int e), .val (.int (0 : Int32)), .val (.int (1 : Int32)), .val (.int ((a >>> ((2 : Int32) &&& 31)) &&& (3 : Int32))), .val (.ref a228), .val (.int (12 : Int32)), .val (.int p.toInt32), .val (.int (nar .char (c &&& (255 : Int32)))), .val (.int (0 : Int32)), .val (.int q.toInt32), .unset, .unset, .unset, .unset]) H at_272 rfl rfl ?_
            refine Go.new H at_274 rfl w2 w3 w4 (by decide) (by decide) ?_
            intro a435 h436 g437 z438 E439 A440 D441
            have ne442 : a228 ≠ a435 := Nat.ne_of_lt (Nat.lt_of_lt_of_le F374.lt (Nat.le_of_eq g437.symm))
            replace F374 := F374.ext E439
            have F443 : Fld Z h436 a435 "java/lang/String" "coder" "B" (.int (0 : Int32)) := D441 (Or.inr w32) (ty := .byte) (by decide)
            have F444 : Fld Z h436 a435 "java/lang/String" "value" "[B" .null := D441 (Or.inr w34) (ty := (.array .byte)) (by decide)
            show Go _ _ _ _ _ _ h436 [a435, a228] 2 17 277 #[.val (.int a), .val (.int b), .val (.int c), .val (.int d), .val (.int e), .val (.int (0 : Int32)), .val (.int (1 : Int32)), .val (.int ((a >>> ((2 : Int32) &&& 31)) &&& (3 : Int32))), .val (.ref a228), .val (.int (12 : Int32)), .val (.int p.toInt32), .val (.int (nar .char (c &&& (255 : Int32)))), .val (.int (0 : Int32)), .val (.int q.toInt32), .unset, .unset, .unset, .unset] [(.ref a435)]
            refine Go.dup H at_277 rfl rfl ?_
            refine Go.aload H at_278 rfl rfl rfl ?_
            refine Go.iload H at_280 rfl rfl ?_
            refine Go.callS (rest := [(.ref a435), (.ref a435)]) 2 [(.ref a228), (.int q.toInt32)] H at_282 rfl w5 w6 w7 w8 pd_N18 (ct_pre l W a228 ([(102 : Int32), (99 : Int32), (114 : Int32), (58 : Int32), (109 : Int32), (101 : Int32), (116 : Int32), (97 : Int32), (100 : Int32), (97 : Int32), (116 : Int32), (97 : Int32), (nar .char (e &&& (255 : Int32)))].set p (nar .char (c &&& (255 : Int32)))) q h436 F374 (by rw [List.length_set]; show _ ≤ 13; omega) (by rw [List.length_set]; exact Nat.le_of_ble_eq_true rfl) (own_setL (own_ac (show isL (102 : Int32) from ⟨by decide, by decide⟩) (own_ac (show isL (99 : Int32) from ⟨by decide, by decide⟩) (own_ac (show isL (114 : Int32) from ⟨by decide, by decide⟩) (own_ac (show isL (58 : Int32) from ⟨by decide, by decide⟩) (own_ac (show isL (109 : Int32) from ⟨by decide, by decide⟩) (own_ac (show isL (101 : Int32) from ⟨by decide, by decide⟩) (own_ac (show isL (116 : Int32) from ⟨by decide, by decide⟩) (own_ac (show isL (97 : Int32) from ⟨by decide, by decide⟩) (own_ac (show isL (100 : Int32) from ⟨by decide, by decide⟩) (own_ac (show isL (97 : Int32) from ⟨by decide, by decide⟩) (own_ac (show isL (116 : Int32) from ⟨by decide, by decide⟩) (own_ac (show isL (97 : Int32) from ⟨by decide, by decide⟩) (own_ac (own_and255 _) own_an))))))))))))) (own_and255 _))) all0 rfl rfl rfl (Nat.le_of_eq rfl) (by decide) (by decide) (by decide) (by decide) nh_N18 ?_
            rintro _ h446 _ ⟨r445, rfl, E447, g448, F449, rfl⟩
            have ne450 : a228 ≠ r445 := Nat.ne_of_lt (Nat.lt_of_lt_of_le F374.lt g448)
            have ne451 : a435 ≠ r445 := Nat.ne_of_lt (Nat.lt_of_lt_of_le A440.lt g448)
            replace F374 := F374.ext E447
            replace A440 := A440.ext E447
            replace F443 := F443.ext E447
            replace F444 := F444.ext E447
            show Go _ _ _ _ _ _ h446 [a435, a228] 3 30 285 #[.val (.int a), .val (.int b), .val (.int c), .val (.int d), .val (.int e), .val (.int (0 : Int32)), .val (.int (1 : Int32)), .val (.int ((a >>> ((2 : Int32) &&& 31)) &&& (3 : Int32))), .val (.ref a228), .val (.int (12 : Int32)), .val (.int p.toInt32), .val (.int (nar .char (c &&& (255 : Int32)))), .val (.int (0 : Int32)), .val (.int q.toInt32), .unset, .unset, .unset, .unset] [(.ref r445), (.ref a435), (.ref a435)]
            refine Go.callI (rest := [(.ref a435)]) 1 [(.ref r445)] H at_285 rfl rfl w9 w10 w4 w11 pd_N5 (ct_new1 l W a435 r445 (([(102 : Int32), (99 : Int32), (114 : Int32), (58 : Int32), (109 : Int32), (101 : Int32), (116 : Int32), (97 : Int32), (100 : Int32), (97 : Int32), (116 : Int32), (97 : Int32), (nar .char (e &&& (255 : Int32)))].set p (nar .char (c &&& (255 : Int32)))).take q) h446 A440 F444 F443  F449 (own_takeL' (own_setL (own_ac (show isL (102 : Int32) from ⟨by decide, by decide⟩) (own_ac (show isL (99 : Int32) from ⟨by decide, by decide⟩) (own_ac (show isL (114 : Int32) from ⟨by decide, by decide⟩) (own_ac (show isL (58 : Int32) from ⟨by decide, by decide⟩) (own_ac (show isL (109 : Int32) from ⟨by decide, by decide⟩) (own_ac (show isL (101 : Int32) from ⟨by decide, by decide⟩) (own_ac (show isL (116 : Int32) from ⟨by decide, by decide⟩) (own_ac (show isL (97 : Int32) from ⟨by decide, by decide⟩) (own_ac (show isL (100 : Int32) from ⟨by decide, by decide⟩) (own_ac (show isL (97 : Int32) from ⟨by decide, by decide⟩) (own_ac (show isL (116 : Int32) from ⟨by decide, by decide⟩) (own_ac (show isL (97 : Int32) from ⟨by decide, by decide⟩) (own_ac (own_and255 _) own_an))))))))))))) (own_and255 _))) (by rw [List.length_take, List.length_set]; exact Nat.le_trans (Nat.min_le_right _ _) (Nat.le_of_ble_eq_true rfl))  z438) (by simp) rfl rfl rfl (Nat.le_of_eq rfl) (by decide) (by decide) (by decide) (by decide) nh_N4 ?_
            rintro _ h452 _ ⟨rfl, K453, ⟨b454, S456⟩, rfl⟩
            replace F374 := F374.keep K453 (ninS ne442 nin0)
            replace F449 := F449.keep K453 (ninS (Ne.symm ne451) nin0)
            show Go _ _ _ _ _ _ h452 [a435, a228] 7 43 288 #[.val (.int a), .val (.int b), .val (.int c), .val (.int d), .val (.int e), .val (.int (0 : Int32)), .val (.int (1 : Int32)), .val (.int ((a >>> ((2 : Int32) &&& 31)) &&& (3 : Int32))), .val (.ref a228), .val (.int (12 : Int32)), .val (.int p.toInt32), .val (.int (nar .char (c &&& (255 : Int32)))), .val (.int (0 : Int32)), .val (.int q.toInt32), .unset, .unset, .unset, .unset] [(.ref a435)]
            refine Go.astore (ls' := #[.val (.int a), .val (.int b), .val (.int c), .val (.int d), .val (.int e), .val (.int (0 : Int32)), .val (.int (1 : Int32)), .val (.int ((a >>> ((2 : Int32) &&& 31)) &&& (3 : Int32))), .val (.ref a228), .val (.int (12 : Int32)), .val (.int p.toInt32), .val (.int (nar .char (c &&& (255 : Int32)))), .val (.int (0 : Int32)), .val (.int q.toInt32), .val (.ref a435), .unset, .unset, .unset]) H at_288 rfl rfl rfl ?_
            refine Go.aload H at_290 rfl rfl rfl ?_
            refine Go.callS (rest := []) 0 [(.ref a435)] H at_292 rfl w35 w36 w37 w38 pd_N17 (ct_bys l W a435 b454 (([(102 : Int32), (99 : Int32), (114 : Int32), (58 : Int32), (109 : Int32), (101 : Int32), (116 : Int32), (97 : Int32), (100 : Int32), (97 : Int32), (116 : Int32), (97 : Int32), (nar .char (e &&& (255 : Int32)))].set p (nar .char (c &&& (255 : Int32)))).take q) h452 S456) all0 rfl rfl rfl (Nat.le_of_eq rfl) (by decide) (by decide) (by decide) (by decide) nh_N10 ?_
            rintro _ h458 _ ⟨o457, rfl, E459, A460, F461, rfl⟩
            replace F374 := F374.ext E459
            replace F449 := F449.ext E459
            replace S456 := S456.ext E459
            show Go _ _ _ _ _ _ h458 [a435, a228] 9 46 295 #[.val (.int a), .val (.int b), .val (.int c), .val (.int d), .val (.int e), .val (.int (0 : Int32)), .val (.int (1 : Int32)), .val (.int ((a >>> ((2 : Int32) &&& 31)) &&& (3 : Int32))), .val (.ref a228), .val (.int (12 : Int32)), .val (.int p.toInt32), .val (.int (nar .char (c &&& (255 : Int32)))), .val (.int (0 : Int32)), .val (.int q.toInt32), .val (.ref a435), .unset, .unset, .unset] [(.ref o457)]
            refine Go.astore (ls' := #[.val (.int a), .val (.int b), .val (.int c), .val (.int d), .val (.int e), .val (.int (0 : Int32)), .val (.int (1 : Int32)), .val (.int ((a >>> ((2 : Int32) &&& 31)) &&& (3 : Int32))), .val (.ref a228), .val (.int (12 : Int32)), .val (.int p.toInt32), .val (.int (nar .char (c &&& (255 : Int32)))), .val (.int (0 : Int32)), .val (.int q.toInt32), .val (.ref a435), .val (.ref o457), .unset, .unset]) H at_295 rfl rfl rfl ?_
            refine Go.iload H at_297 rfl rfl ?_
            refine Go.iload H at_299 rfl rfl ?_
            by_cases c462 : q = 12
            ·
              refine Go.icmpN H at_301 (teq (by rw [c462]; rfl)).2 rfl ?_
              refine Go.iload H at_304 rfl rfl ?_
              refine Go.ifN H at_306 (by decide) rfl ?_
              refine Go.iload H at_309 rfl rfl ?_
              refine Go.iload H at_311 rfl rfl ?_
              by_cases c463 : p < 12
              ·
                refine Go.icmpN H at_313 (tlt (own_lt (n := 12) (by decide) c463)).2.1 rfl ?_
                refine Go.iload H at_316 rfl rfl ?_
                refine Go.ifY (pc' := 325) H at_318 (by decide) (by decide) (by decide) ?_
                refine Go.iconst (0 : Int32) H at_325 rfl rfl ?_
                refine Go.istore (ls' := #[.val (.int a), .val (.int b), .val (.int c), .val (.int d), .val (.int e), .val (.int (0 : Int32)), .val (.int (1 : Int32)), .val (.int ((a >>> ((2 : Int32) &&& 31)) &&& (3 : Int32))), .val (.ref a228), .val (.int (12 : Int32)), .val (.int p.toInt32), .val (.int (nar .char (c &&& (255 : Int32)))), .val (.int (0 : Int32)), .val (.int q.toInt32), .val (.ref a435), .val (.ref o457), .val (.int (0 : Int32)), .unset]) H at_326 rfl rfl ?_
                refine Go.iload H at_328 rfl rfl ?_
                refine Go.ifN H at_330 (by decide) rfl ?_
                have e464 : selV dD dA (([(102 : Int32), (99 : Int32), (114 : Int32), (58 : Int32), (109 : Int32), (101 : Int32), (116 : Int32), (97 : Int32), (100 : Int32), (97 : Int32), (116 : Int32), (97 : Int32), (nar .char (e &&& (255 : Int32)))].set p (nar .char (c &&& (255 : Int32)))).take q) = .null := (by rw [c462]; exact selD_ne c463 c276)
                rw [e464] at F461
                refine Go.aload H at_333 rfl rfl rfl ?_
                refine Go.callV (rest := []) 0 [] H at_335 rfl A460 w86 w87 w89 w88 w70 w90 pd_N15 (ct_isp0 l W o457 h458 F461) all0 rfl rfl rfl (Nat.le_of_eq rfl) (by decide) (by decide) (by decide) (by decide) nh_N12 ?_
                rintro _ _ _ ⟨rfl, rfl, rfl⟩
                show Go _ _ _ _ _ _ h458 [a435, a228] 9 46 338 #[.val (.int a), .val (.int b), .val (.int c), .val (.int d), .val (.int e), .val (.int (0 : Int32)), .val (.int (1 : Int32)), .val (.int ((a >>> ((2 : Int32) &&& 31)) &&& (3 : Int32))), .val (.ref a228), .val (.int (12 : Int32)), .val (.int p.toInt32), .val (.int (nar .char (c &&& (255 : Int32)))), .val (.int (0 : Int32)), .val (.int q.toInt32), .val (.ref a435), .val (.ref o457), .val (.int (0 : Int32)), .unset] [(.int (0 : Int32))]
                refine Go.ifN H at_338 (by decide) rfl ?_
                refine Go.iconst (1 : Int32) H at_341 rfl rfl ?_
                refine Go.goto (pc' := 346) H at_342 (by decide) (by decide) ?_
                exact Go.ireturn 1 [] H at_346 (by simp) (by decide) ⟨rfl, trivial⟩ all0 (by decide) (by decide)
              ·
                refine Go.icmpY (pc' := 321) H at_313 (flt (own_nlt (n := 12) (by omega) (by omega))).2.1 (by decide) (by decide) ?_
                refine Go.iconst (1 : Int32) H at_321 rfl rfl ?_
                refine Go.goto (pc' := 326) H at_322 (by decide) (by decide) ?_
                refine Go.istore (ls' := #[.val (.int a), .val (.int b), .val (.int c), .val (.int d), .val (.int e), .val (.int (0 : Int32)), .val (.int (1 : Int32)), .val (.int ((a >>> ((2 : Int32) &&& 31)) &&& (3 : Int32))), .val (.ref a228), .val (.int (12 : Int32)), .val (.int p.toInt32), .val (.int (nar .char (c &&& (255 : Int32)))), .val (.int (0 : Int32)), .val (.int q.toInt32), .val (.ref a435), .val (.ref o457), .val (.int (1 : Int32)), .unset]) H at_326 rfl rfl ?_
                refine Go.iload H at_328 rfl rfl ?_
                refine Go.ifY (pc' := 347) H at_330 (by decide) (by decide) (by decide) ?_
                have e465 : selV dD dA (([(102 : Int32), (99 : Int32), (114 : Int32), (58 : Int32), (109 : Int32), (101 : Int32), (116 : Int32), (97 : Int32), (100 : Int32), (97 : Int32), (116 : Int32), (97 : Int32), (nar .char (e &&& (255 : Int32)))].set p (nar .char (c &&& (255 : Int32)))).take q) = .ref dD := (by rw [c462]; exact selD_hit12 c463 hp2)
                rw [e465] at F461
                refine Go.iload H at_347 rfl rfl ?_
                refine Go.ifY (pc' := 358) H at_349 (by decide) (by decide) (by decide) ?_
                refine Go.getstatic H at_358 rfl w85 W.2.2.1 ?_
                refine Go.astore (ls' := #[.val (.int a), .val (.int b), .val (.int c), .val (.int d), .val (.int e), .val (.int (0 : Int32)), .val (.int (1 : Int32)), .val (.int ((a >>> ((2 : Int32) &&& 31)) &&& (3 : Int32))), .val (.ref a228), .val (.int (12 : Int32)), .val (.int p.toInt32), .val (.int (nar .char (c &&& (255 : Int32)))), .val (.int (0 : Int32)), .val (.int q.toInt32), .val (.ref a435), .val (.ref o457), .val (.int (1 : Int32)), .val (.ref dD)]) H at_361 rfl rfl rfl ?_
                refine Go.aload H at_363 rfl rfl rfl ?_
                refine Go.callV (rest := []) 0 [] H at_365 rfl A460 w86 w87 w89 w88 w70 w90 pd_N15 (ct_isp1 l W o457 dD h458 F461) all0 rfl rfl rfl (Nat.le_of_eq rfl) (by decide) (by decide) (by decide) (by decide) nh_N12 ?_
                rintro _ _ _ ⟨rfl, rfl, rfl⟩
                show Go _ _ _ _ _ _ h458 [a435, a228] 9 46 368 #[.val (.int a), .val (.int b), .val (.int c), .val (.int d), .val (.int e), .val (.int (0 : Int32)), .val (.int (1 : Int32)), .val (.int ((a >>> ((2 : Int32) &&& 31)) &&& (3 : Int32))), .val (.ref a228), .val (.int (12 : Int32)), .val (.int p.toInt32), .val (.int (nar .char (c &&& (255 : Int32)))), .val (.int (0 : Int32)), .val (.int q.toInt32), .val (.ref a435), .val (.ref o457), .val (.int (1 : Int32)), .val (.ref dD)] [(.int (1 : Int32))]
                refine Go.ifN H at_368 (by decide) rfl ?_
                refine Go.aload H at_371 rfl rfl rfl ?_
                refine Go.callV (rest := []) 0 [] H at_373 rfl A460 w91 w92 w94 w93 w70 w95 pd_N16 (ct_opg l W o457 dD h458 F461) all0 rfl rfl rfl (Nat.le_of_eq rfl) (by decide) (by decide) (by decide) (by decide) nh_N12 ?_
                rintro _ _ _ ⟨rfl, rfl, rfl⟩
                show Go _ _ _ _ _ _ h458 [a435, a228] 9 46 376 #[.val (.int a), .val (.int b), .val (.int c), .val (.int d), .val (.int e), .val (.int (0 : Int32)), .val (.int (1 : Int32)), .val (.int ((a >>> ((2 : Int32) &&& 31)) &&& (3 : Int32))), .val (.ref a228), .val (.int (12 : Int32)), .val (.int p.toInt32), .val (.int (nar .char (c &&& (255 : Int32)))), .val (.int (0 : Int32)), .val (.int q.toInt32), .val (.ref a435), .val (.ref o457), .val (.int (1 : Int32)), .val (.ref dD)] [(.ref dD)]
                refine Go.aload H at_376 rfl rfl rfl ?_
                refine Go.acmpN H at_378 rfl rfl (by simp [XT.acmp]) rfl ?_
                refine Go.iconst (1 : Int32) H at_381 rfl rfl ?_
                refine Go.goto (pc' := 386) H at_382 (by decide) (by decide) ?_
                exact Go.ireturn 1 [] H at_386 (by simp) (by decide) ⟨rfl, trivial⟩ all0 (by decide) (by decide)
            ·
              refine Go.icmpY (pc' := 325) H at_301 (feq (fun e => c462 (own_ofinj (n := 12) (by omega) (by decide) e))).2 (by decide) (by decide) ?_
              refine Go.iconst (0 : Int32) H at_325 rfl rfl ?_
              refine Go.istore (ls' := #[.val (.int a), .val (.int b), .val (.int c), .val (.int d), .val (.int e), .val (.int (0 : Int32)), .val (.int (1 : Int32)), .val (.int ((a >>> ((2 : Int32) &&& 31)) &&& (3 : Int32))), .val (.ref a228), .val (.int (12 : Int32)), .val (.int p.toInt32), .val (.int (nar .char (c &&& (255 : Int32)))), .val (.int (0 : Int32)), .val (.int q.toInt32), .val (.ref a435), .val (.ref o457), .val (.int (0 : Int32)), .unset]) H at_326 rfl rfl ?_
              refine Go.iload H at_328 rfl rfl ?_
              refine Go.ifN H at_330 (by decide) rfl ?_
              have e466 : selV dD dA (([(102 : Int32), (99 : Int32), (114 : Int32), (58 : Int32), (109 : Int32), (101 : Int32), (116 : Int32), (97 : Int32), (100 : Int32), (97 : Int32), (116 : Int32), (97 : Int32), (nar .char (e &&& (255 : Int32)))].set p (nar .char (c &&& (255 : Int32)))).take q) = .null := selD_len hp2 (by omega) c462
              rw [e466] at F461
              refine Go.aload H at_333 rfl rfl rfl ?_
              refine Go.callV (rest := []) 0 [] H at_335 rfl A460 w86 w87 w89 w88 w70 w90 pd_N15 (ct_isp0 l W o457 h458 F461) all0 rfl rfl rfl (Nat.le_of_eq rfl) (by decide) (by decide) (by decide) (by decide) nh_N12 ?_
              rintro _ _ _ ⟨rfl, rfl, rfl⟩
              show Go _ _ _ _ _ _ h458 [a435, a228] 9 46 338 #[.val (.int a), .val (.int b), .val (.int c), .val (.int d), .val (.int e), .val (.int (0 : Int32)), .val (.int (1 : Int32)), .val (.int ((a >>> ((2 : Int32) &&& 31)) &&& (3 : Int32))), .val (.ref a228), .val (.int (12 : Int32)), .val (.int p.toInt32), .val (.int (nar .char (c &&& (255 : Int32)))), .val (.int (0 : Int32)), .val (.int q.toInt32), .val (.ref a435), .val (.ref o457), .val (.int (0 : Int32)), .unset] [(.int (0 : Int32))]
              refine Go.ifN H at_338 (by decide) rfl ?_
              refine Go.iconst (1 : Int32) H at_341 rfl rfl ?_
              refine Go.goto (pc' := 346) H at_342 (by decide) (by decide) ?_
              exact Go.ireturn 1 [] H at_346 (by simp) (by decide) ⟨rfl, trivial⟩ all0 (by decide) (by decide)
  ·
    refine Go.ifN H at_3 (feq c1).1 rfl ?_
    refine Go.iconst (1 : Int32) H at_6 rfl rfl ?_
    refine Go.goto (pc' := 11) H at_7 (by decide) (by decide) ?_
    refine Go.istore (ls' := #[.val (.int a), .val (.int b), .val (.int c), .val (.int d), .val (.int e), .val (.int (1 : Int32)), .unset, .unset, .unset, .unset, .unset, .unset, .unset, .unset, .unset, .unset, .unset, .unset]) H at_11 rfl rfl ?_
    refine Go.iloadN H at_13 rfl rfl ?_
    refine Go.iconst (1 : Int32) H at_14 rfl rfl ?_
    refine Go.ishr H at_15 rfl ?_
    refine Go.iconst (1 : Int32) H at_16 rfl rfl ?_
    refine Go.iand H at_17 rfl ?_
    by_cases c467 : ((a >>> ((1 : Int32) &&& 31)) &&& (1 : Int32)) = (0 : Int32)
    ·
      refine Go.ifY (pc' := 25) H at_18 (teq c467).1 (by decide) (by decide) ?_
      refine Go.iconst (0 : Int32) H at_25 rfl rfl ?_
      refine Go.istore (ls' := #[.val (.int a), .val (.int b), .val (.int c), .val (.int d), .val (.int e), .val (.int (1 : Int32)), .val (.int (0 : Int32)), .unset, .unset, .unset, .unset, .unset, .unset, .unset, .unset, .unset, .unset, .unset]) H at_26 rfl rfl ?_
      refine Go.iloadN H at_28 rfl rfl ?_
      refine Go.iconst (2 : Int32) H at_29 rfl rfl ?_
      refine Go.ishr H at_30 rfl ?_
      refine Go.iconst (3 : Int32) H at_31 rfl rfl ?_
      refine Go.iand H at_32 rfl ?_
      refine Go.istore (ls' := #[.val (.int a), .val (.int b), .val (.int c), .val (.int d), .val (.int e), .val (.int (1 : Int32)), .val (.int (0 : Int32)), .val (.int ((a >>> ((2 : Int32) &&& 31)) &&& (3 : Int32))), .unset, .unset, .unset, .unset, .unset, .unset, .unset, .unset, .unset, .unset]) H at_33 rfl rfl ?_
      refine Go.iload H at_35 rfl rfl ?_
      refine Go.ifN H at_37 (by decide) rfl ?_
      refine Go.bipush (8 : Int32) H at_40 rfl rfl ?_
      refine Go.newarray 8 8 H at_42 rfl w0 rfl (by decide) (by decide) (by decide) (by decide) (by decide) (by decide) (by decide) ?_
      intro a468 h469 g470 z471 E472 F473
      replace F473 : Vec Z h469 a468 .char [(0 : Int32), (0 : Int32), (0 : Int32), (0 : Int32), (0 : Int32), (0 : Int32), (0 : Int32), (0 : Int32)] := F473
      show Go _ _ _ _ _ _ h469 [a468] 1 8 44 #[.val (.int a), .val (.int b), .val (.int c), .val (.int d), .val (.int e), .val (.int (1 : Int32)), .val (.int (0 : Int32)), .val (.int ((a >>> ((2 : Int32) &&& 31)) &&& (3 : Int32))), .unset, .unset, .unset, .unset, .unset, .unset, .unset, .unset, .unset, .unset] [(.ref a468)]
      refine Go.dup H at_44 rfl rfl ?_
      refine Go.iconst (0 : Int32) H at_45 rfl rfl ?_
      refine Go.bipush (102 : Int32) H at_46 rfl rfl ?_
      refine Go.castore (102 : Int32) H at_48 rfl F473 0 (by decide) (by decide) (Nat.le_of_ble_eq_true rfl) (by decide) z471 (by simp) ?_
      intro h474 K475 F476
      replace F476 : Vec Z h474 a468 .char [(102 : Int32), (0 : Int32), (0 : Int32), (0 : Int32), (0 : Int32), (0 : Int32), (0 : Int32), (0 : Int32)] := F476
      refine Go.dup H at_49 rfl rfl ?_
      refine Go.iconst (1 : Int32) H at_50 rfl rfl ?_
      refine Go.bipush (99 : Int32) H at_51 rfl rfl ?_
      refine Go.castore (99 : Int32) H at_53 rfl F476 1 (by decide) (by decide) (Nat.le_of_ble_eq_true rfl) (by decide) z471 (by simp) ?_
      intro h477 K478 F479
      replace F479 : Vec Z h477 a468 .char [(102 : Int32), (99 : Int32), (0 : Int32), (0 : Int32), (0 : Int32), (0 : Int32), (0 : Int32), (0 : Int32)] := F479
      refine Go.dup H at_54 rfl rfl ?_
      refine Go.iconst (2 : Int32) H at_55 rfl rfl ?_
      refine Go.bipush (114 : Int32) H at_56 rfl rfl ?_
      refine Go.castore (114 : Int32) H at_58 rfl F479 2 (by decide) (by decide) (Nat.le_of_ble_eq_true rfl) (by decide) z471 (by simp) ?_
      intro h480 K481 F482
      replace F482 : Vec Z h480 a468 .char [(102 : Int32), (99 : Int32), (114 : Int32), (0 : Int32), (0 : Int32), (0 : Int32), (0 : Int32), (0 : Int32)] := F482
      refine Go.dup H at_59 rfl rfl ?_
      refine Go.iconst (3 : Int32) H at_60 rfl rfl ?_
      refine Go.bipush (58 : Int32) H at_61 rfl rfl ?_
      refine Go.castore (58 : Int32) H at_63 rfl F482 3 (by decide) (by decide) (Nat.le_of_ble_eq_true rfl) (by decide) z471 (by simp) ?_
      intro h483 K484 F485
      replace F485 : Vec Z h483 a468 .char [(102 : Int32), (99 : Int32), (114 : Int32), (58 : Int32), (0 : Int32), (0 : Int32), (0 : Int32), (0 : Int32)] := F485
      refine Go.dup H at_64 rfl rfl ?_
      refine Go.iconst (4 : Int32) H at_65 rfl rfl ?_
      refine Go.bipush (97 : Int32) H at_66 rfl rfl ?_
      refine Go.castore (97 : Int32) H at_68 rfl F485 4 (by decide) (by decide) (Nat.le_of_ble_eq_true rfl) (by decide) z471 (by simp) ?_
      intro h486 K487 F488
      replace F488 : Vec Z h486 a468 .char [(102 : Int32), (99 : Int32), (114 : Int32), (58 : Int32), (97 : Int32), (0 : Int32), (0 : Int32), (0 : Int32)] := F488
      refine Go.dup H at_69 rfl rfl ?_
      refine Go.iconst (5 : Int32) H at_70 rfl rfl ?_
      refine Go.bipush (99 : Int32) H at_71 rfl rfl ?_
      refine Go.castore (99 : Int32) H at_73 rfl F488 5 (by decide) (by decide) (Nat.le_of_ble_eq_true rfl) (by decide) z471 (by simp) ?_
      intro h489 K490 F491
      replace F491 : Vec Z h489 a468 .char [(102 : Int32), (99 : Int32), (114 : Int32), (58 : Int32), (97 : Int32), (99 : Int32), (0 : Int32), (0 : Int32)] := F491
      refine Go.dup H at_74 rfl rfl ?_
      refine Go.bipush (6 : Int32) H at_75 rfl rfl ?_
      refine Go.bipush (108 : Int32) H at_77 rfl rfl ?_
      refine Go.castore (108 : Int32) H at_79 rfl F491 6 (by decide) (by decide) (Nat.le_of_ble_eq_true rfl) (by decide) z471 (by simp) ?_
      intro h492 K493 F494
      replace F494 : Vec Z h492 a468 .char [(102 : Int32), (99 : Int32), (114 : Int32), (58 : Int32), (97 : Int32), (99 : Int32), (108 : Int32), (0 : Int32)] := F494
      refine Go.dup H at_80 rfl rfl ?_
      refine Go.bipush (7 : Int32) H at_81 rfl rfl ?_
      refine Go.bipush (120 : Int32) H at_83 rfl rfl ?_
      refine Go.castore (120 : Int32) H at_85 rfl F494 7 (by decide) (by decide) (Nat.le_of_ble_eq_true rfl) (by decide) z471 (by simp) ?_
      intro h495 K496 F497
      replace F497 : Vec Z h495 a468 .char [(102 : Int32), (99 : Int32), (114 : Int32), (58 : Int32), (97 : Int32), (99 : Int32), (108 : Int32), (120 : Int32)] := F497
      refine Go.astore (ls' := #[.val (.int a), .val (.int b), .val (.int c), .val (.int d), .val (.int e), .val (.int (1 : Int32)), .val (.int (0 : Int32)), .val (.int ((a >>> ((2 : Int32) &&& 31)) &&& (3 : Int32))), .val (.ref a468), .unset, .unset, .unset, .unset, .unset, .unset, .unset, .unset, .unset]) H at_86 rfl rfl rfl ?_
      refine Go.goto (pc' := 169) H at_88 (by decide) (by decide) ?_
      refine Go.aload H at_169 rfl rfl rfl ?_
      refine Go.arraylength (8 : Int32) H at_171 rfl F497 rfl ?_
      refine Go.iconst (1 : Int32) H at_172 rfl rfl ?_
      refine Go.isub H at_173 rfl ?_
      show Go _ _ _ _ _ _ h495 [a468] 1 8 174 #[.val (.int a), .val (.int b), .val (.int c), .val (.int d), .val (.int e), .val (.int (1 : Int32)), .val (.int (0 : Int32)), .val (.int ((a >>> ((2 : Int32) &&& 31)) &&& (3 : Int32))), .val (.ref a468), .unset, .unset, .unset, .unset, .unset, .unset, .unset, .unset, .unset] [(.int (7 : Int32))]
      refine Go.istore (ls' := #[.val (.int a), .val (.int b), .val (.int c), .val (.int d), .val (.int e), .val (.int (1 : Int32)), .val (.int (0 : Int32)), .val (.int ((a >>> ((2 : Int32) &&& 31)) &&& (3 : Int32))), .val (.ref a468), .val (.int (7 : Int32)), .unset, .unset, .unset, .unset, .unset, .unset, .unset, .unset]) H at_174 rfl rfl ?_
      refine Go.aload H at_176 rfl rfl rfl ?_
      refine Go.iload H at_178 rfl rfl ?_
      refine Go.iload H at_180 rfl rfl ?_
      refine Go.sipush (255 : Int32) H at_182 rfl rfl ?_
      refine Go.iand H at_185 rfl ?_
      refine Go.i2c H at_186 rfl ?_
      refine Go.castore (nar .char (e &&& (255 : Int32))) H at_187 rfl F497 7 (by decide) (by decide) (Nat.le_of_ble_eq_true rfl) own_nn z471 (by simp) ?_
      intro h498 K499 F500
      replace F500 : Vec Z h498 a468 .char [(102 : Int32), (99 : Int32), (114 : Int32), (58 : Int32), (97 : Int32), (99 : Int32), (108 : Int32), (nar .char (e &&& (255 : Int32)))] := F500
      refine Go.iloadN H at_188 rfl rfl ?_
      refine Go.ldcInt H at_189 rfl w1 ?_
      refine Go.iand H at_191 rfl ?_
      refine Go.iload H at_192 rfl rfl ?_
      refine Go.iconst (1 : Int32) H at_194 rfl rfl ?_
      refine Go.iadd H at_195 rfl ?_
      show Go _ _ _ _ _ _ h498 [a468] 1 8 196 #[.val (.int a), .val (.int b), .val (.int c), .val (.int d), .val (.int e), .val (.int (1 : Int32)), .val (.int (0 : Int32)), .val (.int ((a >>> ((2 : Int32) &&& 31)) &&& (3 : Int32))), .val (.ref a468), .val (.int (7 : Int32)), .unset, .unset, .unset, .unset, .unset, .unset, .unset, .unset] [(.int (8 : Int32)), (.int (b &&& (2147483647 : Int32)))]
      refine Go.irem H at_196 rfl (by decide) ?_
      obtain ⟨p, hp, hp2⟩ := own_mod8 b
      rw [hp]
      refine Go.istore (ls' := #[.val (.int a), .val (.int b), .val (.int c), .val (.int d), .val (.int e), .val (.int (1 : Int32)), .val (.int (0 : Int32)), .val (.int ((a >>> ((2 : Int32) &&& 31)) &&& (3 : Int32))), .val (.ref a468), .val (.int (7 : Int32)), .val (.int p.toInt32), .unset, .unset, .unset, .unset, .unset, .unset, .unset]) H at_197 rfl rfl ?_
      refine Go.iloadN H at_199 rfl rfl ?_
      refine Go.sipush (255 : Int32) H at_200 rfl rfl ?_
      refine Go.iand H at_203 rfl ?_
      refine Go.i2c H at_204 rfl ?_
      refine Go.istore (ls' := #[.val (.int a), .val (.int b), .val (.int c), .val (.int d), .val (.int e), .val (.int (1 : Int32)), .val (.int (0 : Int32)), .val (.int ((a >>> ((2 : Int32) &&& 31)) &&& (3 : Int32))), .val (.ref a468), .val (.int (7 : Int32)), .val (.int p.toInt32), .val (.int (nar .char (c &&& (255 : Int32)))), .unset, .unset, .unset, .unset, .unset, .unset]) H at_205 rfl rfl ?_
      refine Go.aload H at_207 rfl rfl rfl ?_
      refine Go.iload H at_209 rfl rfl ?_
      refine Go.caload (v := ([(102 : Int32), (99 : Int32), (114 : Int32), (58 : Int32), (97 : Int32), (99 : Int32), (108 : Int32), (nar .char (e &&& (255 : Int32)))].getD p 0)) H at_211 rfl F500 p (own_cl (by omega)) (own_n0 (by omega)) (own_gd (show p < [(102 : Int32), (99 : Int32), (114 : Int32), (58 : Int32), (97 : Int32), (99 : Int32), (108 : Int32), (nar .char (e &&& (255 : Int32)))].length from hp2)) ?_
      refine Go.iload H at_212 rfl rfl ?_
      by_cases c501 : ([(102 : Int32), (99 : Int32), (114 : Int32), (58 : Int32), (97 : Int32), (99 : Int32), (108 : Int32), (nar .char (e &&& (255 : Int32)))].getD p 0) = (nar .char (c &&& (255 : Int32)))
      ·
        refine Go.icmpN H at_214 (teq c501).2 rfl ?_
        refine Go.iconst (1 : Int32) H at_217 rfl rfl ?_
        refine Go.goto (pc' := 222) H at_218 (by decide) (by decide) ?_
        refine Go.istore (ls' := #[.val (.int a), .val (.int b), .val (.int c), .val (.int d), .val (.int e), .val (.int (1 : Int32)), .val (.int (0 : Int32)), .val (.int ((a >>> ((2 : Int32) &&& 31)) &&& (3 : Int32))), .val (.ref a468), .val (.int (7 : Int32)), .val (.int p.toInt32), .val (.int (nar .char (c &&& (255 : Int32)))), .val (.int (1 : Int32)), .unset, .unset, .unset, .unset, .unset]) H at_222 rfl rfl ?_
        refine Go.iload H at_224 rfl rfl ?_
        refine Go.ifY (pc' := 236) H at_226 (by decide) (by decide) (by decide) ?_
        refine Go.iload H at_236 rfl rfl ?_
        by_cases c502 : ((a >>> ((2 : Int32) &&& 31)) &&& (3 : Int32)) = (0 : Int32)
        ·
          refine Go.ifN H at_238 (teq c502).2 rfl ?_
          refine Go.iload H at_241 rfl rfl ?_
          refine Go.istore (ls' := #[.val (.int a), .val (.int b), .val (.int c), .val (.int d), .val (.int e), .val (.int (1 : Int32)), .val (.int (0 : Int32)), .val (.int ((a >>> ((2 : Int32) &&& 31)) &&& (3 : Int32))), .val (.ref a468), .val (.int (7 : Int32)), .val (.int p.toInt32), .val (.int (nar .char (c &&& (255 : Int32)))), .val (.int (1 : Int32)), .val (.int (7 : Int32)), .unset, .unset, .unset, .unset]) H at_243 rfl rfl ?_
          refine Go.goto (pc' := 274) H at_245 (by decide) (by decide) ?_
          refine Go.new H at_274 rfl w2 w3 w4 (by decide) (by decide) ?_
          intro a503 h504 g505 z506 E507 A508 D509
          have ne510 : a468 ≠ a503 := Nat.ne_of_lt (Nat.lt_of_lt_of_le F500.lt (Nat.le_of_eq g505.symm))
          replace F500 := F500.ext E507
          have F511 : Fld Z h504 a503 "java/lang/String" "coder" "B" (.int (0 : Int32)) := D509 (Or.inr w32) (ty := .byte) (by decide)
          have F512 : Fld Z h504 a503 "java/lang/String" "value" "[B" .null := D509 (Or.inr w34) (ty := (.array .byte)) (by decide)
          show Go _ _ _ _ _ _ h504 [a503, a468] 2 12 277 #[.val (.int a), .val (.int b), .val (.int c), .val (.int d), .val (.int e), .val (.int (1 : Int32)), .val (.int (0 : Int32)), .val (.int ((a >>> ((2 : Int32) &&& 31)) &&& (3 : Int32))), .val (.ref a468), .val (.int (7 : Int32)), .val (.int p.toInt32), .val (.int (nar .char (c &&& (255 : Int32)))), .val (.int (1 : Int32)), .val (.int (7 : Int32)), .unset, .unset, .unset, .unset] [(.ref a503)]
          refine Go.dup H at_277 rfl rfl ?_
          refine Go.aload H at_278 rfl rfl rfl ?_
          refine Go.iload H at_280 rfl rfl ?_
          refine Go.callS (rest := [(.ref a503), (.ref a503)]) 2 [(.ref a468), (.int (7 : Int32))] H at_282 rfl w5 w6 w7 w8 pd_N18 (ct_pre l W a468 [(102 : Int32), (99 : Int32), (114 : Int32), (58 : Int32), (97 : Int32), (99 : Int32), (108 : Int32), (nar .char (e &&& (255 : Int32)))] 7 h504 F500 (show _ ≤ 8 by omega) (Nat.le_of_ble_eq_true rfl) (own_ac (show isL (102 : Int32) from ⟨by decide, by decide⟩) (own_ac (show isL (99 : Int32) from ⟨by decide, by decide⟩) (own_ac (show isL (114 : Int32) from ⟨by decide, by decide⟩) (own_ac (show isL (58 : Int32) from ⟨by decide, by decide⟩) (own_ac (show isL (97 : Int32) from ⟨by decide, by decide⟩) (own_ac (show isL (99 : Int32) from ⟨by decide, by decide⟩) (own_ac (show isL (108 : Int32) from ⟨by decide, by decide⟩) (own_ac (own_and255 _) own_an))))))))) all0 rfl rfl rfl (Nat.le_of_eq rfl) (by decide) (by decide) (by decide) (by decide) nh_N18 ?_
          rintro _ h514 _ ⟨r513, rfl, E515, g516, F517, rfl⟩
          have ne518 : a468 ≠ r513 := Nat.ne_of_lt (Nat.lt_of_lt_of_le F500.lt g516)
          have ne519 : a503 ≠ r513 := Nat.ne_of_lt (Nat.lt_of_lt_of_le A508.lt g516)
          replace F500 := F500.ext E515
          replace A508 := A508.ext E515
          replace F511 := F511.ext E515
          replace F512 := F512.ext E515
          show Go _ _ _ _ _ _ h514 [a503, a468] 3 25 285 #[.val (.int a), .val (.int b), .val (.int c), .val (.int d), .val (.int e), .val (.int (1 : Int32)), .val (.int (0 : Int32)), .val (.int ((a >>> ((2 : Int32) &&& 31)) &&& (3 : Int32))), .val (.ref a468), .val (.int (7 : Int32)), .val (.int p.toInt32), .val (.int (nar .char (c &&& (255 : Int32)))), .val (.int (1 : Int32)), .val (.int (7 : Int32)), .unset, .unset, .unset, .unset] [(.ref r513), (.ref a503), (.ref a503)]
          refine Go.callI (rest := [(.ref a503)]) 1 [(.ref r513)] H at_285 rfl rfl w9 w10 w4 w11 pd_N5 (ct_new1 l W a503 r513 ([(102 : Int32), (99 : Int32), (114 : Int32), (58 : Int32), (97 : Int32), (99 : Int32), (108 : Int32), (nar .char (e &&& (255 : Int32)))].take 7) h514 A508 F512 F511  F517 (own_takeL' (own_ac (show isL (102 : Int32) from ⟨by decide, by decide⟩) (own_ac (show isL (99 : Int32) from ⟨by decide, by decide⟩) (own_ac (show isL (114 : Int32) from ⟨by decide, by decide⟩) (own_ac (show isL (58 : Int32) from ⟨by decide, by decide⟩) (own_ac (show isL (97 : Int32) from ⟨by decide, by decide⟩) (own_ac (show isL (99 : Int32) from ⟨by decide, by decide⟩) (own_ac (show isL (108 : Int32) from ⟨by decide, by decide⟩) (own_ac (own_and255 _) own_an))))))))) (by rw [List.length_take]; exact Nat.le_trans (Nat.min_le_right _ _) (Nat.le_of_ble_eq_true rfl))  z506) (by simp) rfl rfl rfl (Nat.le_of_eq rfl) (by decide) (by decide) (by decide) (by decide) nh_N4 ?_
          rintro _ h520 _ ⟨rfl, K521, ⟨b522, S524⟩, rfl⟩
          replace F500 := F500.keep K521 (ninS ne510 nin0)
          replace F517 := F517.keep K521 (ninS (Ne.symm ne519) nin0)
          show Go _ _ _ _ _ _ h520 [a503, a468] 7 38 288 #[.val (.int a), .val (.int b), .val (.int c), .val (.int d), .val (.int e), .val (.int (1 : Int32)), .val (.int (0 : Int32)), .val (.int ((a >>> ((2 : Int32) &&& 31)) &&& (3 : Int32))), .val (.ref a468), .val (.int (7 : Int32)), .val (.int p.toInt32), .val (.int (nar .char (c &&& (255 : Int32)))), .val (.int (1 : Int32)), .val (.int (7 : Int32)), .unset, .unset, .unset, .unset] [(.ref a503)]
          refine Go.astore (ls' := #[.val (.int a), .val (.int b), .val (.int c), .val (.int d), .val (.int e), .val (.int (1 : Int32)), .val (.int (0 : Int32)), .val (.int ((a >>> ((2 : Int32) &&& 31)) &&& (3 : Int32))), .val (.ref a468), .val (.int (7 : Int32)), .val (.int p.toInt32), .val (.int (nar .char (c &&& (255 : Int32)))), .val (.int (1 : Int32)), .val (.int (7 : Int32)), .val (.ref a503), .unset, .unset, .unset]) H at_288 rfl rfl rfl ?_
          refine Go.aload H at_290 rfl rfl rfl ?_
          refine Go.callS (rest := []) 0 [(.ref a503)] H at_292 rfl w35 w36 w37 w38 pd_N17 (ct_bys l W a503 b522 ([(102 : Int32), (99 : Int32), (114 : Int32), (58 : Int32), (97 : Int32), (99 : Int32), (108 : Int32), (nar .char (e &&& (255 : Int32)))].take 7) h520 S524) all0 rfl rfl rfl (Nat.le_of_eq rfl) (by decide) (by decide) (by decide) (by decide) nh_N10 ?_
          rintro _ h526 _ ⟨o525, rfl, E527, A528, F529, rfl⟩
          replace F500 := F500.ext E527
          replace F517 := F517.ext E527
          replace S524 := S524.ext E527
          show Go _ _ _ _ _ _ h526 [a503, a468] 9 41 295 #[.val (.int a), .val (.int b), .val (.int c), .val (.int d), .val (.int e), .val (.int (1 : Int32)), .val (.int (0 : Int32)), .val (.int ((a >>> ((2 : Int32) &&& 31)) &&& (3 : Int32))), .val (.ref a468), .val (.int (7 : Int32)), .val (.int p.toInt32), .val (.int (nar .char (c &&& (255 : Int32)))), .val (.int (1 : Int32)), .val (.int (7 : Int32)), .val (.ref a503), .unset, .unset, .unset] [(.ref o525)]
          refine Go.astore (ls' := #[.val (.int a), .val (.int b), .val (.int c), .val (.int d), .val (.int e), .val (.int (1 : Int32)), .val (.int (0 : Int32)), .val (.int ((a >>> ((2 : Int32) &&& 31)) &&& (3 : Int32))), .val (.ref a468), .val (.int (7 : Int32)), .val (.int p.toInt32), .val (.int (nar .char (c &&& (255 : Int32)))), .val (.int (1 : Int32)), .val (.int (7 : Int32)), .val (.ref a503), .val (.ref o525), .unset, .unset]) H at_295 rfl rfl rfl ?_
          refine Go.iload H at_297 rfl rfl ?_
          refine Go.iload H at_299 rfl rfl ?_
          refine Go.icmpN H at_301 (by decide) rfl ?_
          refine Go.iload H at_304 rfl rfl ?_
          refine Go.ifY (pc' := 321) H at_306 (by decide) (by decide) (by decide) ?_
          refine Go.iconst (1 : Int32) H at_321 rfl rfl ?_
          refine Go.goto (pc' := 326) H at_322 (by decide) (by decide) ?_
          refine Go.istore (ls' := #[.val (.int a), .val (.int b), .val (.int c), .val (.int d), .val (.int e), .val (.int (1 : Int32)), .val (.int (0 : Int32)), .val (.int ((a >>> ((2 : Int32) &&& 31)) &&& (3 : Int32))), .val (.ref a468), .val (.int (7 : Int32)), .val (.int p.toInt32), .val (.int (nar .char (c &&& (255 : Int32)))), .val (.int (1 : Int32)), .val (.int (7 : Int32)), .val (.ref a503), .val (.ref o525), .val (.int (1 : Int32)), .unset]) H at_326 rfl rfl ?_
          refine Go.iload H at_328 rfl rfl ?_
          refine Go.ifY (pc' := 347) H at_330 (by decide) (by decide) (by decide) ?_
          have e530 : selV dD dA ([(102 : Int32), (99 : Int32), (114 : Int32), (58 : Int32), (97 : Int32), (99 : Int32), (108 : Int32), (nar .char (e &&& (255 : Int32)))].take 7) = .ref dA := selA_hit
          rw [e530] at F529
          refine Go.iload H at_347 rfl rfl ?_
          refine Go.ifN H at_349 (by decide) rfl ?_
          refine Go.getstatic H at_352 rfl w103 W.2.2.2.1 ?_
          refine Go.goto (pc' := 361) H at_355 (by decide) (by decide) ?_
          refine Go.astore (ls' := #[.val (.int a), .val (.int b), .val (.int c), .val (.int d), .val (.int e), .val (.int (1 : Int32)), .val (.int (0 : Int32)), .val (.int ((a >>> ((2 : Int32) &&& 31)) &&& (3 : Int32))), .val (.ref a468), .val (.int (7 : Int32)), .val (.int p.toInt32), .val (.int (nar .char (c &&& (255 : Int32)))), .val (.int (1 : Int32)), .val (.int (7 : Int32)), .val (.ref a503), .val (.ref o525), .val (.int (1 : Int32)), .val (.ref dA)]) H at_361 rfl rfl rfl ?_
          refine Go.aload H at_363 rfl rfl rfl ?_
          refine Go.callV (rest := []) 0 [] H at_365 rfl A528 w86 w87 w89 w88 w70 w90 pd_N15 (ct_isp1 l W o525 dA h526 F529) all0 rfl rfl rfl (Nat.le_of_eq rfl) (by decide) (by decide) (by decide) (by decide) nh_N12 ?_
          rintro _ _ _ ⟨rfl, rfl, rfl⟩
          show Go _ _ _ _ _ _ h526 [a503, a468] 9 41 368 #[.val (.int a), .val (.int b), .val (.int c), .val (.int d), .val (.int e), .val (.int (1 : Int32)), .val (.int (0 : Int32)), .val (.int ((a >>> ((2 : Int32) &&& 31)) &&& (3 : Int32))), .val (.ref a468), .val (.int (7 : Int32)), .val (.int p.toInt32), .val (.int (nar .char (c &&& (255 : Int32)))), .val (.int (1 : Int32)), .val (.int (7 : Int32)), .val (.ref a503), .val (.ref o525), .val (.int (1 : Int32)), .val (.ref dA)] [(.int (1 : Int32))]
          refine Go.ifN H at_368 (by decide) rfl ?_
          refine Go.aload H at_371 rfl rfl rfl ?_
          refine Go.callV (rest := []) 0 [] H at_373 rfl A528 w91 w92 w94 w93 w70 w95 pd_N16 (ct_opg l W o525 dA h526 F529) all0 rfl rfl rfl (Nat.le_of_eq rfl) (by decide) (by decide) (by decide) (by decide) nh_N12 ?_
          rintro _ _ _ ⟨rfl, rfl, rfl⟩
          show Go _ _ _ _ _ _ h526 [a503, a468] 9 41 376 #[.val (.int a), .val (.int b), .val (.int c), .val (.int d), .val (.int e), .val (.int (1 : Int32)), .val (.int (0 : Int32)), .val (.int ((a >>> ((2 : Int32) &&& 31)) &&& (3 : Int32))), .val (.ref a468), .val (.int (7 : Int32)), .val (.int p.toInt32), .val (.int (nar .char (c &&& (255 : Int32)))), .val (.int (1 : Int32)), .val (.int (7 : Int32)), .val (.ref a503), .val (.ref o525), .val (.int (1 : Int32)), .val (.ref dA)] [(.ref dA)]
          refine Go.aload H at_376 rfl rfl rfl ?_
          refine Go.acmpN H at_378 rfl rfl (by simp [XT.acmp]) rfl ?_
          refine Go.iconst (1 : Int32) H at_381 rfl rfl ?_
          refine Go.goto (pc' := 386) H at_382 (by decide) (by decide) ?_
          exact Go.ireturn 1 [] H at_386 (by simp) (by decide) ⟨rfl, trivial⟩ all0 (by decide) (by decide)
        ·
          refine Go.ifY (pc' := 248) H at_238 (feq c502).2 (by decide) (by decide) ?_
          refine Go.iload H at_248 rfl rfl ?_
          refine Go.iconst (1 : Int32) H at_250 rfl rfl ?_
          by_cases c531 : ((a >>> ((2 : Int32) &&& 31)) &&& (3 : Int32)) = (1 : Int32)
          ·
            refine Go.icmpN H at_251 (teq c531).2 rfl ?_
            refine Go.iload H at_254 rfl rfl ?_
            refine Go.iconst (1 : Int32) H at_256 rfl rfl ?_
            refine Go.iadd H at_257 rfl ?_
            show Go _ _ _ _ _ _ h498 [a468] 1 8 258 #[.val (.int a), .val (.int b), .val (.int c), .val (.int d), .val (.int e), .val (.int (1 : Int32)), .val (.int (0 : Int32)), .val (.int ((a >>> ((2 : Int32) &&& 31)) &&& (3 : Int32))), .val (.ref a468), .val (.int (7 : Int32)), .val (.int p.toInt32), .val (.int (nar .char (c &&& (255 : Int32)))), .val (.int (1 : Int32)), .unset, .unset, .unset, .unset, .unset] [(.int (8 : Int32))]
            refine Go.istore (ls' := #[.val (.int a), .val (.int b), .val (.int c), .val (.int d), .val (.int e), .val (.int (1 : Int32)), .val (.int (0 : Int32)), .val (.int ((a >>> ((2 : Int32) &&& 31)) &&& (3 : Int32))), .val (.ref a468), .val (.int (7 : Int32)), .val (.int p.toInt32), .val (.int (nar .char (c &&& (255 : Int32)))), .val (.int (1 : Int32)), .val (.int (8 : Int32)), .unset, .unset, .unset, .unset]) H at_258 rfl rfl ?_
            refine Go.goto (pc' := 274) H at_260 (by decide) (by decide) ?_
            refine Go.new H at_274 rfl w2 w3 w4 (by decide) (by decide) ?_
            intro a532 h533 g534 z535 E536 A537 D538
            have ne539 : a468 ≠ a532 := Nat.ne_of_lt (Nat.lt_of_lt_of_le F500.lt (Nat.le_of_eq g534.symm))
            replace F500 := F500.ext E536
            have F540 : Fld Z h533 a532 "java/lang/String" "coder" "B" (.int (0 : Int32)) := D538 (Or.inr w32) (ty := .byte) (by decide)
            have F541 : Fld Z h533 a532 "java/lang/String" "value" "[B" .null := D538 (Or.inr w34) (ty := (.array .byte)) (by decide)
            show Go _ _ _ _ _ _ h533 [a532, a468] 2 12 277 #[.val (.int a), .val (.int b), .val (.int c), .val (.int d), .val (.int e), .val (.int (1 : Int32)), .val (.int (0 : Int32)), .val (.int ((a >>> ((2 : Int32) &&& 31)) &&& (3 : Int32))), .val (.ref a468), .val (.int (7 : Int32)), .val (.int p.toInt32), .val (.int (nar .char (c &&& (255 : Int32)))), .val (.int (1 : Int32)), .val (.int (8 : Int32)), .unset, .unset, .unset, .unset] [(.ref a532)]
            refine Go.dup H at_277 rfl rfl ?_
            refine Go.aload H at_278 rfl rfl rfl ?_
            refine Go.iload H at_280 rfl rfl ?_
            refine Go.callS (rest := [(.ref a532), (.ref a532)]) 2 [(.ref a468), (.int (8 : Int32))] H at_282 rfl w5 w6 w7 w8 pd_N18 (ct_pre l W a468 [(102 : Int32), (99 : Int32), (114 : Int32), (58 : Int32), (97 : Int32), (99 : Int32), (108 : Int32), (nar .char (e &&& (255 : Int32)))] 8 h533 F500 (show _ ≤ 8 by omega) (Nat.le_of_ble_eq_true rfl) (own_ac (show isL (102 : Int32) from ⟨by decide, by decide⟩) (own_ac (show isL (99 : Int32) from ⟨by decide, by decide⟩) (own_ac (show isL (114 : Int32) from ⟨by decide, by decide⟩) (own_ac (show isL (58 : Int32) from ⟨by decide, by decide⟩) (own_ac (show isL (97 : Int32) from ⟨by decide, by decide⟩) (own_ac (show isL (99 : Int32) from ⟨by decide, by decide⟩) (own_ac (show isL (108 : Int32) from ⟨by decide, by decide⟩) (own_ac (own_and255 _) own_an))))))))) all0 rfl rfl rfl (Nat.le_of_eq rfl) (by decide) (by decide) (by decide) (by decide) nh_N18 ?_
            rintro _ h543 _ ⟨r542, rfl, E544, g545, F546, rfl⟩
            have ne547 : a468 ≠ r542 := Nat.ne_of_lt (Nat.lt_of_lt_of_le F500.lt g545)
            have ne548 : a532 ≠ r542 := Nat.ne_of_lt (Nat.lt_of_lt_of_le A537.lt g545)
            replace F500 := F500.ext E544
            replace A537 := A537.ext E544
            replace F540 := F540.ext E544
            replace F541 := F541.ext E544
            show Go _ _ _ _ _ _ h543 [a532, a468] 3 25 285 #[.val (.int a), .val (.int b), .val (.int c), .val (.int d), .val (.int e), .val (.int (1 : Int32)), .val (.int (0 : Int32)), .val (.int ((a >>> ((2 : Int32) &&& 31)) &&& (3 : Int32))), .val (.ref a468), .val (.int (7 : Int32)), .val (.int p.toInt32), .val (.int (nar .char (c &&& (255 : Int32)))), .val (.int (1 : Int32)), .val (.int (8 : Int32)), .unset, .unset, .unset, .unset] [(.ref r542), (.ref a532), (.ref a532)]
            refine Go.callI (rest := [(.ref a532)]) 1 [(.ref r542)] H at_285 rfl rfl w9 w10 w4 w11 pd_N5 (ct_new1 l W a532 r542 ([(102 : Int32), (99 : Int32), (114 : Int32), (58 : Int32), (97 : Int32), (99 : Int32), (108 : Int32), (nar .char (e &&& (255 : Int32)))].take 8) h543 A537 F541 F540  F546 (own_takeL' (own_ac (show isL (102 : Int32) from ⟨by decide, by decide⟩) (own_ac (show isL (99 : Int32) from ⟨by decide, by decide⟩) (own_ac (show isL (114 : Int32) from ⟨by decide, by decide⟩) (own_ac (show isL (58 : Int32) from ⟨by decide, by decide⟩) (own_ac (show isL (97 : Int32) from ⟨by decide, by decide⟩) (own_ac (show isL (99 : Int32) from ⟨by decide, by decide⟩) (own_ac (show isL (108 : Int32) from ⟨by decide, by decide⟩) (own_ac (own_and255 _) own_an))))))))) (by rw [List.length_take]; exact Nat.le_trans (Nat.min_le_right _ _) (Nat.le_of_ble_eq_true rfl))  z535) (by simp) rfl rfl rfl (Nat.le_of_eq rfl) (by decide) (by decide) (by decide) (by decide) nh_N4 ?_
            rintro _ h549 _ ⟨rfl, K550, ⟨b551, S553⟩, rfl⟩
            replace F500 := F500.keep K550 (ninS ne539 nin0)
            replace F546 := F546.keep K550 (ninS (Ne.symm ne548) nin0)
            show Go _ _ _ _ _ _ h549 [a532, a468] 7 38 288 #[.val (.int a), .val (.int b), .val (.int c), .val (.int d), .val (.int e), .val (.int (1 : Int32)), .val (.int (0 : Int32)), .val (.int ((a >>> ((2 : Int32) &&& 31)) &&& (3 : Int32))), .val (.ref a468), .val (.int (7 : Int32)), .val (.int p.toInt32), .val (.int (nar .char (c &&& (255 : Int32)))), .val (.int (1 : Int32)), .val (.int (8 : Int32)), .unset, .unset, .unset, .unset] [(.ref a532)]
            refine Go.astore (ls' := #[.val (.int a), .val (.int b), .val (.int c), .val (.int d), .val (.int e), .val (.int (1 : Int32)), .val (.int (0 : Int32)), .val (.int ((a >>> ((2 : Int32) &&& 31)) &&& (3 : Int32))), .val (.ref a468), .val (.int (7 : Int32)), .val (.int p.toInt32), .val (.int (nar .char (c &&& (255 : Int32)))), .val (.int (1 : Int32)), .val (.int (8 : Int32)), .val (.ref a532), .unset, .unset, .unset]) H at_288 rfl rfl rfl ?_
            refine Go.aload H at_290 rfl rfl rfl ?_
            refine Go.callS (rest := []) 0 [(.ref a532)] H at_292 rfl w35 w36 w37 w38 pd_N17 (ct_bys l W a532 b551 ([(102 : Int32), (99 : Int32), (114 : Int32), (58 : Int32), (97 : Int32), (99 : Int32), (108 : Int32), (nar .char (e &&& (255 : Int32)))].take 8) h549 S553) all0 rfl rfl rfl (Nat.le_of_eq rfl) (by decide) (by decide) (by decide) (by decide) nh_N10 ?_
            rintro _ h555 _ ⟨o554, rfl, E556, A557, F558, rfl⟩
            replace F500 := F500.ext E556
            replace F546 := F546.ext E556
            replace S553 := S553.ext E556
            show Go _ _ _ _ _ _ h555 [a532, a468] 9 41 295 #[.val (.int a), .val (.int b), .val (.int c), .val (.int d), .val (.int e), .val (.int (1 : Int32)), .val (.int (0 : Int32)), .val (.int ((a >>> ((2 : Int32) &&& 31)) &&& (3 : Int32))), .val (.ref a468), .val (.int (7 : Int32)), .val (.int p.toInt32), .val (.int (nar .char (c &&& (255 : Int32)))), .val (.int (1 : Int32)), .val (.int (8 : Int32)), .val (.ref a532), .unset, .unset, .unset] [(.ref o554)]
            refine Go.astore (ls' := #[.val (.int a), .val (.int b), .val (.int c), .val (.int d), .val (.int e), .val (.int (1 : Int32)), .val (.int (0 : Int32)), .val (.int ((a >>> ((2 : Int32) &&& 31)) &&& (3 : Int32))), .val (.ref a468), .val (.int (7 : Int32)), .val (.int p.toInt32), .val (.int (nar .char (c &&& (255 : Int32)))), .val (.int (1 : Int32)), .val (.int (8 : Int32)), .val (.ref a532), .val (.ref o554), .unset, .unset]) H at_295 rfl rfl rfl ?_
            refine Go.iload H at_297 rfl rfl ?_
            refine Go.iload H at_299 rfl rfl ?_
            refine Go.icmpY (pc' := 325) H at_301 (by decide) (by decide) (by decide) ?_
            refine Go.iconst (0 : Int32) H at_325 rfl rfl ?_
            refine Go.istore (ls' := #[.val (.int a), .val (.int b), .val (.int c), .val (.int d), .val (.int e), .val (.int (1 : Int32)), .val (.int (0 : Int32)), .val (.int ((a >>> ((2 : Int32) &&& 31)) &&& (3 : Int32))), .val (.ref a468), .val (.int (7 : Int32)), .val (.int p.toInt32), .val (.int (nar .char (c &&& (255 : Int32)))), .val (.int (1 : Int32)), .val (.int (8 : Int32)), .val (.ref a532), .val (.ref o554), .val (.int (0 : Int32)), .unset]) H at_326 rfl rfl ?_
            refine Go.iload H at_328 rfl rfl ?_
            refine Go.ifN H at_330 (by decide) rfl ?_
            have e559 : selV dD dA ([(102 : Int32), (99 : Int32), (114 : Int32), (58 : Int32), (97 : Int32), (99 : Int32), (108 : Int32), (nar .char (e &&& (255 : Int32)))].take 8) = .null := selA_len (by rfl) (by omega) (by decide)
            rw [e559] at F558
            refine Go.aload H at_333 rfl rfl rfl ?_
            refine Go.callV (rest := []) 0 [] H at_335 rfl A557 w86 w87 w89 w88 w70 w90 pd_N15 (ct_isp0 l W o554 h555 F558) all0 rfl rfl rfl (Nat.le_of_eq rfl) (by decide) (by decide) (by decide) (by decide) nh_N12 ?_
            rintro _ _ _ ⟨rfl, rfl, rfl⟩
            show Go _ _ _ _ _ _ h555 [a532, a468] 9 41 338 #[.val (.int a), .val (.int b), .val (.int c), .val (.int d), .val (.int e), .val (.int (1 : Int32)), .val (.int (0 : Int32)), .val (.int ((a >>> ((2 : Int32) &&& 31)) &&& (3 : Int32))), .val (.ref a468), .val (.int (7 : Int32)), .val (.int p.toInt32), .val (.int (nar .char (c &&& (255 : Int32)))), .val (.int (1 : Int32)), .val (.int (8 : Int32)), .val (.ref a532), .val (.ref o554), .val (.int (0 : Int32)), .unset] [(.int (0 : Int32))]
            refine Go.ifN H at_338 (by decide) rfl ?_
            refine Go.iconst (1 : Int32) H at_341 rfl rfl ?_
            refine Go.goto (pc' := 346) H at_342 (by decide) (by decide) ?_
            exact Go.ireturn 1 [] H at_346 (by simp) (by decide) ⟨rfl, trivial⟩ all0 (by decide) (by decide)
          ·
            refine Go.icmpY (pc' := 263) H at_251 (feq c531).2 (by decide) (by decide) ?_
            refine Go.iloadN H at_263 rfl rfl ?_
            refine Go.ldcInt H at_264 rfl w1 ?_
            refine Go.iand H at_266 rfl ?_
            refine Go.iload H at_267 rfl rfl ?_
            refine Go.iconst (2 : Int32) H at_269 rfl rfl ?_
            refine Go.iadd H at_270 rfl ?_
            show Go _ _ _ _ _ _ h498 [a468] 1 8 271 #[.val (.int a), .val (.int b), .val (.int c), .val (.int d), .val (.int e), .val (.int (1 : Int32)), .val (.int (0 : Int32)), .val (.int ((a >>> ((2 : Int32) &&& 31)) &&& (3 : Int32))), .val (.ref a468), .val (.int (7 : Int32)), .val (.int p.toInt32), .val (.int (nar .char (c &&& (255 : Int32)))), .val (.int (1 : Int32)), .unset, .unset, .unset, .unset, .unset] [(.int (9 : Int32)), (.int (d &&& (2147483647 : Int32)))]
            refine Go.irem H at_271 rfl (by decide) ?_
            obtain ⟨q, hq, hq2⟩ := own_mod9 d
            rw [hq]
            refine Go.istore (ls' := #[.val (.int a), .val (.int b), .val (.int c), .val (.int d), .val (.int e), .val (.int (1 : Int32)), .val (.int (0 : Int32)), .val (.int ((a >>> ((2 : Int32) &&& 31)) &&& (3 : Int32))), .val (.ref a468), .val (.int (7 : Int32)), .val (.int p.toInt32), .val (.int (nar .char (c &&& (255 : Int32)))), .val (.int (1 : Int32)), .val (.int q.toInt32), .unset, .unset, .unset, .unset]) H at_272 rfl rfl ?_
            refine Go.new H at_274 rfl w2 w3 w4 (by decide) (by decide) ?_
            intro a560 h561 g562 z563 E564 A565 D566
            have ne567 : a468 ≠ a560 := Nat.ne_of_lt (Nat.lt_of_lt_of_le F500.lt (Nat.le_of_eq g562.symm))
            replace F500 := F500.ext E564
            have F568 : Fld Z h561 a560 "java/lang/String" "coder" "B" (.int (0 : Int32)) := D566 (Or.inr w32) (ty := .byte) (by decide)
            have F569 : Fld Z h561 a560 "java/lang/String" "value" "[B" .null := D566 (Or.inr w34) (ty := (.array .byte)) (by decide)
            show Go _ _ _ _ _ _ h561 [a560, a468] 2 12 277 #[.val (.int a), .val (.int b), .val (.int c), .val (.int d), .val (.int e), .val (.int (1 : Int32)), .val (.int (0 : Int32)), .val (.int ((a >>> ((2 : Int32) &&& 31)) &&& (3 : Int32))), .val (.ref a468), .val (.int (7 : Int32)), .val (.int p.toInt32), .val (.int (nar .char (c &&& (255 : Int32)))), .val (.int (1 : Int32)), .val (.int q.toInt32), .unset, .unset, .unset, .unset] [(.ref a560)]
            refine Go.dup H at_277 rfl rfl ?_
            refine Go.aload H at_278 rfl rfl rfl ?_
            refine Go.iload H at_280 rfl rfl ?_
            refine Go.callS (rest := [(.ref a560), (.ref a560)]) 2 [(.ref a468), (.int q.toInt32)] H at_282 rfl w5 w6 w7 w8 pd_N18 (ct_pre l W a468 [(102 : Int32), (99 : Int32), (114 : Int32), (58 : Int32), (97 : Int32), (99 : Int32), (108 : Int32), (nar .char (e &&& (255 : Int32)))] q h561 F500 (show _ ≤ 8 by omega) (Nat.le_of_ble_eq_true rfl) (own_ac (show isL (102 : Int32) from ⟨by decide, by decide⟩) (own_ac (show isL (99 : Int32) from ⟨by decide, by decide⟩) (own_ac (show isL (114 : Int32) from ⟨by decide, by decide⟩) (own_ac (show isL (58 : Int32) from ⟨by decide, by decide⟩) (own_ac (show isL (97 : Int32) from ⟨by decide, by decide⟩) (own_ac (show isL (99 : Int32) from ⟨by decide, by decide⟩) (own_ac (show isL (108 : Int32) from ⟨by decide, by decide⟩) (own_ac (own_and255 _) own_an))))))))) all0 rfl rfl rfl (Nat.le_of_eq rfl) (by decide) (by decide) (by decide) (by decide) nh_N18 ?_
            rintro _ h571 _ ⟨r570, rfl, E572, g573, F574, rfl⟩
            have ne575 : a468 ≠ r570 := Nat.ne_of_lt (Nat.lt_of_lt_of_le F500.lt g573)
            have ne576 : a560 ≠ r570 := Nat.ne_of_lt (Nat.lt_of_lt_of_le A565.lt g573)
            replace F500 := F500.ext E572
            replace A565 := A565.ext E572
            replace F568 := F568.ext E572
            replace F569 := F569.ext E572
            show Go _ _ _ _ _ _ h571 [a560, a468] 3 25 285 #[.val (.int a), .val (.int b), .val (.int c), .val (.int d), .val (.int e), .val (.int (1 : Int32)), .val (.int (0 : Int32)), .val (.int ((a >>> ((2 : Int32) &&& 31)) &&& (3 : Int32))), .val (.ref a468), .val (.int (7 : Int32)), .val (.int p.toInt32), .val (.int (nar .char (c &&& (255 : Int32)))), .val (.int (1 : Int32)), .val (.int q.toInt32), .unset, .unset, .unset, .unset] [(.ref r570), (.ref a560), (.ref a560)]
            refine Go.callI (rest := [(.ref a560)]) 1 [(.ref r570)] H at_285 rfl rfl w9 w10 w4 w11 pd_N5 (ct_new1 l W a560 r570 ([(102 : Int32), (99 : Int32), (114 : Int32), (58 : Int32), (97 : Int32), (99 : Int32), (108 : Int32), (nar .char (e &&& (255 : Int32)))].take q) h571 A565 F569 F568  F574 (own_takeL' (own_ac (show isL (102 : Int32) from ⟨by decide, by decide⟩) (own_ac (show isL (99 : Int32) from ⟨by decide, by decide⟩) (own_ac (show isL (114 : Int32) from ⟨by decide, by decide⟩) (own_ac (show isL (58 : Int32) from ⟨by decide, by decide⟩) (own_ac (show isL (97 : Int32) from ⟨by decide, by decide⟩) (own_ac (show isL (99 : Int32) from ⟨by decide, by decide⟩) (own_ac (show isL (108 : Int32) from ⟨by decide, by decide⟩) (own_ac (own_and255 _) own_an))))))))) (by rw [List.length_take]; exact Nat.le_trans (Nat.min_le_right _ _) (Nat.le_of_ble_eq_true rfl))  z563) (by simp) rfl rfl rfl (Nat.le_of_eq rfl) (by decide) (by decide) (by decide) (by decide) nh_N4 ?_
            rintro _ h577 _ ⟨rfl, K578, ⟨b579, S581⟩, rfl⟩
            replace F500 := F500.keep K578 (ninS ne567 nin0)
            replace F574 := F574.keep K578 (ninS (Ne.symm ne576) nin0)
            show Go _ _ _ _ _ _ h577 [a560, a468] 7 38 288 #[.val (.int a), .val (.int b), .val (.int c), .val (.int d), .val (.int e), .val (.int (1 : Int32)), .val (.int (0 : Int32)), .val (.int ((a >>> ((2 : Int32) &&& 31)) &&& (3 : Int32))), .val (.ref a468), .val (.int (7 : Int32)), .val (.int p.toInt32), .val (.int (nar .char (c &&& (255 : Int32)))), .val (.int (1 : Int32)), .val (.int q.toInt32), .unset, .unset, .unset, .unset] [(.ref a560)]
            refine Go.astore (ls' := #[.val (.int a), .val (.int b), .val (.int c), .val (.int d), .val (.int e), .val (.int (1 : Int32)), .val (.int (0 : Int32)), .val (.int ((a >>> ((2 : Int32) &&& 31)) &&& (3 : Int32))), .val (.ref a468), .val (.int (7 : Int32)), .val (.int p.toInt32), .val (.int (nar .char (c &&& (255 : Int32)))), .val (.int (1 : Int32)), .val (.int q.toInt32), .val (.ref a560), .unset, .unset, .unset]) H at_288 rfl rfl rfl ?_
            refine Go.aload H at_290 rfl rfl rfl ?_
            refine Go.callS (rest := []) 0 [(.ref a560)] H at_292 rfl w35 w36 w37 w38 pd_N17 (ct_bys l W a560 b579 ([(102 : Int32), (99 : Int32), (114 : Int32), (58 : Int32), (97 : Int32), (99 : Int32), (108 : Int32), (nar .char (e &&& (255 : Int32)))].take q) h577 S581) all0 rfl rfl rfl (Nat.le_of_eq rfl) (by decide) (by decide) (by decide) (by decide) nh_N10 ?_
            rintro _ h583 _ ⟨o582, rfl, E584, A585, F586, rfl⟩
            replace F500 := F500.ext E584
            replace F574 := F574.ext E584
            replace S581 := S581.ext E584
            show Go _ _ _ _ _ _ h583 [a560, a468] 9 41 295 #[.val (.int a), .val (.int b), .val (.int c), .val (.int d), .val (.int e), .val (.int (1 : Int32)), .val (.int (0 : Int32)), .val (.int ((a >>> ((2 : Int32) &&& 31)) &&& (3 : Int32))), .val (.ref a468), .val (.int (7 : Int32)), .val (.int p.toInt32), .val (.int (nar .char (c &&& (255 : Int32)))), .val (.int (1 : Int32)), .val (.int q.toInt32), .val (.ref a560), .unset, .unset, .unset] [(.ref o582)]
            refine Go.astore (ls' := #[.val (.int a), .val (.int b), .val (.int c), .val (.int d), .val (.int e), .val (.int (1 : Int32)), .val (.int (0 : Int32)), .val (.int ((a >>> ((2 : Int32) &&& 31)) &&& (3 : Int32))), .val (.ref a468), .val (.int (7 : Int32)), .val (.int p.toInt32), .val (.int (nar .char (c &&& (255 : Int32)))), .val (.int (1 : Int32)), .val (.int q.toInt32), .val (.ref a560), .val (.ref o582), .unset, .unset]) H at_295 rfl rfl rfl ?_
            refine Go.iload H at_297 rfl rfl ?_
            refine Go.iload H at_299 rfl rfl ?_
            by_cases c587 : q = 7
            ·
              refine Go.icmpN H at_301 (teq (by rw [c587]; rfl)).2 rfl ?_
              refine Go.iload H at_304 rfl rfl ?_
              refine Go.ifY (pc' := 321) H at_306 (by decide) (by decide) (by decide) ?_
              refine Go.iconst (1 : Int32) H at_321 rfl rfl ?_
              refine Go.goto (pc' := 326) H at_322 (by decide) (by decide) ?_
              refine Go.istore (ls' := #[.val (.int a), .val (.int b), .val (.int c), .val (.int d), .val (.int e), .val (.int (1 : Int32)), .val (.int (0 : Int32)), .val (.int ((a >>> ((2 : Int32) &&& 31)) &&& (3 : Int32))), .val (.ref a468), .val (.int (7 : Int32)), .val (.int p.toInt32), .val (.int (nar .char (c &&& (255 : Int32)))), .val (.int (1 : Int32)), .val (.int q.toInt32), .val (.ref a560), .val (.ref o582), .val (.int (1 : Int32)), .unset]) H at_326 rfl rfl ?_
              refine Go.iload H at_328 rfl rfl ?_
              refine Go.ifY (pc' := 347) H at_330 (by decide) (by decide) (by decide) ?_
              have e588 : selV dD dA ([(102 : Int32), (99 : Int32), (114 : Int32), (58 : Int32), (97 : Int32), (99 : Int32), (108 : Int32), (nar .char (e &&& (255 : Int32)))].take q) = .ref dA := (by rw [c587]; exact selA_hit)
              rw [e588] at F586
              refine Go.iload H at_347 rfl rfl ?_
              refine Go.ifN H at_349 (by decide) rfl ?_
              refine Go.getstatic H at_352 rfl w103 W.2.2.2.1 ?_
              refine Go.goto (pc' := 361) H at_355 (by decide) (by decide) ?_
              refine Go.astore (ls' := #[.val (.int a), .val (.int b), .val (.int c), .val (.int d), .val (.int e), .val (.int (1 : Int32)), .val (.int (0 : Int32)), .val (.int ((a >>> ((2 : Int32) &&& 31)) &&& (3 : Int32))), .val (.ref a468), .val (.int (7 : Int32)), .val (.int p.toInt32), .val (.int (nar .char (c &&& (255 : Int32)))), .val (.int (1 : Int32)), .val (.int q.toInt32), .val (.ref a560), .val (.ref o582), .val (.int (1 : Int32)), .val (.ref dA)]) H at_361 rfl rfl rfl ?_
              refine Go.aload H at_363 rfl rfl rfl ?_
              refine Go.callV (rest := []) 0 [] H at_365 rfl A585 w86 w87 w89 w88 w70 w90 pd_N15 (ct_isp1 l W o582 dA h583 F586) all0 rfl rfl rfl (Nat.le_of_eq rfl) (by decide) (by decide) (by decide) (by decide) nh_N12 ?_
              rintro _ _ _ ⟨rfl, rfl, rfl⟩
              show Go _ _ _ _ _ _ h583 [a560, a468] 9 41 368 #[.val (.int a), .val (.int b), .val (.int c), .val (.int d), .val (.int e), .val (.int (1 : Int32)), .val (.int (0 : Int32)), .val (.int ((a >>> ((2 : Int32) &&& 31)) &&& (3 : Int32))), .val (.ref a468), .val (.int (7 : Int32)), .val (.int p.toInt32), .val (.int (nar .char (c &&& (255 : Int32)))), .val (.int (1 : Int32)), .val (.int q.toInt32), .val (.ref a560), .val (.ref o582), .val (.int (1 : Int32)), .val (.ref dA)] [(.int (1 : Int32))]
              refine Go.ifN H at_368 (by decide) rfl ?_
              refine Go.aload H at_371 rfl rfl rfl ?_
              refine Go.callV (rest := []) 0 [] H at_373 rfl A585 w91 w92 w94 w93 w70 w95 pd_N16 (ct_opg l W o582 dA h583 F586) all0 rfl rfl rfl (Nat.le_of_eq rfl) (by decide) (by decide) (by decide) (by decide) nh_N12 ?_
              rintro _ _ _ ⟨rfl, rfl, rfl⟩
              show Go _ _ _ _ _ _ h583 [a560, a468] 9 41 376 #[.val (.int a), .val (.int b), .val (.int c), .val (.int d), .val (.int e), .val (.int (1 : Int32)), .val (.int (0 : Int32)), .val (.int ((a >>> ((2 : Int32) &&& 31)) &&& (3 : Int32))), .val (.ref a468), .val (.int (7 : Int32)), .val (.int p.toInt32), .val (.int (nar .char (c &&& (255 : Int32)))), .val (.int (1 : Int32)), .val (.int q.toInt32), .val (.ref a560), .val (.ref o582), .val (.int (1 : Int32)), .val (.ref dA)] [(.ref dA)]
              refine Go.aload H at_376 rfl rfl rfl ?_
              refine Go.acmpN H at_378 rfl rfl (by simp [XT.acmp]) rfl ?_
              refine Go.iconst (1 : Int32) H at_381 rfl rfl ?_
              refine Go.goto (pc' := 386) H at_382 (by decide) (by decide) ?_
              exact Go.ireturn 1 [] H at_386 (by simp) (by decide) ⟨rfl, trivial⟩ all0 (by decide) (by decide)
            ·
              refine Go.icmpY (pc' := 325) H at_301 (feq (fun e => c587 (own_ofinj (n := 7) (by omega) (by decide) e))).2 (by decide) (by decide) ?_
              refine Go.iconst (0 : Int32) H at_325 rfl rfl ?_
              refine Go.istore (ls' := #[.val (.int a), .val (.int b), .val (.int c), .val (.int d), .val (.int e), .val (.int (1 : Int32)), .val (.int (0 : Int32)), .val (.int ((a >>> ((2 : Int32) &&& 31)) &&& (3 : Int32))), .val (.ref a468), .val (.int (7 : Int32)), .val (.int p.toInt32), .val (.int (nar .char (c &&& (255 : Int32)))), .val (.int (1 : Int32)), .val (.int q.toInt32), .val (.ref a560), .val (.ref o582), .val (.int (0 : Int32)), .unset]) H at_326 rfl rfl ?_
              refine Go.iload H at_328 rfl rfl ?_
              refine Go.ifN H at_330 (by decide) rfl ?_
              have e589 : selV dD dA ([(102 : Int32), (99 : Int32), (114 : Int32), (58 : Int32), (97 : Int32), (99 : Int32), (108 : Int32), (nar .char (e &&& (255 : Int32)))].take q) = .null := selA_len (by rfl) (by omega) c587
              rw [e589] at F586
              refine Go.aload H at_333 rfl rfl rfl ?_
              refine Go.callV (rest := []) 0 [] H at_335 rfl A585 w86 w87 w89 w88 w70 w90 pd_N15 (ct_isp0 l W o582 h583 F586) all0 rfl rfl rfl (Nat.le_of_eq rfl) (by decide) (by decide) (by decide) (by decide) nh_N12 ?_
              rintro _ _ _ ⟨rfl, rfl, rfl⟩
              show Go _ _ _ _ _ _ h583 [a560, a468] 9 41 338 #[.val (.int a), .val (.int b), .val (.int c), .val (.int d), .val (.int e), .val (.int (1 : Int32)), .val (.int (0 : Int32)), .val (.int ((a >>> ((2 : Int32) &&& 31)) &&& (3 : Int32))), .val (.ref a468), .val (.int (7 : Int32)), .val (.int p.toInt32), .val (.int (nar .char (c &&& (255 : Int32)))), .val (.int (1 : Int32)), .val (.int q.toInt32), .val (.ref a560), .val (.ref o582), .val (.int (0 : Int32)), .unset] [(.int (0 : Int32))]
              refine Go.ifN H at_338 (by decide) rfl ?_
              refine Go.iconst (1 : Int32) H at_341 rfl rfl ?_
              refine Go.goto (pc' := 346) H at_342 (by decide) (by decide) ?_
              exact Go.ireturn 1 [] H at_346 (by simp) (by decide) ⟨rfl, trivial⟩ all0 (by decide) (by decide)
      ·
        refine Go.icmpY (pc' := 221) H at_214 (feq c501).2 (by decide) (by decide) ?_
        refine Go.iconst (0 : Int32) H at_221 rfl rfl ?_
        refine Go.istore (ls' := #[.val (.int a), .val (.int b), .val (.int c), .val (.int d), .val (.int e), .val (.int (1 : Int32)), .val (.int (0 : Int32)), .val (.int ((a >>> ((2 : Int32) &&& 31)) &&& (3 : Int32))), .val (.ref a468), .val (.int (7 : Int32)), .val (.int p.toInt32), .val (.int (nar .char (c &&& (255 : Int32)))), .val (.int (0 : Int32)), .unset, .unset, .unset, .unset, .unset]) H at_222 rfl rfl ?_
        refine Go.iload H at_224 rfl rfl ?_
        refine Go.ifY (pc' := 236) H at_226 (by decide) (by decide) (by decide) ?_
        refine Go.iload H at_236 rfl rfl ?_
        by_cases c590 : ((a >>> ((2 : Int32) &&& 31)) &&& (3 : Int32)) = (0 : Int32)
        ·
          refine Go.ifN H at_238 (teq c590).2 rfl ?_
          refine Go.iload H at_241 rfl rfl ?_
          refine Go.istore (ls' := #[.val (.int a), .val (.int b), .val (.int c), .val (.int d), .val (.int e), .val (.int (1 : Int32)), .val (.int (0 : Int32)), .val (.int ((a >>> ((2 : Int32) &&& 31)) &&& (3 : Int32))), .val (.ref a468), .val (.int (7 : Int32)), .val (.int p.toInt32), .val (.int (nar .char (c &&& (255 : Int32)))), .val (.int (0 : Int32)), .val (.int (7 : Int32)), .unset, .unset, .unset, .unset]) H at_243 rfl rfl ?_
          refine Go.goto (pc' := 274) H at_245 (by decide) (by decide) ?_
          refine Go.new H at_274 rfl w2 w3 w4 (by decide) (by decide) ?_
          intro a591 h592 g593 z594 E595 A596 D597
          have ne598 : a468 ≠ a591 := Nat.ne_of_lt (Nat.lt_of_lt_of_le F500.lt (Nat.le_of_eq g593.symm))
          replace F500 := F500.ext E595
          have F599 : Fld Z h592 a591 "java/lang/String" "coder" "B" (.int (0 : Int32)) := D597 (Or.inr w32) (ty := .byte) (by decide)
          have F600 : Fld Z h592 a591 "java/lang/String" "value" "[B" .null := D597 (Or.inr w34) (ty := (.array .byte)) (by decide)
          show Go _ _ _ _ _ _ h592 [a591, a468] 2 12 277 #[.val (.int a), .val (.int b), .val (.int c), .val (.int d), .val (.int e), .val (.int (1 : Int32)), .val (.int (0 : Int32)), .val (.int ((a >>> ((2 : Int32) &&& 31)) &&& (3 : Int32))), .val (.ref a468), .val (.int (7 : Int32)), .val (.int p.toInt32), .val (.int (nar .char (c &&& (255 : Int32)))), .val (.int (0 : Int32)), .val (.int (7 : Int32)), .unset, .unset, .unset, .unset] [(.ref a591)]
          refine Go.dup H at_277 rfl rfl ?_
          refine Go.aload H at_278 rfl rfl rfl ?_
          refine Go.iload H at_280 rfl rfl ?_
          refine Go.callS (rest := [(.ref a591), (.ref a591)]) 2 [(.ref a468), (.int (7 : Int32))] H at_282 rfl w5 w6 w7 w8 pd_N18 (ct_pre l W a468 [(102 : Int32), (99 : Int32), (114 : Int32), (58 : Int32), (97 : Int32), (99 : Int32), (108 : Int32), (nar .char (e &&& (255 : Int32)))] 7 h592 F500 (show _ ≤ 8 by omega) (Nat.le_of_ble_eq_true rfl) (own_ac (show isL (102 : Int32) from ⟨by decide, by decide⟩) (own_ac (show isL (99 : Int32) from ⟨by decide, by decide⟩) (own_ac (show isL (114 : Int32) from ⟨by decide, by decide⟩) (own_ac (show isL (58 : Int32) from ⟨by decide, by decide⟩) (own_ac (show isL (97 : Int32) from ⟨by decide, by decide⟩) (own_ac (show isL (99 : Int32) from ⟨by decide, by decide⟩) (own_ac (show isL (108 : Int32) from ⟨by decide, by decide⟩) (own_ac (own_and255 _) own_an))))))))) all0 rfl rfl rfl (Nat.le_of_eq rfl) (by decide) (by decide) (by decide) (by decide) nh_N18 ?_
          rintro _ h602 _ ⟨r601, rfl, E603, g604, F605, rfl⟩
          have ne606 : a468 ≠ r601 := Nat.ne_of_lt (Nat.lt_of_lt_of_le F500.lt g604)
          have ne607 : a591 ≠ r601 := Nat.ne_of_lt (Nat.lt_of_lt_of_le A596.lt g604)
          replace F500 := F500.ext E603
          replace A596 := A596.ext E603
          replace F599 := F599.ext E603
          replace F600 := F600.ext E603
          show Go _ _ _ _ _ _ h602 [a591, a468] 3 25 285 #[.val (.int a), .val (.int b), .val (.int c), .val (.int d), .val (.int e), .val (.int (1 : Int32)), .val (.int (0 : Int32)), .val (.int ((a >>> ((2 : Int32) &&& 31)) &&& (3 : Int32))), .val (.ref a468), .val (.int (7 : Int32)), .val (.int p.toInt32), .val (.int (nar .char (c &&& (255 : Int32)))), .val (.int (0 : Int32)), .val (.int (7 : Int32)), .unset, .unset, .unset, .unset] [(.ref r601), (.ref a591), (.ref a591)]
          refine Go.callI (rest := [(.ref a591)]) 1 [(.ref r601)] H at_285 rfl rfl w9 w10 w4 w11 pd_N5 (ct_new1 l W a591 r601 ([(102 : Int32), (99 : Int32), (114 : Int32), (58 : Int32), (97 : Int32), (99 : Int32), (108 : Int32), (nar .char (e &&& (255 : Int32)))].take 7) h602 A596 F600 F599  F605 (own_takeL' (own_ac (show isL (102 : Int32) from ⟨by decide, by decide⟩) (own_ac (show isL (99 : Int32) from ⟨by decide, by decide⟩) (own_ac (show isL (114 : Int32) from ⟨by decide, by decide⟩) (own_ac (show isL (58 : Int32) from ⟨by decide, by decide⟩) (own_ac (show isL (97 : Int32) from ⟨by decide, by decide⟩) (own_ac (show isL (99 : Int32) from ⟨by decide, by decide⟩) (own_ac (show isL (108 : Int32) from ⟨by decide, by decide⟩) (own_ac (own_and255 _) own_an))))))))) (by rw [List.length_take]; exact Nat.le_trans (Nat.min_le_right _ _) (Nat.le_of_ble_eq_true rfl))  z594) (by simp) rfl rfl rfl (Nat.le_of_eq rfl) (by decide) (by decide) (by decide) (by decide) nh_N4 ?_
          rintro _ h608 _ ⟨rfl, K609, ⟨b610, S612⟩, rfl⟩
          replace F500 := F500.keep K609 (ninS ne598 nin0)
          replace F605 := F605.keep K609 (ninS (Ne.symm ne607) nin0)
          show Go _ _ _ _ _ _ h608 [a591, a468] 7 38 288 #[.val (.int a), .val (.int b), .val (.int c), .val (.int d), .val (.int e), .val (.int (1 : Int32)), .val (.int (0 : Int32)), .val (.int ((a >>> ((2 : Int32) &&& 31)) &&& (3 : Int32))), .val (.ref a468), .val (.int (7 : Int32)), .val (.int p.toInt32), .val (.int (nar .char (c &&& (255 : Int32)))), .val (.int (0 : Int32)), .val (.int (7 : Int32)), .unset, .unset, .unset, .unset] [(.ref a591)]
          refine Go.astore (ls' := #[.val (.int a), .val (.int b), .val (.int c), .val (.int d), .val (.int e), .val (.int (1 : Int32)), .val (.int (0 : Int32)), .val (.int ((a >>> ((2 : Int32) &&& 31)) &&& (3 : Int32))), .val (.ref a468), .val (.int (7 : Int32)), .val (.int p.toInt32), .val (.int (nar .char (c &&& (255 : Int32)))), .val (.int (0 : Int32)), .val (.int (7 : Int32)), .val (.ref a591), .unset, .unset, .unset]) H at_288 rfl rfl rfl ?_
          refine Go.aload H at_290 rfl rfl rfl ?_
          refine Go.callS (rest := []) 0 [(.ref a591)] H at_292 rfl w35 w36 w37 w38 pd_N17 (ct_bys l W a591 b610 ([(102 : Int32), (99 : Int32), (114 : Int32), (58 : Int32), (97 : Int32), (99 : Int32), (108 : Int32), (nar .char (e &&& (255 : Int32)))].take 7) h608 S612) all0 rfl rfl rfl (Nat.le_of_eq rfl) (by decide) (by decide) (by decide) (by decide) nh_N10 ?_
          rintro _ h614 _ ⟨o613, rfl, E615, A616, F617, rfl⟩
          replace F500 := F500.ext E615
          replace F605 := F605.ext E615
          replace S612 := S612.ext E615
          show Go _ _ _ _ _ _ h614 [a591, a468] 9 41 295 #[.val (.int a), .val (.int b), .val (.int c), .val (.int d), .val (.int e), .val (.int (1 : Int32)), .val (.int (0 : Int32)), .val (.int ((a >>> ((2 : Int32) &&& 31)) &&& (3 : Int32))), .val (.ref a468), .val (.int (7 : Int32)), .val (.int p.toInt32), .val (.int (nar .char (c &&& (255 : Int32)))), .val (.int (0 : Int32)), .val (.int (7 : Int32)), .val (.ref a591), .unset, .unset, .unset] [(.ref o613)]
          refine Go.astore (ls' := #[.val (.int a), .val (.int b), .val (.int c), .val (.int d), .val (.int e), .val (.int (1 : Int32)), .val (.int (0 : Int32)), .val (.int ((a >>> ((2 : Int32) &&& 31)) &&& (3 : Int32))), .val (.ref a468), .val (.int (7 : Int32)), .val (.int p.toInt32), .val (.int (nar .char (c &&& (255 : Int32)))), .val (.int (0 : Int32)), .val (.int (7 : Int32)), .val (.ref a591), .val (.ref o613), .unset, .unset]) H at_295 rfl rfl rfl ?_
          refine Go.iload H at_297 rfl rfl ?_
          refine Go.iload H at_299 rfl rfl ?_
          refine Go.icmpN H at_301 (by decide) rfl ?_
          refine Go.iload H at_304 rfl rfl ?_
          refine Go.ifY (pc' := 321) H at_306 (by decide) (by decide) (by decide) ?_
          refine Go.iconst (1 : Int32) H at_321 rfl rfl ?_
          refine Go.goto (pc' := 326) H at_322 (by decide) (by decide) ?_
          refine Go.istore (ls' := #[.val (.int a), .val (.int b), .val (.int c), .val (.int d), .val (.int e), .val (.int (1 : Int32)), .val (.int (0 : Int32)), .val (.int ((a >>> ((2 : Int32) &&& 31)) &&& (3 : Int32))), .val (.ref a468), .val (.int (7 : Int32)), .val (.int p.toInt32), .val (.int (nar .char (c &&& (255 : Int32)))), .val (.int (0 : Int32)), .val (.int (7 : Int32)), .val (.ref a591), .val (.ref o613), .val (.int (1 : Int32)), .unset]) H at_326 rfl rfl ?_
          refine Go.iload H at_328 rfl rfl ?_
          refine Go.ifY (pc' := 347) H at_330 (by decide) (by decide) (by decide) ?_
          have e618 : selV dD dA ([(102 : Int32), (99 : Int32), (114 : Int32), (58 : Int32), (97 : Int32), (99 : Int32), (108 : Int32), (nar .char (e &&& (255 : Int32)))].take 7) = .ref dA := selA_hit
          rw [e618] at F617
          refine Go.iload H at_347 rfl rfl ?_
          refine Go.ifN H at_349 (by decide) rfl ?_
          refine Go.getstatic H at_352 rfl w103 W.2.2.2.1 ?_
          refine Go.goto (pc' := 361) H at_355 (by decide) (by decide) ?_
          refine Go.astore (ls' := #[.val (.int a), .val (.int b), .val (.int c), .val (.int d), .val (.int e), .val (.int (1 : Int32)), .val (.int (0 : Int32)), .val (.int ((a >>> ((2 : Int32) &&& 31)) &&& (3 : Int32))), .val (.ref a468), .val (.int (7 : Int32)), .val (.int p.toInt32), .val (.int (nar .char (c &&& (255 : Int32)))), .val (.int (0 : Int32)), .val (.int (7 : Int32)), .val (.ref a591), .val (.ref o613), .val (.int (1 : Int32)), .val (.ref dA)]) H at_361 rfl rfl rfl ?_
          refine Go.aload H at_363 rfl rfl rfl ?_
          refine Go.callV (rest := []) 0 [] H at_365 rfl A616 w86 w87 w89 w88 w70 w90 pd_N15 (ct_isp1 l W o613 dA h614 F617) all0 rfl rfl rfl (Nat.le_of_eq rfl) (by decide) (by decide) (by decide) (by decide) nh_N12 ?_
          rintro _ _ _ ⟨rfl, rfl, rfl⟩
          show Go _ _ _ _ _ _ h614 [a591, a468] 9 41 368 #[.val (.int a), .val (.int b), .val (.int c), .val (.int d), .val (.int e), .val (.int (1 : Int32)), .val (.int (0 : Int32)), .val (.int ((a >>> ((2 : Int32) &&& 31)) &&& (3 : Int32))), .val (.ref a468), .val (.int (7 : Int32)), .val (.int p.toInt32), .val (.int (nar .char (c &&& (255 : Int32)))), .val (.int (0 : Int32)), .val (.int (7 : Int32)), .val (.ref a591), .val (.ref o613), .val (.int (1 : Int32)), .val (.ref dA)] [(.int (1 : Int32))]
          refine Go.ifN H at_368 (by decide) rfl ?_
          refine Go.aload H at_371 rfl rfl rfl ?_
          refine Go.callV (rest := []) 0 [] H at_373 rfl A616 w91 w92 w94 w93 w70 w95 pd_N16 (ct_opg l W o613 dA h614 F617) all0 rfl rfl rfl (Nat.le_of_eq rfl) (by decide) (by decide) (by decide) (by decide) nh_N12 ?_
          rintro _ _ _ ⟨rfl, rfl, rfl⟩
          show Go _ _ _ _ _ _ h614 [a591, a468] 9 41 376 #[.val (.int a), .val (.int b), .val (.int c), .val (.int d), .val (.int e), .val (.int (1 : Int32)), .val (.int (0 : Int32)), .val (.int ((a >>> ((2 : Int32) &&& 31)) &&& (3 : Int32))), .val (.ref a468), .val (.int (7 : Int32)), .val (.int p.toInt32), .val (.int (nar .char (c &&& (255 : Int32)))), .val (.int (0 : Int32)), .val (.int (7 : Int32)), .val (.ref a591), .val (.ref o613), .val (.int (1 : Int32)), .val (.ref dA)] [(.ref dA)]
          refine Go.aload H at_376 rfl rfl rfl ?_
          refine Go.acmpN H at_378 rfl rfl (by simp [XT.acmp]) rfl ?_
          refine Go.iconst (1 : Int32) H at_381 rfl rfl ?_
          refine Go.goto (pc' := 386) H at_382 (by decide) (by decide) ?_
          exact Go.ireturn 1 [] H at_386 (by simp) (by decide) ⟨rfl, trivial⟩ all0 (by decide) (by decide)
        ·
          refine Go.ifY (pc' := 248) H at_238 (feq c590).2 (by decide) (by decide) ?_
          refine Go.iload H at_248 rfl rfl ?_
          refine Go.iconst (1 : Int32) H at_250 rfl rfl ?_
          by_cases c619 : ((a >>> ((2 : Int32) &&& 31)) &&& (3 : Int32)) = (1 : Int32)
          ·
            refine Go.icmpN H at_251 (teq c619).2 rfl ?_
            refine Go.iload H at_254 rfl rfl ?_
            refine Go.iconst (1 : Int32) H at_256 rfl rfl ?_
            refine Go.iadd H at_257 rfl ?_
            show Go _ _ _ _ _ _ h498 [a468] 1 8 258 #[.val (.int a), .val (.int b), .val (.int c), .val (.int d), .val (.int e), .val (.int (1 : Int32)), .val (.int (0 : Int32)), .val (.int ((a >>> ((2 : Int32) &&& 31)) &&& (3 : Int32))), .val (.ref a468), .val (.int (7 : Int32)), .val (.int p.toInt32), .val (.int (nar .char (c &&& (255 : Int32)))), .val (.int (0 : Int32)), .unset, .unset, .unset, .unset, .unset] [(.int (8 : Int32))]
            refine Go.istore (ls' := #[.val (.int a), .val (.int b), .val (.int c), .val (.int d), .val (.int e), .val (.int (1 : Int32)), .val (.int (0 : Int32)), .val (.int ((a >>> ((2 : Int32) &&& 31)) &&& (3 : Int32))), .val (.ref a468), .val (.int (7 : Int32)), .val (.int p.toInt32), .val (.int (nar .char (c &&& (255 : Int32)))), .val (.int (0 : Int32)), .val (.int (8 : Int32)), .unset, .unset, .unset, .unset]) H at_258 rfl rfl ?_
            refine Go.goto (pc' := 274) H at_260 (by decide) (by decide) ?_
            refine Go.new H at_274 rfl w2 w3 w4 (by decide) (by decide) ?_
            intro a620 h621 g622 z623 E624 A625 D626
            have ne627 : a468 ≠ a620 := Nat.ne_of_lt (Nat.lt_of_lt_of_le F500.lt (Nat.le_of_eq g622.symm))
            replace F500 := F500.ext E624
            have F628 : Fld Z h621 a620 "java/lang/String" "coder" "B" (.int (0 : Int32)) := D626 (Or.inr w32) (ty := .byte) (by decide)
            have F629 : Fld Z h621 a620 "java/lang/String" "value" "[B" .null := D626 (Or.inr w34) (ty := (.array .byte)) (by decide)
            show Go _ _ _ _ _ _ h621 [a620, a468] 2 12 277 #[.val (.int a), .val (.int b), .val (.int c), .val (.int d), .val (.int e), .val (.int (1 : Int32)), .val (.int (0 : Int32)), .val (.int ((a >>> ((2 : Int32) &&& 31)) &&& (3 : Int32))), .val (.ref a468), .val (.int (7 : Int32)), .val (.int p.toInt32), .val (.int (nar .char (c &&& (255 : Int32)))), .val (.int (0 : Int32)), .val (.int (8 : Int32)), .unset, .unset, .unset, .unset] [(.ref a620)]
            refine Go.dup H at_277 rfl rfl ?_
            refine Go.aload H at_278 rfl rfl rfl ?_
            refine Go.iload H at_280 rfl rfl ?_
            refine Go.callS (rest := [(.ref a620), (.ref a620)]) 2 [(.ref a468), (.int (8 : Int32))] H at_282 rfl w5 w6 w7 w8 pd_N18 (ct_pre l W a468 [(102 : Int32), (99 : Int32), (114 : Int32), (58 : Int32), (97 : Int32), (99 : Int32), (108 : Int32), (nar .char (e &&& (255 : Int32)))] 8 h621 F500 (show _ ≤ 8 by omega) (Nat.le_of_ble_eq_true rfl) (own_ac (show isL (102 : Int32) from ⟨by decide, by decide⟩) (own_ac (show isL (99 : Int32) from ⟨by decide, by decide⟩) (own_ac (show isL (114 : Int32) from ⟨by decide, by decide⟩) (own_ac (show isL (58 : Int32) from ⟨by decide, by decide⟩) (own_ac (show isL (97 : Int32) from ⟨by decide, by decide⟩) (own_ac (show isL (99 : Int32) from ⟨by decide, by decide⟩) (own_ac (show isL (108 : Int32) from ⟨by decide, by decide⟩) (own_ac (own_and255 _) own_an))))))))) all0 rfl rfl rfl (Nat.le_of_eq rfl) (by decide) (by decide) (by decide) (by decide) nh_N18 ?_
            rintro _ h631 _ ⟨r630, rfl, E632, g633, F634, rfl⟩
            have ne635 : a468 ≠ r630 := Nat.ne_of_lt (Nat.lt_of_lt_of_le F500.lt g633)
            have ne636 : a620 ≠ r630 := Nat.ne_of_lt (Nat.lt_of_lt_of_le A625.lt g633)
            replace F500 := F500.ext E632
            replace A625 := A625.ext E632
            replace F628 := F628.ext E632
            replace F629 := F629.ext E632
            show Go _ _ _ _ _ _ h631 [a620, a468] 3 25 285 #[.val (.int a), .val (.int b), .val (.int c), .val (.int d), .val (.int e), .val (.int (1 : Int32)), .val (.int (0 : Int32)), .val (.int ((a >>> ((2 : Int32) &&& 31)) &&& (3 : Int32))), .val (.ref a468), .val (.int (7 : Int32)), .val (.int p.toInt32), .val (.int (nar .char (c &&& (255 : Int32)))), .val (.int (0 : Int32)), .val (.int (8 : Int32)), .unset, .unset, .unset, .unset] [(.ref r630), (.ref a620), (.ref a620)]
            refine Go.callI (rest := [(.ref a620)]) 1 [(.ref r630)] H at_285 rfl rfl w9 w10 w4 w11 pd_N5 (ct_new1 l W a620 r630 ([(102 : Int32), (99 : Int32), (114 : Int32), (58 : Int32), (97 : Int32), (99 : Int32), (108 : Int32), (nar .char (e &&& (255 : Int32)))].take 8) h631 A625 F629 F628  F634 (own_takeL' (own_ac (show isL (102 : Int32) from ⟨by decide, by decide⟩) (own_ac (show isL (99 : Int32) from ⟨by decide, by decide⟩) (own_ac (show isL (114 : Int32) from ⟨by decide, by decide⟩) (own_ac (show isL (58 : Int32) from ⟨by decide, by decide⟩) (own_ac (show isL (97 : Int32) from ⟨by decide, by decide⟩) (own_ac (show isL (99 : Int32) from ⟨by decide, by decide⟩) (own_ac (show isL (108 : Int32) from ⟨by decide, by decide⟩) (own_ac (own_and255 _) own_an))))))))) (by rw [List.length_take]; exact Nat.le_trans (Nat.min_le_right _ _) (Nat.le_of_ble_eq_true rfl))  z623) (by simp) rfl rfl rfl (Nat.le_of_eq rfl) (by decide) (by decide) (by decide) (by decide) nh_N4 ?_
            rintro _ h637 _ ⟨rfl, K638, ⟨b639, S641⟩, rfl⟩
            replace F500 := F500.keep K638 (ninS ne627 nin0)
            replace F634 := F634.keep K638 (ninS (Ne.symm ne636) nin0)
            show Go _ _ _ _ _ _ h637 [a620, a468] 7 38 288 #[.val (.int a), .val (.int b), .val (.int c), .val (.int d), .val (.int e), .val (.int (1 : Int32)), .val (.int (0 : Int32)), .val (.int ((a >>> ((2 : Int32) &&& 31)) &&& (3 : Int32))), .val (.ref a468), .val (.int (7 : Int32)), .val (.int p.toInt32), .val (.int (nar .char (c &&& (255 : Int32)))), .val (.int (0 : Int32)), .val (.int (8 : Int32)), .unset, .unset, .unset, .unset] [(.ref a620)]
            refine Go.astore (ls' := #[.val (.int a), .val (.int b), .val (.int c), .val (.int d), .val (.int e), .val (.int (1 : Int32)), .val (.int (0 : Int32)), .val (.int ((a >>> ((2 : Int32) &&& 31)) &&& (3 : Int32))), .val (.ref a468), .val (.int (7 : Int32)), .val (.int p.toInt32), .val (.int (nar .char (c &&& (255 : Int32)))), .val (.int (0 : Int32)), .val (.int (8 : Int32)), .val (.ref a620), .unset, .unset, .unset]) H at_288 rfl rfl rfl ?_
            refine Go.aload H at_290 rfl rfl rfl ?_
            refine Go.callS (rest := []) 0 [(.ref a620)] H at_292 rfl w35 w36 w37 w38 pd_N17 (ct_bys l W a620 b639 ([(102 : Int32), (99 : Int32), (114 : Int32), (58 : Int32), (97 : Int32), (99 : Int32), (108 : Int32), (nar .char (e &&& (255 : Int32)))].take 8) h637 S641) all0 rfl rfl rfl (Nat.le_of_eq rfl) (by decide) (by decide) (by decide) (by decide) nh_N10 ?_
            rintro _ h643 _ ⟨o642, rfl, E644, A645, F646, rfl⟩
            replace F500 := F500.ext E644
            replace F634 := F634.ext E644
            replace S641 := S641.ext E644
            show Go _ _ _ _ _ _ h643 [a620, a468] 9 41 295 #[.val (.int a), .val (.int b), .val (.int c), .val (.int d), .val (.int e), .val (.int (1 : Int32)), .val (.int (0 : Int32)), .val (.int ((a >>> ((2 : Int32) &&& 31)) &&& (3 : Int32))), .val (.ref a468), .val (.int (7 : Int32)), .val (.int p.toInt32), .val (.int (nar .char (c &&& (255 : Int32)))), .val (.int (0 : Int32)), .val (.int (8 : Int32)), .val (.ref a620), .unset, .unset, .unset] [(.ref o642)]
            refine Go.astore (ls' := #[.val (.int a), .val (.int b), .val (.int c), .val (.int d), .val (.int e), .val (.int (1 : Int32)), .val (.int (0 : Int32)), .val (.int ((a >>> ((2 : Int32) &&& 31)) &&& (3 : Int32))), .val (.ref a468), .val (.int (7 : Int32)), .val (.int p.toInt32), .val (.int (nar .char (c &&& (255 : Int32)))), .val (.int (0 : Int32)), .val (.int (8 : Int32)), .val (.ref a620), .val (.ref o642), .unset, .unset]) H at_295 rfl rfl rfl ?_
            refine Go.iload H at_297 rfl rfl ?_
            refine Go.iload H at_299 rfl rfl ?_
            refine Go.icmpY (pc' := 325) H at_301 (by decide) (by decide) (by decide) ?_
            refine Go.iconst (0 : Int32) H at_325 rfl rfl ?_
            refine Go.istore (ls' := #[.val (.int a), .val (.int b), .val (.int c), .val (.int d), .val (.int e), .val (.int (1 : Int32)), .val (.int (0 : Int32)), .val (.int ((a >>> ((2 : Int32) &&& 31)) &&& (3 : Int32))), .val (.ref a468), .val (.int (7 : Int32)), .val (.int p.toInt32), .val (.int (nar .char (c &&& (255 : Int32)))), .val (.int (0 : Int32)), .val (.int (8 : Int32)), .val (.ref a620), .val (.ref o642), .val (.int (0 : Int32)), .unset]) H at_326 rfl rfl ?_
            refine Go.iload H at_328 rfl rfl ?_
            refine Go.ifN H at_330 (by decide) rfl ?_
            have e647 : selV dD dA ([(102 : Int32), (99 : Int32), (114 : Int32), (58 : Int32), (97 : Int32), (99 : Int32), (108 : Int32), (nar .char (e &&& (255 : Int32)))].take 8) = .null := selA_len (by rfl) (by omega) (by decide)
            rw [e647] at F646
            refine Go.aload H at_333 rfl rfl rfl ?_
            refine Go.callV (rest := []) 0 [] H at_335 rfl A645 w86 w87 w89 w88 w70 w90 pd_N15 (ct_isp0 l W o642 h643 F646) all0 rfl rfl rfl (Nat.le_of_eq rfl) (by decide) (by decide) (by decide) (by decide) nh_N12 ?_
            rintro _ _ _ ⟨rfl, rfl, rfl⟩
            show Go _ _ _ _ _ _ h643 [a620, a468] 9 41 338 #[.val (.int a), .val (.int b), .val (.int c), .val (.int d), .val (.int e), .val (.int (1 : Int32)), .val (.int (0 : Int32)), .val (.int ((a >>> ((2 : Int32) &&& 31)) &&& (3 : Int32))), .val (.ref a468), .val (.int (7 : Int32)), .val (.int p.toInt32), .val (.int (nar .char (c &&& (255 : Int32)))), .val (.int (0 : Int32)), .val (.int (8 : Int32)), .val (.ref a620), .val (.ref o642), .val (.int (0 : Int32)), .unset] [(.int (0 : Int32))]
            refine Go.ifN H at_338 (by decide) rfl ?_
            refine Go.iconst (1 : Int32) H at_341 rfl rfl ?_
            refine Go.goto (pc' := 346) H at_342 (by decide) (by decide) ?_
            exact Go.ireturn 1 [] H at_346 (by simp) (by decide) ⟨rfl, trivial⟩ all0 (by decide) (by decide)
          ·
            refine Go.icmpY (pc' := 263) H at_251 (feq c619).2 (by decide) (by decide) ?_
            refine Go.iloadN H at_263 rfl rfl ?_
            refine Go.ldcInt H at_264 rfl w1 ?_
            refine Go.iand H at_266 rfl ?_
            refine Go.iload H at_267 rfl rfl ?_
            refine Go.iconst (2 : Int32) H at_269 rfl rfl ?_
            refine Go.iadd H at_270 rfl ?_
            show Go _ _ _ _ _ _ h498 [a468] 1 8 271 #[.val (.int a), .val (.int b), .val (.int c), .val (.int d), .val (.int e), .val (.int (1 : Int32)), .val (.int (0 : Int32)), .val (.int ((a >>> ((2 : Int32) &&& 31)) &&& (3 : Int32))), .val (.ref a468), .val (.int (7 : Int32)), .val (.int p.toInt32), .val (.int (nar .char (c &&& (255 : Int32)))), .val (.int (0 : Int32)), .unset, .unset, .unset, .unset, .unset] [(.int (9 : Int32)), (.int (d &&& (2147483647 : Int32)))]
            refine Go.irem H at_271 rfl (by decide) ?_
            obtain ⟨q, hq, hq2⟩ := own_mod9 d
            rw [hq]
            refine Go.istore (ls' := #[.val (.int a), .val (.int b), .val (.int c), .val (.int d), .val (.int e), .val (.int (1 : Int32)), .val (.int (0 : Int32)), .val (.int ((a >>> ((2 : Int32) &&& 31)) &&& (3 : Int32))), .val (.ref a468), .val (.int (7 : Int32)), .val (.int p.toInt32), .val (.int (nar .char (c &&& (255 : Int32)))), .val (.int (0 : Int32)), .val (.int q.toInt32), .unset, .unset, .unset, .unset]) H at_272 rfl rfl ?_
            refine Go.new H at_274 rfl w2 w3 w4 (by decide) (by decide) ?_
            intro a648 h649 g650 z651 E652 A653 D654
            have ne655 : a468 ≠ a648 := Nat.ne_of_lt (Nat.lt_of_lt_of_le F500.lt (Nat.le_of_eq g650.symm))
            replace F500 := F500.ext E652
            have F656 : Fld Z h649 a648 "java/lang/String" "coder" "B" (.int (0 : Int32)) := D654 (Or.inr w32) (ty := .byte) (by decide)
            have F657 : Fld Z h649 a648 "java/lang/String" "value" "[B" .null := D654 (Or.inr w34) (ty := (.array .byte)) (by decide)
            show Go _ _ _ _ _ _ h649 [a648, a468] 2 12 277 #[.val (.int a), .val (.int b), .val (.int c), .val (.int d), .val (.int e), .val (.int (1 : Int32)), .val (.int (0 : Int32)), .val (.int ((a >>> ((2 : Int32) &&& 31)) &&& (3 : Int32))), .val (.ref a468), .val (.int (7 : Int32)), .val (.int p.toInt32), .val (.int (nar .char (c &&& (255 : Int32)))), .val (.int (0 : Int32)), .val (.int q.toInt32), .unset, .unset, .unset, .unset] [(.ref a648)]
            refine Go.dup H at_277 rfl rfl ?_
            refine Go.aload H at_278 rfl rfl rfl ?_
            refine Go.iload H at_280 rfl rfl ?_
            refine Go.callS (rest := [(.ref a648), (.ref a648)]) 2 [(.ref a468), (.int q.toInt32)] H at_282 rfl w5 w6 w7 w8 pd_N18 (ct_pre l W a468 [(102 : Int32), (99 : Int32), (114 : Int32), (58 : Int32), (97 : Int32), (99 : Int32), (108 : Int32), (nar .char (e &&& (255 : Int32)))] q h649 F500 (show _ ≤ 8 by omega) (Nat.le_of_ble_eq_true rfl) (own_ac (show isL (102 : Int32) from ⟨by decide, by decide⟩) (own_ac (show isL (99 : Int32) from ⟨by decide, by decide⟩) (own_ac (show isL (114 : Int32) from ⟨by decide, by decide⟩) (own_ac (show isL (58 : Int32) from ⟨by decide, by decide⟩) (own_ac (show isL (97 : Int32) from ⟨by decide, by decide⟩) (own_ac (show isL (99 : Int32) from ⟨by decide, by decide⟩) (own_ac (show isL (108 : Int32) from ⟨by decide, by decide⟩) (own_ac (own_and255 _) own_an))))))))) all0 rfl rfl rfl (Nat.le_of_eq rfl) (by decide) (by decide) (by decide) (by decide) nh_N18 ?_
            rintro _ h659 _ ⟨r658, rfl, E660, g661, F662, rfl⟩
            have ne663 : a468 ≠ r658 := Nat.ne_of_lt (Nat.lt_of_lt_of_le F500.lt g661)
            have ne664 : a648 ≠ r658 := Nat.ne_of_lt (Nat.lt_of_lt_of_le A653.lt g661)
            replace F500 := F500.ext E660
            replace A653 := A653.ext E660
            replace F656 := F656.ext E660
            replace F657 := F657.ext E660
            show Go _ _ _ _ _ _ h659 [a648, a468] 3 25 285 #[.val (.int a), .val (.int b), .val (.int c), .val (.int d), .val (.int e), .val (.int (1 : Int32)), .val (.int (0 : Int32)), .val (.int ((a >>> ((2 : Int32) &&& 31)) &&& (3 : Int32))), .val (.ref a468), .val (.int (7 : Int32)), .val (.int p.toInt32), .val (.int (nar .char (c &&& (255 : Int32)))), .val (.int (0 : Int32)), .val (.int q.toInt32), .unset, .unset, .unset, .unset] [(.ref r658), (.ref a648), (.ref a648)]
            refine Go.callI (rest := [(.ref a648)]) 1 [(.ref r658)] H at_285 rfl rfl w9 w10 w4 w11 pd_N5 (ct_new1 l W a648 r658 ([(102 : Int32), (99 : Int32), (114 : Int32), (58 : Int32), (97 : Int32), (99 : Int32), (108 : Int32), (nar .char (e &&& (255 : Int32)))].take q) h659 A653 F657 F656  F662 (own_takeL' (own_ac (show isL (102 : Int32) from ⟨by decide, by decide⟩) (own_ac (show isL (99 : Int32) from ⟨by decide, by decide⟩) (own_ac (show isL (114 : Int32) from ⟨by decide, by decide⟩) (own_ac (show isL (58 : Int32) from ⟨by decide, by decide⟩) (own_ac (show isL (97 : Int32) from ⟨by decide, by decide⟩) (own_ac (show isL (99 : Int32) from ⟨by decide, by decide⟩) (own_ac (show isL (108 : Int32) from ⟨by decide, by decide⟩) (own_ac (own_and255 _) own_an))))))))) (by rw [List.length_take]; exact Nat.le_trans (Nat.min_le_right _ _) (Nat.le_of_ble_eq_true rfl))  z651) (by simp) rfl rfl rfl (Nat.le_of_eq rfl) (by decide) (by decide) (by decide) (by decide) nh_N4 ?_
            rintro _ h665 _ ⟨rfl, K666, ⟨b667, S669⟩, rfl⟩
            replace F500 := F500.keep K666 (ninS ne655 nin0)
            replace F662 := F662.keep K666 (ninS (Ne.symm ne664) nin0)
            show Go _ _ _ _ _ _ h665 [a648, a468] 7 38 288 #[.val (.int a), .val (.int b), .val (.int c), .val (.int d), .val (.int e), .val (.int (1 : Int32)), .val (.int (0 : Int32)), .val (.int ((a >>> ((2 : Int32) &&& 31)) &&& (3 : Int32))), .val (.ref a468), .val (.int (7 : Int32)), .val (.int p.toInt32), .val (.int (nar .char (c &&& (255 : Int32)))), .val (.int (0 : Int32)), .val (.int q.toInt32), .unset, .unset, .unset, .unset] [(.ref a648)]
            refine Go.astore (ls' := #[.val (.int a), .val (.int b), .val (.int c), .val (.int d), .val (.int e), .val (.int (1 : Int32)), .val (.int (0 : Int32)), .val (.int ((a >>> ((2 : Int32) &&& 31)) &&& (3 : Int32))), .val (.ref a468), .val (.int (7 : Int32)), .val (.int p.toInt32), .val (.int (nar .char (c &&& (255 : Int32)))), .val (.int (0 : Int32)), .val (.int q.toInt32), .val (.ref a648), .unset, .unset, .unset]) H at_288 rfl rfl rfl ?_
            refine Go.aload H at_290 rfl rfl rfl ?_
            refine Go.callS (rest := []) 0 [(.ref a648)] H at_292 rfl w35 w36 w37 w38 pd_N17 (ct_bys l W a648 b667 ([(102 : Int32), (99 : Int32), (114 : Int32), (58 : Int32), (97 : Int32), (99 : Int32), (108 : Int32), (nar .char (e &&& (255 : Int32)))].take q) h665 S669) all0 rfl rfl rfl (Nat.le_of_eq rfl) (by decide) (by decide) (by decide) (by decide) nh_N10 ?_
            rintro _ h671 _ ⟨o670, rfl, E672, A673, F674, rfl⟩
            replace F500 := F500.ext E672
            replace F662 := F662.ext E672
            replace S669 := S669.ext E672
            show Go _ _ _ _ _ _ h671 [a648, a468] 9 41 295 #[.val (.int a), .val (.int b), .val (.int c), .val (.int d), .val (.int e), .val (.int (1 : Int32)), .val (.int (0 : Int32)), .val (.int ((a >>> ((2 : Int32) &&& 31)) &&& (3 : Int32))), .val (.ref a468), .val (.int (7 : Int32)), .val (.int p.toInt32), .val (.int (nar .char (c &&& (255 : Int32)))), .val (.int (0 : Int32)), .val (.int q.toInt32), .val (.ref a648), .unset, .unset, .unset] [(.ref o670)]
            refine Go.astore (ls' := #[.val (.int a), .val (.int b), .val (.int c), .val (.int d), .val (.int e), .val (.int (1 : Int32)), .val (.int (0 : Int32)), .val (.int ((a >>> ((2 : Int32) &&& 31)) &&& (3 : Int32))), .val (.ref a468), .val (.int (7 : Int32)), .val (.int p.toInt32), .val (.int (nar .char (c &&& (255 : Int32)))), .val (.int (0 : Int32)), .val (.int q.toInt32), .val (.ref a648), .val (.ref o670), .unset, .unset]) H at_295 rfl rfl rfl ?_
            refine Go.iload H at_297 rfl rfl ?_
            refine Go.iload H at_299 rfl rfl ?_
            by_cases c675 : q = 7
            ·
              refine Go.icmpN H at_301 (teq (by rw [c675]; rfl)).2 rfl ?_
              refine Go.iload H at_304 rfl rfl ?_
              refine Go.ifY (pc' := 321) H at_306 (by decide) (by decide) (by decide) ?_
              refine Go.iconst (1 : Int32) H at_321 rfl rfl ?_
              refine Go.goto (pc' := 326) H at_322 (by decide) (by decide) ?_
              refine Go.istore (ls' := #[.val (.int a), .val (.int b), .val (.int c), .val (.int d), .val (.int e), .val (.int (1 : Int32)), .val (.int (0 : Int32)), .val (.int ((a >>> ((2 : Int32) &&& 31)) &&& (3 : Int32))), .val (.ref a468), .val (.int (7 : Int32)), .val (.int p.toInt32), .val (.int (nar .char (c &&& (255 : Int32)))), .val (.int (0 : Int32)), .val (.int q.toInt32), .val (.ref a648), .val (.ref o670), .val (.int (1 : Int32)), .unset]) H at_326 rfl rfl ?_
              refine Go.iload H at_328 rfl rfl ?_
              refine Go.ifY (pc' := 347) H at_330 (by decide) (by decide) (by decide) ?_
              have e676 : selV dD dA ([(102 : Int32), (99 : Int32), (114 : Int32), (58 : Int32), (97 : Int32), (99 : Int32), (108 : Int32), (nar .char (e &&& (255 : Int32)))].take q) = .ref dA := (by rw [c675]; exact selA_hit)
              rw [e676] at F674
              refine Go.iload H at_347 rfl rfl ?_
              refine Go.ifN H at_349 (by decide) rfl ?_
              refine Go.getstatic H at_352 rfl w103 W.2.2.2.1 ?_
              refine Go.goto (pc' := 361) H at_355 (by decide) (by decide) ?_
              refine Go.astore (ls' := #[.val (.int a), .val (.int b), .val (.int c), .val (.int d), .val (.int e), .val (.int (1 : Int32)), .val (.int (0 : Int32)), .val (.int ((a >>> ((2 : Int32) &&& 31)) &&& (3 : Int32))), .val (.ref a468), .val (.int (7 : Int32)), .val (.int p.toInt32), .val (.int (nar .char (c &&& (255 : Int32)))), .val (.int (0 : Int32)), .val (.int q.toInt32), .val (.ref a648), .val (.ref o670), .val (.int (1 : Int32)), .val (.ref dA)]) H at_361 rfl rfl rfl ?_
              refine Go.aload H at_363 rfl rfl rfl ?_
              refine Go.callV (rest := []) 0 [] H at_365 rfl A673 w86 w87 w89 w88 w70 w90 pd_N15 (ct_isp1 l W o670 dA h671 F674) all0 rfl rfl rfl (Nat.le_of_eq rfl) (by decide) (by decide) (by decide) (by decide) nh_N12 ?_
              rintro _ _ _ ⟨rfl, rfl, rfl⟩
              show Go _ _ _ _ _ _ h671 [a648, a468] 9 41 368 #[.val (.int a), .val (.int b), .val (.int c), .val (.int d), .val (.int e), .val (.int (1 : Int32)), .val (.int (0 : Int32)), .val (.int ((a >>> ((2 : Int32) &&& 31)) &&& (3 : Int32))), .val (.ref a468), .val (.int (7 : Int32)), .val (.int p.toInt32), .val (.int (nar .char (c &&& (255 : Int32)))), .val (.int (0 : Int32)), .val (.int q.toInt32), .val (.ref a648), .val (.ref o670), .val (.int (1 : Int32)), .val (.ref dA)] [(.int (1 : Int32))]
              refine Go.ifN H at_368 (by decide) rfl ?_
              refine Go.aload H at_371 rfl rfl rfl ?_
              refine Go.callV (rest := []) 0 [] H at_373 rfl A673 w91 w92 w94 w93 w70 w95 pd_N16 (ct_opg l W o670 dA h671 F674) all0 rfl rfl rfl (Nat.le_of_eq rfl) (by decide) (by decide) (by decide) (by decide) nh_N12 ?_
              rintro _ _ _ ⟨rfl, rfl, rfl⟩
              show Go _ _ _ _ _ _ h671 [a648, a468] 9 41 376 #[.val (.int a), .val (.int b), .val (.int c), .val (.int d), .val (.int e), .val (.int (1 : Int32)), .val (.int (0 : Int32)), .val (.int ((a >>> ((2 : Int32) &&& 31)) &&& (3 : Int32))), .val (.ref a468), .val (.int (7 : Int32)), .val (.int p.toInt32), .val (.int (nar .char (c &&& (255 : Int32)))), .val (.int (0 : Int32)), .val (.int q.toInt32), .val (.ref a648), .val (.ref o670), .val (.int (1 : Int32)), .val (.ref dA)] [(.ref dA)]
              refine Go.aload H at_376 rfl rfl rfl ?_
              refine Go.acmpN H at_378 rfl rfl (by simp [XT.acmp]) rfl ?_
              refine Go.iconst (1 : Int32) H at_381 rfl rfl ?_
              refine Go.goto (pc' := 386) H at_382 (by decide) (by decide) ?_
              exact Go.ireturn 1 [] H at_386 (by simp) (by decide) ⟨rfl, trivial⟩ all0 (by decide) (by decide)
            ·
              refine Go.icmpY (pc' := 325) H at_301 (feq (fun e => c675 (own_ofinj (n := 7) (by omega) (by decide) e))).2 (by decide) (by decide) ?_
              refine Go.iconst (0 : Int32) H at_325 rfl rfl ?_
              refine Go.istore (ls' := #[.val (.int a), .val (.int b), .val (.int c), .val (.int d), .val (.int e), .val (.int (1 : Int32)), .val (.int (0 : Int32)), .val (.int ((a >>> ((2 : Int32) &&& 31)) &&& (3 : Int32))), .val (.ref a468), .val (.int (7 : Int32)), .val (.int p.toInt32), .val (.int (nar .char (c &&& (255 : Int32)))), .val (.int (0 : Int32)), .val (.int q.toInt32), .val (.ref a648), .val (.ref o670), .val (.int (0 : Int32)), .unset]) H at_326 rfl rfl ?_
              refine Go.iload H at_328 rfl rfl ?_
              refine Go.ifN H at_330 (by decide) rfl ?_
              have e677 : selV dD dA ([(102 : Int32), (99 : Int32), (114 : Int32), (58 : Int32), (97 : Int32), (99 : Int32), (108 : Int32), (nar .char (e &&& (255 : Int32)))].take q) = .null := selA_len (by rfl) (by omega) c675
              rw [e677] at F674
              refine Go.aload H at_333 rfl rfl rfl ?_
              refine Go.callV (rest := []) 0 [] H at_335 rfl A673 w86 w87 w89 w88 w70 w90 pd_N15 (ct_isp0 l W o670 h671 F674) all0 rfl rfl rfl (Nat.le_of_eq rfl) (by decide) (by decide) (by decide) (by decide) nh_N12 ?_
              rintro _ _ _ ⟨rfl, rfl, rfl⟩
              show Go _ _ _ _ _ _ h671 [a648, a468] 9 41 338 #[.val (.int a), .val (.int b), .val (.int c), .val (.int d), .val (.int e), .val (.int (1 : Int32)), .val (.int (0 : Int32)), .val (.int ((a >>> ((2 : Int32) &&& 31)) &&& (3 : Int32))), .val (.ref a468), .val (.int (7 : Int32)), .val (.int p.toInt32), .val (.int (nar .char (c &&& (255 : Int32)))), .val (.int (0 : Int32)), .val (.int q.toInt32), .val (.ref a648), .val (.ref o670), .val (.int (0 : Int32)), .unset] [(.int (0 : Int32))]
              refine Go.ifN H at_338 (by decide) rfl ?_
              refine Go.iconst (1 : Int32) H at_341 rfl rfl ?_
              refine Go.goto (pc' := 346) H at_342 (by decide) (by decide) ?_
              exact Go.ireturn 1 [] H at_346 (by simp) (by decide) ⟨rfl, trivial⟩ all0 (by decide) (by decide)
    ·
      refine Go.ifN H at_18 (feq c467).1 rfl ?_
      refine Go.iconst (1 : Int32) H at_21 rfl rfl ?_
      refine Go.goto (pc' := 26) H at_22 (by decide) (by decide) ?_
      refine Go.istore (ls' := #[.val (.int a), .val (.int b), .val (.int c), .val (.int d), .val (.int e), .val (.int (1 : Int32)), .val (.int (1 : Int32)), .unset, .unset, .unset, .unset, .unset, .unset, .unset, .unset, .unset, .unset, .unset]) H at_26 rfl rfl ?_
      refine Go.iloadN H at_28 rfl rfl ?_
      refine Go.iconst (2 : Int32) H at_29 rfl rfl ?_
      refine Go.ishr H at_30 rfl ?_
      refine Go.iconst (3 : Int32) H at_31 rfl rfl ?_
      refine Go.iand H at_32 rfl ?_
      refine Go.istore (ls' := #[.val (.int a), .val (.int b), .val (.int c), .val (.int d), .val (.int e), .val (.int (1 : Int32)), .val (.int (1 : Int32)), .val (.int ((a >>> ((2 : Int32) &&& 31)) &&& (3 : Int32))), .unset, .unset, .unset, .unset, .unset, .unset, .unset, .unset, .unset, .unset]) H at_33 rfl rfl ?_
      refine Go.iload H at_35 rfl rfl ?_
      refine Go.ifN H at_37 (by decide) rfl ?_
      refine Go.bipush (8 : Int32) H at_40 rfl rfl ?_
      refine Go.newarray 8 8 H at_42 rfl w0 rfl (by decide) (by decide) (by decide) (by decide) (by decide) (by decide) (by decide) ?_
      intro a678 h679 g680 z681 E682 F683
      replace F683 : Vec Z h679 a678 .char [(0 : Int32), (0 : Int32), (0 : Int32), (0 : Int32), (0 : Int32), (0 : Int32), (0 : Int32), (0 : Int32)] := F683
      show Go _ _ _ _ _ _ h679 [a678] 1 8 44 #[.val (.int a), .val (.int b), .val (.int c), .val (.int d), .val (.int e), .val (.int (1 : Int32)), .val (.int (1 : Int32)), .val (.int ((a >>> ((2 : Int32) &&& 31)) &&& (3 : Int32))), .unset, .unset, .unset, .unset, .unset, .unset, .unset, .unset, .unset, .unset] [(.ref a678)]
      refine Go.dup H at_44 rfl rfl ?_
      refine Go.iconst (0 : Int32) H at_45 rfl rfl ?_
      refine Go.bipush (102 : Int32) H at_46 rfl rfl ?_
      refine Go.castore (102 : Int32) H at_48 rfl F683 0 (by decide) (by decide) (Nat.le_of_ble_eq_true rfl) (by decide) z681 (by simp) ?_
      intro h684 K685 F686
      replace F686 : Vec Z h684 a678 .char [(102 : Int32), (0 : Int32), (0 : Int32), (0 : Int32), (0 : Int32), (0 : Int32), (0 : Int32), (0 : Int32)] := F686
      refine Go.dup H at_49 rfl rfl ?_
      refine Go.iconst (1 : Int32) H at_50 rfl rfl ?_
      refine Go.bipush (99 : Int32) H at_51 rfl rfl ?_
      refine Go.castore (99 : Int32) H at_53 rfl F686 1 (by decide) (by decide) (Nat.le_of_ble_eq_true rfl) (by decide) z681 (by simp) ?_
      intro h687 K688 F689
      replace F689 : Vec Z h687 a678 .char [(102 : Int32), (99 : Int32), (0 : Int32), (0 : Int32), (0 : Int32), (0 : Int32), (0 : Int32), (0 : Int32)] := F689
      refine Go.dup H at_54 rfl rfl ?_
      refine Go.iconst (2 : Int32) H at_55 rfl rfl ?_
      refine Go.bipush (114 : Int32) H at_56 rfl rfl ?_
      refine Go.castore (114 : Int32) H at_58 rfl F689 2 (by decide) (by decide) (Nat.le_of_ble_eq_true rfl) (by decide) z681 (by simp) ?_
      intro h690 K691 F692
      replace F692 : Vec Z h690 a678 .char [(102 : Int32), (99 : Int32), (114 : Int32), (0 : Int32), (0 : Int32), (0 : Int32), (0 : Int32), (0 : Int32)] := F692
      refine Go.dup H at_59 rfl rfl ?_
      refine Go.iconst (3 : Int32) H at_60 rfl rfl ?_
      refine Go.bipush (58 : Int32) H at_61 rfl rfl ?_
      refine Go.castore (58 : Int32) H at_63 rfl F692 3 (by decide) (by decide) (Nat.le_of_ble_eq_true rfl) (by decide) z681 (by simp) ?_
      intro h693 K694 F695
      replace F695 : Vec Z h693 a678 .char [(102 : Int32), (99 : Int32), (114 : Int32), (58 : Int32), (0 : Int32), (0 : Int32), (0 : Int32), (0 : Int32)] := F695
      refine Go.dup H at_64 rfl rfl ?_
      refine Go.iconst (4 : Int32) H at_65 rfl rfl ?_
      refine Go.bipush (97 : Int32) H at_66 rfl rfl ?_
      refine Go.castore (97 : Int32) H at_68 rfl F695 4 (by decide) (by decide) (Nat.le_of_ble_eq_true rfl) (by decide) z681 (by simp) ?_
      intro h696 K697 F698
      replace F698 : Vec Z h696 a678 .char [(102 : Int32), (99 : Int32), (114 : Int32), (58 : Int32), (97 : Int32), (0 : Int32), (0 : Int32), (0 : Int32)] := F698
      refine Go.dup H at_69 rfl rfl ?_
      refine Go.iconst (5 : Int32) H at_70 rfl rfl ?_
      refine Go.bipush (99 : Int32) H at_71 rfl rfl ?_
      refine Go.castore (99 : Int32) H at_73 rfl F698 5 (by decide) (by decide) (Nat.le_of_ble_eq_true rfl) (by decide) z681 (by simp) ?_
      intro h699 K700 F701
      replace F701 : Vec Z h699 a678 .char [(102 : Int32), (99 : Int32), (114 : Int32), (58 : Int32), (97 : Int32), (99 : Int32), (0 : Int32), (0 : Int32)] := F701
      refine Go.dup H at_74 rfl rfl ?_
      refine Go.bipush (6 : Int32) H at_75 rfl rfl ?_
      refine Go.bipush (108 : Int32) H at_77 rfl rfl ?_
      refine Go.castore (108 : Int32) H at_79 rfl F701 6 (by decide) (by decide) (Nat.le_of_ble_eq_true rfl) (by decide) z681 (by simp) ?_
      intro h702 K703 F704
      replace F704 : Vec Z h702 a678 .char [(102 : Int32), (99 : Int32), (114 : Int32), (58 : Int32), (97 : Int32), (99 : Int32), (108 : Int32), (0 : Int32)] := F704
      refine Go.dup H at_80 rfl rfl ?_
      refine Go.bipush (7 : Int32) H at_81 rfl rfl ?_
      refine Go.bipush (120 : Int32) H at_83 rfl rfl ?_
      refine Go.castore (120 : Int32) H at_85 rfl F704 7 (by decide) (by decide) (Nat.le_of_ble_eq_true rfl) (by decide) z681 (by simp) ?_
      intro h705 K706 F707
      replace F707 : Vec Z h705 a678 .char [(102 : Int32), (99 : Int32), (114 : Int32), (58 : Int32), (97 : Int32), (99 : Int32), (108 : Int32), (120 : Int32)] := F707
      refine Go.astore (ls' := #[.val (.int a), .val (.int b), .val (.int c), .val (.int d), .val (.int e), .val (.int (1 : Int32)), .val (.int (1 : Int32)), .val (.int ((a >>> ((2 : Int32) &&& 31)) &&& (3 : Int32))), .val (.ref a678), .unset, .unset, .unset, .unset, .unset, .unset, .unset, .unset, .unset]) H at_86 rfl rfl rfl ?_
      refine Go.goto (pc' := 169) H at_88 (by decide) (by decide) ?_
      refine Go.aload H at_169 rfl rfl rfl ?_
      refine Go.arraylength (8 : Int32) H at_171 rfl F707 rfl ?_
      refine Go.iconst (1 : Int32) H at_172 rfl rfl ?_
      refine Go.isub H at_173 rfl ?_
      show Go _ _ _ _ _ _ h705 [a678] 1 8 174 #[.val (.int a), .val (.int b), .val (.int c), .val (.int d), .val (.int e), .val (.int (1 : Int32)), .val (.int (1 : Int32)), .val (.int ((a >>> ((2 : Int32) &&& 31)) &&& (3 : Int32))), .val (.ref a678), .unset, .unset, .unset, .unset, .unset, .unset, .unset, .unset, .unset] [(.int (7 : Int32))]
      refine Go.istore (ls' := #[.val (.int a), .val (.int b), .val (.int c), .val (.int d), .val (.int e), .val (.int (1 : Int32)), .val (.int (1 : Int32)), .val (.int ((a >>> ((2 : Int32) &&& 31)) &&& (3 : Int32))), .val (.ref a678), .val (.int (7 : Int32)), .unset, .unset, .unset, .unset, .unset, .unset, .unset, .unset]) H at_174 rfl rfl ?_
      refine Go.aload H at_176 rfl rfl rfl ?_
      refine Go.iload H at_178 rfl rfl ?_
      refine Go.iload H at_180 rfl rfl ?_
      refine Go.sipush (255 : Int32) H at_182 rfl rfl ?_
      refine Go.iand H at_185 rfl ?_
      refine Go.i2c H at_186 rfl ?_
      refine Go.castore (nar .char (e &&& (255 : Int32))) H at_187 rfl F707 7 (by decide) (by decide) (Nat.le_of_ble_eq_true rfl) own_nn z681 (by simp) ?_
      intro h708 K709 F710
      replace F710 : Vec Z h708 a678 .char [(102 : Int32), (99 : Int32), (114 : Int32), (58 : Int32), (97 : Int32), (99 : Int32), (108 : Int32), (nar .char (e &&& (255 : Int32)))] := F710
      refine Go.iloadN H at_188 rfl rfl ?_
      refine Go.ldcInt H at_189 rfl w1 ?_
      refine Go.iand H at_191 rfl ?_
      refine Go.iload H at_192 rfl rfl ?_
      refine Go.iconst (1 : Int32) H at_194 rfl rfl ?_
      refine Go.iadd H at_195 rfl ?_
      show Go _ _ _ _ _ _ h708 [a678] 1 8 196 #[.val (.int a), .val (.int b), .val (.int c), .val (.int d), .val (.int e), .val (.int (1 : Int32)), .val (.int (1 : Int32)), .val (.int ((a >>> ((2 : Int32) &&& 31)) &&& (3 : Int32))), .val (.ref a678), .val (.int (7 : Int32)), .unset, .unset, .unset, .unset, .unset, .unset, .unset, .unset] [(.int (8 : Int32)), (.int (b &&& (2147483647 : Int32)))]
      refine Go.irem H at_196 rfl (by decide) ?_
      obtain ⟨p, hp, hp2⟩ := own_mod8 b
      rw [hp]
      refine Go.istore (ls' := #[.val (.int a), .val (.int b), .val (.int c), .val (.int d), .val (.int e), .val (.int (1 : Int32)), .val (.int (1 : Int32)), .val (.int ((a >>> ((2 : Int32) &&& 31)) &&& (3 : Int32))), .val (.ref a678), .val (.int (7 : Int32)), .val (.int p.toInt32), .unset, .unset, .unset, .unset, .unset, .unset, .unset]) H at_197 rfl rfl ?_
      refine Go.iloadN H at_199 rfl rfl ?_
      refine Go.sipush (255 : Int32) H at_200 rfl rfl ?_
      refine Go.iand H at_203 rfl ?_
      refine Go.i2c H at_204 rfl ?_
      refine Go.istore (ls' := #[.val (.int a), .val (.int b), .val (.int c), .val (.int d), .val (.int e), .val (.int (1 : Int32)), .val (.int (1 : Int32)), .val (.int ((a >>> ((2 : Int32) &&& 31)) &&& (3 : Int32))), .val (.ref a678), .val (.int (7 : Int32)), .val (.int p.toInt32), .val (.int (nar .char (c &&& (255 : Int32)))), .unset, .unset, .unset, .unset, .unset, .unset]) H at_205 rfl rfl ?_
      refine Go.aload H at_207 rfl rfl rfl ?_
      refine Go.iload H at_209 rfl rfl ?_
      refine Go.caload (v := ([(102 : Int32), (99 : Int32), (114 : Int32), (58 : Int32), (97 : Int32), (99 : Int32), (108 : Int32), (nar .char (e &&& (255 : Int32)))].getD p 0)) H at_211 rfl F710 p (own_cl (by omega)) (own_n0 (by omega)) (own_gd (show p < [(102 : Int32), (99 : Int32), (114 : Int32), (58 : Int32), (97 : Int32), (99 : Int32), (108 : Int32), (nar .char (e &&& (255 : Int32)))].length from hp2)) ?_
      refine Go.iload H at_212 rfl rfl ?_
      by_cases c711 : ([(102 : Int32), (99 : Int32), (114 : Int32), (58 : Int32), (97 : Int32), (99 : Int32), (108 : Int32), (nar .char (e &&& (255 : Int32)))].getD p 0) = (nar .char (c &&& (255 : Int32)))
      ·
        refine Go.icmpN H at_214 (teq c711).2 rfl ?_
        refine Go.iconst (1 : Int32) H at_217 rfl rfl ?_
        refine Go.goto (pc' := 222) H at_218 (by decide) (by decide) ?_
        refine Go.istore (ls' := #[.val (.int a), .val (.int b), .val (.int c), .val (.int d), .val (.int e), .val (.int (1 : Int32)), .val (.int (1 : Int32)), .val (.int ((a >>> ((2 : Int32) &&& 31)) &&& (3 : Int32))), .val (.ref a678), .val (.int (7 : Int32)), .val (.int p.toInt32), .val (.int (nar .char (c &&& (255 : Int32)))), .val (.int (1 : Int32)), .unset, .unset, .unset, .unset, .unset]) H at_222 rfl rfl ?_
        refine Go.iload H at_224 rfl rfl ?_
        refine Go.ifN H at_226 (by decide) rfl ?_
        refine Go.aload H at_229 rfl rfl rfl ?_
        refine Go.iload H at_231 rfl rfl ?_
        refine Go.iload H at_233 rfl rfl ?_
        refine Go.castore (nar .char (c &&& (255 : Int32))) H at_235 rfl F710 p (own_cl (by omega)) (own_n0 (by omega)) (show p < [(102 : Int32), (99 : Int32), (114 : Int32), (58 : Int32), (97 : Int32), (99 : Int32), (108 : Int32), (nar .char (e &&& (255 : Int32)))].length from hp2) own_nn z681 (by simp) ?_
        intro h712 K713 F714
        refine Go.iload H at_236 rfl rfl ?_
        by_cases c715 : ((a >>> ((2 : Int32) &&& 31)) &&& (3 : Int32)) = (0 : Int32)
        ·
          refine Go.ifN H at_238 (teq c715).2 rfl ?_
          refine Go.iload H at_241 rfl rfl ?_
          refine Go.istore (ls' := #[.val (.int a), .val (.int b), .val (.int c), .val (.int d), .val (.int e), .val (.int (1 : Int32)), .val (.int (1 : Int32)), .val (.int ((a >>> ((2 : Int32) &&& 31)) &&& (3 : Int32))), .val (.ref a678), .val (.int (7 : Int32)), .val (.int p.toInt32), .val (.int (nar .char (c &&& (255 : Int32)))), .val (.int (1 : Int32)), .val (.int (7 : Int32)), .unset, .unset, .unset, .unset]) H at_243 rfl rfl ?_
          refine Go.goto (pc' := 274) H at_245 (by decide) (by decide) ?_
          refine Go.new H at_274 rfl w2 w3 w4 (by decide) (by decide) ?_
          intro a716 h717 g718 z719 E720 A721 D722
          have ne723 : a678 ≠ a716 := Nat.ne_of_lt (Nat.lt_of_lt_of_le F714.lt (Nat.le_of_eq g718.symm))
          replace F714 := F714.ext E720
          have F724 : Fld Z h717 a716 "java/lang/String" "coder" "B" (.int (0 : Int32)) := D722 (Or.inr w32) (ty := .byte) (by decide)
          have F725 : Fld Z h717 a716 "java/lang/String" "value" "[B" .null := D722 (Or.inr w34) (ty := (.array .byte)) (by decide)
          show Go _ _ _ _ _ _ h717 [a716, a678] 2 12 277 #[.val (.int a), .val (.int b), .val (.int c), .val (.int d), .val (.int e), .val (.int (1 : Int32)), .val (.int (1 : Int32)), .val (.int ((a >>> ((2 : Int32) &&& 31)) &&& (3 : Int32))), .val (.ref a678), .val (.int (7 : Int32)), .val (.int p.toInt32), .val (.int (nar .char (c &&& (255 : Int32)))), .val (.int (1 : Int32)), .val (.int (7 : Int32)), .unset, .unset, .unset, .unset] [(.ref a716)]
          refine Go.dup H at_277 rfl rfl ?_
          refine Go.aload H at_278 rfl rfl rfl ?_
          refine Go.iload H at_280 rfl rfl ?_
          refine Go.callS (rest := [(.ref a716), (.ref a716)]) 2 [(.ref a678), (.int (7 : Int32))] H at_282 rfl w5 w6 w7 w8 pd_N18 (ct_pre l W a678 ([(102 : Int32), (99 : Int32), (114 : Int32), (58 : Int32), (97 : Int32), (99 : Int32), (108 : Int32), (nar .char (e &&& (255 : Int32)))].set p (nar .char (c &&& (255 : Int32)))) 7 h717 F714 (by rw [List.length_set]; show _ ≤ 8; omega) (by rw [List.length_set]; exact Nat.le_of_ble_eq_true rfl) (own_setL (own_ac (show isL (102 : Int32) from ⟨by decide, by decide⟩) (own_ac (show isL (99 : Int32) from ⟨by decide, by decide⟩) (own_ac (show isL (114 : Int32) from ⟨by decide, by decide⟩) (own_ac (show isL (58 : Int32) from ⟨by decide, by decide⟩) (own_ac (show isL (97 : Int32) from ⟨by decide, by decide⟩) (own_ac (show isL (99 : Int32) from ⟨by decide, by decide⟩) (own_ac (show isL (108 : Int32) from ⟨by decide, by decide⟩) (own_ac (own_and255 _) own_an)))))))) (own_and255 _))) all0 rfl rfl rfl (Nat.le_of_eq rfl) (by decide) (by decide) (by decide) (by decide) nh_N18 ?_
          rintro _ h727 _ ⟨r726, rfl, E728, g729, F730, rfl⟩
          have ne731 : a678 ≠ r726 := Nat.ne_of_lt (Nat.lt_of_lt_of_le F714.lt g729)
          have ne732 : a716 ≠ r726 := Nat.ne_of_lt (Nat.lt_of_lt_of_le A721.lt g729)
          replace F714 := F714.ext E728
          replace A721 := A721.ext E728
          replace F724 := F724.ext E728
          replace F725 := F725.ext E728
          show Go _ _ _ _ _ _ h727 [a716, a678] 3 25 285 #[.val (.int a), .val (.int b), .val (.int c), .val (.int d), .val (.int e), .val (.int (1 : Int32)), .val (.int (1 : Int32)), .val (.int ((a >>> ((2 : Int32) &&& 31)) &&& (3 : Int32))), .val (.ref a678), .val (.int (7 : Int32)), .val (.int p.toInt32), .val (.int (nar .char (c &&& (255 : Int32)))), .val (.int (1 : Int32)), .val (.int (7 : Int32)), .unset, .unset, .unset, .unset] [(.ref r726), (.ref a716), (.ref a716)]
          refine Go.callI (rest := [(.ref a716)]) 1 [(.ref r726)] H at_285 rfl rfl w9 w10 w4 w11 pd_N5 (ct_new1 l W a716 r726 (([(102 : Int32), (99 : Int32), (114 : Int32), (58 : Int32), (97 : Int32), (99 : Int32), (108 : Int32), (nar .char (e &&& (255 : Int32)))].set p (nar .char (c &&& (255 : Int32)))).take 7) h727 A721 F725 F724  F730 (own_takeL' (own_setL (own_ac (show isL (102 : Int32) from ⟨by decide, by decide⟩) (own_ac (show isL (99 : Int32) from ⟨by decide, by decide⟩) (own_ac (show isL (114 : Int32) from ⟨by decide, by decide⟩) (own_ac (show isL (58 : Int32) from ⟨by decide, by decide⟩) (own_ac (show isL (97 : Int32) from ⟨by decide, by decide⟩) (own_ac (show isL (99 : Int32) from ⟨by decide, by decide⟩) (own_ac (show isL (108 : Int32) from ⟨by decide, by decide⟩) (own_ac (own_and255 _) own_an)))))))) (own_and255 _))) (by rw [List.length_take, List.length_set]; exact Nat.le_trans (Nat.min_le_right _ _) (Nat.le_of_ble_eq_true rfl))  z719) (by simp) rfl rfl rfl (Nat.le_of_eq rfl) (by decide) (by decide) (by decide) (by decide) nh_N4 ?_
          rintro _ h733 _ ⟨rfl, K734, ⟨b735, S737⟩, rfl⟩
          replace F714 := F714.keep K734 (ninS ne723 nin0)
          replace F730 := F730.keep K734 (ninS (Ne.symm ne732) nin0)
          show Go _ _ _ _ _ _ h733 [a716, a678] 7 38 288 #[.val (.int a), .val (.int b), .val (.int c), .val (.int d), .val (.int e), .val (.int (1 : Int32)), .val (.int (1 : Int32)), .val (.int ((a >>> ((2 : Int32) &&& 31)) &&& (3 : Int32))), .val (.ref a678), .val (.int (7 : Int32)), .val (.int p.toInt32), .val (.int (nar .char (c &&& (255 : Int32)))), .val (.int (1 : Int32)), .val (.int (7 : Int32)), .unset, .unset, .unset, .unset] [(.ref a716)]
          refine Go.astore (ls' := #[.val (.int a), .val (.int b), .val (.int c), .val (.int d), .val (.int e), .val (.int (1 : Int32)), .val (.int (1 : Int32)), .val (.int ((a >>> ((2 : Int32) &&& 31)) &&& (3 : Int32))), .val (.ref a678), .val (.int (7 : Int32)), .val (.int p.toInt32), .val (.int (nar .char (c &&& (255 : Int32)))), .val (.int (1 : Int32)), .val (.int (7 : Int32)), .val (.ref a716), .unset, .unset, .unset]) H at_288 rfl rfl rfl ?_
          refine Go.aload H at_290 rfl rfl rfl ?_
          refine Go.callS (rest := []) 0 [(.ref a716)] H at_292 rfl w35 w36 w37 w38 pd_N17 (ct_bys l W a716 b735 (([(102 : Int32), (99 : Int32), (114 : Int32), (58 : Int32), (97 : Int32), (99 : Int32), (108 : Int32), (nar .char (e &&& (255 : Int32)))].set p (nar .char (c &&& (255 : Int32)))).take 7) h733 S737) all0 rfl rfl rfl (Nat.le_of_eq rfl) (by decide) (by decide) (by decide) (by decide) nh_N10 ?_
          rintro _ h739 _ ⟨o738, rfl, E740, A741, F742, rfl⟩
          replace F714 := F714.ext E740
          replace F730 := F730.ext E740
          replace S737 := S737.ext E740
          show Go _ _ _ _ _ _ h739 [a716, a678] 9 41 295 #[.val (.int a), .val (.int b), .val (.int c), .val (.int d), .val (.int e), .val (.int (1 : Int32)), .val (.int (1 : Int32)), .val (.int ((a >>> ((2 : Int32) &&& 31)) &&& (3 : Int32))), .val (.ref a678), .val (.int (7 : Int32)), .val (.int p.toInt32), .val (.int (nar .char (c &&& (255 : Int32)))), .val (.int (1 : Int32)), .val (.int (7 : Int32)), .val (.ref a716), .unset, .unset, .unset] [(.ref o738)]
          refine Go.astore (ls' := #[.val (.int a), .val (.int b), .val (.int c), .val (.int d), .val (.int e), .val (.int (1 : Int32)), .val (.int (1 : Int32)), .val (.int ((a >>> ((2 : Int32) &&& 31)) &&& (3 : Int32))), .val (.ref a678), .val (.int (7 : Int32)), .val (.int p.toInt32), .val (.int (nar .char (c &&& (255 : Int32)))), .val (.int (1 : Int32)), .val (.int (7 : Int32)), .val (.ref a716), .val (.ref o738), .unset, .unset]) H at_295 rfl rfl rfl ?_
          refine Go.iload H at_297 rfl rfl ?_
          refine Go.iload H at_299 rfl rfl ?_
          refine Go.icmpN H at_301 (by decide) rfl ?_
          refine Go.iload H at_304 rfl rfl ?_
          refine Go.ifN H at_306 (by decide) rfl ?_
          refine Go.iload H at_309 rfl rfl ?_
          refine Go.iload H at_311 rfl rfl ?_
          by_cases c743 : p < 7
          ·
            refine Go.icmpN H at_313 (tlt (own_lt (n := 7) (by decide) c743)).2.1 rfl ?_
            refine Go.iload H at_316 rfl rfl ?_
            refine Go.ifN H at_318 (by decide) rfl ?_
            refine Go.iconst (1 : Int32) H at_321 rfl rfl ?_
            refine Go.goto (pc' := 326) H at_322 (by decide) (by decide) ?_
            refine Go.istore (ls' := #[.val (.int a), .val (.int b), .val (.int c), .val (.int d), .val (.int e), .val (.int (1 : Int32)), .val (.int (1 : Int32)), .val (.int ((a >>> ((2 : Int32) &&& 31)) &&& (3 : Int32))), .val (.ref a678), .val (.int (7 : Int32)), .val (.int p.toInt32), .val (.int (nar .char (c &&& (255 : Int32)))), .val (.int (1 : Int32)), .val (.int (7 : Int32)), .val (.ref a716), .val (.ref o738), .val (.int (1 : Int32)), .unset]) H at_326 rfl rfl ?_
            refine Go.iload H at_328 rfl rfl ?_
            refine Go.ifY (pc' := 347) H at_330 (by decide) (by decide) (by decide) ?_
            have e744 : selV dD dA (([(102 : Int32), (99 : Int32), (114 : Int32), (58 : Int32), (97 : Int32), (99 : Int32), (108 : Int32), (nar .char (e &&& (255 : Int32)))].set p (nar .char (c &&& (255 : Int32)))).take 7) = .ref dA := (by rw [own_setsame hp2 c711]; exact selA_hit)
            rw [e744] at F742
            refine Go.iload H at_347 rfl rfl ?_
            refine Go.ifN H at_349 (by decide) rfl ?_
            refine Go.getstatic H at_352 rfl w103 W.2.2.2.1 ?_
            refine Go.goto (pc' := 361) H at_355 (by decide) (by decide) ?_
            refine Go.astore (ls' := #[.val (.int a), .val (.int b), .val (.int c), .val (.int d), .val (.int e), .val (.int (1 : Int32)), .val (.int (1 : Int32)), .val (.int ((a >>> ((2 : Int32) &&& 31)) &&& (3 : Int32))), .val (.ref a678), .val (.int (7 : Int32)), .val (.int p.toInt32), .val (.int (nar .char (c &&& (255 : Int32)))), .val (.int (1 : Int32)), .val (.int (7 : Int32)), .val (.ref a716), .val (.ref o738), .val (.int (1 : Int32)), .val (.ref dA)]) H at_361 rfl rfl rfl ?_
            refine Go.aload H at_363 rfl rfl rfl ?_
            refine Go.callV (rest := []) 0 [] H at_365 rfl A741 w86 w87 w89 w88 w70 w90 pd_N15 (ct_isp1 l W o738 dA h739 F742) all0 rfl rfl rfl (Nat.le_of_eq rfl) (by decide) (by decide) (by decide) (by decide) nh_N12 ?_
            rintro _ _ _ ⟨rfl, rfl, rfl⟩
            show Go _ _ _ _ _ _ h739 [a716, a678] 9 41 368 #[.val (.int a), .val (.int b), .val (.int c), .val (.int d), .val (.int e), .val (.int (1 : Int32)), .val (.int (1 : Int32)), .val (.int ((a >>> ((2 : Int32) &&& 31)) &&& (3 : Int32))), .val (.ref a678), .val (.int (7 : Int32)), .val (.int p.toInt32), .val (.int (nar .char (c &&& (255 : Int32)))), .val (.int (1 : Int32)), .val (.int (7 : Int32)), .val (.ref a716), .val (.ref o738), .val (.int (1 : Int32)), .val (.ref dA)] [(.int (1 : Int32))]
            refine Go.ifN H at_368 (by decide) rfl ?_
            refine Go.aload H at_371 rfl rfl rfl ?_
            refine Go.callV (rest := []) 0 [] H at_373 rfl A741 w91 w92 w94 w93 w70 w95 pd_N16 (ct_opg l W o738 dA h739 F742) all0 rfl rfl rfl (Nat.le_of_eq rfl) (by decide) (by decide) (by decide) (by decide) nh_N12 ?_
            rintro _ _ _ ⟨rfl, rfl, rfl⟩
            show Go _ _ _ _ _ _ h739 [a716, a678] 9 41 376 #[.val (.int a), .val (.int b), .val (.int c), .val (.int d), .val (.int e), .val (.int (1 : Int32)), .val (.int (1 : Int32)), .val (.int ((a >>> ((2 : Int32) &&& 31)) &&& (3 : Int32))), .val (.ref a678), .val (.int (7 : Int32)), .val (.int p.toInt32), .val (.int (nar .char (c &&& (255 : Int32)))), .val (.int (1 : Int32)), .val (.int (7 : Int32)), .val (.ref a716), .val (.ref o738), .val (.int (1 : Int32)), .val (.ref dA)] [(.ref dA)]
            refine Go.aload H at_376 rfl rfl rfl ?_
            refine Go.acmpN H at_378 rfl rfl (by simp [XT.acmp]) rfl ?_
            refine Go.iconst (1 : Int32) H at_381 rfl rfl ?_
            refine Go.goto (pc' := 386) H at_382 (by decide) (by decide) ?_
            exact Go.ireturn 1 [] H at_386 (by simp) (by decide) ⟨rfl, trivial⟩ all0 (by decide) (by decide)
          ·
            refine Go.icmpY (pc' := 321) H at_313 (flt (own_nlt (n := 7) (by omega) (by omega))).2.1 (by decide) (by decide) ?_
            refine Go.iconst (1 : Int32) H at_321 rfl rfl ?_
            refine Go.goto (pc' := 326) H at_322 (by decide) (by decide) ?_
            refine Go.istore (ls' := #[.val (.int a), .val (.int b), .val (.int c), .val (.int d), .val (.int e), .val (.int (1 : Int32)), .val (.int (1 : Int32)), .val (.int ((a >>> ((2 : Int32) &&& 31)) &&& (3 : Int32))), .val (.ref a678), .val (.int (7 : Int32)), .val (.int p.toInt32), .val (.int (nar .char (c &&& (255 : Int32)))), .val (.int (1 : Int32)), .val (.int (7 : Int32)), .val (.ref a716), .val (.ref o738), .val (.int (1 : Int32)), .unset]) H at_326 rfl rfl ?_
            refine Go.iload H at_328 rfl rfl ?_
            refine Go.ifY (pc' := 347) H at_330 (by decide) (by decide) (by decide) ?_
            have e745 : selV dD dA (([(102 : Int32), (99 : Int32), (114 : Int32), (58 : Int32), (97 : Int32), (99 : Int32), (108 : Int32), (nar .char (e &&& (255 : Int32)))].set p (nar .char (c &&& (255 : Int32)))).take 7) = .ref dA := selA_hit7 c743 hp2
            rw [e745] at F742
            refine Go.iload H at_347 rfl rfl ?_
            refine Go.ifN H at_349 (by decide) rfl ?_
            refine Go.getstatic H at_352 rfl w103 W.2.2.2.1 ?_
            refine Go.goto (pc' := 361) H at_355 (by decide) (by decide) ?_
            refine Go.astore (ls' := #[.val (.int a), .val (.int b), .val (.int c), .val (.int d), .val (.int e), .val (.int (1 : Int32)), .val (.int (1 : Int32)), .val (.int ((a >>> ((2 : Int32) &&& 31)) &&& (3 : Int32))), .val (.ref a678), .val (.int (7 : Int32)), .val (.int p.toInt32), .val (.int (nar .char (c &&& (255 : Int32)))), .val (.int (1 : Int32)), .val (.int (7 : Int32)), .val (.ref a716), .val (.ref o738), .val (.int (1 : Int32)), .val (.ref dA)]) H at_361 rfl rfl rfl ?_
            refine Go.aload H at_363 rfl rfl rfl ?_
            refine Go.callV (rest := []) 0 [] H at_365 rfl A741 w86 w87 w89 w88 w70 w90 pd_N15 (ct_isp1 l W o738 dA h739 F742) all0 rfl rfl rfl (Nat.le_of_eq rfl) (by decide) (by decide) (by decide) (by decide) nh_N12 ?_
            rintro _ _ _ ⟨rfl, rfl, rfl⟩
            show Go _ _ _ _ _ _ h739 [a716, a678] 9 41 368 #[.val (.int a), .val (.int b), .val (.int c), .val (.int d), .val (.int e), .val (.int (1 : Int32)), .val (.int (1 : Int32)), .val (.int ((a >>> ((2 : Int32) &&& 31)) &&& (3 : Int32))), .val (.ref a678), .val (.int (7 : Int32)), .val (.int p.toInt32), .val (.int (nar .char (c &&& (255 : Int32)))), .val (.int (1 : Int32)), .val (.int (7 : Int32)), .val (.ref a716), .val (.ref o738), .val (.int (1 : Int32)), .val (.ref dA)] [(.int (1 : Int32))]
            refine Go.ifN H at_368 (by decide) rfl ?_
            refine Go.aload H at_371 rfl rfl rfl ?_
            refine Go.callV (rest := []) 0 [] H at_373 rfl A741 w91 w92 w94 w93 w70 w95 pd_N16 (ct_opg l W o738 dA h739 F742) all0 rfl rfl rfl (Nat.le_of_eq rfl) (by decide) (by decide) (by decide) (by decide) nh_N12 ?_
            rintro _ _ _ ⟨rfl, rfl, rfl⟩
            show Go _ _ _ _ _ _ h739 [a716, a678] 9 41 376 #[.val (.int a), .val (.int b), .val (.int c), .val (.int d), .val (.int e), .val (.int (1 : Int32)), .val (.int (1 : Int32)), .val (.int ((a >>> ((2 : Int32) &&& 31)) &&& (3 : Int32))), .val (.ref a678), .val (.int (7 : Int32)), .val (.int p.toInt32), .val (.int (nar .char (c &&& (255 : Int32)))), .val (.int (1 : Int32)), .val (.int (7 : Int32)), .val (.ref a716), .val (.ref o738), .val (.int (1 : Int32)), .val (.ref dA)] [(.ref dA)]
            refine Go.aload H at_376 rfl rfl rfl ?_
            refine Go.acmpN H at_378 rfl rfl (by simp [XT.acmp]) rfl ?_
            refine Go.iconst (1 : Int32) H at_381 rfl rfl ?_
            refine Go.goto (pc' := 386) H at_382 (by decide) (by decide) ?_
            exact Go.ireturn 1 [] H at_386 (by simp) (by decide) ⟨rfl, trivial⟩ all0 (by decide) (by decide)
        ·
          refine Go.ifY (pc' := 248) H at_238 (feq c715).2 (by decide) (by decide) ?_
          refine Go.iload H at_248 rfl rfl ?_
          refine Go.iconst (1 : Int32) H at_250 rfl rfl ?_
          by_cases c746 : ((a >>> ((2 : Int32) &&& 31)) &&& (3 : Int32)) = (1 : Int32)
          ·
            refine Go.icmpN H at_251 (teq c746).2 rfl ?_
            refine Go.iload H at_254 rfl rfl ?_
            refine Go.iconst (1 : Int32) H at_256 rfl rfl ?_
            refine Go.iadd H at_257 rfl ?_
            show Go _ _ _ _ _ _ h712 [a678] 1 8 258 #[.val (.int a), .val (.int b), .val (.int c), .val (.int d), .val (.int e), .val (.int (1 : Int32)), .val (.int (1 : Int32)), .val (.int ((a >>> ((2 : Int32) &&& 31)) &&& (3 : Int32))), .val (.ref a678), .val (.int (7 : Int32)), .val (.int p.toInt32), .val (.int (nar .char (c &&& (255 : Int32)))), .val (.int (1 : Int32)), .unset, .unset, .unset, .unset, .unset] [(.int (8 : Int32))]
            refine Go.istore (ls' := #[.val (.int a), .val (.int b), .val (.int c), .val (.int d), .val (.int e), .val (.int (1 : Int32)), .val (.int (1 : Int32)), .val (.int ((a >>> ((2 : Int32) &&& 31)) &&& (3 : Int32))), .val (.ref a678), .val (.int (7 : Int32)), .val (.int p.toInt32), .val (.int (nar .char (c &&& (255 : Int32)))), .val (.int (1 : Int32)), .val (.int (8 : Int32)), .unset, .unset, .unset, .unset]) H at_258 rfl rfl ?_
            refine Go.goto (pc' := 274) H at_260 (by decide) (by decide) ?_
            refine Go.new H at_274 rfl w2 w3 w4 (by decide) (by decide) ?_
            intro a747 h748 g749 z750 E751 A752 D753
            have ne754 : a678 ≠ a747 := Nat.ne_of_lt (Nat.lt_of_lt_of_le F714.lt (Nat.le_of_eq g749.symm))
            replace F714 := F714.ext E751
            have F755 : Fld Z h748 a747 "java/lang/String" "coder" "B" (.int (0 : Int32)) := D753 (Or.inr w32) (ty := .byte) (by decide)
            have F756 : Fld Z h748 a747 "java/lang/String" "value" "[B" .null := D753 (Or.inr w34) (ty := (.array .byte)) (by decide)
            show Go _ _ _ _ _ _ h748 [a747, a678] 2 12 277 #[.val (.int a), .val (.int b), .val (.int c), .val (.int d), .val (.int e), .val (.int (1 : Int32)), .val (.int (1 : Int32)), .val (.int ((a >>> ((2 : Int32) &&& 31)) &&& (3 : Int32))), .val (.ref a678), .val (.int (7 : Int32)), .val (.int p.toInt32), .val (.int (nar .char (c &&& (255 : Int32)))), .val (.int (1 : Int32)), .val (.int (8 : Int32)), .unset, .unset, .unset, .unset] [(.ref a747)]
            refine Go.dup H at_277 rfl rfl ?_
            refine Go.aload H at_278 rfl rfl rfl ?_
            refine Go.iload H at_280 rfl rfl ?_
            refine Go.callS (rest := [(.ref a747), (.ref a747)]) 2 [(.ref a678), (.int (8 : Int32))] H at_282 rfl w5 w6 w7 w8 pd_N18 (ct_pre l W a678 ([(102 : Int32), (99 : Int32), (114 : Int32), (58 : Int32), (97 : Int32), (99 : Int32), (108 : Int32), (nar .char (e &&& (255 : Int32)))].set p (nar .char (c &&& (255 : Int32)))) 8 h748 F714 (by rw [List.length_set]; show _ ≤ 8; omega) (by rw [List.length_set]; exact Nat.le_of_ble_eq_true rfl) (own_setL (own_ac (show isL (102 : Int32) from ⟨by decide, by decide⟩) (own_ac (show isL (99 : Int32) from ⟨by decide, by decide⟩) (own_ac (show isL (114 : Int32) from ⟨by decide, by decide⟩) (own_ac (show isL (58 : Int32) from ⟨by decide, by decide⟩) (own_ac (show isL (97 : Int32) from ⟨by decide, by decide⟩) (own_ac (show isL (99 : Int32) from ⟨by decide, by decide⟩) (own_ac (show isL (108 : Int32) from ⟨by decide, by decide⟩) (own_ac (own_and255 _) own_an)))))))) (own_and255 _))) all0 rfl rfl rfl (Nat.le_of_eq rfl) (by decide) (by decide) (by decide) (by decide) nh_N18 ?_
            rintro _ h758 _ ⟨r757, rfl, E759, g760, F761, rfl⟩
            have ne762 : a678 ≠ r757 := Nat.ne_of_lt (Nat.lt_of_lt_of_le F714.lt g760)
            have ne763 : a747 ≠ r757 := Nat.ne_of_lt (Nat.lt_of_lt_of_le A752.lt g760)
            replace F714 := F714.ext E759
            replace A752 := A752.ext E759
            replace F755 := F755.ext E759
            replace F756 := F756.ext E759
            show Go _ _ _ _ _ _ h758 [a747, a678] 3 25 285 #[.val (.int a), .val (.int b), .val (.int c), .val (.int d), .val (.int e), .val (.int (1 : Int32)), .val (.int (1 : Int32)), .val (.int ((a >>> ((2 : Int32) &&& 31)) &&& (3 : Int32))), .val (.ref a678), .val (.int (7 : Int32)), .val (.int p.toInt32), .val (.int (nar .char (c &&& (255 : Int32)))), .val (.int (1 : Int32)), .val (.int (8 : Int32)), .unset, .unset, .unset, .unset] [(.ref r757), (.ref a747), (.ref a747)]
            refine Go.callI (rest := [(.ref a747)]) 1 [(.ref r757)] H at_285 rfl rfl w9 w10 w4 w11 pd_N5 (ct_new1 l W a747 r757 (([(102 : Int32), (99 : Int32), (114 : Int32), (58 : Int32), (97 : Int32), (99 : Int32), (108 : Int32), (nar .char (e &&& (255 : Int32)))].set p (nar .char (c &&& (255 : Int32)))).take 8) h758 A752 F756 F755  F761 (own_takeL' (own_setL (own_ac (show isL (102 : Int32) from ⟨by decide, by decide⟩) (own_ac (show isL (99 : Int32) from ⟨by decide, by decide⟩) (own_ac (show isL (114 : Int32) from ⟨by decide, by decide⟩) (own_ac (show isL (58 : Int32) from ⟨by decide, by decide⟩) (own_ac (show isL (97 : Int32) from ⟨by decide, by decide⟩) (own_ac (show isL (99 : Int32) from ⟨by decide, by decide⟩) (own_ac (show isL (108 : Int32) from ⟨by decide, by decide⟩) (own_ac (own_and255 _) own_an)))))))) (own_and255 _))) (by rw [List.length_take, List.length_set]; exact Nat.le_trans (Nat.min_le_right _ _) (Nat.le_of_ble_eq_true rfl))  z750) (by simp) rfl rfl rfl (Nat.le_of_eq rfl) (by decide) (by decide) (by decide) (by decide) nh_N4 ?_
            rintro _ h764 _ ⟨rfl, K765, ⟨b766, S768⟩, rfl⟩
            replace F714 := F714.keep K765 (ninS ne754 nin0)
            replace F761 := F761.keep K765 (ninS (Ne.symm ne763) nin0)
            show Go _ _ _ _ _ _ h764 [a747, a678] 7 38 288 #[.val (.int a), .val (.int b), .val (.int c), .val (.int d), .val (.int e), .val (.int (1 : Int32)), .val (.int (1 : Int32)), .val (.int ((a >>> ((2 : Int32) &&& 31)) &&& (3 : Int32))), .val (.ref a678), .val (.int (7 : Int32)), .val (.int p.toInt32), .val (.int (nar .char (c &&& (255 : Int32)))), .val (.int (1 : Int32)), .val (.int (8 : Int32)), .unset, .unset, .unset, .unset] [(.ref a747)]
            refine Go.astore (ls' := #[.val (.int a), .val (.int b), .val (.int c), .val (.int d), .val (.int e), .val (.int (1 : Int32)), .val (.int (1 : Int32)), .val (.int ((a >>> ((2 : Int32) &&& 31)) &&& (3 : Int32))), .val (.ref a678), .val (.int (7 : Int32)), .val (.int p.toInt32), .val (.int (nar .char (c &&& (255 : Int32)))), .val (.int (1 : Int32)), .val (.int (8 : Int32)), .val (.ref a747), .unset, .unset, .unset]) H at_288 rfl rfl rfl ?_
            refine Go.aload H at_290 rfl rfl rfl ?_
            refine Go.callS (rest := []) 0 [(.ref a747)] H at_292 rfl w35 w36 w37 w38 pd_N17 (ct_bys l W a747 b766 (([(102 : Int32), (99 : Int32), (114 : Int32), (58 : Int32), (97 : Int32), (99 : Int32), (108 : Int32), (nar .char (e &&& (255 : Int32)))].set p (nar .char (c &&& (255 : Int32)))).take 8) h764 S768) all0 rfl rfl rfl (Nat.le_of_eq rfl) (by decide) (by decide) (by decide) (by decide) nh_N10 ?_
            rintro _ h770 _ ⟨o769, rfl, E771, A772, F773, rfl⟩
            replace F714 := F714.ext E771
            replace F761 := F761.ext E771
            replace S768 := S768.ext E771
            show Go _ _ _ _ _ _ h770 [a747, a678] 9 41 295 #[.val (.int a), .val (.int b), .val (.int c), .val (.int d), .val (.int e), .val (.int (1 : Int32)), .val (.int (1 : Int32)), .val (.int ((a >>> ((2 : Int32) &&& 31)) &&& (3 : Int32))), .val (.ref a678), .val (.int (7 : Int32)), .val (.int p.toInt32), .val (.int (nar .char (c &&& (255 : Int32)))), .val (.int (1 : Int32)), .val (.int (8 : Int32)), .val (.ref a747), .unset, .unset, .unset] [(.ref o769)]
            refine Go.astore (ls' := #[.val (.int a), .val (.int b), .val (.int c), .val (.int d), .val (.int e), .val (.int (1 : Int32)), .val (.int (1 : Int32)), .val (.int ((a >>> ((2 : Int32) &&& 31)) &&& (3 : Int32))), .val (.ref a678), .val (.int (7 : Int32)), .val (.int p.toInt32), .val (.int (nar .char (c &&& (255 : Int32)))), .val (.int (1 : Int32)), .val (.int (8 : Int32)), .val (.ref a747), .val (.ref o769), .unset, .unset]) H at_295 rfl rfl rfl ?_
            refine Go.iload H at_297 rfl rfl ?_
            refine Go.iload H at_299 rfl rfl ?_
            refine Go.icmpY (pc' := 325) H at_301 (by decide) (by decide) (by decide) ?_
            refine Go.iconst (0 : Int32) H at_325 rfl rfl ?_
            refine Go.istore (ls' := #[.val (.int a), .val (.int b), .val (.int c), .val (.int d), .val (.int e), .val (.int (1 : Int32)), .val (.int (1 : Int32)), .val (.int ((a >>> ((2 : Int32) &&& 31)) &&& (3 : Int32))), .val (.ref a678), .val (.int (7 : Int32)), .val (.int p.toInt32), .val (.int (nar .char (c &&& (255 : Int32)))), .val (.int (1 : Int32)), .val (.int (8 : Int32)), .val (.ref a747), .val (.ref o769), .val (.int (0 : Int32)), .unset]) H at_326 rfl rfl ?_
            refine Go.iload H at_328 rfl rfl ?_
            refine Go.ifN H at_330 (by decide) rfl ?_
            have e774 : selV dD dA (([(102 : Int32), (99 : Int32), (114 : Int32), (58 : Int32), (97 : Int32), (99 : Int32), (108 : Int32), (nar .char (e &&& (255 : Int32)))].set p (nar .char (c &&& (255 : Int32)))).take 8) = .null := selA_len (by rw [List.length_set]; rfl) (by omega) (by decide)
            rw [e774] at F773
            refine Go.aload H at_333 rfl rfl rfl ?_
            refine Go.callV (rest := []) 0 [] H at_335 rfl A772 w86 w87 w89 w88 w70 w90 pd_N15 (ct_isp0 l W o769 h770 F773) all0 rfl rfl rfl (Nat.le_of_eq rfl) (by decide) (by decide) (by decide) (by decide) nh_N12 ?_
            rintro _ _ _ ⟨rfl, rfl, rfl⟩
            show Go _ _ _ _ _ _ h770 [a747, a678] 9 41 338 #[.val (.int a), .val (.int b), .val (.int c), .val (.int d), .val (.int e), .val (.int (1 : Int32)), .val (.int (1 : Int32)), .val (.int ((a >>> ((2 : Int32) &&& 31)) &&& (3 : Int32))), .val (.ref a678), .val (.int (7 : Int32)), .val (.int p.toInt32), .val (.int (nar .char (c &&& (255 : Int32)))), .val (.int (1 : Int32)), .val (.int (8 : Int32)), .val (.ref a747), .val (.ref o769), .val (.int (0 : Int32)), .unset] [(.int (0 : Int32))]
            refine Go.ifN H at_338 (by decide) rfl ?_
            refine Go.iconst (1 : Int32) H at_341 rfl rfl ?_
            refine Go.goto (pc' := 346) H at_342 (by decide) (by decide) ?_
            exact Go.ireturn 1 [] H at_346 (by simp) (by decide) ⟨rfl, trivial⟩ all0 (by decide) (by decide)
          ·
            refine Go.icmpY (pc' := 263) H at_251 (feq c746).2 (by decide) (by decide) ?_
            refine Go.iloadN H at_263 rfl rfl ?_
            refine Go.ldcInt H at_264 rfl w1 ?_
            refine Go.iand H at_266 rfl ?_
            refine Go.iload H at_267 rfl rfl ?_
            refine Go.iconst (2 : Int32) H at_269 rfl rfl ?_
            refine Go.iadd H at_270 rfl ?_
            show Go _ _ _ _ _ _ h712 [a678] 1 8 271 #[.val (.int a), .val (.int b), .val (.int c), .val (.int d), .val (.int e), .val (.int (1 : Int32)), .val (.int (1 : Int32)), .val (.int ((a >>> ((2 : Int32) &&& 31)) &&& (3 : Int32))), .val (.ref a678), .val (.int (7 : Int32)), .val (.int p.toInt32), .val (.int (nar .char (c &&& (255 : Int32)))), .val (.int (1 : Int32)), .unset, .unset, .unset, .unset, .unset] [(.int (9 : Int32)), (.int (d &&& (2147483647 : Int32)))]
            refine Go.irem H at_271 rfl (by decide) ?_
            obtain ⟨q, hq, hq2⟩ := own_mod9 d
            rw [hq]
            refine Go.istore (ls' := #[.val (.int a), .val (.int b), .val (.int c), .val (.int d), .val (.int e), .val (.int (1 : Int32)), .val (.int (1 : Int32)), .val (.int ((a >>> ((2 : Int32) &&& 31)) &&& (3 : Int32))), .val (.ref a678), .val (.int (7 : Int32)), .val (.int p.toInt32), .val (.int (nar .char (c &&& (255 : Int32)))), .val (.int (1 : Int32)), .val (.int q.toInt32), .unset, .unset, .unset, .unset]) H at_272 rfl rfl ?_
            refine Go.new H at_274 rfl w2 w3 w4 (by decide) (by decide) ?_
            intro a775 h776 g777 z778 E779 A780 D781
            have ne782 : a678 ≠ a775 := Nat.ne_of_lt (Nat.lt_of_lt_of_le F714.lt (Nat.le_of_eq g777.symm))
            replace F714 := F714.ext E779
            have F783 : Fld Z h776 a775 "java/lang/String" "coder" "B" (.int (0 : Int32)) := D781 (Or.inr w32) (ty := .byte) (by decide)
            have F784 : Fld Z h776 a775 "java/lang/String" "value" "[B" .null := D781 (Or.inr w34) (ty := (.array .byte)) (by decide)
            show Go _ _ _ _ _ _ h776 [a775, a678] 2 12 277 #[.val (.int a), .val (.int b), .val (.int c), .val (.int d), .val (.int e), .val (.int (1 : Int32)), .val (.int (1 : Int32)), .val (.int ((a >>> ((2 : Int32) &&& 31)) &&& (3 : Int32))), .val (.ref a678), .val (.int (7 : Int32)), .val (.int p.toInt32), .val (.int (nar .char (c &&& (255 : Int32)))), .val (.int (1 : Int32)), .val (.int q.toInt32), .unset, .unset, .unset, .unset] [(.ref a775)]
            refine Go.dup H at_277 rfl rfl ?_
            refine Go.aload H at_278 rfl rfl rfl ?_
            refine Go.iload H at_280 rfl rfl ?_
            refine Go.callS (rest := [(.ref a775), (.ref a775)]) 2 [(.ref a678), (.int q.toInt32)] H at_282 rfl w5 w6 w7 w8 pd_N18 (ct_pre l W a678 ([(102 : Int32), (99 : Int32), (114 : Int32), (58 : Int32), (97 : Int32), (99 : Int32), (108 : Int32), (nar .char (e &&& (255 : Int32)))].set p (nar .char (c &&& (255 : Int32)))) q h776 F714 (by rw [List.length_set]; show _ ≤ 8; omega) (by rw [List.length_set]; exact Nat.le_of_ble_eq_true rfl) (own_setL (own_ac (show isL (102 : Int32) from ⟨by decide, by decide⟩) (own_ac (show isL (99 : Int32) from ⟨by decide, by decide⟩) (own_ac (show isL (114 : Int32) from ⟨by decide, by decide⟩) (own_ac (show isL (58 : Int32) from ⟨by decide, by decide⟩) (own_ac (show isL (97 : Int32) from ⟨by decide, by decide⟩) (own_ac (show isL (99 : Int32) from ⟨by decide, by decide⟩) (own_ac (show isL (108 : Int32) from ⟨by decide, by decide⟩) (own_ac (own_and255 _) own_an)))))))) (own_and255 _))) all0 rfl rfl rfl (Nat.le_of_eq rfl) (by decide) (by decide) (by decide) (by decide) nh_N18 ?_
            rintro _ h786 _ ⟨r785, rfl, E787, g788, F789, rfl⟩
            have ne790 : a678 ≠ r785 := Nat.ne_of_lt (Nat.lt_of_lt_of_le F714.lt g788)
            have ne791 : a775 ≠ r785 := Nat.ne_of_lt (Nat.lt_of_lt_of_le A780.lt g788)
            replace F714 := F714.ext E787
            replace A780 := A780.ext E787
            replace F783 := F783.ext E787
            replace F784 := F784.ext E787
            show Go _ _ _ _ _ _ h786 [a775, a678] 3 25 285 #[.val (.int a), .val (.int b), .val (.int c), .val (.int d), .val (.int e), .val (.int (1 : Int32)), .val (.int (1 : Int32)), .val (.int ((a >>> ((2 : Int32) &&& 31)) &&& (3 : Int32))), .val (.ref a678), .val (.int (7 : Int32)), .val (.int p.toInt32), .val (.int (nar .char (c &&& (255 : Int32)))), .val (.int (1 : Int32)), .val (.int q.toInt32), .unset, .unset, .unset, .unset] [(.ref r785), (.ref a775), (.ref a775)]
            refine Go.callI (rest := [(.ref a775)]) 1 [(.ref r785)] H at_285 rfl rfl w9 w10 w4 w11 pd_N5 (ct_new1 l W a775 r785 (([(102 : Int32), (99 : Int32), (114 : Int32), (58 : Int32), (97 : Int32), (99 : Int32), (108 : Int32), (nar .char (e &&& (255 : Int32)))].set p (nar .char (c &&& (255 : Int32)))).take q) h786 A780 F784 F783  F789 (own_takeL' (own_setL (own_ac (show isL (102 : Int32) from ⟨by decide, by decide⟩) (own_ac (show isL (99 : Int32) from ⟨by decide, by decide⟩) (own_ac (show isL (114 : Int32) from ⟨by decide, by decide⟩) (own_ac (show isL (58 : Int32) from ⟨by decide, by decide⟩) (own_ac (show isL (97 : Int32) from ⟨by decide, by decide⟩) (own_ac (show isL (99 : Int32) from ⟨by decide, by decide⟩) (own_ac (show isL (108 : Int32) from ⟨by decide, by decide⟩) (own_ac (own_and255 _) own_an)))))))) (own_and255 _))) (by rw [List.length_take, List.length_set]; exact Nat.le_trans (Nat.min_le_right _ _) (Nat.le_of_ble_eq_true rfl))  z778) (by simp) rfl rfl rfl (Nat.le_of_eq rfl) (by decide) (by decide) (by decide) (by decide) nh_N4 ?_
            rintro _ h792 _ ⟨rfl, K793, ⟨b794, S796⟩, rfl⟩
            replace F714 := F714.keep K793 (ninS ne782 nin0)
            replace F789 := F789.keep K793 (ninS (Ne.symm ne791) nin0)
            show Go _ _ _ _ _ _ h792 [a775, a678] 7 38 288 #[.val (.int a), .val (.int b), .val (.int c), .val (.int d), .val (.int e), .val (.int (1 : Int32)), .val (.int (1 : Int32)), .val (.int ((a >>> ((2 : Int32) &&& 31)) &&& (3 : Int32))), .val (.ref a678), .val (.int (7 : Int32)), .val (.int p.toInt32), .val (.int (nar .char (c &&& (255 : Int32)))), .val (.int (1 : Int32)), .val (.int q.toInt32), .unset, .unset, .unset, .unset] [(.ref a775)]
            refine Go.astore (ls' := #[.val (.int a), .val (.int b), .val (.int c), .val (.int d), .val (.int e), .val (.int (1 : Int32)), .val (.int (1 : Int32)), .val (.int ((a >>> ((2 : Int32) &&& 31)) &&& (3 : Int32))), .val (.ref a678), .val (.int (7 : Int32)), .val (.int p.toInt32), .val (.int (nar .char (c &&& (255 : Int32)))), .val (.int (1 : Int32)), .val (.int q.toInt32), .val (.ref a775), .unset, .unset, .unset]) H at_288 rfl rfl rfl ?_
            refine Go.aload H at_290 rfl rfl rfl ?_
            refine Go.callS (rest := []) 0 [(.ref a775)] H at_292 rfl w35 w36 w37 w38 pd_N17 (ct_bys l W a775 b794 (([(102 : Int32), (99 : Int32), (114 : Int32), (58 : Int32), (97 : Int32), (99 : Int32), (108 : Int32), (nar .char (e &&& (255 : Int32)))].set p (nar .char (c &&& (255 : Int32)))).take q) h792 S796) all0 rfl rfl rfl (Nat.le_of_eq rfl) (by decide) (by decide) (by decide) (by decide) nh_N10 ?_
            rintro _ h798 _ ⟨o797, rfl, E799, A800, F801, rfl⟩
            replace F714 := F714.ext E799
            replace F789 := F789.ext E799
            replace S796 := S796.ext E799
            show Go _ _ _ _ _ _ h798 [a775, a678] 9 41 295 #[.val (.int a), .val (.int b), .val (.int c), .val (.int d), .val (.int e), .val (.int (1 : Int32)), .val (.int (1 : Int32)), .val (.int ((a >>> ((2 : Int32) &&& 31)) &&& (3 : Int32))), .val (.ref a678), .val (.int (7 : Int32)), .val (.int p.toInt32), .val (.int (nar .char (c &&& (255 : Int32)))), .val (.int (1 : Int32)), .val (.int q.toInt32), .val (.ref a775), .unset, .unset, .unset] [(.ref o797)]
            refine Go.astore (ls' := #[.val (.int a), .val (.int b), .val (.int c), .val (.int d), .val (.int e), .val (.int (1 : Int32)), .val (.int (1 : Int32)), .val (.int ((a >>> ((2 : Int32) &&& 31)) &&& (3 : Int32))), .val (.ref a678), .val (.int (7 : Int32)), .val (.int p.toInt32), .val (.int (nar .char (c &&& (255 : Int32)))), .val (.int (1 : Int32)), .val (.int q.toInt32), .val (.ref a775), .val (.ref o797), .unset, .unset]) H at_295 rfl rfl rfl ?_
            refine Go.iload H at_297 rfl rfl ?_
            refine Go.iload H at_299 rfl rfl ?_
            by_cases c802 : q = 7
            ·
              refine Go.icmpN H at_301 (teq (by rw [c802]; rfl)).2 rfl ?_
              refine Go.iload H at_304 rfl rfl ?_
              refine Go.ifN H at_306 (by decide) rfl ?_
              refine Go.iload H at_309 rfl rfl ?_
              refine Go.iload H at_311 rfl rfl ?_
              by_cases c803 : p < 7
              ·
                refine Go.icmpN H at_313 (tlt (own_lt (n := 7) (by decide) c803)).2.1 rfl ?_
                refine Go.iload H at_316 rfl rfl ?_
                refine Go.ifN H at_318 (by decide) rfl ?_
                refine Go.iconst (1 : Int32) H at_321 rfl rfl ?_
                refine Go.goto (pc' := 326) H at_322 (by decide) (by decide) ?_
                refine Go.istore (ls' := #[.val (.int a), .val (.int b), .val (.int c), .val (.int d), .val (.int e), .val (.int (1 : Int32)), .val (.int (1 : Int32)), .val (.int ((a >>> ((2 : Int32) &&& 31)) &&& (3 : Int32))), .val (.ref a678), .val (.int (7 : Int32)), .val (.int p.toInt32), .val (.int (nar .char (c &&& (255 : Int32)))), .val (.int (1 : Int32)), .val (.int q.toInt32), .val (.ref a775), .val (.ref o797), .val (.int (1 : Int32)), .unset]) H at_326 rfl rfl ?_
                refine Go.iload H at_328 rfl rfl ?_
                refine Go.ifY (pc' := 347) H at_330 (by decide) (by decide) (by decide) ?_
                have e804 : selV dD dA (([(102 : Int32), (99 : Int32), (114 : Int32), (58 : Int32), (97 : Int32), (99 : Int32), (108 : Int32), (nar .char (e &&& (255 : Int32)))].set p (nar .char (c &&& (255 : Int32)))).take q) = .ref dA := (by rw [c802]; exact (by rw [own_setsame hp2 c711]; exact selA_hit))
                rw [e804] at F801
                refine Go.iload H at_347 rfl rfl ?_
                refine Go.ifN H at_349 (by decide) rfl ?_
                refine Go.getstatic H at_352 rfl w103 W.2.2.2.1 ?_
                refine Go.goto (pc' := 361) H at_355 (by decide) (by decide) ?_
                refine Go.astore (ls' := #[.val (.int a), .val (.int b), .val (.int c), .val (.int d), .val (.int e), .val (.int (1 : Int32)), .val (.int (1 : Int32)), .val (.int ((a >>> ((2 : Int32) &&& 31)) &&& (3 : Int32))), .val (.ref a678), .val (.int (7 : Int32)), .val (.int p.toInt32), .val (.int (nar .char (c &&& (255 : Int32)))), .val (.int (1 : Int32)), .val (.int q.toInt32), .val (.ref a775), .val (.ref o797), .val (.int (1 : Int32)), .val (.ref dA)]) H at_361 rfl rfl rfl ?_
                refine Go.aload H at_363 rfl rfl rfl ?_
                refine Go.callV (rest := []) 0 [] H at_365 rfl A800 w86 w87 w89 w88 w70 w90 pd_N15 (ct_isp1 l W o797 dA h798 F801) all0 rfl rfl rfl (Nat.le_of_eq rfl) (by decide) (by decide) (by decide) (by decide) nh_N12 ?_
                rintro _ _ _ ⟨rfl, rfl, rfl⟩
                show Go _ _ _ _ _ _ h798 [a775, a678] 9 41 368 #[.val (.int a), .val (.int b), .val (.int c), .val (.int d), .val (.int e), .val (.int (1 : Int32)), .val (.int (1 : Int32)), .val (.int ((a >>> ((2 : Int32) &&& 31)) &&& (3 : Int32))), .val (.ref a678), .val (.int (7 : Int32)), .val (.int p.toInt32), .val (.int (nar .char (c &&& (255 : Int32)))), .val (.int (1 : Int32)), .val (.int q.toInt32), .val (.ref a775), .val (.ref o797), .val (.int (1 : Int32)), .val (.ref dA)] [(.int (1 : Int32))]
                refine Go.ifN H at_368 (by decide) rfl ?_
                refine Go.aload H at_371 rfl rfl rfl ?_
                refine Go.callV (rest := []) 0 [] H at_373 rfl A800 w91 w92 w94 w93 w70 w95 pd_N16 (ct_opg l W o797 dA h798 F801) all0 rfl rfl rfl (Nat.le_of_eq rfl) (by decide) (by decide) (by decide) (by decide) nh_N12 ?_
                rintro _ _ _ ⟨rfl, rfl, rfl⟩
                show Go _ _ _ _ _ _ h798 [a775, a678] 9 41 376 #[.val (.int a), .val (.int b), .val (.int c), .val (.int d), .val (.int e), .val (.int (1 : Int32)), .val (.int (1 : Int32)), .val (.int ((a >>> ((2 : Int32) &&& 31)) &&& (3 : Int32))), .val (.ref a678), .val (.int (7 : Int32)), .val (.int p.toInt32), .val (.int (nar .char (c &&& (255 : Int32)))), .val (.int (1 : Int32)), .val (.int q.toInt32), .val (.ref a775), .val (.ref o797), .val (.int (1 : Int32)), .val (.ref dA)] [(.ref dA)]
                refine Go.aload H at_376 rfl rfl rfl ?_
                refine Go.acmpN H at_378 rfl rfl (by simp [XT.acmp]) rfl ?_
                refine Go.iconst (1 : Int32) H at_381 rfl rfl ?_
                refine Go.goto (pc' := 386) H at_382 (by decide) (by decide) ?_
                exact Go.ireturn 1 [] H at_386 (by simp) (by decide) ⟨rfl, trivial⟩ all0 (by decide) (by decide)
              ·
                refine Go.icmpY (pc' := 321) H at_313 (flt (own_nlt (n := 7) (by omega) (by omega))).2.1 (by decide) (by decide) ?_
                refine Go.iconst (1 : Int32) H at_321 rfl rfl ?_
                refine Go.goto (pc' := 326) H at_322 (by decide) (by decide) ?_
                refine Go.istore (ls' := #[.val (.int a), .val (.int b), .val (.int c), .val (.int d), .val (.int e), .val (.int (1 : Int32)), .val (.int (1 : Int32)), .val (.int ((a >>> ((2 : Int32) &&& 31)) &&& (3 : Int32))), .val (.ref a678), .val (.int (7 : Int32)), .val (.int p.toInt32), .val (.int (nar .char (c &&& (255 : Int32)))), .val (.int (1 : Int32)), .val (.int q.toInt32), .val (.ref a775), .val (.ref o797), .val (.int (1 : Int32)), .unset]) H at_326 rfl rfl ?_
                refine Go.iload H at_328 rfl rfl ?_
                refine Go.ifY (pc' := 347) H at_330 (by decide) (by decide) (by decide) ?_
                have e805 : selV dD dA (([(102 : Int32), (99 : Int32), (114 : Int32), (58 : Int32), (97 : Int32), (99 : Int32), (108 : Int32), (nar .char (e &&& (255 : Int32)))].set p (nar .char (c &&& (255 : Int32)))).take q) = .ref dA := (by rw [c802]; exact selA_hit7 c803 hp2)
                rw [e805] at F801
                refine Go.iload H at_347 rfl rfl ?_
                refine Go.ifN H at_349 (by decide) rfl ?_
                refine Go.getstatic H at_352 rfl w103 W.2.2.2.1 ?_
                refine Go.goto (pc' := 361) H at_355 (by decide) (by decide) ?_
                refine Go.astore (ls' := #[.val (.int a), .val (.int b), .val (.int c), .val (.int d), .val (.int e), .val (.int (1 : Int32)), .val (.int (1 : Int32)), .val (.int ((a >>> ((2 : Int32) &&& 31)) &&& (3 : Int32))), .val (.ref a678), .val (.int (7 : Int32)), .val (.int p.toInt32), .val (.int (nar .char (c &&& (255 : Int32)))), .val (.int (1 : Int32)), .val (.int q.toInt32), .val (.ref a775), .val (.ref o797), .val (.int (1 : Int32)), .val (.ref dA)]) H at_361 rfl rfl rfl ?_
                refine Go.aload H at_363 rfl rfl rfl ?_
                refine Go.callV (rest := []) 0 [] H at_365 rfl A800 w86 w87 w89 w88 w70 w90 pd_N15 (ct_isp1 l W o797 dA h798 F801) all0 rfl rfl rfl (Nat.le_of_eq rfl) (by decide) (by decide) (by decide) (by decide) nh_N12 ?_
                rintro _ _ _ ⟨rfl, rfl, rfl⟩
                show Go _ _ _ _ _ _ h798 [a775, a678] 9 41 368 #[.val (.int a), .val (.int b), .val (.int c), .val (.int d), .val (.int e), .val (.int (1 : Int32)), .val (.int (1 : Int32)), .val (.int ((a >>> ((2 : Int32) &&& 31)) &&& (3 : Int32))), .val (.ref a678), .val (.int (7 : Int32)), .val (.int p.toInt32), .val (.int (nar .char (c &&& (255 : Int32)))), .val (.int (1 : Int32)), .val (.int q.toInt32), .val (.ref a775), .val (.ref o797), .val (.int (1 : Int32)), .val (.ref dA)] [(.int (1 : Int32))]
                refine Go.ifN H at_368 (by decide) rfl ?_
                refine Go.aload H at_371 rfl rfl rfl ?_
                refine Go.callV (rest := []) 0 [] H at_373 rfl A800 w91 w92 w94 w93 w70 w95 pd_N16 (ct_opg l W o797 dA h798 F801) all0 rfl rfl rfl (Nat.le_of_eq rfl) (by decide) (by decide) (by decide) (by decide) nh_N12 ?_
                rintro _ _ _ ⟨rfl, rfl, rfl⟩
                show Go _ _ _ _ _ _ h798 [a775, a678] 9 41 376 #[.val (.int a), .val (.int b), .val (.int c), .val (.int d), .val (.int e), .val (.int (1 : Int32)), .val (.int (1 : Int32)), .val (.int ((a >>> ((2 : Int32) &&& 31)) &&& (3 : Int32))), .val (.ref a678), .val (.int (7 : Int32)), .val (.int p.toInt32), .val (.int (nar .char (c &&& (255 : Int32)))), .val (.int (1 : Int32)), .val (.int q.toInt32), .val (.ref a775), .val (.ref o797), .val (.int (1 : Int32)), .val (.ref dA)] [(.ref dA)]
                refine Go.aload H at_376 rfl rfl rfl ?_
                refine Go.acmpN H at_378 rfl rfl (by simp [XT.acmp]) rfl ?_
                refine Go.iconst (1 : Int32) H at_381 rfl rfl ?_
                refine Go.goto (pc' := 386) H at_382 (by decide) (by decide) ?_
                exact Go.ireturn 1 [] H at_386 (by simp) (by decide) ⟨rfl, trivial⟩ all0 (by decide) (by decide)
            ·
              refine Go.icmpY (pc' := 325) H at_301 (feq (fun e => c802 (own_ofinj (n := 7) (by omega) (by decide) e))).2 (by decide) (by decide) ?_
              refine Go.iconst (0 : Int32) H at_325 rfl rfl ?_
              refine Go.istore (ls' := #[.val (.int a), .val (.int b), .val (.int c), .val (.int d), .val (.int e), .val (.int (1 : Int32)), .val (.int (1 : Int32)), .val (.int ((a >>> ((2 : Int32) &&& 31)) &&& (3 : Int32))), .val (.ref a678), .val (.int (7 : Int32)), .val (.int p.toInt32), .val (.int (nar .char (c &&& (255 : Int32)))), .val (.int (1 : Int32)), .val (.int q.toInt32), .val (.ref a775), .val (.ref o797), .val (.int (0 : Int32)), .unset]) H at_326 rfl rfl ?_
              refine Go.iload H at_328 rfl rfl ?_
              refine Go.ifN H at_330 (by decide) rfl ?_
              have e806 : selV dD dA (([(102 : Int32), (99 : Int32), (114 : Int32), (58 : Int32), (97 : Int32), (99 : Int32), (108 : Int32), (nar .char (e &&& (255 : Int32)))].set p (nar .char (c &&& (255 : Int32)))).take q) = .null := selA_len (by rw [List.length_set]; rfl) (by omega) c802
              rw [e806] at F801
              refine Go.aload H at_333 rfl rfl rfl ?_
              refine Go.callV (rest := []) 0 [] H at_335 rfl A800 w86 w87 w89 w88 w70 w90 pd_N15 (ct_isp0 l W o797 h798 F801) all0 rfl rfl rfl (Nat.le_of_eq rfl) (by decide) (by decide) (by decide) (by decide) nh_N12 ?_
              rintro _ _ _ ⟨rfl, rfl, rfl⟩
              show Go _ _ _ _ _ _ h798 [a775, a678] 9 41 338 #[.val (.int a), .val (.int b), .val (.int c), .val (.int d), .val (.int e), .val (.int (1 : Int32)), .val (.int (1 : Int32)), .val (.int ((a >>> ((2 : Int32) &&& 31)) &&& (3 : Int32))), .val (.ref a678), .val (.int (7 : Int32)), .val (.int p.toInt32), .val (.int (nar .char (c &&& (255 : Int32)))), .val (.int (1 : Int32)), .val (.int q.toInt32), .val (.ref a775), .val (.ref o797), .val (.int (0 : Int32)), .unset] [(.int (0 : Int32))]
              refine Go.ifN H at_338 (by decide) rfl ?_
              refine Go.iconst (1 : Int32) H at_341 rfl rfl ?_
              refine Go.goto (pc' := 346) H at_342 (by decide) (by decide) ?_
              exact Go.ireturn 1 [] H at_346 (by simp) (by decide) ⟨rfl, trivial⟩ all0 (by decide) (by decide)
      ·
        refine Go.icmpY (pc' := 221) H at_214 (feq c711).2 (by decide) (by decide) ?_
        refine Go.iconst (0 : Int32) H at_221 rfl rfl ?_
        refine Go.istore (ls' := #[.val (.int a), .val (.int b), .val (.int c), .val (.int d), .val (.int e), .val (.int (1 : Int32)), .val (.int (1 : Int32)), .val (.int ((a >>> ((2 : Int32) &&& 31)) &&& (3 : Int32))), .val (.ref a678), .val (.int (7 : Int32)), .val (.int p.toInt32), .val (.int (nar .char (c &&& (255 : Int32)))), .val (.int (0 : Int32)), .unset, .unset, .unset, .unset, .unset]) H at_222 rfl rfl ?_
        refine Go.iload H at_224 rfl rfl ?_
        refine Go.ifN H at_226 (by decide) rfl ?_
        refine Go.aload H at_229 rfl rfl rfl ?_
        refine Go.iload H at_231 rfl rfl ?_
        refine Go.iload H at_233 rfl rfl ?_
        refine Go.castore (nar .char (c &&& (255 : Int32))) H at_235 rfl F710 p (own_cl (by omega)) (own_n0 (by omega)) (show p < [(102 : Int32), (99 : Int32), (114 : Int32), (58 : Int32), (97 : Int32), (99 : Int32), (108 : Int32), (nar .char (e &&& (255 : Int32)))].length from hp2) own_nn z681 (by simp) ?_
        intro h807 K808 F809
        refine Go.iload H at_236 rfl rfl ?_
        by_cases c810 : ((a >>> ((2 : Int32) &&& 31)) &&& (3 : Int32)) = (0 : Int32)
        ·
          refine Go.ifN H at_238 (teq c810).2 rfl ?_
          refine Go.iload H at_241 rfl rfl ?_
          refine Go.istore (ls' := #[.val (.int a), .val (.int b), .val (.int c), .val (.int d), .val (.int e), .val (.int (1 : Int32)), .val (.int (1 : Int32)), .val (.int ((a >>> ((2 : Int32) &&& 31)) &&& (3 : Int32))), .val (.ref a678), .val (.int (7 : Int32)), .val (.int p.toInt32), .val (.int (nar .char (c &&& (255 : Int32)))), .val (.int (0 : Int32)), .val (.int (7 : Int32)), .unset, .unset, .unset, .unset]) H at_243 rfl rfl ?_
          refine Go.goto (pc' := 274) H at_245 (by decide) (by decide) ?_
          refine Go.new H at_274 rfl w2 w3 w4 (by decide) (by decide) ?_
          intro a811 h812 g813 z814 E815 A816 D817
          have ne818 : a678 ≠ a811 := Nat.ne_of_lt (Nat.lt_of_lt_of_le F809.lt (Nat.le_of_eq g813.symm))
          replace F809 := F809.ext E815
          have F819 : Fld Z h812 a811 "java/lang/String" "coder" "B" (.int (0 : Int32)) := D817 (Or.inr w32) (ty := .byte) (by decide)
          have F820 : Fld Z h812 a811 "java/lang/String" "value" "[B" .null := D817 (Or.inr w34) (ty := (.array .byte)) (by decide)
          show Go _ _ _ _ _ _ h812 [a811, a678] 2 12 277 #[.val (.int a), .val (.int b), .val (.int c), .val (.int d), .val (.int e), .val (.int (1 : Int32)), .val (.int (1 : Int32)), .val (.int ((a >>> ((2 : Int32) &&& 31)) &&& (3 : Int32))), .val (.ref a678), .val (.int (7 : Int32)), .val (.int p.toInt32), .val (.int (nar .char (c &&& (255 : Int32)))), .val (.int (0 : Int32)), .val (.int (7 : Int32)), .unset, .unset, .unset, .unset] [(.ref a811)]
          refine Go.dup H at_277 rfl rfl ?_
          refine Go.aload H at_278 rfl rfl rfl ?_
          refine Go.iload H at_280 rfl rfl ?_
          refine Go.callS (rest := [(.ref a811), (.ref a811)]) 2 [(.ref a678), (.int (7 : Int32))] H at_282 rfl w5 w6 w7 w8 pd_N18 (ct_pre l W a678 ([(102 : Int32), (99 : Int32), (114 : Int32), (58 : Int32), (97 : Int32), (99 : Int32), (108 : Int32), (nar .char (e &&& (255 : Int32)))].set p (nar .char (c &&& (255 : Int32)))) 7 h812 F809 (by rw [List.length_set]; show _ ≤ 8; omega) (by rw [List.length_set]; exact Nat.le_of_ble_eq_true rfl) (own_setL (own_ac (show isL (102 : Int32) from ⟨by decide, by decide⟩) (own_ac (show isL (99 : Int32) from ⟨by decide, by decide⟩) (own_ac (show isL (114 : Int32) from ⟨by decide, by decide⟩) (own_ac (show isL (58 : Int32) from ⟨by decide, by decide⟩) (own_ac (show isL (97 : Int32) from ⟨by decide, by decide⟩) (own_ac (show isL (99 : Int32) from ⟨by decide, by decide⟩) (own_ac (show isL (108 : Int32) from ⟨by decide, by decide⟩) (own_ac (own_and255 _) own_an)))))))) (own_and255 _))) all0 rfl rfl rfl (Nat.le_of_eq rfl) (by decide) (by decide) (by decide) (by decide) nh_N18 ?_
          rintro _ h822 _ ⟨r821, rfl, E823, g824, F825, rfl⟩
          have ne826 : a678 ≠ r821 := Nat.ne_of_lt (Nat.lt_of_lt_of_le F809.lt g824)
          have ne827 : a811 ≠ r821 := Nat.ne_of_lt (Nat.lt_of_lt_of_le A816.lt g824)
          replace F809 := F809.ext E823
          replace A816 := A816.ext E823
          replace F819 := F819.ext E823
          replace F820 := F820.ext E823
          show Go _ _ _ _ _ _ h822 [a811, a678] 3 25 285 #[.val (.int a), .val (.int b), .val (.int c), .val (.int d), .val (.int e), .val (.int (1 : Int32)), .val (.int (1 : Int32)), .val (.int ((a >>> ((2 : Int32) &&& 31)) &&& (3 : Int32))), .val (.ref a678), .val (.int (7 : Int32)), .val (.int p.toInt32), .val (.int (nar .char (c &&& (255 : Int32)))), .val (.int (0 : Int32)), .val (.int (7 : Int32)), .unset, .unset, .unset, .unset] [(.ref r821), (.ref a811), (.ref a811)]
          refine Go.callI (rest := [(.ref a811)]) 1 [(.ref r821)] H at_285 rfl rfl w9 w10 w4 w11 pd_N5 (ct_new1 l W a811 r821 (([(102 : Int32), (99 : Int32), (114 : Int32), (58 : Int32), (97 : Int32), (99 : Int32), (108 : Int32), (nar .char (e &&& (255 : Int32)))].set p (nar .char (c &&& (255 : Int32)))).take 7) h822 A816 F820 F819  F825 (own_takeL' (own_setL (own_ac (show isL (102 : Int32) from ⟨by decide, by decide⟩) (own_ac (show isL (99 : Int32) from ⟨by decide, by decide⟩) (own_ac (show isL (114 : Int32) from ⟨by decide, by decide⟩) (own_ac (show isL (58 : Int32) from ⟨by decide, by decide⟩) (own_ac (show isL (97 : Int32) from ⟨by decide, by decide⟩) (own_ac (show isL (99 : Int32) from ⟨by decide, by decide⟩) (own_ac (show isL (108 : Int32) from ⟨by decide, by decide⟩) (own_ac (own_and255 _) own_an)))))))) (own_and255 _))) (by rw [List.length_take, List.length_set]; exact Nat.le_trans (Nat.min_le_right _ _) (Nat.le_of_ble_eq_true rfl))  z814) (by simp) rfl rfl rfl (Nat.le_of_eq rfl) (by decide) (by decide) (by decide) (by decide) nh_N4 ?_
          rintro _ h828 _ ⟨rfl, K829, ⟨b830, S832⟩, rfl⟩
          replace F809 := F809.keep K829 (ninS ne818 nin0)
          replace F825 := F825.keep K829 (ninS (Ne.symm ne827) nin0)
          show Go _ _ _ _ _ _ h828 [a811, a678] 7 38 288 #[.val (.int a), .val (.int b), .val (.int c), .val (.int d), .val (.int e), .val (.int (1 : Int32)), .val (.int (1 : Int32)), .val (.int ((a >>> ((2 : Int32) &&& 31)) &&& (3 : Int32))), .val (.ref a678), .val (.int (7 : Int32)), .val (.int p.toInt32), .val (.int (nar .char (c &&& (255 : Int32)))), .val (.int (0 : Int32)), .val (.int (7 : Int32)), .unset, .unset, .unset, .unset] [(.ref a811)]
          refine Go.astore (ls' := #[.val (.int a), .val (.int b), .val (.int c), .val (.int d), .val (.int e), .val (.int (1 : Int32)), .val (.int (1 : Int32)), .val (.int ((a >>> ((2 : Int32) &&& 31)) &&& (3 : Int32))), .val (.ref a678), .val (.int (7 : Int32)), .val (.int p.toInt32), .val (.int (nar .char (c &&& (255 : Int32)))), .val (.int (0 : Int32)), .val (.int (7 : Int32)), .val (.ref a811), .unset, .unset, .unset]) H at_288 rfl rfl rfl ?_
          refine Go.aload H at_290 rfl rfl rfl ?_
          refine Go.callS (rest := []) 0 [(.ref a811)] H at_292 rfl w35 w36 w37 w38 pd_N17 (ct_bys l W a811 b830 (([(102 : Int32), (99 : Int32), (114 : Int32), (58 : Int32), (97 : Int32), (99 : Int32), (108 : Int32), (nar .char (e &&& (255 : Int32)))].set p (nar .char (c &&& (255 : Int32)))).take 7) h828 S832) all0 rfl rfl rfl (Nat.le_of_eq rfl) (by decide) (by decide) (by decide) (by decide) nh_N10 ?_
          rintro _ h834 _ ⟨o833, rfl, E835, A836, F837, rfl⟩
          replace F809 := F809.ext E835
          replace F825 := F825.ext E835
          replace S832 := S832.ext E835
          show Go _ _ _ _ _ _ h834 [a811, a678] 9 41 295 #[.val (.int a), .val (.int b), .val (.int c), .val (.int d), .val (.int e), .val (.int (1 : Int32)), .val (.int (1 : Int32)), .val (.int ((a >>> ((2 : Int32) &&& 31)) &&& (3 : Int32))), .val (.ref a678), .val (.int (7 : Int32)), .val (.int p.toInt32), .val (.int (nar .char (c &&& (255 : Int32)))), .val (.int (0 : Int32)), .val (.int (7 : Int32)), .val (.ref a811), .unset, .unset, .unset] [(.ref o833)]
          refine Go.astore (ls' := #[.val (.int a), .val (.int b), .val (.int c), .val (.int d), .val (.int e), .val (.int (1 : Int32)), .val (.int (1 : Int32)), .val (.int ((a >>> ((2 : Int32) &&& 31)) &&& (3 : Int32))), .val (.ref a678), .val (.int (7 : Int32)), .val (.int p.toInt32), .val (.int (nar .char (c &&& (255 : Int32)))), .val (.int (0 : Int32)), .val (.int (7 : Int32)), .val (.ref a811), .val (.ref o833), .unset, .unset]) H at_295 rfl rfl rfl ?_
          refine Go.iload H at_297 rfl rfl ?_
          refine Go.iload H at_299 rfl rfl ?_
          refine Go.icmpN H at_301 (by decide) rfl ?_
          refine Go.iload H at_304 rfl rfl ?_
          refine Go.ifN H at_306 (by decide) rfl ?_
          refine Go.iload H at_309 rfl rfl ?_
          refine Go.iload H at_311 rfl rfl ?_
          by_cases c838 : p < 7
          ·
            refine Go.icmpN H at_313 (tlt (own_lt (n := 7) (by decide) c838)).2.1 rfl ?_
            refine Go.iload H at_316 rfl rfl ?_
            refine Go.ifY (pc' := 325) H at_318 (by decide) (by decide) (by decide) ?_
            refine Go.iconst (0 : Int32) H at_325 rfl rfl ?_
            refine Go.istore (ls' := #[.val (.int a), .val (.int b), .val (.int c), .val (.int d), .val (.int e), .val (.int (1 : Int32)), .val (.int (1 : Int32)), .val (.int ((a >>> ((2 : Int32) &&& 31)) &&& (3 : Int32))), .val (.ref a678), .val (.int (7 : Int32)), .val (.int p.toInt32), .val (.int (nar .char (c &&& (255 : Int32)))), .val (.int (0 : Int32)), .val (.int (7 : Int32)), .val (.ref a811), .val (.ref o833), .val (.int (0 : Int32)), .unset]) H at_326 rfl rfl ?_
            refine Go.iload H at_328 rfl rfl ?_
            refine Go.ifN H at_330 (by decide) rfl ?_
            have e839 : selV dD dA (([(102 : Int32), (99 : Int32), (114 : Int32), (58 : Int32), (97 : Int32), (99 : Int32), (108 : Int32), (nar .char (e &&& (255 : Int32)))].set p (nar .char (c &&& (255 : Int32)))).take 7) = .null := selA_ne c838 c711
            rw [e839] at F837
            refine Go.aload H at_333 rfl rfl rfl ?_
            refine Go.callV (rest := []) 0 [] H at_335 rfl A836 w86 w87 w89 w88 w70 w90 pd_N15 (ct_isp0 l W o833 h834 F837) all0 rfl rfl rfl (Nat.le_of_eq rfl) (by decide) (by decide) (by decide) (by decide) nh_N12 ?_
            rintro _ _ _ ⟨rfl, rfl, rfl⟩
            show Go _ _ _ _ _ _ h834 [a811, a678] 9 41 338 #[.val (.int a), .val (.int b), .val (.int c), .val (.int d), .val (.int e), .val (.int (1 : Int32)), .val (.int (1 : Int32)), .val (.int ((a >>> ((2 : Int32) &&& 31)) &&& (3 : Int32))), .val (.ref a678), .val (.int (7 : Int32)), .val (.int p.toInt32), .val (.int (nar .char (c &&& (255 : Int32)))), .val (.int (0 : Int32)), .val (.int (7 : Int32)), .val (.ref a811), .val (.ref o833), .val (.int (0 : Int32)), .unset] [(.int (0 : Int32))]
            refine Go.ifN H at_338 (by decide) rfl ?_
            refine Go.iconst (1 : Int32) H at_341 rfl rfl ?_
            refine Go.goto (pc' := 346) H at_342 (by decide) (by decide) ?_
            exact Go.ireturn 1 [] H at_346 (by simp) (by decide) ⟨rfl, trivial⟩ all0 (by decide) (by decide)
          ·
            refine Go.icmpY (pc' := 321) H at_313 (flt (own_nlt (n := 7) (by omega) (by omega))).2.1 (by decide) (by decide) ?_
            refine Go.iconst (1 : Int32) H at_321 rfl rfl ?_
            refine Go.goto (pc' := 326) H at_322 (by decide) (by decide) ?_
            refine Go.istore (ls' := #[.val (.int a), .val (.int b), .val (.int c), .val (.int d), .val (.int e), .val (.int (1 : Int32)), .val (.int (1 : Int32)), .val (.int ((a >>> ((2 : Int32) &&& 31)) &&& (3 : Int32))), .val (.ref a678), .val (.int (7 : Int32)), .val (.int p.toInt32), .val (.int (nar .char (c &&& (255 : Int32)))), .val (.int (0 : Int32)), .val (.int (7 : Int32)), .val (.ref a811), .val (.ref o833), .val (.int (1 : Int32)), .unset]) H at_326 rfl rfl ?_
            refine Go.iload H at_328 rfl rfl ?_
            refine Go.ifY (pc' := 347) H at_330 (by decide) (by decide) (by decide) ?_
            have e840 : selV dD dA (([(102 : Int32), (99 : Int32), (114 : Int32), (58 : Int32), (97 : Int32), (99 : Int32), (108 : Int32), (nar .char (e &&& (255 : Int32)))].set p (nar .char (c &&& (255 : Int32)))).take 7) = .ref dA := selA_hit7 c838 hp2
            rw [e840] at F837
            refine Go.iload H at_347 rfl rfl ?_
            refine Go.ifN H at_349 (by decide) rfl ?_
            refine Go.getstatic H at_352 rfl w103 W.2.2.2.1 ?_
            refine Go.goto (pc' := 361) H at_355 (by decide) (by decide) ?_
            refine Go.astore (ls' := #[.val (.int a), .val (.int b), .val (.int c), .val (.int d), .val (.int e), .val (.int (1 : Int32)), .val (.int (1 : Int32)), .val (.int ((a >>> ((2 : Int32) &&& 31)) &&& (3 : Int32))), .val (.ref a678), .val (.int (7 : Int32)), .val (.int p.toInt32), .val (.int (nar .char (c &&& (255 : Int32)))), .val (.int (0 : Int32)), .val (.int (7 : Int32)), .val (.ref a811), .val (.ref o833), .val (.int (1 : Int32)), .val (.ref dA)]) H at_361 rfl rfl rfl ?_
            refine Go.aload H at_363 rfl rfl rfl ?_
            refine Go.callV (rest := []) 0 [] H at_365 rfl A836 w86 w87 w89 w88 w70 w90 pd_N15 (ct_isp1 l W o833 dA h834 F837) all0 rfl rfl rfl (Nat.le_of_eq rfl) (by decide) (by decide) (by decide) (by decide) nh_N12 ?_
            rintro _ _ _ ⟨rfl, rfl, rfl⟩
            show Go _ _ _ _ _ _ h834 [a811, a678] 9 41 368 #[.val (.int a), .val (.int b), .val (.int c), .val (.int d), .val (.int e), .val (.int (1 : Int32)), .val (.int (1 : Int32)), .val (.int ((a >>> ((2 : Int32) &&& 31)) &&& (3 : Int32))), .val (.ref a678), .val (.int (7 : Int32)), .val (.int p.toInt32), .val (.int (nar .char (c &&& (255 : Int32)))), .val (.int (0 : Int32)), .val (.int (7 : Int32)), .val (.ref a811), .val (.ref o833), .val (.int (1 : Int32)), .val (.ref dA)] [(.int (1 : Int32))]
            refine Go.ifN H at_368 (by decide) rfl ?_
            refine Go.aload H at_371 rfl rfl rfl ?_
            refine Go.callV (rest := []) 0 [] H at_373 rfl A836 w91 w92 w94 w93 w70 w95 pd_N16 (ct_opg l W o833 dA h834 F837) all0 rfl rfl rfl (Nat.le_of_eq rfl) (by decide) (by decide) (by decide) (by decide) nh_N12 ?_
            rintro _ _ _ ⟨rfl, rfl, rfl⟩
            show Go _ _ _ _ _ _ h834 [a811, a678] 9 41 376 #[.val (.int a), .val (.int b), .val (.int c), .val (.int d), .val (.int e), .val (.int (1 : Int32)), .val (.int (1 : Int32)), .val (.int ((a >>> ((2 : Int32) &&& 31)) &&& (3 : Int32))), .val (.ref a678), .val (.int (7 : Int32)), .val (.int p.toInt32), .val (.int (nar .char (c &&& (255 : Int32)))), .val (.int (0 : Int32)), .val (.int (7 : Int32)), .val (.ref a811), .val (.ref o833), .val (.int (1 : Int32)), .val (.ref dA)] [(.ref dA)]
            refine Go.aload H at_376 rfl rfl rfl ?_
            refine Go.acmpN H at_378 rfl rfl (by simp [XT.acmp]) rfl ?_
            refine Go.iconst (1 : Int32) H at_381 rfl rfl ?_
            refine Go.goto (pc' := 386) H at_382 (by decide) (by decide) ?_
            exact Go.ireturn 1 [] H at_386 (by simp) (by decide) ⟨rfl, trivial⟩ all0 (by decide) (by decide)
        ·
          refine Go.ifY (pc' := 248) H at_238 (feq c810).2 (by decide) (by decide) ?_
          refine Go.iload H at_248 rfl rfl ?_
          refine Go.iconst (1 : Int32) H at_250 rfl rfl ?_
          by_cases c841 : ((a >>> ((2 : Int32) &&& 31)) &&& (3 : Int32)) = (1 : Int32)
          ·
            refine Go.icmpN H at_251 (teq c841).2 rfl ?_
            refine Go.iload H at_254 rfl rfl ?_
            refine Go.iconst (1 : Int32) H at_256 rfl rfl ?_
            refine Go.iadd H at_257 rfl ?_
            show Go _ _ _ _ _ _ h807 [a678] 1 8 258 #[.val (.int a), .val (.int b), .val (.int c), .val (.int d), .val (.int e), .val (.int (1 : Int32)), .val (.int (1 : Int32)), .val (.int ((a >>> ((2 : Int32) &&& 31)) &&& (3 : Int32))), .val (.ref a678), .val (.int (7 : Int32)), .val (.int p.toInt32), .val (.int (nar .char (c &&& (255 : Int32)))), .val (.int (0 : Int32)), .unset, .unset, .unset, .unset, .unset] [(.int (8 : Int32))]
            refine Go.istore (ls' := #[.val (.int a), .val (.int b), .val (.int c), .val (.int d), .val (.int e), .val (.int (1 : Int32)), .val (.int (1 : Int32)), .val (.int ((a >>> ((2 : Int32) &&& 31)) &&& (3 : Int32))), .val (.ref a678), .val (.int (7 : Int32)), .val (.int p.toInt32), .val (.int (nar .char (c &&& (255 : Int32)))), .val (.int (0 : Int32)), .val (.int (8 : Int32)), .unset, .unset, .unset, .unset]) H at_258 rfl rfl ?_
            refine Go.goto (pc' := 274) H at_260 (by decide) (by decide) ?_
            refine Go.new H at_274 rfl w2 w3 w4 (by decide) (by decide) ?_
            intro a842 h843 g844 z845 E846 A847 D848
            have ne849 : a678 ≠ a842 := Nat.ne_of_lt (Nat.lt_of_lt_of_le F809.lt (Nat.le_of_eq g844.symm))
            replace F809 := F809.ext E846
            have F850 : Fld Z h843 a842 "java/lang/String" "coder" "B" (.int (0 : Int32)) := D848 (Or.inr w32) (ty := .byte) (by decide)
            have F851 : Fld Z h843 a842 "java/lang/String" "value" "[B" .null := D848 (Or.inr w34) (ty := (.array .byte)) (by decide)
            show Go _ _ _ _ _ _ h843 [a842, a678] 2 12 277 #[.val (.int a), .val (.int b), .val (.int c), .val (.int d), .val (.int e), .val (.int (1 : Int32)), .val (.int (1 : Int32)), .val (.int ((a >>> ((2 : Int32) &&& 31)) &&& (3 : Int32))), .val (.ref a678), .val (.int (7 : Int32)), .val (.int p.toInt32), .val (.int (nar .char (c &&& (255 : Int32)))), .val (.int (0 : Int32)), .val (.int (8 : Int32)), .unset, .unset, .unset, .unset] [(.ref a842)]
            refine Go.dup H at_277 rfl rfl ?_
            refine Go.aload H at_278 rfl rfl rfl ?_
            refine Go.iload H at_280 rfl rfl ?_
            refine Go.callS (rest := [(.ref a842), (.ref a842)]) 2 [(.ref a678), (.int (8 : Int32))] H at_282 rfl w5 w6 w7 w8 pd_N18 (ct_pre l W a678 ([(102 : Int32), (99 : Int32), (114 : Int32), (58 : Int32), (97 : Int32), (99 : Int32), (108 : Int32), (nar .char (e &&& (255 : Int32)))].set p (nar .char (c &&& (255 : Int32)))) 8 h843 F809 (by rw [List.length_set]; show _ ≤ 8; omega) (by rw [List.length_set]; exact Nat.le_of_ble_eq_true rfl) (own_setL (own_ac (show isL (102 : Int32) from ⟨by decide, by decide⟩) (own_ac (show isL (99 : Int32) from ⟨by decide, by decide⟩) (own_ac (show isL (114 : Int32) from ⟨by decide, by decide⟩) (own_ac (show isL (58 : Int32) from ⟨by decide, by decide⟩) (own_ac (show isL (97 : Int32) from ⟨by decide, by decide⟩) (own_ac (show isL (99 : Int32) from ⟨by decide, by decide⟩) (own_ac (show isL (108 : Int32) from ⟨by decide, by decide⟩) (own_ac (own_and255 _) own_an)))))))) (own_and255 _))) all0 rfl rfl rfl (Nat.le_of_eq rfl) (by decide) (by decide) (by decide) (by decide) nh_N18 ?_
            rintro _ h853 _ ⟨r852, rfl, E854, g855, F856, rfl⟩
            have ne857 : a678 ≠ r852 := Nat.ne_of_lt (Nat.lt_of_lt_of_le F809.lt g855)
            have ne858 : a842 ≠ r852 := Nat.ne_of_lt (Nat.lt_of_lt_of_le A847.lt g855)
            replace F809 := F809.ext E854
            replace A847 := A847.ext E854
            replace F850 := F850.ext E854
            replace F851 := F851.ext E854
            show Go _ _ _ _ _ _ h853 [a842, a678] 3 25 285 #[.val (.int a), .val (.int b), .val (.int c), .val (.int d), .val (.int e), .val (.int (1 : Int32)), .val (.int (1 : Int32)), .val (.int ((a >>> ((2 : Int32) &&& 31)) &&& (3 : Int32))), .val (.ref a678), .val (.int (7 : Int32)), .val (.int p.toInt32), .val (.int (nar .char (c &&& (255 : Int32)))), .val (.int (0 : Int32)), .val (.int (8 : Int32)), .unset, .unset, .unset, .unset] [(.ref r852), (.ref a842), (.ref a842)]
            refine Go.callI (rest := [(.ref a842)]) 1 [(.ref r852)] H at_285 rfl rfl w9 w10 w4 w11 pd_N5 (ct_new1 l W a842 r852 (([(102 : Int32), (99 : Int32), (114 : Int32), (58 : Int32), (97 : Int32), (99 : Int32), (108 : Int32), (nar .char (e &&& (255 : Int32)))].set p (nar .char (c &&& (255 : Int32)))).take 8) h853 A847 F851 F850  F856 (own_takeL' (own_setL (own_ac (show isL (102 : Int32) from ⟨by decide, by decide⟩) (own_ac (show isL (99 : Int32) from ⟨by decide, by decide⟩) (own_ac (show isL (114 : Int32) from ⟨by decide, by decide⟩) (own_ac (show isL (58 : Int32) from ⟨by decide, by decide⟩) (own_ac (show isL (97 : Int32) from ⟨by decide, by decide⟩) (own_ac (show isL (99 : Int32) from ⟨by decide, by decide⟩) (own_ac (show isL (108 : Int32) from ⟨by decide, by decide⟩) (own_ac (own_and255 _) own_an)))))))) (own_and255 _))) (by rw [List.length_take, List.length_set]; exact Nat.le_trans (Nat.min_le_right _ _) (Nat.le_of_ble_eq_true rfl))  z845) (by simp) rfl rfl rfl (Nat.le_of_eq rfl) (by decide) (by decide) (by decide) (by decide) nh_N4 ?_
            rintro _ h859 _ ⟨rfl, K860, ⟨b861, S863⟩, rfl⟩
            replace F809 := F809.keep K860 (ninS ne849 nin0)
            replace F856 := F856.keep K860 (ninS (Ne.symm ne858) nin0)
            show Go _ _ _ _ _ _ h859 [a842, a678] 7 38 288 #[.val (.int a), .val (.int b), .val (.int c), .val (.int d), .val (.int e), .val (.int (1 : Int32)), .val (.int (1 : Int32)), .val (.int ((a >>> ((2 : Int32) &&& 31)) &&& (3 : Int32))), .val (.ref a678), .val (.int (7 : Int32)), .val (.int p.toInt32), .val (.int (nar .char (c &&& (255 : Int32)))), .val (.int (0 : Int32)), .val (.int (8 : Int32)), .unset, .unset, .unset, .unset] [(.ref a842)]
            refine Go.astore (ls' := #[.val (.int a), .val (.int b), .val (.int c), .val (.int d), .val (.int e), .val (.int (1 : Int32)), .val (.int (1 : Int32)), .val (.int ((a >>> ((2 : Int32) &&& 31)) &&& (3 : Int32))), .val (.ref a678), .val (.int (7 : Int32)), .val (.int p.toInt32), .val (.int (nar .char (c &&& (255 : Int32)))), .val (.int (0 : Int32)), .val (.int (8 : Int32)), .val (.ref a842), .unset, .unset, .unset]) H at_288 rfl rfl rfl ?_
            refine Go.aload H at_290 rfl rfl rfl ?_
            refine Go.callS (rest := []) 0 [(.ref a842)] H at_292 rfl w35 w36 w37 w38 pd_N17 (ct_bys l W a842 b861 (([(102 : Int32), (99 : Int32), (114 : Int32), (58 : Int32), (97 : Int32), (99 : Int32), (108 : Int32), (nar .char (e &&& (255 : Int32)))].set p (nar .char (c &&& (255 : Int32)))).take 8) h859 S863) all0 rfl rfl rfl (Nat.le_of_eq rfl) (by decide) (by decide) (by decide) (by decide) nh_N10 ?_
            rintro _ h865 _ ⟨o864, rfl, E866, A867, F868, rfl⟩
            replace F809 := F809.ext E866
            replace F856 := F856.ext E866
            replace S863 := S863.ext E866
            show Go _ _ _ _ _ _ h865 [a842, a678] 9 41 295 #[.val (.int a), .val (.int b), .val (.int c), .val (.int d), .val (.int e), .val (.int (1 : Int32)), .val (.int (1 : Int32)), .val (.int ((a >>> ((2 : Int32) &&& 31)) &&& (3 : Int32))), .val (.ref a678), .val (.int (7 : Int32)), .val (.int p.toInt32), .val (.int (nar .char (c &&& (255 : Int32)))), .val (.int (0 : Int32)), .val (.int (8 : Int32)), .val (.ref a842), .unset, .unset, .unset] [(.ref o864)]
            refine Go.astore (ls' := #[.val (.int a), .val (.int b), .val (.int c), .val (.int d), .val (.int e), .val (.int (1 : Int32)), .val (.int (1 : Int32)), .val (.int ((a >>> ((2 : Int32) &&& 31)) &&& (3 : Int32))), .val (.ref a678), .val (.int (7 : Int32)), .val (.int p.toInt32), .val (.int (nar .char (c &&& (255 : Int32)))), .val (.int (0 : Int32)), .val (.int (8 : Int32)), .val (.ref a842), .val (.ref o864), .unset, .unset]) H at_295 rfl rfl rfl ?_
            refine Go.iload H at_297 rfl rfl ?_
            refine Go.iload H at_299 rfl rfl ?_
            refine Go.icmpY (pc' := 325) H at_301 (by decide) (by decide) (by decide) ?_
            refine Go.iconst (0 : Int32) H at_325 rfl rfl ?_
            refine Go.istore (ls' := #[.val (.int a), .val (.int b), .val (.int c), .val (.int d), .val (.int e), .val (.int (1 : Int32)), .val (.int (1 : Int32)), .val (.int ((a >>> ((2 : Int32) &&& 31)) &&& (3 : Int32))), .val (.ref a678), .val (.int (7 : Int32)), .val (.int p.toInt32), .val (.int (nar .char (c &&& (255 : Int32)))), .val (.int (0 : Int32)), .val (.int (8 : Int32)), .val (.ref a842), .val (.ref o864), .val (.int (0 : Int32)), .unset]) H at_326 rfl rfl ?_
            refine Go.iload H at_328 rfl rfl ?_
            refine Go.ifN H at_330 (by decide) rfl ?_
            have e869 : selV dD dA (([(102 : Int32), (99 : Int32), (114 : Int32), (58 : Int32), (97 : Int32), (99 : Int32), (108 : Int32), (nar .char (e &&& (255 : Int32)))].set p (nar .char (c &&& (255 : Int32)))).take 8) = .null := selA_len (by rw [List.length_set]; rfl) (by omega) (by decide)
            rw [e869] at F868
            refine Go.aload H at_333 rfl rfl rfl ?_
            refine Go.callV (rest := []) 0 [] H at_335 rfl A867 w86 w87 w89 w88 w70 w90 pd_N15 (ct_isp0 l W o864 h865 F868) all0 rfl rfl rfl (Nat.le_of_eq rfl) (by decide) (by decide) (by decide) (by decide) nh_N12 ?_
            rintro _ _ _ ⟨rfl, rfl, rfl⟩
            show Go _ _ _ _ _ _ h865 [a842, a678] 9 41 338 #[.val (.int a), .val (.int b), .val (.int c), .val (.int d), .val (.int e), .val (.int (1 : Int32)), .val (.int (1 : Int32)), .val (.int ((a >>> ((2 : Int32) &&& 31)) &&& (3 : Int32))), .val (.ref a678), .val (.int (7 : Int32)), .val (.int p.toInt32), .val (.int (nar .char (c &&& (255 : Int32)))), .val (.int (0 : Int32)), .val (.int (8 : Int32)), .val (.ref a842), .val (.ref o864), .val (.int (0 : Int32)), .unset] [(.int (0 : Int32))]
            refine Go.ifN H at_338 (by decide) rfl ?_
            refine Go.iconst (1 : Int32) H at_341 rfl rfl ?_
            refine Go.goto (pc' := 346) H at_342 (by decide) (by decide) ?_
            exact Go.ireturn 1 [] H at_346 (by simp) (by decide) ⟨rfl, trivial⟩ all0 (by decide) (by decide)
          ·
            refine Go.icmpY (pc' := 263) H at_251 (feq c841).2 (by decide) (by decide) ?_
            refine Go.iloadN H at_263 rfl rfl ?_
            refine Go.ldcInt H at_264 rfl w1 ?_
            refine Go.iand H at_266 rfl ?_
            refine Go.iload H at_267 rfl rfl ?_
            refine Go.iconst (2 : Int32) H at_269 rfl rfl ?_
            refine Go.iadd H at_270 rfl ?_
            show Go _ _ _ _ _ _ h807 [a678] 1 8 271 #[.val (.int a), .val (.int b), .val (.int c), .val (.int d), .val (.int e), .val (.int (1 : Int32)), .val (.int (1 : Int32)), .val (.int ((a >>> ((2 : Int32) &&& 31)) &&& (3 : Int32))), .val (.ref a678), .val (.int (7 : Int32)), .val (.int p.toInt32), .val (.int (nar .char (c &&& (255 : Int32)))), .val (.int (0 : Int32)), .unset, .unset, .unset, .unset, .unset] [(.int (9 : Int32)), (.int (d &&& (2147483647 : Int32)))]
            refine Go.irem H at_271 rfl (by decide) ?_
            obtain ⟨q, hq, hq2⟩ := own_mod9 d
            rw [hq]
            refine Go.istore (ls' := #[.val (.int a), .val (.int b), .val (.int c), .val (.int d), .val (.int e), .val (.int (1 : Int32)), .val (.int (1 : Int32)), .val (.int ((a >>> ((2 : Int32) &&& 31)) &&& (3 : Int32))), .val (.ref a678), .val (.int (7 : Int32)), .val (.int p.toInt32), .val (.int (nar .char (c &&& (255 : Int32)))), .val (.int (0 : Int32)), .val (.int q.toInt32), .unset, .unset, .unset, .unset]) H at_272 rfl rfl ?_
            refine Go.new H at_274 rfl w2 w3 w4 (by decide) (by decide) ?_
            intro a870 h871 g872 z873 E874 A875 D876
            have ne877 : a678 ≠ a870 := Nat.ne_of_lt (Nat.lt_of_lt_of_le F809.lt (Nat.le_of_eq g872.symm))
            replace F809 := F809.ext E874
            have F878 : Fld Z h871 a870 "java/lang/String" "coder" "B" (.int (0 : Int32)) := D876 (Or.inr w32) (ty := .byte) (by decide)
            have F879 : Fld Z h871 a870 "java/lang/String" "value" "[B" .null := D876 (Or.inr w34) (ty := (.array .byte)) (by decide)
            show Go _ _ _ _ _ _ h871 [a870, a678] 2 12 277 #[.val (.int a), .val (.int b), .val (.int c), .val (.int d), .val (.int e), .val (.int (1 : Int32)), .val (.int (1 : Int32)), .val (.int ((a >>> ((2 : Int32) &&& 31)) &&& (3 : Int32))), .val (.ref a678), .val (.int (7 : Int32)), .val (.int p.toInt32), .val (.int (nar .char (c &&& (255 : Int32)))), .val (.int (0 : Int32)), .val (.int q.toInt32), .unset, .unset, .unset, .unset] [(.ref a870)]
            refine Go.dup H at_277 rfl rfl ?_
            refine Go.aload H at_278 rfl rfl rfl ?_
            refine Go.iload H at_280 rfl rfl ?_
            refine Go.callS (rest := [(.ref a870), (.ref a870)]) 2 [(.ref a678), (.int q.toInt32)] H at_282 rfl w5 w6 w7 w8 pd_N18 (ct_pre l W a678 ([(102 : Int32), (99 : Int32), (114 : Int32), (58 : Int32), (97 : Int32), (99 : Int32), (108 : Int32), (nar .char (e &&& (255 : Int32)))].set p (nar .char (c &&& (255 : Int32)))) q h871 F809 (by rw [List.length_set]; show _ ≤ 8; omega) (by rw [List.length_set]; exact Nat.le_of_ble_eq_true rfl) (own_setL (own_ac (show isL (102 : Int32) from ⟨by decide, by decide⟩) (own_ac (show isL (99 : Int32) from ⟨by decide, by decide⟩) (own_ac (show isL (114 : Int32) from ⟨by decide, by decide⟩) (own_ac (show isL (58 : Int32) from ⟨by decide, by decide⟩) (own_ac (show isL (97 : Int32) from ⟨by decide, by decide⟩) (own_ac (show isL (99 : Int32) from ⟨by decide, by decide⟩) (own_ac (show isL (108 : Int32) from ⟨by decide, by decide⟩) (own_ac (own_and255 _) own_an)))))))) (own_and255 _))) all0 rfl rfl rfl (Nat.le_of_eq rfl) (by decide) (by decide) (by decide) (by decide) nh_N18 ?_
            rintro _ h881 _ ⟨r880, rfl, E882, g883, F884, rfl⟩
            have ne885 : a678 ≠ r880 := Nat.ne_of_lt (Nat.lt_of_lt_of_le F809.lt g883)
            have ne886 : a870 ≠ r880 := Nat.ne_of_lt (Nat.lt_of_lt_of_le A875.lt g883)
            replace F809 := F809.ext E882
            replace A875 := A875.ext E882
            replace F878 := F878.ext E882
            replace F879 := F879.ext E882
            show Go _ _ _ _ _ _ h881 [a870, a678] 3 25 285 #[.val (.int a), .val (.int b), .val (.int c), .val (.int d), .val (.int e), .val (.int (1 : Int32)), .val (.int (1 : Int32)), .val (.int ((a >>> ((2 : Int32) &&& 31)) &&& (3 : Int32))), .val (.ref a678), .val (.int (7 : Int32)), .val (.int p.toInt32), .val (.int (nar .char (c &&& (255 : Int32)))), .val (.int (0 : Int32)), .val (.int q.toInt32), .unset, .unset, .unset, .unset] [(.ref r880), (.ref a870), (.ref a870)]
            refine Go.callI (rest := [(.ref a870)]) 1 [(.ref r880)] H at_285 rfl rfl w9 w10 w4 w11 pd_N5 (ct_new1 l W a870 r880 (([(102 : Int32), (99 : Int32), (114 : Int32), (58 : Int32), (97 : Int32), (99 : Int32), (108 : Int32), (nar .char (e &&& (255 : Int32)))].set p (nar .char (c &&& (255 : Int32)))).take q) h881 A875 F879 F878  F884 (own_takeL' (own_setL (own_ac (show isL (102 : Int32) from ⟨by decide, by decide⟩) (own_ac (show isL (99 : Int32) from ⟨by decide, by decide⟩) (own_ac (show isL (114 : Int32) from ⟨by decide, by decide⟩) (own_ac (show isL (58 : Int32) from ⟨by decide, by decide⟩) (own_ac (show isL (97 : Int32) from ⟨by decide, by decide⟩) (own_ac (show isL (99 : Int32) from ⟨by decide, by decide⟩) (own_ac (show isL (108 : Int32) from ⟨by decide, by decide⟩) (own_ac (own_and255 _) own_an)))))))) (own_and255 _))) (by rw [List.length_take, List.length_set]; exact Nat.le_trans (Nat.min_le_right _ _) (Nat.le_of_ble_eq_true rfl))  z873) (by simp) rfl rfl rfl (Nat.le_of_eq rfl) (by decide) (by decide) (by decide) (by decide) nh_N4 ?_
            rintro _ h887 _ ⟨rfl, K888, ⟨b889, S891⟩, rfl⟩
            replace F809 := F809.keep K888 (ninS ne877 nin0)
            replace F884 := F884.keep K888 (ninS (Ne.symm ne886) nin0)
            show Go _ _ _ _ _ _ h887 [a870, a678] 7 38 288 #[.val (.int a), .val (.int b), .val (.int c), .val (.int d), .val (.int e), .val (.int (1 : Int32)), .val (.int (1 : Int32)), .val (.int ((a >>> ((2 : Int32) &&& 31)) &&& (3 : Int32))), .val (.ref a678), .val (.int (7 : Int32)), .val (.int p.toInt32), .val (.int (nar .char (c &&& (255 : Int32)))), .val (.int (0 : Int32)), .val (.int q.toInt32), .unset, .unset, .unset, .unset] [(.ref a870)]
            refine Go.astore (ls' := #[.val (.int a), .val (.int b), .val (.int c), .val (.int d), .val (.int e), .val (.int (1 : Int32)), .val (.int (1 : Int32)), .val (.int ((a >>> ((2 : Int32) &&& 31)) &&& (3 : Int32))), .val (.ref a678), .val (.int (7 : Int32)), .val (.int p.toInt32), .val (.int (nar .char (c &&& (255 : Int32)))), .val (.int (0 : Int32)), .val (.int q.toInt32), .val (.ref a870), .unset, .unset, .unset]) H at_288 rfl rfl rfl ?_
            refine Go.aload H at_290 rfl rfl rfl ?_
            refine Go.callS (rest := []) 0 [(.ref a870)] H at_292 rfl w35 w36 w37 w38 pd_N17 (ct_bys l W a870 b889 (([(102 : Int32), (99 : Int32), (114 : Int32), (58 : Int32), (97 : Int32), (99 : Int32), (108 : Int32), (nar .char (e &&& (255 : Int32)))].set p (nar .char (c &&& (255 : Int32)))).take q) h887 S891) all0 rfl rfl rfl (Nat.le_of_eq rfl) (by decide) (by decide) (by decide) (by decide) nh_N10 ?_
            rintro _ h893 _ ⟨o892, rfl, E894, A895, F896, rfl⟩
            replace F809 := F809.ext E894
            replace F884 := F884.ext E894
            replace S891 := S891.ext E894
            show Go _ _ _ _ _ _ h893 [a870, a678] 9 41 295 #[.val (.int a), .val (.int b), .val (.int c), .val (.int d), .val (.int e), .val (.int (1 : Int32)), .val (.int (1 : Int32)), .val (.int ((a >>> ((2 : Int32) &&& 31)) &&& (3 : Int32))), .val (.ref a678), .val (.int (7 : Int32)), .val (.int p.toInt32), .val (.int (nar .char (c &&& (255 : Int32)))), .val (.int (0 : Int32)), .val (.int q.toInt32), .val (.ref a870), .unset, .unset, .unset] [(.ref o892)]
            refine Go.astore (ls' := #[.val (.int a), .val (.int b), .val (.int c), .val (.int d), .val (.int e), .val (.int (1 : Int32)), .val (.int (1 : Int32)), .val (.int ((a >>> ((2 : Int32) &&& 31)) &&& (3 : Int32))), .val (.ref a678), .val (.int (7 : Int32)), .val (.int p.toInt32), .val (.int (nar .char (c &&& (255 : Int32)))), .val (.int (0 : Int32)), .val (.int q.toInt32), .val (.ref a870), .val (.ref o892), .unset, .unset]) H at_295 rfl rfl rfl ?_
            refine Go.iload H at_297 rfl rfl ?_
            refine Go.iload H at_299 rfl rfl ?_
            by_cases c897 : q = 7
            ·
              refine Go.icmpN H at_301 (teq (by rw [c897]; rfl)).2 rfl ?_
              refine Go.iload H at_304 rfl rfl ?_
              refine Go.ifN H at_306 (by decide) rfl ?_
              refine Go.iload H at_309 rfl rfl ?_
              refine Go.iload H at_311 rfl rfl ?_
              by_cases c898 : p < 7
              ·
                refine Go.icmpN H at_313 (tlt (own_lt (n := 7) (by decide) c898)).2.1 rfl ?_
                refine Go.iload H at_316 rfl rfl ?_
                refine Go.ifY (pc' := 325) H at_318 (by decide) (by decide) (by decide) ?_
                refine Go.iconst (0 : Int32) H at_325 rfl rfl ?_
                refine Go.istore (ls' := #[.val (.int a), .val (.int b), .val (.int c), .val (.int d), .val (.int e), .val (.int (1 : Int32)), .val (.int (1 : Int32)), .val (.int ((a >>> ((2 : Int32) &&& 31)) &&& (3 : Int32))), .val (.ref a678), .val (.int (7 : Int32)), .val (.int p.toInt32), .val (.int (nar .char (c &&& (255 : Int32)))), .val (.int (0 : Int32)), .val (.int q.toInt32), .val (.ref a870), .val (.ref o892), .val (.int (0 : Int32)), .unset]) H at_326 rfl rfl ?_
                refine Go.iload H at_328 rfl rfl ?_
                refine Go.ifN H at_330 (by decide) rfl ?_
                have e899 : selV dD dA (([(102 : Int32), (99 : Int32), (114 : Int32), (58 : Int32), (97 : Int32), (99 : Int32), (108 : Int32), (nar .char (e &&& (255 : Int32)))].set p (nar .char (c &&& (255 : Int32)))).take q) = .null := (by rw [c897]; exact selA_ne c898 c711)
                rw [e899] at F896
                refine Go.aload H at_333 rfl rfl rfl ?_
                refine Go.callV (rest := []) 0 [] H at_335 rfl A895 w86 w87 w89 w88 w70 w90 pd_N15 (ct_isp0 l W o892 h893 F896) all0 rfl rfl rfl (Nat.le_of_eq rfl) (by decide) (by decide) (by decide) (by decide) nh_N12 ?_
                rintro _ _ _ ⟨rfl, rfl, rfl⟩
                show Go _ _ _ _ _ _ h893 [a870, a678] 9 41 338 #[.val (.int a), .val (.int b), .val (.int c), .val (.int d), .val (.int e), .val (.int (1 : Int32)), .val (.int (1 : Int32)), .val (.int ((a >>> ((2 : Int32) &&& 31)) &&& (3 : Int32))), .val (.ref a678), .val (.int (7 : Int32)), .val (.int p.toInt32), .val (.int (nar .char (c &&& (255 : Int32)))), .val (.int (0 : Int32)), .val (.int q.toInt32), .val (.ref a870), .val (.ref o892), .val (.int (0 : Int32)), .unset] [(.int (0 : Int32))]
                refine Go.ifN H at_338 (by decide) rfl ?_
                refine Go.iconst (1 : Int32) H at_341 rfl rfl ?_
                refine Go.goto (pc' := 346) H at_342 (by decide) (by decide) ?_
                exact Go.ireturn 1 [] H at_346 (by simp) (by decide) ⟨rfl, trivial⟩ all0 (by decide) (by decide)
              ·
                refine Go.icmpY (pc' := 321) H at_313 (flt (own_nlt (n := 7) (by omega) (by omega))).2.1 (by decide) (by decide) ?_
                refine Go.iconst (1 : Int32) H at_321 rfl rfl ?_
                refine Go.goto (pc' := 326) H at_322 (by decide) (by decide) ?_
                refine Go.istore (ls' := #[.val (.int a), .val (.int b), .val (.int c), .val (.int d), .val (.int e), .val (.int (1 : Int32)), .val (.int (1 : Int32)), .val (.int ((a >>> ((2 : Int32) &&& 31)) &&& (3 : Int32))), .val (.ref a678), .val (.int (7 : Int32)), .val (.int p.toInt32), .val (.int (nar .char (c &&& (255 : Int32)))), .val (.int (0 : Int32)), .val (.int q.toInt32), .val (.ref a870), .val (.ref o892), .val (.int (1 : Int32)), .unset]) H at_326 rfl rfl ?_
                refine Go.iload H at_328 rfl rfl ?_
                refine Go.ifY (pc' := 347) H at_330 (by decide) (by decide) (by decide) ?_
                have e900 : selV dD dA (([(102 : Int32), (99 : Int32), (114 : Int32), (58 : Int32), (97 : Int32), (99 : Int32), (108 : Int32), (nar .char (e &&& (255 : Int32)))].set p (nar .char (c &&& (255 : Int32)))).take q) = .ref dA := (by rw [c897]; exact selA_hit7 c898 hp2)
                rw [e900] at F896
                refine Go.iload H at_347 rfl rfl ?_
                refine Go.ifN H at_349 (by decide) rfl ?_
                refine Go.getstatic H at_352 rfl w103 W.2.2.2.1 ?_
                refine Go.goto (pc' := 361) H at_355 (by decide) (by decide) ?_
                refine Go.astore (ls' := #[.val (.int a), .val (.int b), .val (.int c), .val (.int d), .val (.int e), .val (.int (1 : Int32)), .val (.int (1 : Int32)), .val (.int ((a >>> ((2 : Int32) &&& 31)) &&& (3 : Int32))), .val (.ref a678), .val (.int (7 : Int32)), .val (.int p.toInt32), .val (.int (nar .char (c &&& (255 : Int32)))), .val (.int (0 : Int32)), .val (.int q.toInt32), .val (.ref a870), .val (.ref o892), .val (.int (1 : Int32)), .val (.ref dA)]) H at_361 rfl rfl rfl ?_
                refine Go.aload H at_363 rfl rfl rfl ?_
                refine Go.callV (rest := []) 0 [] H at_365 rfl A895 w86 w87 w89 w88 w70 w90 pd_N15 (ct_isp1 l W o892 dA h893 F896) all0 rfl rfl rfl (Nat.le_of_eq rfl) (by decide) (by decide) (by decide) (by decide) nh_N12 ?_
                rintro _ _ _ ⟨rfl, rfl, rfl⟩
                show Go _ _ _ _ _ _ h893 [a870, a678] 9 41 368 #[.val (.int a), .val (.int b), .val (.int c), .val (.int d), .val (.int e), .val (.int (1 : Int32)), .val (.int (1 : Int32)), .val (.int ((a >>> ((2 : Int32) &&& 31)) &&& (3 : Int32))), .val (.ref a678), .val (.int (7 : Int32)), .val (.int p.toInt32), .val (.int (nar .char (c &&& (255 : Int32)))), .val (.int (0 : Int32)), .val (.int q.toInt32), .val (.ref a870), .val (.ref o892), .val (.int (1 : Int32)), .val (.ref dA)] [(.int (1 : Int32))]
                refine Go.ifN H at_368 (by decide) rfl ?_
                refine Go.aload H at_371 rfl rfl rfl ?_
                refine Go.callV (rest := []) 0 [] H at_373 rfl A895 w91 w92 w94 w93 w70 w95 pd_N16 (ct_opg l W o892 dA h893 F896) all0 rfl rfl rfl (Nat.le_of_eq rfl) (by decide) (by decide) (by decide) (by decide) nh_N12 ?_
                rintro _ _ _ ⟨rfl, rfl, rfl⟩
                show Go _ _ _ _ _ _ h893 [a870, a678] 9 41 376 #[.val (.int a), .val (.int b), .val (.int c), .val (.int d), .val (.int e), .val (.int (1 : Int32)), .val (.int (1 : Int32)), .val (.int ((a >>> ((2 : Int32) &&& 31)) &&& (3 : Int32))), .val (.ref a678), .val (.int (7 : Int32)), .val (.int p.toInt32), .val (.int (nar .char (c &&& (255 : Int32)))), .val (.int (0 : Int32)), .val (.int q.toInt32), .val (.ref a870), .val (.ref o892), .val (.int (1 : Int32)), .val (.ref dA)] [(.ref dA)]
                refine Go.aload H at_376 rfl rfl rfl ?_
                refine Go.acmpN H at_378 rfl rfl (by simp [XT.acmp]) rfl ?_
                refine Go.iconst (1 : Int32) H at_381 rfl rfl ?_
                refine Go.goto (pc' := 386) H at_382 (by decide) (by decide) ?_
                exact Go.ireturn 1 [] H at_386 (by simp) (by decide) ⟨rfl, trivial⟩ all0 (by decide) (by decide)
            ·
              refine Go.icmpY (pc' := 325) H at_301 (feq (fun e => c897 (own_ofinj (n := 7) (by omega) (by decide) e))).2 (by decide) (by decide) ?_
              refine Go.iconst (0 : Int32) H at_325 rfl rfl ?_
              refine Go.istore (ls' := #[.val (.int a), .val (.int b), .val (.int c), .val (.int d), .val (.int e), .val (.int (1 : Int32)), .val (.int (1 : Int32)), .val (.int ((a >>> ((2 : Int32) &&& 31)) &&& (3 : Int32))), .val (.ref a678), .val (.int (7 : Int32)), .val (.int p.toInt32), .val (.int (nar .char (c &&& (255 : Int32)))), .val (.int (0 : Int32)), .val (.int q.toInt32), .val (.ref a870), .val (.ref o892), .val (.int (0 : Int32)), .unset]) H at_326 rfl rfl ?_
              refine Go.iload H at_328 rfl rfl ?_
              refine Go.ifN H at_330 (by decide) rfl ?_
              have e901 : selV dD dA (([(102 : Int32), (99 : Int32), (114 : Int32), (58 : Int32), (97 : Int32), (99 : Int32), (108 : Int32), (nar .char (e &&& (255 : Int32)))].set p (nar .char (c &&& (255 : Int32)))).take q) = .null := selA_len (by rw [List.length_set]; rfl) (by omega) c897
              rw [e901] at F896
              refine Go.aload H at_333 rfl rfl rfl ?_
              refine Go.callV (rest := []) 0 [] H at_335 rfl A895 w86 w87 w89 w88 w70 w90 pd_N15 (ct_isp0 l W o892 h893 F896) all0 rfl rfl rfl (Nat.le_of_eq rfl) (by decide) (by decide) (by decide) (by decide) nh_N12 ?_
              rintro _ _ _ ⟨rfl, rfl, rfl⟩
              show Go _ _ _ _ _ _ h893 [a870, a678] 9 41 338 #[.val (.int a), .val (.int b), .val (.int c), .val (.int d), .val (.int e), .val (.int (1 : Int32)), .val (.int (1 : Int32)), .val (.int ((a >>> ((2 : Int32) &&& 31)) &&& (3 : Int32))), .val (.ref a678), .val (.int (7 : Int32)), .val (.int p.toInt32), .val (.int (nar .char (c &&& (255 : Int32)))), .val (.int (0 : Int32)), .val (.int q.toInt32), .val (.ref a870), .val (.ref o892), .val (.int (0 : Int32)), .unset] [(.int (0 : Int32))]
              refine Go.ifN H at_338 (by decide) rfl ?_
              refine Go.iconst (1 : Int32) H at_341 rfl rfl ?_
              refine Go.goto (pc' := 346) H at_342 (by decide) (by decide) ?_
              exact Go.ireturn 1 [] H at_346 (by simp) (by decide) ⟨rfl, trivial⟩ all0 (by decide) (by decide)
theorem own_eqnull {args : Array Value} {first s : State} {o : Option Outcome} {idx : List Nat} {a : Term} (h : (Jvm.Cond.eq a .null).value args first o s idx = some true) : a.eval args first o idx s = some .null := by
  cases ha : a.eval args first o idx s with
  | none => simp [Cond.value, ha] at h
  | some x => cases x <;> simp [Cond.value, Term.eval, ha] at h ⊢
theorem own_eqref {args : Array Value} {first s : State} {o : Option Outcome} {idx : List Nat} {a b : Term} {x : Addr} (hb : b.eval args first o idx s = some (.ref x)) (h : (Jvm.Cond.eq a b).value args first o s idx = some true) : a.eval args first o idx s = some (.ref x) := by
  cases ha : a.eval args first o idx s with
  | none => simp [Cond.value, ha, hb] at h
  | some y => cases y <;> simp [Cond.value, ha, hb] at h ⊢ <;> exact h
theorem own_oldrar {Z : State} {args : Array Value} {t u w : Term} {C ad : String} {a x y : Addr} (hf : Fit Z) (q0 : (Jvm.Cond.arrayOf t (.object C)).value args Z none Z [] = some true) (q1 : (Jvm.Cond.exactly t ad).value args Z none Z [] = some true) (q2 : (Jvm.Cond.eq (.length t) (.int 2)).value args Z none Z [] = some true) (q4 : (Jvm.Cond.eq (.elem t (.int 0)) u).value args Z none Z [] = some true) (q6 : (Jvm.Cond.eq (.elem t (.int 1)) w).value args Z none Z [] = some true)
    (ea : t.eval args Z none [] Z = some (.ref a)) (eu : u.eval args Z none [] Z = some (.ref x)) (ew : w.eval args Z none [] Z = some (.ref y)) : Rar Z Z.heap a C ad [.ref x, .ref y] := by
  obtain ⟨c, A⟩ := Arr.start ea q0
  have ha : Z.arrayAt? a = some c := A.fin (Vm.Alike.refl _)
  have el := own_eqw q2
  have e0 := (elem_in (own_eqref eu q4) ea (Term.int_eval 0) A.1).2
  have e1 := (elem_in (own_eqref ew q6) ea (Term.int_eval 1) A.1).2
  by_cases q : c.slots.size < 2 ^ 31
  · have e4 : c.slots.size.toInt32 = (2 : Nat).toInt32 := Value.int.inj (Option.some.inj ((len_f ea ha q).symm.trans el))
    have e5 := own_ofinj q (by decide) e4
    refine ⟨c, A, Exa.start ea q1, FitC.start hf A, ?_⟩
    apply List.ext_getElem?
    intro i
    rw [Array.getElem?_toList]
    match i with
    | 0 => exact e0
    | 1 => exact e1
    | i + 2 => rw [Array.getElem?_eq_none (by omega)]; rfl
  · simp [Term.eval, ea, ha, q] at el
theorem w43 : Jvm.Cond.laysStatic "com/example/cairnstore/cairnstore/layout/Attachment" "$VALUES" "[Lcom/example/cairnstore/cairnstore/layout/Attachment;" ∈ tables_1 := List.mem_of_getElem? (i := 43) rfl
theorem w51 : Jvm.Cond.laysStatic "com/example/cairnstore/cairnstore/layout/Attachment" "DESCRIPTION" "Lcom/example/cairnstore/cairnstore/layout/Attachment;" ∈ tables_1 := List.mem_of_getElem? (i := 51) rfl
theorem w52 : Jvm.Cond.laysStatic "com/example/cairnstore/cairnstore/layout/Attachment" "ACL" "Lcom/example/cairnstore/cairnstore/layout/Attachment;" ∈ tables_1 := List.mem_of_getElem? (i := 52) rfl
theorem w101 : Jvm.Cond.soleField "java/lang/String" "value" ∈ tables_1 := List.mem_of_getElem? (i := 101) rfl
theorem w102 : Jvm.Cond.soleField "java/lang/String" "coder" ∈ tables_1 := List.mem_of_getElem? (i := 102) rfl
set_option maxRecDepth 65536 in
set_option maxHeartbeats 4000000 in
theorem comes_1 {Post : Tables → Env → Array Value → State → Outcome → State → Prop} (hpost : ∀ tb e args s v u, (limb_1_1.after args s (.returned v) u = true ∧ limb_1_2.after args s (.returned v) u = true ∧ True) → ReturnedEndW s (.returned v) u (Jvm.fieldLocs frame_1_writes args s ++ Jvm.arrayLocs frame_1_arrays args s ++ Jvm.staticLocs frame_1_statics s) 24 1216 → Post tb e args s (.returned v) u) :
    ArmFor flags0 classFile x code maxLocals ret World_1 tables_1 room_1 Calls_1 rest_1 Pre_1 Post := by
  intro l hfl _ _ p e ha hc hk s m args below hf hA hF happ hP
  obtain ⟨hcalls, hrest, hpre⟩ := hP
  obtain ⟨-, -, -, hnamed, -, -, -, hat⟩ := (Spec.applies_iff hf).mp happ
  obtain ⟨hg, hn⟩ := and_e (Cond.before_iff.mp (show (Jvm.Cond.and given_1 narrow_1).before args s = true from hpre))
  obtain ⟨h1, h2⟩ := and_e hg
  obtain ⟨k0, r0⟩ := and_e h2
  obtain ⟨k1, r1⟩ := and_e r0
  obtain ⟨k2, r2⟩ := and_e r1
  obtain ⟨k3, r3⟩ := and_e r2
  obtain ⟨w0, w1, w2, w3, w4, rfl⟩ : ∃ w0 w1 w2 w3 w4 : Value, args = #[w0, w1, w2, w3, w4] := by
    have hs : args.size = 5 := by simpa [Cond.value, given_1] using h1
    obtain ⟨L⟩ := args
    match L, hs with
    | [w0, w1, w2, w3, w4], _ => exact ⟨w0, w1, w2, w3, w4, rfl⟩
  have hw := fun d (hd : d ∈ tables_1) => atoms_spec (ws := Jvm.Cond.code x code maxLocals ret :: tables_1) hat d (List.mem_cons_of_mem _ hd)
  obtain ⟨hsets, hown0⟩ := atoms_of _ (rest_1_c_eq ▸ (show rest_1_c.before _ s = true from hrest))
  have hfit : Fit s := fun {y c} hc i hi => by
    obtain ⟨ha, rfl⟩ := Array.getElem?_eq_some_iff.mp hc
    have q := List.all_eq_true.mp ((Array.all_eq_true_iff_forall_mem.mp hF) _ (Array.getElem_mem ha)) i (List.mem_range.mpr hi)
    simpa [Array.getElem?_eq_getElem hi] using q
  obtain ⟨i0, e0⟩ := is_v k0
  obtain rfl : w0 = (.int i0) := Option.some.inj e0
  obtain ⟨i1, e1⟩ := is_v k1
  obtain rfl : w1 = (.int i1) := Option.some.inj e1
  obtain ⟨i2, e2⟩ := is_v k2
  obtain rfl : w2 = (.int i2) := Option.some.inj e2
  obtain ⟨i3, e3⟩ := is_v k3
  obtain rfl : w3 = (.int i3) := Option.some.inj e3
  obtain ⟨i4, e4⟩ := is_v r3
  obtain rfl : w4 = (.int i4) := Option.some.inj e4
  have n5 := not_v (Cond.before_iff.mp (hsets _ (List.mem_of_getElem? (i := 2) rfl)))
  obtain ⟨iz, ez⟩ := is_v (Cond.before_iff.mp (hsets _ (List.mem_of_getElem? (i := 1) rfl)))
  have Sz : Sta s s.heap "java/lang/String" "COMPACT_STRINGS" "Z" (.int iz) := Sta.start ez (Or.inl (hsets _ (List.mem_of_getElem? (i := 0) rfl)))
  obtain ⟨vf, ef, rf⟩ := isR_v (Cond.before_iff.mp (hsets _ (List.mem_of_getElem? (i := 8) rfl)))
  have Sf : Sta s s.heap "jdk/internal/util/Preconditions" "SIOOBE_FORMATTER" "Ljava/util/function/BiFunction;" vf := Sta.start ef (Or.inl (hsets _ (List.mem_of_getElem? (i := 7) rfl)))
  have cz : ¬ (iz = (0 : Int32)) := gotF (Cond.eq_ints ez (Term.int_eval (0))) n5
  obtain ⟨q0, hn0⟩ := and_e hn
  obtain ⟨q1, hn1⟩ := and_e hn0
  obtain ⟨q2, hn2⟩ := and_e hn1
  obtain ⟨q3, hn3⟩ := and_e hn2
  obtain ⟨q4, hn4⟩ := and_e hn3
  obtain ⟨q5, hn5⟩ := and_e hn4
  obtain ⟨q6, hn6⟩ := and_e hn5
  obtain ⟨q7, hn7⟩ := and_e hn6
  obtain ⟨q8, hn8⟩ := and_e hn7
  obtain ⟨q9, hn9⟩ := and_e hn8
  obtain ⟨q10, hn10⟩ := and_e hn9
  obtain ⟨q11, hn11⟩ := and_e hn10
  obtain ⟨q12, hn12⟩ := and_e hn11
  obtain ⟨q13, hn13⟩ := and_e hn12
  obtain ⟨q14, hn14⟩ := and_e hn13
  obtain ⟨q15, hn15⟩ := and_e hn14
  obtain ⟨q16, hn16⟩ := and_e hn15
  obtain ⟨q17, hn17⟩ := and_e hn16
  obtain ⟨q18, hn18⟩ := and_e hn17
  obtain ⟨q19, hn19⟩ := and_e hn18
  obtain ⟨q20, hn20⟩ := and_e hn19
  obtain ⟨q21, hn21⟩ := and_e hn20
  obtain ⟨q22, hn22⟩ := and_e hn21
  obtain ⟨q23, hn23⟩ := and_e hn22
  obtain ⟨q24, hn24⟩ := and_e hn23
  obtain ⟨q25, hn25⟩ := and_e hn24
  obtain ⟨q26, hn26⟩ := and_e hn25
  obtain ⟨q27, hn27⟩ := and_e hn26
  obtain ⟨q28, hn28⟩ := and_e hn27
  obtain ⟨q29, hn29⟩ := and_e hn28
  obtain ⟨q30, hn30⟩ := and_e hn29
  obtain ⟨q31, hn31⟩ := and_e hn30
  obtain ⟨q32, hn32⟩ := and_e hn31
  have q33 := hn32
  obtain ⟨vv, evv⟩ := exa_v q1
  have Svv : Sta s s.heap "com/example/cairnstore/cairnstore/layout/Attachment" "$VALUES" "[Lcom/example/cairnstore/cairnstore/layout/Attachment;" (.ref vv) := Sta.start evv (Or.inr ⟨hw _ w37, hw _ w43⟩)
  obtain ⟨dD, edD⟩ := exa_v q3
  have SdD : Sta s s.heap "com/example/cairnstore/cairnstore/layout/Attachment" "DESCRIPTION" "Lcom/example/cairnstore/cairnstore/layout/Attachment;" (.ref dD) := Sta.start edD (Or.inr ⟨hw _ w37, hw _ w51⟩)
  obtain ⟨dA, edA⟩ := exa_v q5
  have SdA : Sta s s.heap "com/example/cairnstore/cairnstore/layout/Attachment" "ACL" "Lcom/example/cairnstore/cairnstore/layout/Attachment;" (.ref dA) := Sta.start edA (Or.inr ⟨hw _ w37, hw _ w52⟩)
  have RV : Rar s s.heap vv "com/example/cairnstore/cairnstore/layout/Attachment" "[Lcom/example/cairnstore/cairnstore/layout/Attachment;" [.ref dD, .ref dA] := own_oldrar hfit q0 q1 q2 q4 q6 evv edD edA
  obtain ⟨sD, bD, esD, TD⟩ := own_oldstr (vs := [(102 : Int32), (99 : Int32), (114 : Int32), (58 : Int32), (109 : Int32), (101 : Int32), (116 : Int32), (97 : Int32), (100 : Int32), (97 : Int32), (116 : Int32), (97 : Int32)]) (cs := [(102 : Int32), (99 : Int32), (114 : Int32), (58 : Int32), (109 : Int32), (101 : Int32), (116 : Int32), (97 : Int32), (100 : Int32), (97 : Int32), (116 : Int32), (97 : Int32)]) hfit q7 q8 q9 q10 (by decide) (by decide) (fun c x ex hx => ⟨own_el 0 ex hx (by decide) q15, ⟨own_el 1 ex hx (by decide) q16, ⟨own_el 2 ex hx (by decide) q17, ⟨own_el 3 ex hx (by decide) q18, ⟨own_el 4 ex hx (by decide) q19, ⟨own_el 5 ex hx (by decide) q20, ⟨own_el 6 ex hx (by decide) q21, ⟨own_el 7 ex hx (by decide) q22, ⟨own_el 8 ex hx (by decide) q23, ⟨own_el 9 ex hx (by decide) q24, ⟨own_el 10 ex hx (by decide) q25, ⟨own_el 11 ex hx (by decide) q26, trivial⟩⟩⟩⟩⟩⟩⟩⟩⟩⟩⟩⟩) (by decide) (own_ac (show isL (102 : Int32) from ⟨by decide, by decide⟩) (own_ac (show isL (99 : Int32) from ⟨by decide, by decide⟩) (own_ac (show isL (114 : Int32) from ⟨by decide, by decide⟩) (own_ac (show isL (58 : Int32) from ⟨by decide, by decide⟩) (own_ac (show isL (109 : Int32) from ⟨by decide, by decide⟩) (own_ac (show isL (101 : Int32) from ⟨by decide, by decide⟩) (own_ac (show isL (116 : Int32) from ⟨by decide, by decide⟩) (own_ac (show isL (97 : Int32) from ⟨by decide, by decide⟩) (own_ac (show isL (100 : Int32) from ⟨by decide, by decide⟩) (own_ac (show isL (97 : Int32) from ⟨by decide, by decide⟩) (own_ac (show isL (116 : Int32) from ⟨by decide, by decide⟩) (own_ac (show isL (97 : Int32) from ⟨by decide, by decide⟩) (own_an))))))))))))) (by decide)
  have GD : Fld s s.heap dD "com/example/cairnstore/cairnstore/layout/Attachment" "segment" "Ljava/lang/String;" (.ref sD) := Fld.start ((fld_at edD).symm.trans esD)
  obtain ⟨sA, bA, esA, TA⟩ := own_oldstr (vs := [(102 : Int32), (99 : Int32), (114 : Int32), (58 : Int32), (97 : Int32), (99 : Int32), (108 : Int32)]) (cs := [(102 : Int32), (99 : Int32), (114 : Int32), (58 : Int32), (97 : Int32), (99 : Int32), (108 : Int32)]) hfit q11 q12 q13 q14 (by decide) (by decide) (fun c x ex hx => ⟨own_el 0 ex hx (by decide) q27, ⟨own_el 1 ex hx (by decide) q28, ⟨own_el 2 ex hx (by decide) q29, ⟨own_el 3 ex hx (by decide) q30, ⟨own_el 4 ex hx (by decide) q31, ⟨own_el 5 ex hx (by decide) q32, ⟨own_el 6 ex hx (by decide) q33, trivial⟩⟩⟩⟩⟩⟩⟩) (by decide) (own_ac (show isL (102 : Int32) from ⟨by decide, by decide⟩) (own_ac (show isL (99 : Int32) from ⟨by decide, by decide⟩) (own_ac (show isL (114 : Int32) from ⟨by decide, by decide⟩) (own_ac (show isL (58 : Int32) from ⟨by decide, by decide⟩) (own_ac (show isL (97 : Int32) from ⟨by decide, by decide⟩) (own_ac (show isL (99 : Int32) from ⟨by decide, by decide⟩) (own_ac (show isL (108 : Int32) from ⟨by decide, by decide⟩) (own_an)))))))) (by decide)
  have GA : Fld s s.heap dA "com/example/cairnstore/cairnstore/layout/Attachment" "segment" "Ljava/lang/String;" (.ref sA) := Fld.start ((fld_at edA).symm.trans esA)
  have qo := Cond.before_iff.mp (hsets _ (List.mem_of_getElem? (i := 11) rfl))
  obtain ⟨oe, eoe⟩ := exa_v qo
  have So : Sta s s.heap "java/util/Optional" "EMPTY" "Ljava/util/Optional;" (.ref oe) := Sta.start eoe (Or.inl (hsets _ (List.mem_of_getElem? (i := 10) rfl)))
  have EO := Exa.start eoe qo
  have FE : Fld s s.heap oe "java/util/Optional" "value" "Ljava/lang/Object;" .null := Fld.start ((fld_at eoe).symm.trans (own_eqnull (Cond.before_iff.mp (hsets _ (List.mem_of_getElem? (i := 12) rfl)))))
  have hEL : EW s _ consts_1 := (EW.cons (hw _ w100) (by decide) EW.nil)
  have hat7 : ∀ a ∈ Bundle.stringAtoms, a.before _ s = true := fun a ha => by
    simp only [Bundle.stringAtoms, List.mem_cons, List.not_mem_nil, or_false] at ha
    rcases ha with rfl | rfl | rfl | rfl | rfl | rfl | rfl
    · exact hw _ w4
    · exact hw _ w3
    · exact hw _ w24
    · exact hw _ w34
    · exact hw _ w32
    · exact hw _ w101
    · exact hw _ w102
  have hCH : CHv s consts_1 s.vm s.heap := CHv.start hEL (fun p hp => hcalls.1 p hp) (hsets _ (List.mem_of_getElem? (i := 2) rfl)) (hw _ w24) (hw _ w3)
  obtain ⟨n, o, h1, h2, h3, _, L, rfl, ⟨⟨sn, ⟨rfl, -⟩, -⟩, N, -⟩, -, hq⟩ := ct_law l (Z := s) (n0 := s.heap.size) ⟨⟨⟨_, hw, hEL, hat7⟩, cz, Sz, rf, Sf⟩, Svv, SdD, SdA, So, RV, GD, TD, GA, TA, EO, FE⟩ i0 i1 i2 i3 i4 s.heap (Old.start s) tables_1 p e ha hc hk s m _ below hf ((Spec.applies_iff_loose hf).mp happ).1 ⟨rfl, State.Warmed39.refl s, rfl, hCH, fun x q => nomatch q⟩ trivial
  refine ⟨n, _, h1, h2, h3, hpost _ _ _ _ _ _ ⟨Cond.after_iff.mpr rfl, Cond.after_iff.mpr (eq_i res_at (Term.int_eval (1)) rfl), trivial⟩ ⟨hq.1, hq.2.1, hq.2.2.1, (hq.2.2.2.sift fun y hy => Or.inr (N y hy)).mono (by decide) (by decide)⟩⟩
theorem main_1_1 : Claimed_1_1 := comes_1 fun _ _ _ _ _ _ h hF => ⟨h.1, hF⟩
theorem main_1_2 : Claimed_1_2 := comes_1 fun _ _ _ _ _ _ h hF => ⟨h.2.1, hF⟩
end Jvm.Pilot.@@N@@
namespace Jvm.Pilot.@@N@@
open Jvm Jvm.ClassFile Sem Op Lib Jvm.Free Jvm.Stand Jvm.Pilot.@@N@@.Jvm.D
/-! MADE BY PROGRAM (witnessworld.py) out of the Statement's table words and the real class files: 24 classes; the members and pool entries that the words name. The judged class is class 1, her method 1. -/
namespace start1
open Jvm.ClassFile
def u (s : String) : CpInfo := .utf8 (stringToUtf16 s)
/-- a pool by its gaps: so many unusable entries, then the entry; so many at the end -/
def gap : Nat → List CpInfo → List CpInfo
  | 0, r => r
  | n + 1, r => .unusable :: gap n r
def poolList (es : List (Nat × CpInfo)) (last : Nat) : List CpInfo := es.foldr (fun e r => gap e.1 (e.2 :: r)) (gap last [])
def pool (es : List (Nat × CpInfo)) (last : Nat) : Array CpInfo := ⟨poolList es last⟩
def fileOf (pool : Array CpInfo) (this : Nat) (attrs : Array Attribute := #[]) (ms : Array MethodInfo := #[]) (fl : Nat := 33) (sup : Nat := 0) (ifs : Array Nat := #[]) (fds : Array FieldInfo := #[]) : ClassFile where
  minorVersion := 0
  majorVersion := 65
  constantPool := pool
  accessFlags := fl
  thisClass := this
  superClass := sup
  interfaces := ifs
  fields := fds
  methods := ms
  attributes := attrs
def plain (name : String) (sup : Option ClassId) : Class where
  name := name
  kind := .ordinary
  loader := none
  accessFlags := 33
  super := sup
  interfaces := #[]
  cf := none
  fields := #[]
  methods := #[]
  instanceTypes := #[]
  staticTypes := #[]
  resolved := #[]
  callSites := []
  init := .initialized
  statics := none
  mirror := none

def pool0 : Array CpInfo := pool [(5, u "<init>"), (0, u "()V"), (1, .class_ 10), (1, u "java/lang/Object"), (85, u "clone"), (0, u "()Ljava/lang/Object;")] 26

def k0c0 : Code := { maxStack := 0, maxLocals := 1, code := object_method_1_code, exceptionTable := #[], attributes := #[] }
def k0m0 : Method := { name := "<init>", desc := "()V", sig := { parameters := [], returnType := none }, accessFlags := 1, code := some k0c0 }
def k0m1 : Method := { name := "clone", desc := "()Ljava/lang/Object;", sig := { parameters := [], returnType := some (.object "java/lang/Object") }, accessFlags := 260, code := none }
/-- java/lang/Object -/
def k0 : Class := { plain "java/lang/Object" none with
  accessFlags := 33
  interfaces := #[]
  cf := some (fileOf pool0 8 #[] #[{ accessFlags := 1, nameIndex := 5, descriptorIndex := 6, attributes := #[] }, { accessFlags := 260, nameIndex := 96, descriptorIndex := 97, attributes := #[] }] 33 0 #[] #[])
  fields := #[]
  methods := #[k0m0, k0m1]
  instanceTypes := #[]
  staticTypes := #[]
  resolved := Array.replicate 124 none
  statics := none }

def pool1 : Array CpInfo := pool [(2, .class_ 4), (1, u "java/lang/Object"), (0, u "<init>"), (0, u "()V"), (0, .integer 2147483647), (0, .class_ 9), (0, u "java/lang/String"), (0, .methodref 11 12), (0, .class_ 13), (0, .nameAndType 14 15), (0, u "com/example/cairnstore/cairnstore/layout/AttachmentBySegmentPinLaw"), (0, u "prefix"), (0, u "([CI)[C"), (0, .methodref 8 17), (0, .nameAndType 5 18), (0, u "([C)V"), (0, .methodref 20 21), (0, .class_ 22), (0, .nameAndType 23 24), (0, u "com/example/cairnstore/cairnstore/layout/Attachment"), (0, u "bySegment"), (0, u "(Ljava/lang/String;)Ljava/util/Optional;"), (0, .methodref 26 27), (0, .class_ 28), (0, .nameAndType 29 30), (0, u "java/util/Optional"), (0, u "isPresent"), (0, u "()Z"), (0, .fieldref 20 32), (0, .nameAndType 33 34), (0, u "ACL"), (0, u "Lcom/example/cairnstore/cairnstore/layout/Attachment;"), (0, .fieldref 20 36), (0, .nameAndType 37 34), (0, u "DESCRIPTION"), (0, .methodref 26 39), (0, .nameAndType 40 41), (0, u "get"), (0, u "()Ljava/lang/Object;"), (2, u "law"), (0, u "(IIIII)Z")] 5

def k1m0 : Method := { name := "<init>", desc := "()V", sig := { parameters := [], returnType := none }, accessFlags := 1, code := none }
def k1c1 : Code := { maxStack := 4, maxLocals := 18, code := code, exceptionTable := #[], attributes := #[] }
def k1m1 : Method := { name := "law", desc := "(IIIII)Z", sig := { parameters := [.int, .int, .int, .int, .int], returnType := some .boolean }, accessFlags := 9, code := some k1c1 }
def k1c2 : Code := { maxStack := 4, maxLocals := 3, code := method_3_code, exceptionTable := #[], attributes := #[] }
def k1m2 : Method := { name := "prefix", desc := "([CI)[C", sig := { parameters := [(.array .char), .int], returnType := some (.array .char) }, accessFlags := 10, code := some k1c2 }
/-- com/example/cairnstore/cairnstore/layout/AttachmentBySegmentPinLaw -/
def k1 : Class := { plain "com/example/cairnstore/cairnstore/layout/AttachmentBySegmentPinLaw" (some 0) with
  accessFlags := 49
  interfaces := #[]
  cf := some (fileOf pool1 11 #[] #[{ accessFlags := 1, nameIndex := 5, descriptorIndex := 6, attributes := #[] }, { accessFlags := 9, nameIndex := 44, descriptorIndex := 45, attributes := #[] }, { accessFlags := 10, nameIndex := 14, descriptorIndex := 15, attributes := #[] }] 49 2 #[] #[])
  fields := #[]
  methods := #[k1m0, k1m1, k1m2]
  instanceTypes := #[]
  staticTypes := #[]
  resolved := Array.replicate 51 none
  statics := none }

def pool2 : Array CpInfo := pool [(1, .class_ 2), (0, u "java/io/Serializable"), (0, .class_ 4), (0, u "java/lang/Object")] 2

/-- java/io/Serializable -/
def k2 : Class := { plain "java/io/Serializable" (some 0) with
  accessFlags := 1537
  interfaces := #[]
  cf := some (fileOf pool2 1 #[] #[] 1537 3 #[] #[])
  fields := #[]
  methods := #[]
  instanceTypes := #[]
  staticTypes := #[]
  resolved := Array.replicate 7 none
  statics := none }

def pool3 : Array CpInfo := pool [(1, .class_ 2), (0, u "java/lang/Comparable"), (0, .class_ 4), (0, u "java/lang/Object")] 7

/-- java/lang/Comparable -/
def k3 : Class := { plain "java/lang/Comparable" (some 0) with
  accessFlags := 1537
  interfaces := #[]
  cf := some (fileOf pool3 1 #[] #[] 1537 3 #[] #[])
  fields := #[]
  methods := #[]
  instanceTypes := #[]
  staticTypes := #[]
  resolved := Array.replicate 12 none
  statics := none }

def pool4 : Array CpInfo := pool [(2, .class_ 4), (1, u "java/lang/CharSequence"), (42, .class_ 48), (0, u "java/lang/CharSequence$1CodePointIterator"), (10, .class_ 60), (0, u "java/lang/CharSequence$1CharIterator"), (5, .class_ 67), (0, u "java/lang/Object")] 63

/-- java/lang/CharSequence -/
def k4 : Class := { plain "java/lang/CharSequence" (some 0) with
  accessFlags := 1537
  interfaces := #[]
  cf := some (fileOf pool4 2 #[.nestMembers #[47, 59]] #[] 1537 66 #[] #[])
  fields := #[]
  methods := #[]
  instanceTypes := #[]
  staticTypes := #[]
  resolved := Array.replicate 131 none
  statics := none }

def pool5 : Array CpInfo := pool [(1, .class_ 2), (0, u "java/lang/constant/Constable"), (0, .class_ 4), (0, u "java/lang/Object")] 6

/-- java/lang/constant/Constable -/
def k5 : Class := { plain "java/lang/constant/Constable" (some 0) with
  accessFlags := 1537
  interfaces := #[]
  cf := some (fileOf pool5 1 #[] #[] 1537 3 #[] #[])
  fields := #[]
  methods := #[]
  instanceTypes := #[]
  staticTypes := #[]
  resolved := Array.replicate 11 none
  statics := none }

def pool6 : Array CpInfo := pool [(1, .class_ 2), (0, u "java/lang/constant/ConstantDesc"), (0, .class_ 4), (0, u "java/lang/Object")] 32

/-- java/lang/constant/ConstantDesc -/
def k6 : Class := { plain "java/lang/constant/ConstantDesc" (some 0) with
  accessFlags := 1537
  interfaces := #[]
  cf := some (fileOf pool6 1 #[] #[] 1537 3 #[] #[])
  fields := #[]
  methods := #[]
  instanceTypes := #[]
  staticTypes := #[]
  resolved := Array.replicate 37 none
  statics := none }

def pool7 : Array CpInfo := pool [(1, .methodref 2 3), (0, .class_ 4), (0, .nameAndType 5 6), (0, u "java/lang/Object"), (0, u "<init>"), (0, u "()V"), (0, .string 8), (0, u ""), (0, .fieldref 10 11), (0, .class_ 12), (0, .nameAndType 13 14), (0, u "java/lang/String"), (0, u "value"), (0, u "[B"), (0, .fieldref 10 16), (0, .nameAndType 17 18), (0, u "coder"), (0, u "B"), (2, u "hash"), (0, u "I"), (2, u "hashIsZero"), (0, u "Z"), (0, .methodref 10 28), (0, .nameAndType 5 29), (0, u "([CIILjava/lang/Void;)V"), (8, .fieldref 10 39), (0, .nameAndType 40 26), (0, u "COMPACT_STRINGS"), (1, .class_ 44), (1, u "java/lang/StringUTF16"), (0, u "compress"), (1, .methodref 42 48), (0, .nameAndType 49 50), (0, u "coderFromArrayLen"), (0, u "([BI)B"), (56, .class_ 109), (1, u "java/lang/StringLatin1"), (67, .methodref 42 178), (0, .nameAndType 45 179), (0, u "([CII)[B"), (361, .methodref 107 542), (0, .nameAndType 543 544), (0, u "equals"), (0, u "([B[B)Z"), (28, u "(Ljava/lang/Object;)Z"), (1, .class_ 576), (0, u "java/lang/CharSequence"), (22, u "CASE_INSENSITIVE_ORDER"), (0, u "Ljava/util/Comparator;"), (409, u "([C)V"), (90, u "serialPersistentFields"), (0, u "[Ljava/io/ObjectStreamField;"), (0, .class_ 1104), (0, u "java/lang/String$CaseInsensitiveComparator"), (1, .class_ 1107), (0, u "java/io/Serializable"), (0, .class_ 1109), (0, u "java/lang/Comparable"), (0, .class_ 1111), (0, u "java/lang/constant/Constable"), (0, .class_ 1113), (0, u "java/lang/constant/ConstantDesc"), (2, u "serialVersionUID"), (0, u "J"), (3, u "REPL"), (0, u "C"), (2, u "LATIN1"), (1, u "UTF16")] 323

def k7m0 : Method := { name := "<init>", desc := "()V", sig := { parameters := [], returnType := none }, accessFlags := 1, code := none }
def k7c1 : Code := { maxStack := 5, maxLocals := 2, code := jdk_42_method_3_code, exceptionTable := #[], attributes := #[] }
def k7m1 : Method := { name := "<init>", desc := "([C)V", sig := { parameters := [(.array .char)], returnType := none }, accessFlags := 1, code := some k7c1 }
def k7c2 : Code := { maxStack := 2, maxLocals := 3, code := jdk_42_method_66_code, exceptionTable := #[], attributes := #[] }
def k7m2 : Method := { name := "equals", desc := "(Ljava/lang/Object;)Z", sig := { parameters := [(.object "java/lang/Object")], returnType := some .boolean }, accessFlags := 1, code := some k7c2 }
def k7c3 : Code := { maxStack := 4, maxLocals := 6, code := jdk_42_method_149_code, exceptionTable := #[], attributes := #[] }
def k7m3 : Method := { name := "<init>", desc := "([CIILjava/lang/Void;)V", sig := { parameters := [(.array .char), .int, .int, (.object "java/lang/Void")], returnType := none }, accessFlags := 2, code := some k7c3 }
/-- java/lang/String -/
def k7 : Class := { plain "java/lang/String" (some 0) with
  accessFlags := 49
  interfaces := #[2, 3, 4, 5, 6]
  cf := some (fileOf pool7 10 #[.nestMembers #[1103]] #[{ accessFlags := 1, nameIndex := 5, descriptorIndex := 6, attributes := #[] }, { accessFlags := 1, nameIndex := 5, descriptorIndex := 1010, attributes := #[] }, { accessFlags := 1, nameIndex := 543, descriptorIndex := 573, attributes := #[] }, { accessFlags := 2, nameIndex := 5, descriptorIndex := 29, attributes := #[] }] 49 2 #[1106, 1108, 575, 1110, 1112] #[{ accessFlags := 18, nameIndex := 13, descriptorIndex := 14, attributes := #[] }, { accessFlags := 18, nameIndex := 17, descriptorIndex := 18, attributes := #[] }, { accessFlags := 2, nameIndex := 21, descriptorIndex := 22, attributes := #[] }, { accessFlags := 2, nameIndex := 25, descriptorIndex := 26, attributes := #[] }, { accessFlags := 26, nameIndex := 1116, descriptorIndex := 1117, attributes := #[] }, { accessFlags := 24, nameIndex := 40, descriptorIndex := 26, attributes := #[] }, { accessFlags := 26, nameIndex := 1101, descriptorIndex := 1102, attributes := #[] }, { accessFlags := 26, nameIndex := 1121, descriptorIndex := 1122, attributes := #[] }, { accessFlags := 25, nameIndex := 599, descriptorIndex := 600, attributes := #[] }, { accessFlags := 24, nameIndex := 1125, descriptorIndex := 18, attributes := #[] }, { accessFlags := 24, nameIndex := 1127, descriptorIndex := 18, attributes := #[] }])
  fields := #[{ name := "value", type := (.array .byte), accessFlags := 18, slot := 0, constantValue := 0 }, { name := "coder", type := .byte, accessFlags := 18, slot := 1, constantValue := 0 }, { name := "hash", type := .int, accessFlags := 2, slot := 2, constantValue := 0 }, { name := "hashIsZero", type := .boolean, accessFlags := 2, slot := 3, constantValue := 0 }, { name := "serialVersionUID", type := .long, accessFlags := 26, slot := 0, constantValue := 0 }, { name := "COMPACT_STRINGS", type := .boolean, accessFlags := 24, slot := 1, constantValue := 0 }, { name := "serialPersistentFields", type := (.array (.object "java/io/ObjectStreamField")), accessFlags := 26, slot := 2, constantValue := 0 }, { name := "REPL", type := .char, accessFlags := 26, slot := 3, constantValue := 0 }, { name := "CASE_INSENSITIVE_ORDER", type := (.object "java/util/Comparator"), accessFlags := 25, slot := 4, constantValue := 0 }, { name := "LATIN1", type := .byte, accessFlags := 24, slot := 5, constantValue := 0 }, { name := "UTF16", type := .byte, accessFlags := 24, slot := 6, constantValue := 0 }]
  methods := #[k7m0, k7m1, k7m2, k7m3]
  instanceTypes := #[(.array .byte), .byte, .int, .boolean]
  staticTypes := #[.long, .boolean, (.array (.object "java/io/ObjectStreamField")), .char, (.object "java/util/Comparator"), .byte, .byte]
  resolved := Array.replicate 1451 none
  statics := some 0 }

def pool8 : Array CpInfo := pool [(6, .class_ 8), (1, u "java/lang/Object"), (0, u "<init>"), (0, u "()V"), (1, .class_ 14), (1, u "java/lang/StringUTF16"), (31, u "$assertionsDisabled"), (0, u "Z"), (13, u "HI_BYTE_SHIFT"), (0, u "I"), (2, u "LO_BYTE_SHIFT"), (49, .methodref 12 116), (0, .nameAndType 117 118), (0, u "compress"), (0, u "([CI[BII)I"), (3, u "([CII)[B"), (138, u "coderFromArrayLen"), (0, u "([BI)B"), (106, .class_ 371), (1, u "java/lang/StringUTF16$LinesSpliterator"), (58, u "MAX_LENGTH"), (196, .class_ 628), (0, u "java/lang/StringUTF16$CodePointsSpliterator"), (0, .class_ 630), (0, u "java/lang/StringUTF16$CharsSpliterator")] 4

def k8m0 : Method := { name := "<init>", desc := "()V", sig := { parameters := [], returnType := none }, accessFlags := 0, code := none }
def k8c1 : Code := { maxStack := 2, maxLocals := 2, code := jdk_52_method_15_code, exceptionTable := #[], attributes := #[] }
def k8m1 : Method := { name := "coderFromArrayLen", desc := "([BI)B", sig := { parameters := [(.array .byte), .int], returnType := some .byte }, accessFlags := 8, code := some k8c1 }
def k8c2 : Code := { maxStack := 5, maxLocals := 6, code := jdk_52_method_16_code, exceptionTable := #[], attributes := #[] }
def k8m2 : Method := { name := "compress", desc := "([CII)[B", sig := { parameters := [(.array .char), .int, .int], returnType := some (.array .byte) }, accessFlags := 9, code := some k8c2 }
def k8c3 : Code := { maxStack := 3, maxLocals := 7, code := jdk_52_method_21_code, exceptionTable := #[], attributes := #[] }
def k8m3 : Method := { name := "compress", desc := "([CI[BII)I", sig := { parameters := [(.array .char), .int, (.array .byte), .int, .int], returnType := some .int }, accessFlags := 9, code := some k8c3 }
/-- java/lang/StringUTF16 -/
def k8 : Class := { plain "java/lang/StringUTF16" (some 0) with
  accessFlags := 48
  interfaces := #[]
  cf := some (fileOf pool8 12 #[.nestMembers #[627, 629, 369]] #[{ accessFlags := 0, nameIndex := 9, descriptorIndex := 10, attributes := #[] }, { accessFlags := 8, nameIndex := 261, descriptorIndex := 262, attributes := #[] }, { accessFlags := 9, nameIndex := 117, descriptorIndex := 122, attributes := #[] }, { accessFlags := 9, nameIndex := 117, descriptorIndex := 118, attributes := #[] }] 48 6 #[] #[{ accessFlags := 26, nameIndex := 61, descriptorIndex := 62, attributes := #[] }, { accessFlags := 26, nameIndex := 65, descriptorIndex := 62, attributes := #[] }, { accessFlags := 24, nameIndex := 430, descriptorIndex := 62, attributes := #[] }, { accessFlags := 4120, nameIndex := 46, descriptorIndex := 47, attributes := #[] }])
  fields := #[{ name := "HI_BYTE_SHIFT", type := .int, accessFlags := 26, slot := 0, constantValue := 0 }, { name := "LO_BYTE_SHIFT", type := .int, accessFlags := 26, slot := 1, constantValue := 0 }, { name := "MAX_LENGTH", type := .int, accessFlags := 24, slot := 2, constantValue := 0 }, { name := "$assertionsDisabled", type := .boolean, accessFlags := 4120, slot := 3, constantValue := 0 }]
  methods := #[k8m0, k8m1, k8m2, k8m3]
  instanceTypes := #[]
  staticTypes := #[.int, .int, .int, .boolean]
  resolved := Array.replicate 635 none
  statics := none }

def pool9 : Array CpInfo := pool [(2, .class_ 4), (1, u "java/lang/Enum"), (0, u "name"), (0, u "Ljava/lang/String;"), (2, u "ordinal"), (0, u "I"), (1, .class_ 14), (1, u "java/lang/Object"), (4, u "hash"), (86, .class_ 108), (1, u "java/lang/Enum$EnumDesc"), (2, .class_ 112), (0, u "java/lang/constant/Constable"), (0, .class_ 114), (0, u "java/lang/Comparable"), (0, .class_ 116), (0, u "java/io/Serializable")] 87

/-- java/lang/Enum -/
def k9 : Class := { plain "java/lang/Enum" (some 0) with
  accessFlags := 1057
  interfaces := #[5, 3, 2]
  cf := some (fileOf pool9 2 #[.nestMembers #[106]] #[] 1057 12 #[111, 113, 115] #[{ accessFlags := 18, nameIndex := 5, descriptorIndex := 6, attributes := #[] }, { accessFlags := 18, nameIndex := 9, descriptorIndex := 10, attributes := #[] }, { accessFlags := 2, nameIndex := 19, descriptorIndex := 10, attributes := #[] }])
  fields := #[{ name := "name", type := (.object "java/lang/String"), accessFlags := 18, slot := 0, constantValue := 0 }, { name := "ordinal", type := .int, accessFlags := 18, slot := 1, constantValue := 0 }, { name := "hash", type := .int, accessFlags := 2, slot := 2, constantValue := 0 }]
  methods := #[]
  instanceTypes := #[(.object "java/lang/String"), .int, .int]
  staticTypes := #[]
  resolved := Array.replicate 204 none
  statics := none }

def pool10 : Array CpInfo := pool [(1, .class_ 2), (0, u "com/example/cairnstore/cairnstore/layout/Attachment"), (2, u "DESCRIPTION"), (0, u "Lcom/example/cairnstore/cairnstore/layout/Attachment;"), (2, u "ACL"), (0, .fieldref 1 11), (0, .nameAndType 12 13), (0, u "$VALUES"), (0, u "[Lcom/example/cairnstore/cairnstore/layout/Attachment;"), (0, .methodref 15 16), (0, .class_ 13), (0, .nameAndType 17 18), (0, u "clone"), (0, u "()Ljava/lang/Object;"), (1, .class_ 22), (1, u "java/lang/Enum"), (8, u "noun"), (0, u "Ljava/lang/String;"), (0, .fieldref 1 34), (0, .nameAndType 35 32), (0, u "segment"), (2, u "suffix"), (2, u "interactionModel"), (2, u "binaryOnly"), (0, u "Z"), (0, .methodref 1 47), (0, .nameAndType 48 49), (0, u "values"), (0, u "()[Lcom/example/cairnstore/cairnstore/layout/Attachment;"), (0, .methodref 51 52), (0, .class_ 53), (0, .nameAndType 54 55), (0, u "java/lang/String"), (0, u "equals"), (0, u "(Ljava/lang/Object;)Z"), (0, .methodref 57 58), (0, .class_ 59), (0, .nameAndType 60 61), (0, u "java/util/Optional"), (0, u "of"), (0, u "(Ljava/lang/Object;)Ljava/util/Optional;"), (0, .methodref 57 63), (0, .nameAndType 64 65), (0, u "empty"), (0, u "()Ljava/util/Optional;"), (42, u "bySegment"), (0, u "(Ljava/lang/String;)Ljava/util/Optional;")] 26

def k10c0 : Code := { maxStack := 1, maxLocals := 0, code := prog_2_method_1_code, exceptionTable := #[], attributes := #[] }
def k10m0 : Method := { name := "values", desc := "()[Lcom/example/cairnstore/cairnstore/layout/Attachment;", sig := { parameters := [], returnType := some (.array (.object "com/example/cairnstore/cairnstore/layout/Attachment")) }, accessFlags := 9, code := some k10c0 }
def k10c1 : Code := { maxStack := 2, maxLocals := 5, code := prog_2_method_4_code, exceptionTable := #[], attributes := #[] }
def k10m1 : Method := { name := "bySegment", desc := "(Ljava/lang/String;)Ljava/util/Optional;", sig := { parameters := [(.object "java/lang/String")], returnType := some (.object "java/util/Optional") }, accessFlags := 8, code := some k10c1 }
/-- com/example/cairnstore/cairnstore/layout/Attachment -/
def k10 : Class := { plain "com/example/cairnstore/cairnstore/layout/Attachment" (some 9) with
  accessFlags := 16433
  interfaces := #[]
  cf := some (fileOf pool10 1 #[] #[{ accessFlags := 9, nameIndex := 48, descriptorIndex := 49, attributes := #[] }, { accessFlags := 8, nameIndex := 108, descriptorIndex := 109, attributes := #[] }] 16433 20 #[] #[{ accessFlags := 16409, nameIndex := 5, descriptorIndex := 6, attributes := #[] }, { accessFlags := 16409, nameIndex := 9, descriptorIndex := 6, attributes := #[] }, { accessFlags := 18, nameIndex := 31, descriptorIndex := 32, attributes := #[] }, { accessFlags := 18, nameIndex := 35, descriptorIndex := 32, attributes := #[] }, { accessFlags := 18, nameIndex := 38, descriptorIndex := 32, attributes := #[] }, { accessFlags := 18, nameIndex := 41, descriptorIndex := 32, attributes := #[] }, { accessFlags := 18, nameIndex := 44, descriptorIndex := 45, attributes := #[] }, { accessFlags := 4122, nameIndex := 12, descriptorIndex := 13, attributes := #[] }])
  fields := #[{ name := "DESCRIPTION", type := (.object "com/example/cairnstore/cairnstore/layout/Attachment"), accessFlags := 16409, slot := 0, constantValue := 0 }, { name := "ACL", type := (.object "com/example/cairnstore/cairnstore/layout/Attachment"), accessFlags := 16409, slot := 1, constantValue := 0 }, { name := "noun", type := (.object "java/lang/String"), accessFlags := 18, slot := 3, constantValue := 0 }, { name := "segment", type := (.object "java/lang/String"), accessFlags := 18, slot := 4, constantValue := 0 }, { name := "suffix", type := (.object "java/lang/String"), accessFlags := 18, slot := 5, constantValue := 0 }, { name := "interactionModel", type := (.object "java/lang/String"), accessFlags := 18, slot := 6, constantValue := 0 }, { name := "binaryOnly", type := .boolean, accessFlags := 18, slot := 7, constantValue := 0 }, { name := "$VALUES", type := (.array (.object "com/example/cairnstore/cairnstore/layout/Attachment")), accessFlags := 4122, slot := 2, constantValue := 0 }]
  methods := #[k10m0, k10m1]
  instanceTypes := #[(.object "java/lang/String"), .int, .int, (.object "java/lang/String"), (.object "java/lang/String"), (.object "java/lang/String"), (.object "java/lang/String"), .boolean]
  staticTypes := #[(.object "com/example/cairnstore/cairnstore/layout/Attachment"), (.object "com/example/cairnstore/cairnstore/layout/Attachment"), (.array (.object "com/example/cairnstore/cairnstore/layout/Attachment"))]
  resolved := Array.replicate 136 none
  statics := some 1 }

def pool11 : Array CpInfo := pool [(1, .class_ 2), (0, u "java/lang/Cloneable"), (0, .class_ 4), (0, u "java/lang/Object")] 2

/-- java/lang/Cloneable -/
def k11 : Class := { plain "java/lang/Cloneable" (some 0) with
  accessFlags := 1537
  interfaces := #[]
  cf := some (fileOf pool11 1 #[] #[] 1537 3 #[] #[])
  fields := #[]
  methods := #[]
  instanceTypes := #[]
  staticTypes := #[]
  resolved := Array.replicate 7 none
  statics := none }

def pool12 : Array CpInfo := pool [(4, .class_ 6), (1, u "java/lang/Object"), (0, u "<init>"), (0, u "()V"), (5, .class_ 16), (1, u "java/lang/StringLatin1"), (104, u "$assertionsDisabled"), (0, u "Z"), (98, .class_ 223), (1, u "java/lang/StringLatin1$LinesSpliterator"), (57, u "equals"), (0, u "([B[B)Z"), (107, .class_ 391), (0, u "java/lang/StringLatin1$CharsSpliterator")] 3

def k12m0 : Method := { name := "<init>", desc := "()V", sig := { parameters := [], returnType := none }, accessFlags := 0, code := none }
def k12c1 : Code := { maxStack := 3, maxLocals := 3, code := jdk_43_method_13_code, exceptionTable := #[], attributes := #[] }
def k12m1 : Method := { name := "equals", desc := "([B[B)Z", sig := { parameters := [(.array .byte), (.array .byte)], returnType := some .boolean }, accessFlags := 9, code := some k12c1 }
/-- java/lang/StringLatin1 -/
def k12 : Class := { plain "java/lang/StringLatin1" (some 0) with
  accessFlags := 48
  interfaces := #[]
  cf := some (fileOf pool12 14 #[.nestMembers #[390, 221]] #[{ accessFlags := 0, nameIndex := 7, descriptorIndex := 8, attributes := #[] }, { accessFlags := 9, nameIndex := 281, descriptorIndex := 282, attributes := #[] }] 48 4 #[] #[{ accessFlags := 4120, nameIndex := 121, descriptorIndex := 122, attributes := #[] }])
  fields := #[{ name := "$assertionsDisabled", type := .boolean, accessFlags := 4120, slot := 0, constantValue := 0 }]
  methods := #[k12m0, k12m1]
  instanceTypes := #[]
  staticTypes := #[.boolean]
  resolved := Array.replicate 395 none
  statics := none }

def pool13 : Array CpInfo := pool [(1, .fieldref 2 3), (0, .class_ 4), (0, .nameAndType 5 6), (0, u "java/util/Optional"), (0, u "EMPTY"), (0, u "Ljava/util/Optional;"), (0, .methodref 8 9), (0, .class_ 10), (0, .nameAndType 11 12), (0, u "java/lang/Object"), (0, u "<init>"), (0, u "()V"), (0, .fieldref 2 14), (0, .nameAndType 15 16), (0, u "value"), (0, u "Ljava/lang/Object;"), (0, .methodref 18 19), (0, .class_ 20), (0, .nameAndType 21 22), (0, u "java/util/Objects"), (0, u "requireNonNull"), (0, u "(Ljava/lang/Object;)Ljava/lang/Object;"), (0, .methodref 2 24), (0, .nameAndType 11 25), (0, u "(Ljava/lang/Object;)V"), (20, u "()Z"), (8, u "empty"), (0, u "()Ljava/util/Optional;"), (8, u "(Ljava/lang/Object;)Ljava/util/Optional;"), (2, u "isPresent"), (4, u "get"), (0, u "()Ljava/lang/Object;"), (7, u "of")] 104

def k13c0 : Code := { maxStack := 1, maxLocals := 1, code := jdk_32_method_1_code, exceptionTable := #[], attributes := #[] }
def k13m0 : Method := { name := "empty", desc := "()Ljava/util/Optional;", sig := { parameters := [], returnType := some (.object "java/util/Optional") }, accessFlags := 9, code := some k13c0 }
def k13c1 : Code := { maxStack := 2, maxLocals := 2, code := jdk_32_method_2_code, exceptionTable := #[], attributes := #[] }
def k13m1 : Method := { name := "<init>", desc := "(Ljava/lang/Object;)V", sig := { parameters := [(.object "java/lang/Object")], returnType := none }, accessFlags := 2, code := some k13c1 }
def k13c2 : Code := { maxStack := 3, maxLocals := 1, code := jdk_32_method_3_code, exceptionTable := #[], attributes := #[] }
def k13m2 : Method := { name := "of", desc := "(Ljava/lang/Object;)Ljava/util/Optional;", sig := { parameters := [(.object "java/lang/Object")], returnType := some (.object "java/util/Optional") }, accessFlags := 9, code := some k13c2 }
def k13c3 : Code := { maxStack := 3, maxLocals := 1, code := jdk_32_method_5_code, exceptionTable := #[], attributes := #[] }
def k13m3 : Method := { name := "get", desc := "()Ljava/lang/Object;", sig := { parameters := [], returnType := some (.object "java/lang/Object") }, accessFlags := 1, code := some k13c3 }
def k13c4 : Code := { maxStack := 1, maxLocals := 1, code := jdk_32_method_6_code, exceptionTable := #[], attributes := #[] }
def k13m4 : Method := { name := "isPresent", desc := "()Z", sig := { parameters := [], returnType := some .boolean }, accessFlags := 1, code := some k13c4 }
/-- java/util/Optional -/
def k13 : Class := { plain "java/util/Optional" (some 0) with
  accessFlags := 49
  interfaces := #[]
  cf := some (fileOf pool13 2 #[] #[{ accessFlags := 9, nameIndex := 55, descriptorIndex := 56, attributes := #[] }, { accessFlags := 2, nameIndex := 11, descriptorIndex := 25, attributes := #[] }, { accessFlags := 9, nameIndex := 82, descriptorIndex := 65, attributes := #[] }, { accessFlags := 1, nameIndex := 73, descriptorIndex := 74, attributes := #[] }, { accessFlags := 1, nameIndex := 68, descriptorIndex := 46, attributes := #[] }] 49 8 #[] #[{ accessFlags := 26, nameIndex := 5, descriptorIndex := 6, attributes := #[] }, { accessFlags := 18, nameIndex := 15, descriptorIndex := 16, attributes := #[] }])
  fields := #[{ name := "EMPTY", type := (.object "java/util/Optional"), accessFlags := 26, slot := 0, constantValue := 0 }, { name := "value", type := (.object "java/lang/Object"), accessFlags := 18, slot := 0, constantValue := 0 }]
  methods := #[k13m0, k13m1, k13m2, k13m3, k13m4]
  instanceTypes := #[(.object "java/lang/Object")]
  staticTypes := #[(.object "java/util/Optional")]
  resolved := Array.replicate 187 none
  statics := some 2 }

def pool14 : Array CpInfo := pool [(2, .class_ 4), (1, u "java/lang/Object"), (0, u "<init>"), (0, u "()V"), (35, .class_ 44), (1, u "java/util/Objects"), (0, u "requireNonNull"), (0, u "(Ljava/lang/Object;)Ljava/lang/Object;")] 137

def k14m0 : Method := { name := "<init>", desc := "()V", sig := { parameters := [], returnType := none }, accessFlags := 2, code := none }
def k14c1 : Code := { maxStack := 2, maxLocals := 1, code := jdk_31_method_10_code, exceptionTable := #[], attributes := #[] }
def k14m1 : Method := { name := "requireNonNull", desc := "(Ljava/lang/Object;)Ljava/lang/Object;", sig := { parameters := [(.object "java/lang/Object")], returnType := some (.object "java/lang/Object") }, accessFlags := 9, code := some k14c1 }
/-- java/util/Objects -/
def k14 : Class := { plain "java/util/Objects" (some 0) with
  accessFlags := 49
  interfaces := #[]
  cf := some (fileOf pool14 42 #[] #[{ accessFlags := 2, nameIndex := 5, descriptorIndex := 6, attributes := #[] }, { accessFlags := 9, nameIndex := 45, descriptorIndex := 46, attributes := #[] }] 49 2 #[] #[])
  fields := #[]
  methods := #[k14m0, k14m1]
  instanceTypes := #[]
  staticTypes := #[]
  resolved := Array.replicate 184 none
  statics := none }

def pool15 : Array CpInfo := pool [(2, .class_ 4), (1, u "java/lang/Object"), (0, u "<init>"), (0, u "()V"), (17, .class_ 26), (1, u "jdk/internal/util/Preconditions"), (28, .class_ 56), (0, u "jdk/internal/util/Preconditions$4"), (57, .class_ 115), (0, u "jdk/internal/util/Preconditions$1"), (7, u "SIOOBE_FORMATTER"), (0, u "Ljava/util/function/BiFunction;"), (0, .class_ 126), (0, u "jdk/internal/util/Preconditions$2"), (3, u "AIOOBE_FORMATTER"), (0, .class_ 132), (0, u "jdk/internal/util/Preconditions$3"), (3, u "IOOBE_FORMATTER")] 57

def k15m0 : Method := { name := "<init>", desc := "()V", sig := { parameters := [], returnType := none }, accessFlags := 1, code := none }
/-- jdk/internal/util/Preconditions -/
def k15 : Class := { plain "jdk/internal/util/Preconditions" (some 0) with
  accessFlags := 33
  interfaces := #[]
  cf := some (fileOf pool15 24 #[.nestMembers #[55, 131, 125, 114]] #[{ accessFlags := 1, nameIndex := 5, descriptorIndex := 6, attributes := #[] }] 33 2 #[] #[{ accessFlags := 25, nameIndex := 123, descriptorIndex := 124, attributes := #[] }, { accessFlags := 25, nameIndex := 130, descriptorIndex := 124, attributes := #[] }, { accessFlags := 25, nameIndex := 136, descriptorIndex := 124, attributes := #[] }])
  fields := #[{ name := "SIOOBE_FORMATTER", type := (.object "java/util/function/BiFunction"), accessFlags := 25, slot := 0, constantValue := 0 }, { name := "AIOOBE_FORMATTER", type := (.object "java/util/function/BiFunction"), accessFlags := 25, slot := 1, constantValue := 0 }, { name := "IOOBE_FORMATTER", type := (.object "java/util/function/BiFunction"), accessFlags := 25, slot := 2, constantValue := 0 }]
  methods := #[k15m0]
  instanceTypes := #[]
  staticTypes := #[(.object "java/util/function/BiFunction"), (.object "java/util/function/BiFunction"), (.object "java/util/function/BiFunction")]
  resolved := Array.replicate 194 none
  statics := some 3 }

def pool16 : Array CpInfo := pool [(9, u "<init>"), (6, .class_ 18), (1, u "java/lang/Object"), (0, u "()V"), (1, .class_ 23), (1, u "jdk/internal/util/ArraysSupport"), (0, u "LOG2_ARRAY_LONG_INDEX_SCALE"), (0, u "I"), (2, u "U"), (0, u "Ljdk/internal/misc/Unsafe;"), (8, u "BIG_ENDIAN"), (0, u "Z"), (8, u "LOG2_BYTE_BIT_SIZE"), (4, u "LOG2_ARRAY_INT_INDEX_SCALE"), (54, u "JLA"), (0, u "Ljdk/internal/access/JavaLangAccess;"), (11, u "LOG2_ARRAY_BOOLEAN_INDEX_SCALE"), (9, u "LOG2_ARRAY_BYTE_INDEX_SCALE"), (5, u "LOG2_ARRAY_CHAR_INDEX_SCALE"), (5, u "LOG2_ARRAY_SHORT_INDEX_SCALE"), (18, u "LOG2_ARRAY_FLOAT_INDEX_SCALE"), (24, u "LOG2_ARRAY_DOUBLE_INDEX_SCALE"), (89, u "T_BOOLEAN"), (2, u "T_CHAR"), (1, u "T_FLOAT"), (1, u "T_DOUBLE"), (1, u "T_BYTE"), (1, u "T_SHORT"), (1, u "T_INT"), (1, u "T_LONG"), (1, u "SOFT_MAX_ARRAY_LENGTH")] 83

def k16m0 : Method := { name := "<init>", desc := "()V", sig := { parameters := [], returnType := none }, accessFlags := 2, code := none }
/-- jdk/internal/util/ArraysSupport -/
def k16 : Class := { plain "jdk/internal/util/ArraysSupport" (some 0) with
  accessFlags := 33
  interfaces := #[]
  cf := some (fileOf pool16 21 #[] #[{ accessFlags := 2, nameIndex := 9, descriptorIndex := 19, attributes := #[] }] 33 16 #[] #[{ accessFlags := 24, nameIndex := 28, descriptorIndex := 29, attributes := #[] }, { accessFlags := 26, nameIndex := 38, descriptorIndex := 39, attributes := #[] }, { accessFlags := 25, nameIndex := 121, descriptorIndex := 25, attributes := #[] }, { accessFlags := 25, nameIndex := 131, descriptorIndex := 25, attributes := #[] }, { accessFlags := 25, nameIndex := 137, descriptorIndex := 25, attributes := #[] }, { accessFlags := 25, nameIndex := 143, descriptorIndex := 25, attributes := #[] }, { accessFlags := 25, nameIndex := 53, descriptorIndex := 25, attributes := #[] }, { accessFlags := 25, nameIndex := 24, descriptorIndex := 25, attributes := #[] }, { accessFlags := 25, nameIndex := 162, descriptorIndex := 25, attributes := #[] }, { accessFlags := 25, nameIndex := 187, descriptorIndex := 25, attributes := #[] }, { accessFlags := 26, nameIndex := 48, descriptorIndex := 25, attributes := #[] }, { accessFlags := 25, nameIndex := 277, descriptorIndex := 25, attributes := #[] }, { accessFlags := 25, nameIndex := 280, descriptorIndex := 25, attributes := #[] }, { accessFlags := 25, nameIndex := 282, descriptorIndex := 25, attributes := #[] }, { accessFlags := 25, nameIndex := 284, descriptorIndex := 25, attributes := #[] }, { accessFlags := 25, nameIndex := 286, descriptorIndex := 25, attributes := #[] }, { accessFlags := 25, nameIndex := 288, descriptorIndex := 25, attributes := #[] }, { accessFlags := 25, nameIndex := 290, descriptorIndex := 25, attributes := #[] }, { accessFlags := 25, nameIndex := 292, descriptorIndex := 25, attributes := #[] }, { accessFlags := 26, nameIndex := 108, descriptorIndex := 109, attributes := #[] }, { accessFlags := 25, nameIndex := 294, descriptorIndex := 25, attributes := #[] }])
  fields := #[{ name := "U", type := (.object "jdk/internal/misc/Unsafe"), accessFlags := 24, slot := 0, constantValue := 0 }, { name := "BIG_ENDIAN", type := .boolean, accessFlags := 26, slot := 1, constantValue := 0 }, { name := "LOG2_ARRAY_BOOLEAN_INDEX_SCALE", type := .int, accessFlags := 25, slot := 2, constantValue := 0 }, { name := "LOG2_ARRAY_BYTE_INDEX_SCALE", type := .int, accessFlags := 25, slot := 3, constantValue := 0 }, { name := "LOG2_ARRAY_CHAR_INDEX_SCALE", type := .int, accessFlags := 25, slot := 4, constantValue := 0 }, { name := "LOG2_ARRAY_SHORT_INDEX_SCALE", type := .int, accessFlags := 25, slot := 5, constantValue := 0 }, { name := "LOG2_ARRAY_INT_INDEX_SCALE", type := .int, accessFlags := 25, slot := 6, constantValue := 0 }, { name := "LOG2_ARRAY_LONG_INDEX_SCALE", type := .int, accessFlags := 25, slot := 7, constantValue := 0 }, { name := "LOG2_ARRAY_FLOAT_INDEX_SCALE", type := .int, accessFlags := 25, slot := 8, constantValue := 0 }, { name := "LOG2_ARRAY_DOUBLE_INDEX_SCALE", type := .int, accessFlags := 25, slot := 9, constantValue := 0 }, { name := "LOG2_BYTE_BIT_SIZE", type := .int, accessFlags := 26, slot := 10, constantValue := 0 }, { name := "T_BOOLEAN", type := .int, accessFlags := 25, slot := 11, constantValue := 0 }, { name := "T_CHAR", type := .int, accessFlags := 25, slot := 12, constantValue := 0 }, { name := "T_FLOAT", type := .int, accessFlags := 25, slot := 13, constantValue := 0 }, { name := "T_DOUBLE", type := .int, accessFlags := 25, slot := 14, constantValue := 0 }, { name := "T_BYTE", type := .int, accessFlags := 25, slot := 15, constantValue := 0 }, { name := "T_SHORT", type := .int, accessFlags := 25, slot := 16, constantValue := 0 }, { name := "T_INT", type := .int, accessFlags := 25, slot := 17, constantValue := 0 }, { name := "T_LONG", type := .int, accessFlags := 25, slot := 18, constantValue := 0 }, { name := "JLA", type := (.object "jdk/internal/access/JavaLangAccess"), accessFlags := 26, slot := 19, constantValue := 0 }, { name := "SOFT_MAX_ARRAY_LENGTH", type := .int, accessFlags := 25, slot := 20, constantValue := 0 }]
  methods := #[k16m0]
  instanceTypes := #[]
  staticTypes := #[(.object "jdk/internal/misc/Unsafe"), .boolean, .int, .int, .int, .int, .int, .int, .int, .int, .int, .int, .int, .int, .int, .int, .int, .int, .int, (.object "jdk/internal/access/JavaLangAccess"), .int]
  resolved := Array.replicate 378 none
  statics := none }

/-- the primitive byte -/
def k17 : Class := { plain "byte" none with kind := .primitive 'B', accessFlags := 0x411 }
/-- [B -/
def k18 : Class := { plain "[B" (some 0) with kind := .array 17 .byte, interfaces := #[11, 2], accessFlags := 1041 }

/-- the primitive char -/
def k19 : Class := { plain "char" none with kind := .primitive 'C', accessFlags := 0x411 }
/-- [C -/
def k20 : Class := { plain "[C" (some 0) with kind := .array 19 .char, interfaces := #[11, 2], accessFlags := 1041 }

/-- the primitive int -/
def k21 : Class := { plain "int" none with kind := .primitive 'I', accessFlags := 0x411 }
/-- [I -/
def k22 : Class := { plain "[I" (some 0) with kind := .array 21 .int, interfaces := #[11, 2], accessFlags := 1041 }

/-- [Lcom/example/cairnstore/cairnstore/layout/Attachment; -/
def k23 : Class := { plain "[Lcom/example/cairnstore/cairnstore/layout/Attachment;" (some 0) with kind := .array 10 (.object "com/example/cairnstore/cairnstore/layout/Attachment"), interfaces := #[11, 2], accessFlags := 1041 }

def heap : Heap := #[{ cls := 7, slots := #[.long 0, .int 1, .null, .int 0, .null, .int 0, .int 0], vm := .statics 7 },
  { cls := 10, slots := #[.ref 7, .ref 10, .ref 4], vm := .statics 10 },
  { cls := 13, slots := #[.ref 11], vm := .statics 13 },
  { cls := 15, slots := #[.null, .null, .null], vm := .statics 15 },
  { cls := 23, slots := #[.ref 7, .ref 10], vm := .none },
  { cls := 18, slots := #[.int 102, .int 99, .int 114, .int 58, .int 109, .int 101, .int 116, .int 97, .int 100, .int 97, .int 116, .int 97], vm := .none },
  { cls := 7, slots := #[.ref 5, .int 0, .int 0, .int 0], vm := .none },
  { cls := 10, slots := #[.null, .int 0, .int 0, .null, .ref 6, .null, .null, .int 0], vm := .none },
  { cls := 18, slots := #[.int 102, .int 99, .int 114, .int 58, .int 97, .int 99, .int 108], vm := .none },
  { cls := 7, slots := #[.ref 8, .int 0, .int 0, .int 0], vm := .none },
  { cls := 10, slots := #[.null, .int 0, .int 0, .null, .ref 9, .null, .null, .int 0], vm := .none },
  { cls := 13, slots := #[.null], vm := .none }]
def classes : Array Class := #[k0, k1, k2, k3, k4, k5, k6, k7, k8, k9, k10, k11, k12, k13, k14, k15, k16, k17, k18, k19, k20, k21, k22, k23]
def interned : List (Array UInt16 × Addr) := []
def slotsUsed : Nat := 60
def theMethod : MethodId := ⟨1, 1⟩
def args0 : Array Value := #[.int 5, .int 6, .int 7, .int 8, .int 9]
def aboutOver (below : List Frame) : State where
  vm := { classes := classes, interned := interned.toArray }
  heap := heap
  slotsUsed := slotsUsed
  threads := #[{ frames := .invoking theMethod args0 :: below }]
def below0 : List Frame := [.native { method := ⟨0, 0⟩, args := #[] }]
def about1 : State := aboutOver below0
def p0 : Program := .bare "" "" ""
def e0 : Env := launch0.env 0 0 0
theorem w_frames : about1.frames = Frame.invoking theMethod args0 :: below0 := rfl
set_option maxRecDepth 65536 in
theorem w_args : argsFit about1.vm theMethod args0 = true := by decide +kernel
set_option maxRecDepth 65536 in
theorem w_heap : heapFits about1 = true := by decide +kernel
set_option maxRecDepth 65536 in
theorem w_runnable : about1.curStatus? = some .runnable := by decide +kernel
set_option maxRecDepth 65536 in
theorem w_alone : about1.alone = true := by decide +kernel
set_option maxRecDepth 65536 in
theorem w_named : about1.methodNamed? x = some theMethod := by decide +kernel
set_option maxRecDepth 65536 in
theorem w_hears : about1.hears theMethod below0 = true := by decide +kernel
set_option maxRecDepth 65536 in
theorem w_ripe : about1.ripe theMethod args0 below0 = true := by decide +kernel
theorem w_running : about1.status = .running := rfl
set_option maxRecDepth 65536 in
theorem w_room : about1.hasRoom e0.platform room_1 = true :=
  launch0.hasRoom_least _ room_1 (by decide +kernel) (by decide +kernel) (by decide +kernel) (by decide +kernel) (by decide +kernel) (by decide +kernel)
theorem allAtoms_all (ts : List Jvm.Cond) (a : Array Jvm.Value) (st : Jvm.State) : (allAtoms ts).before a st = ts.all (fun c => c.before a st) := by
  induction ts with
  | nil => rfl
  | cons c t ih =>
    show (Jvm.Cond.and c (allAtoms t)).before a st = _
    rw [Jvm.Cond.before_and, ih, List.all_cons]
def words1 : List Jvm.Cond := Jvm.Cond.code x code maxLocals ret :: tables_1
/-- a 'code' word, met by the world's own term for the bytes: nothing is compared byte by byte -/
theorem code_word {y : MethodName} {bytes : ByteArray} {mx : Nat} {rt : Option FieldType} {a : Array Value} {s : State} {m : MethodId} {meth : Method} {c : Code} (h1 : s.methodNamed? y = some m) (h2 : s.vm.method? m = some meth) (h3 : meth.code = some c) (h4 : c.code = bytes)
    (h5 : (c.maxLocals == mx && c.exceptionTable.isEmpty && decide (c.maxStack ≤ mostOperands) && decide (meth.sig.returnType = rt) && !meth.locks && decide (parseMethodDescriptor y.desc = some meth.sig)) = true) : (Jvm.Cond.code y bytes mx rt).before a s = true := by
  simp only [Bool.and_eq_true, beq_iff_eq, Bool.not_eq_true', decide_eq_true_eq] at h5
  obtain ⟨⟨⟨⟨⟨g1, g2⟩, g3⟩, g4⟩, g5⟩, g6⟩ := h5
  simp [Cond.before, Cond.holds, Cond.value, h1, h2, h3, h4, g1, g2, g3, g4, g5, g6]
def isCode : Jvm.Cond → Bool
  | .code _ _ _ _ => true
  | _ => false
theorem all_split {L : List Jvm.Cond} {P : Jvm.Cond → Bool} (h1 : L.all (fun c => isCode c || P c) = true) (h2 : ∀ c ∈ L.filter isCode, P c = true) : L.all P = true := by
  refine List.all_eq_true.mpr fun c hc => ?_
  have h := List.all_eq_true.mp h1 c hc
  rcases Bool.eq_false_or_eq_true (isCode c) with hi | hi
  · exact h2 c (List.mem_filter.mpr ⟨hc, hi⟩)
  · simpa [hi] using h
set_option maxRecDepth 65536 in
theorem w_c0 : (Jvm.Cond.code x code maxLocals ret).before args0 about1 = true := code_word (m := ⟨1, 1⟩) (meth := k1m1) (c := k1c1) (by decide +kernel) rfl rfl rfl (by decide +kernel)
set_option maxRecDepth 65536 in
theorem w_c1 : (Jvm.Cond.code ({ cls := "com/example/cairnstore/cairnstore/layout/AttachmentBySegmentPinLaw", name := "prefix", desc := "([CI)[C" } : Jvm.MethodName) method_3_code (3 : Nat) (Option.some (Jvm.ClassFile.FieldType.array Jvm.ClassFile.FieldType.char))).before args0 about1 = true := code_word (m := ⟨1, 2⟩) (meth := k1m2) (c := k1c2) (by decide +kernel) rfl rfl rfl (by decide +kernel)
set_option maxRecDepth 65536 in
theorem w_c2 : (Jvm.Cond.code ({ cls := "java/lang/String", name := "<init>", desc := "([C)V" } : Jvm.MethodName) jdk_42_method_3_code (2 : Nat) (Option.none : Option Jvm.ClassFile.FieldType)).before args0 about1 = true := code_word (m := ⟨7, 1⟩) (meth := k7m1) (c := k7c1) (by decide +kernel) rfl rfl rfl (by decide +kernel)
set_option maxRecDepth 65536 in
theorem w_c3 : (Jvm.Cond.code ({ cls := "java/lang/String", name := "<init>", desc := "([CIILjava/lang/Void;)V" } : Jvm.MethodName) jdk_42_method_149_code (6 : Nat) (Option.none : Option Jvm.ClassFile.FieldType)).before args0 about1 = true := code_word (m := ⟨7, 3⟩) (meth := k7m3) (c := k7c3) (by decide +kernel) rfl rfl rfl (by decide +kernel)
set_option maxRecDepth 65536 in
theorem w_c4 : (Jvm.Cond.code ({ cls := "java/lang/Object", name := "<init>", desc := "()V" } : Jvm.MethodName) object_method_1_code (1 : Nat) (Option.none : Option Jvm.ClassFile.FieldType)).before args0 about1 = true := code_word (m := ⟨0, 0⟩) (meth := k0m0) (c := k0c0) (by decide +kernel) rfl rfl rfl (by decide +kernel)
set_option maxRecDepth 65536 in
theorem w_c5 : (Jvm.Cond.code ({ cls := "java/lang/StringUTF16", name := "compress", desc := "([CII)[B" } : Jvm.MethodName) jdk_52_method_16_code (6 : Nat) (Option.some (Jvm.ClassFile.FieldType.array Jvm.ClassFile.FieldType.byte))).before args0 about1 = true := code_word (m := ⟨8, 2⟩) (meth := k8m2) (c := k8c2) (by decide +kernel) rfl rfl rfl (by decide +kernel)
set_option maxRecDepth 65536 in
theorem w_c6 : (Jvm.Cond.code ({ cls := "java/lang/StringUTF16", name := "compress", desc := "([CI[BII)I" } : Jvm.MethodName) jdk_52_method_21_code (7 : Nat) (Option.some Jvm.ClassFile.FieldType.int)).before args0 about1 = true := code_word (m := ⟨8, 3⟩) (meth := k8m3) (c := k8c3) (by decide +kernel) rfl rfl rfl (by decide +kernel)
set_option maxRecDepth 65536 in
theorem w_c7 : (Jvm.Cond.code ({ cls := "java/lang/StringUTF16", name := "coderFromArrayLen", desc := "([BI)B" } : Jvm.MethodName) jdk_52_method_15_code (2 : Nat) (Option.some Jvm.ClassFile.FieldType.byte)).before args0 about1 = true := code_word (m := ⟨8, 1⟩) (meth := k8m1) (c := k8c1) (by decide +kernel) rfl rfl rfl (by decide +kernel)
set_option maxRecDepth 65536 in
theorem w_c8 : (Jvm.Cond.code ({ cls := "com/example/cairnstore/cairnstore/layout/Attachment", name := "bySegment", desc := "(Ljava/lang/String;)Ljava/util/Optional;" } : Jvm.MethodName) prog_2_method_4_code (5 : Nat) (Option.some (Jvm.ClassFile.FieldType.object "java/util/Optional"))).before args0 about1 = true := code_word (m := ⟨10, 1⟩) (meth := k10m1) (c := k10c1) (by decide +kernel) rfl rfl rfl (by decide +kernel)
set_option maxRecDepth 65536 in
theorem w_c9 : (Jvm.Cond.code ({ cls := "com/example/cairnstore/cairnstore/layout/Attachment", name := "values", desc := "()[Lcom/example/cairnstore/cairnstore/layout/Attachment;" } : Jvm.MethodName) prog_2_method_1_code (0 : Nat) (Option.some (Jvm.ClassFile.FieldType.array (Jvm.ClassFile.FieldType.object "com/example/cairnstore/cairnstore/layout/Attachment")))).before args0 about1 = true := code_word (m := ⟨10, 0⟩) (meth := k10m0) (c := k10c0) (by decide +kernel) rfl rfl rfl (by decide +kernel)
set_option maxRecDepth 65536 in
theorem w_c10 : (Jvm.Cond.code ({ cls := "java/lang/String", name := "equals", desc := "(Ljava/lang/Object;)Z" } : Jvm.MethodName) jdk_42_method_66_code (3 : Nat) (Option.some Jvm.ClassFile.FieldType.boolean)).before args0 about1 = true := code_word (m := ⟨7, 2⟩) (meth := k7m2) (c := k7c2) (by decide +kernel) rfl rfl rfl (by decide +kernel)
set_option maxRecDepth 65536 in
theorem w_c11 : (Jvm.Cond.code ({ cls := "java/lang/StringLatin1", name := "equals", desc := "([B[B)Z" } : Jvm.MethodName) jdk_43_method_13_code (3 : Nat) (Option.some Jvm.ClassFile.FieldType.boolean)).before args0 about1 = true := code_word (m := ⟨12, 1⟩) (meth := k12m1) (c := k12c1) (by decide +kernel) rfl rfl rfl (by decide +kernel)
set_option maxRecDepth 65536 in
theorem w_c12 : (Jvm.Cond.code ({ cls := "java/util/Optional", name := "of", desc := "(Ljava/lang/Object;)Ljava/util/Optional;" } : Jvm.MethodName) jdk_32_method_3_code (1 : Nat) (Option.some (Jvm.ClassFile.FieldType.object "java/util/Optional"))).before args0 about1 = true := code_word (m := ⟨13, 2⟩) (meth := k13m2) (c := k13c2) (by decide +kernel) rfl rfl rfl (by decide +kernel)
set_option maxRecDepth 65536 in
theorem w_c13 : (Jvm.Cond.code ({ cls := "java/util/Objects", name := "requireNonNull", desc := "(Ljava/lang/Object;)Ljava/lang/Object;" } : Jvm.MethodName) jdk_31_method_10_code (1 : Nat) (Option.some (Jvm.ClassFile.FieldType.object "java/lang/Object"))).before args0 about1 = true := code_word (m := ⟨14, 1⟩) (meth := k14m1) (c := k14c1) (by decide +kernel) rfl rfl rfl (by decide +kernel)
set_option maxRecDepth 65536 in
theorem w_c14 : (Jvm.Cond.code ({ cls := "java/util/Optional", name := "<init>", desc := "(Ljava/lang/Object;)V" } : Jvm.MethodName) jdk_32_method_2_code (2 : Nat) (Option.none : Option Jvm.ClassFile.FieldType)).before args0 about1 = true := code_word (m := ⟨13, 1⟩) (meth := k13m1) (c := k13c1) (by decide +kernel) rfl rfl rfl (by decide +kernel)
set_option maxRecDepth 65536 in
theorem w_c15 : (Jvm.Cond.code ({ cls := "java/util/Optional", name := "isPresent", desc := "()Z" } : Jvm.MethodName) jdk_32_method_6_code (1 : Nat) (Option.some Jvm.ClassFile.FieldType.boolean)).before args0 about1 = true := code_word (m := ⟨13, 4⟩) (meth := k13m4) (c := k13c4) (by decide +kernel) rfl rfl rfl (by decide +kernel)
set_option maxRecDepth 65536 in
theorem w_c16 : (Jvm.Cond.code ({ cls := "java/util/Optional", name := "get", desc := "()Ljava/lang/Object;" } : Jvm.MethodName) jdk_32_method_5_code (1 : Nat) (Option.some (Jvm.ClassFile.FieldType.object "java/lang/Object"))).before args0 about1 = true := code_word (m := ⟨13, 3⟩) (meth := k13m3) (c := k13c3) (by decide +kernel) rfl rfl rfl (by decide +kernel)
set_option maxRecDepth 65536 in
theorem w_c17 : (Jvm.Cond.code ({ cls := "java/util/Optional", name := "empty", desc := "()Ljava/util/Optional;" } : Jvm.MethodName) jdk_32_method_1_code (1 : Nat) (Option.some (Jvm.ClassFile.FieldType.object "java/util/Optional"))).before args0 about1 = true := code_word (m := ⟨13, 0⟩) (meth := k13m0) (c := k13c0) (by decide +kernel) rfl rfl rfl (by decide +kernel)
def codes1 : List Jvm.Cond := [Jvm.Cond.code x code maxLocals ret, Jvm.Cond.code ({ cls := "com/example/cairnstore/cairnstore/layout/AttachmentBySegmentPinLaw", name := "prefix", desc := "([CI)[C" } : Jvm.MethodName) method_3_code (3 : Nat) (Option.some (Jvm.ClassFile.FieldType.array Jvm.ClassFile.FieldType.char)), Jvm.Cond.code ({ cls := "java/lang/String", name := "<init>", desc := "([C)V" } : Jvm.MethodName) jdk_42_method_3_code (2 : Nat) (Option.none : Option Jvm.ClassFile.FieldType), Jvm.Cond.code ({ cls := "java/lang/String", name := "<init>", desc := "([CIILjava/lang/Void;)V" } : Jvm.MethodName) jdk_42_method_149_code (6 : Nat) (Option.none : Option Jvm.ClassFile.FieldType), Jvm.Cond.code ({ cls := "java/lang/Object", name := "<init>", desc := "()V" } : Jvm.MethodName) object_method_1_code (1 : Nat) (Option.none : Option Jvm.ClassFile.FieldType), Jvm.Cond.code ({ cls := "java/lang/StringUTF16", name := "compress", desc := "([CII)[B" } : Jvm.MethodName) jdk_52_method_16_code (6 : Nat) (Option.some (Jvm.ClassFile.FieldType.array Jvm.ClassFile.FieldType.byte)), Jvm.Cond.code ({ cls := "java/lang/StringUTF16", name := "compress", desc := "([CI[BII)I" } : Jvm.MethodName) jdk_52_method_21_code (7 : Nat) (Option.some Jvm.ClassFile.FieldType.int), Jvm.Cond.code ({ cls := "java/lang/StringUTF16", name := "coderFromArrayLen", desc := "([BI)B" } : Jvm.MethodName) jdk_52_method_15_code (2 : Nat) (Option.some Jvm.ClassFile.FieldType.byte), Jvm.Cond.code ({ cls := "com/example/cairnstore/cairnstore/layout/Attachment", name := "bySegment", desc := "(Ljava/lang/String;)Ljava/util/Optional;" } : Jvm.MethodName) prog_2_method_4_code (5 : Nat) (Option.some (Jvm.ClassFile.FieldType.object "java/util/Optional")), Jvm.Cond.code ({ cls := "com/example/cairnstore/cairnstore/layout/Attachment", name := "values", desc := "()[Lcom/example/cairnstore/cairnstore/layout/Attachment;" } : Jvm.MethodName) prog_2_method_1_code (0 : Nat) (Option.some (Jvm.ClassFile.FieldType.array (Jvm.ClassFile.FieldType.object "com/example/cairnstore/cairnstore/layout/Attachment"))), Jvm.Cond.code ({ cls := "java/lang/String", name := "equals", desc := "(Ljava/lang/Object;)Z" } : Jvm.MethodName) jdk_42_method_66_code (3 : Nat) (Option.some Jvm.ClassFile.FieldType.boolean), Jvm.Cond.code ({ cls := "java/lang/StringLatin1", name := "equals", desc := "([B[B)Z" } : Jvm.MethodName) jdk_43_method_13_code (3 : Nat) (Option.some Jvm.ClassFile.FieldType.boolean), Jvm.Cond.code ({ cls := "java/util/Optional", name := "of", desc := "(Ljava/lang/Object;)Ljava/util/Optional;" } : Jvm.MethodName) jdk_32_method_3_code (1 : Nat) (Option.some (Jvm.ClassFile.FieldType.object "java/util/Optional")), Jvm.Cond.code ({ cls := "java/util/Objects", name := "requireNonNull", desc := "(Ljava/lang/Object;)Ljava/lang/Object;" } : Jvm.MethodName) jdk_31_method_10_code (1 : Nat) (Option.some (Jvm.ClassFile.FieldType.object "java/lang/Object")), Jvm.Cond.code ({ cls := "java/util/Optional", name := "<init>", desc := "(Ljava/lang/Object;)V" } : Jvm.MethodName) jdk_32_method_2_code (2 : Nat) (Option.none : Option Jvm.ClassFile.FieldType), Jvm.Cond.code ({ cls := "java/util/Optional", name := "isPresent", desc := "()Z" } : Jvm.MethodName) jdk_32_method_6_code (1 : Nat) (Option.some Jvm.ClassFile.FieldType.boolean), Jvm.Cond.code ({ cls := "java/util/Optional", name := "get", desc := "()Ljava/lang/Object;" } : Jvm.MethodName) jdk_32_method_5_code (1 : Nat) (Option.some (Jvm.ClassFile.FieldType.object "java/lang/Object")), Jvm.Cond.code ({ cls := "java/util/Optional", name := "empty", desc := "()Ljava/util/Optional;" } : Jvm.MethodName) jdk_32_method_1_code (1 : Nat) (Option.some (Jvm.ClassFile.FieldType.object "java/util/Optional"))]
set_option maxRecDepth 65536 in
theorem codes_eq : words1.filter isCode = codes1 := rfl
theorem w_codes : ∀ c ∈ words1.filter isCode, c.before args0 about1 = true := by
  rw [codes_eq]
  intro c hc
  simp only [codes1, List.mem_cons, List.not_mem_nil, or_false] at hc
  rcases hc with rfl | rfl | rfl | rfl | rfl | rfl | rfl | rfl | rfl | rfl | rfl | rfl | rfl | rfl | rfl | rfl | rfl | rfl
  · exact w_c0
  · exact w_c1
  · exact w_c2
  · exact w_c3
  · exact w_c4
  · exact w_c5
  · exact w_c6
  · exact w_c7
  · exact w_c8
  · exact w_c9
  · exact w_c10
  · exact w_c11
  · exact w_c12
  · exact w_c13
  · exact w_c14
  · exact w_c15
  · exact w_c16
  · exact w_c17
set_option maxRecDepth 65536 in
theorem w_t1 : (words1.take 24).all (fun c => isCode c || c.before args0 about1) = true := by decide +kernel
set_option maxRecDepth 65536 in
theorem w_t2 : ((words1.drop 24).take 24).all (fun c => isCode c || c.before args0 about1) = true := by decide +kernel
set_option maxRecDepth 65536 in
theorem w_t3 : (((words1.drop 24).drop 24).take 24).all (fun c => isCode c || c.before args0 about1) = true := by decide +kernel
set_option maxRecDepth 65536 in
theorem w_t4 : ((((words1.drop 24).drop 24).drop 24).take 24).all (fun c => isCode c || c.before args0 about1) = true := by decide +kernel
set_option maxRecDepth 65536 in
theorem w_t5 : ((((words1.drop 24).drop 24).drop 24).drop 24).all (fun c => isCode c || c.before args0 about1) = true := by decide +kernel
theorem w_tables : (allAtoms (Jvm.Cond.code x code maxLocals ret :: tables_1)).before args0 about1 = true := by
  rw [allAtoms_all]
  show words1.all (fun c => c.before args0 about1) = true
  refine all_split ?_ w_codes
  rw [← List.take_append_drop 24 words1, List.all_append, w_t1, ← List.take_append_drop 24 (words1.drop 24), List.all_append, w_t2, ← List.take_append_drop 24 ((words1.drop 24).drop 24), List.all_append, w_t3, ← List.take_append_drop 24 (((words1.drop 24).drop 24).drop 24), List.all_append, w_t4, w_t5]
  rfl
set_option maxRecDepth 65536 in
theorem w_rest : rest_1_c.before args0 about1 = true := by decide +kernel
set_option maxRecDepth 65536 in
theorem w_case : (Jvm.Cond.and given_1 narrow_1).before args0 about1 = true := by decide +kernel
set_option maxRecDepth 65536 in
theorem w_consts : constsHeld consts_1 about1 := Jvm.Lit.constsHeldB_iff.mp (by decide +kernel)
theorem w_applies : (headSpec (Jvm.Cond.code x code maxLocals ret :: tables_1) room_1).applies x e0.platform about1 = true :=
  (Spec.applies_iff w_frames).mpr ⟨w_running, w_runnable, w_alone, w_named, w_hears, w_ripe, w_room, w_tables⟩
theorem atStart : AtStart classFile x code maxLocals ret World_1 tables_1 room_1 Calls_1 rest_1 Pre_1 launch0 p0 e0 about1 theMethod args0 below0 :=
  ⟨lists_1, trivial, launch0.admits_env _ _ _, launch0.least_env, fairChoices_fair.cas, fairChoices_fair.clock, w_frames, w_args, w_heap, w_applies, ⟨w_consts, trivial⟩, w_rest, w_case⟩
end start1
theorem witness_1 : WitnessClaimed_1 := ⟨start1.p0, start1.e0, start1.about1, start1.theMethod, start1.args0, start1.below0, start1.atStart⟩
end Jvm.Pilot.@@N@@
