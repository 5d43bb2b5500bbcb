import JvmDerived
import JvmDerived.Pilot.@@N@@Statement
import JvmDerived.Pilot.@@N@@Code
set_option linter.unusedVariables false
set_option linter.unusedSimpArgs false
namespace Jvm.Pilot.@@N@@
open Jvm Jvm.ClassFile Sem Op Lib Jvm.Free Jvm.Stand Jvm.LawKit Jvm.RoadKit Bundle Jvm.Pilot.@@N@@.Jvm.D
/-! the walk's own layer (wide form): Go = "from here the body returns, and Q"; String constants may be loaded on the way -/
abbrev Cx : Type := Program × Env × State × MethodId × Array Value × List Frame × Method × Code
def Wds (Z : State) : Prop := ∃ a0 : Array Value, (∀ d ∈ tables_1, d.before a0 Z = true) ∧ EW Z a0 consts_1 ∧ ∀ a ∈ Bundle.stringAtoms, a.before a0 Z = true
theorem Wds.w {Z : State} (W : Wds Z) : ∃ a0 : Array Value, ∀ d ∈ tables_1, d.before a0 Z = true := by obtain ⟨a0, h, -⟩ := W; exact ⟨a0, h⟩
def Ok (Z : State) (K : Cx) (own : String) (bytes : ByteArray) (maxL : Nat) (ret : Option FieldType) (nm : String) : Prop :=
  match K with
  | (p, e, s, m, args, below, meth, c) => p.tables.exec = Jvm.exec ∧ c.code = bytes ∧ c.maxLocals = maxL ∧ meth.sig.returnType = ret ∧ s.vm.findClass own = some m.cls ∧ Z.Warmed39 s.vm ∧ meth.name = nm ∧ meth.locks = false ∧ Wds Z
abbrev Sfs (Z : State) (vm : Vm) (h : Heap) (sf : List Addr) : Prop := ∀ x ∈ sf, x < h.size ∧ Safe Z consts_1 vm h x
abbrev Fnl (Z : State) (n0 : Nat) (Q : Option Value → Heap → List Addr → Prop) (v : Option Value) (t : State) (L : List Loc) : Prop := (∃ sn, Q v t.heap sn ∧ Sfs Z t.vm t.heap sn) ∧ Fr n0 L ∧ Old Z n0 t.heap
def Go (l : Launch) (Z : State) (n0 : Nat) (R : Room) (K : Cx) (Q : Option Value → Heap → List Addr → Prop) (h : Heap) (sf : List Addr) (k j : Nat) (pc : Nat) (ls : Array Slot) (st : List Value) : Prop :=
  match K with
  | (p, e, s, m, args, below, meth, c) => ∀ (vm0 : Vm) (k0 : Nat) (T : State) (locs : List Loc), Stand p l e R (s.setVm vm0) m args below meth c T locs k j → T.heap = h → s.Since vm0 k0 → k0 ≤ h.size → CHr Z consts_1 s.vm s.heap vm0 h → Sfs Z vm0 h sf → Fr n0 locs → Old Z n0 h →
      ∃ (s₂ : State) (o : Outcome), Steps p.tables e below (T.setTop (mkF m pc ls st)) s₂ ∧ s₂.status = .running ∧ Ended s₂ below o ∧ ∃ (v : Option Value) (L : List Loc), o = .returned v ∧ Fnl Z n0 Q v s₂ L ∧ CHr Z consts_1 s.vm s.heap s₂.vm s₂.heap ∧ ReturnedEndW s o s₂ L R.cells R.slots
def Ctr (l : Launch) (Z : State) (n0 : Nat) (y : MethodName) (bytes : ByteArray) (maxL : Nat) (ret : Option FieldType) (rm : Room) (as : Array Value) (h : Heap) (sf : List Addr) (Q : Option Value → Heap → List Addr → Prop) : Prop :=
  Old Z n0 h → ∀ ws : List Jvm.Cond, MetFree l y (head1 (Jvm.Cond.code y bytes maxL ret :: ws) rm) (fun a U => a = as ∧ Z.Warmed39 U.vm ∧ U.heap = h ∧ CHv Z consts_1 U.vm h ∧ Sfs Z U.vm h sf) (fun _ _ _ _ _ => True) (fun _ U o U' => ∃ v L, o = .returned v ∧ Fnl Z n0 Q v U' L ∧ CHr Z consts_1 U.vm U.heap U'.vm U'.heap ∧ ReturnedEndW U o U' L rm.cells rm.slots)
section Kit
variable {l : Launch} {Z : State} {n0 : Nat} {R : Room} {K : Cx} {Q : Option Value → Heap → List Addr → Prop} {h : Heap} {sf : List Addr} {k j pc pc' : Nat} {ls : Array Slot} {st : List Value} {own : String} {bytes : ByteArray} {maxL : Nat} {ret : Option FieldType} {nm : String}
theorem Sfs.ext {vm : Vm} {h' : Heap} (E : Ext h h') (H : CHv Z consts_1 vm h) (S : Sfs Z vm h sf) : Sfs Z vm h' sf := fun x q => ⟨Nat.lt_of_lt_of_le (S x q).1 E.1, Safe.ext E H (S x q).2⟩
theorem Sfs.cons {vm : Vm} {a : Addr} (q : a < h.size) (Sa : Safe Z consts_1 vm h a) (S : Sfs Z vm h sf) : Sfs Z vm h (a :: sf) := fun x hx => by
  rcases List.mem_cons.mp hx with rfl | hx
  · exact ⟨q, Sa⟩
  · exact S x hx
theorem Sfs.chr {vm vm' : Vm} {h' : Heap} (A : CHr Z consts_1 vm h vm' h') (S : Sfs Z vm h sf) : Sfs Z vm' h' sf := fun x q => ⟨Nat.lt_of_lt_of_le (S x q).1 A.2.1, A.safe (S x q).1 (S x q).2⟩
theorem Sfs.app {vm : Vm} {sn : List Addr} (S : Sfs Z vm h sn) (S' : Sfs Z vm h sf) : Sfs Z vm h (sn ++ sf) := fun x q => (List.mem_append.mp q).elim (S x) (S' x)
theorem Ctr.of_go {y : MethodName} {rm : Room} {as : Array Value} (W : Wds Z) (hp : plainFor y = true) (hef : ∀ m, entryFrame m as maxL = mkF m 0 ls []) (hgo : ∀ K, Ok Z K y.cls bytes maxL ret y.name → Go l Z n0 rm K Q h sf 0 0 0 ls []) : Ctr l Z n0 y bytes maxL ret rm as h sf Q := fun hO ws => by
  refine MetFree.of_bodySF hp hisR ?_
  intro p e s m args below meth c s₁ Bd hml0 hP hK
  obtain ⟨rfl, hZ, hh, hC, hS⟩ := hP
  have X0 : Stand p l e rm (s.setVm s.vm) m args below meth c s₁ [] 0 0 := Stand.of_body Bd
  have e0 : s₁.heap = h := by rw [← hh, Bd.state]; rfl
  have hnm := (name_of_methodNamed Bd.named Bd.method).1
  have hlk : meth.locks = false := BodyLoose.notSynchronized Bd
  have hS0 : s.Since s.vm 0 := (State.WarmedH.refl s).since _
  obtain ⟨s₂, o, h1, h2⟩ := hgo (p, e, s, m, args, below, meth, c) ⟨Bd.exec, Bd.bytes, hml0, Bd.returns, findClass_of_methodNamed Bd.named, hZ, hnm, hlk, W⟩ s.vm 0 s₁ [] X0 e0 hS0 (Nat.zero_le _) (by rw [hh]; exact CHr.refl hC) hS (Fr.nil n0) hO
  exact ⟨s₂, o, castTop (hef m) h1, h2⟩
theorem Go.of {ls' : Array Slot} {st' : List Value} (H : Ok Z K own bytes maxL ret nm) (step : ∀ (p : Program) (e : Env) (below : List Frame) (T target : State) (m : MethodId) (c : Code), At T m c below → p.tables.exec = Jvm.exec → c.code = bytes → Steps p.tables e below (T.setTop (mkF m pc' ls' st')) target → Steps p.tables e below (T.setTop (mkF m pc ls st)) target) (r : Go l Z n0 R K Q h sf k j pc' ls' st') : Go l Z n0 R K Q h sf k j pc ls st := by
  obtain ⟨p, e, s, m, args, below, meth, c⟩ := K
  intro vm0 k0 T locs X eT hS hk hC hSf hF hO
  obtain ⟨s₂, o, h1, h2⟩ := r vm0 k0 T locs X eT hS hk hC hSf hF hO
  exact ⟨s₂, o, step p e below T s₂ m c X.here H.1 H.2.1 h1, h2⟩
/-- a step that keeps the heap and may warm the tables -/
theorem Go.of2 {st' : List Value} (H : Ok Z K own bytes maxL ret nm) (step : ∀ (p : Program) (e : Env) (s : State) (m : MethodId) (args : Array Value) (below : List Frame) (meth : Method) (c : Code) (T : State) (locs : List Loc) (a0 : Array Value), (∀ d ∈ tables_1, d.before a0 Z = true) → Stand p l e R s m args below meth c T locs k j → p.tables.exec = Jvm.exec → c.code = bytes → c.maxLocals = maxL → Z.Warmed39 s.vm → s.vm.findClass own = some m.cls → T.heap = h → Old Z n0 h →
      ∃ T', Stand p l e R s m args below meth c T' locs k j ∧ T'.heap = h ∧ ∀ target, Steps p.tables e below (T'.setTop (mkF m pc' ls st')) target → Steps p.tables e below (T.setTop (mkF m pc ls st)) target) (r : Go l Z n0 R K Q h sf k j pc' ls st') : Go l Z n0 R K Q h sf k j pc ls st := by
  obtain ⟨p, e, s, m, args, below, meth, c⟩ := K
  intro vm0 k0 T locs X eT hS hk hC hSf hF hO
  obtain ⟨H1, H2, H3, H4, H5, H6, H7, H8, a0, hw, hEL, hat⟩ := H
  obtain ⟨T', X', eT', st⟩ := step p e (s.setVm vm0) m args below meth c T locs a0 hw X H1 H2 H3 (State.Warmed39.trans H6 hS.1) ((hS.1.alike.findClass _ _).trans H5) eT hO
  obtain ⟨s₂, o, h1, h2⟩ := r vm0 k0 T' locs X' eT' hS hk hC hSf hF hO
  exact ⟨s₂, o, st _ h1, h2⟩
/-- a step that makes cells -/
theorem Go.ofNew {st' : List Value} {dk dj : Nat} {P : Addr → Heap → Prop} (H : Ok Z K own bytes maxL ret nm) (step : ∀ (p : Program) (e : Env) (s : State) (m : MethodId) (args : Array Value) (below : List Frame) (meth : Method) (c : Code) (T : State) (locs : List Loc) (a0 : Array Value), (∀ d ∈ tables_1, d.before a0 Z = true) → Stand p l e R s m args below meth c T locs k j → p.tables.exec = Jvm.exec → c.code = bytes → Z.Warmed39 s.vm → s.vm.findClass own = some m.cls → T.heap = h →
      ∃ T' h', Stand p l e R s m args below meth c T' locs (k + dk) (j + dj) ∧ T'.heap = h' ∧ Ext h h' ∧ P h.size h' ∧ ∀ target, Steps p.tables e below (T'.setTop (mkF m pc' ls (.ref h.size :: st'))) target → Steps p.tables e below (T.setTop (mkF m pc ls st)) target)
    (hnew : ∀ a h', P a h' → a < h'.size)
    (r : ∀ (a : Addr) (h' : Heap), a = h.size → n0 ≤ a → Ext h h' → P a h' → Go l Z n0 R K Q h' (a :: sf) (k + dk) (j + dj) pc' ls (.ref a :: st')) : Go l Z n0 R K Q h sf k j pc ls st := by
  obtain ⟨p, e, s, m, args, below, meth, c⟩ := K
  intro vm0 k0 T locs X eT hS hk hC hSf hF hO
  obtain ⟨H1, H2, H3, H4, H5, H6, H7, H8, a0, hw, hEL, hat⟩ := H
  obtain ⟨T', h', X', eT', E, hP, st⟩ := step p e (s.setVm vm0) m args below meth c T locs a0 hw X H1 H2 (State.Warmed39.trans H6 hS.1) ((hS.1.alike.findClass _ _).trans H5) eT
  obtain ⟨s₂, o, h1, h2⟩ := r h.size h' rfl (hO.1 ▸ hO.2.1) E hP vm0 k0 T' locs X' eT' hS (Nat.le_trans hk E.1) (hC.trans (CHr.ext E hC.1)) ((hSf.ext E hC.1).cons (hnew _ _ hP) (Safe.ext E hC.1 (Safe.new (Nat.le_refl _)))) hF (hO.ext E)
  exact ⟨s₂, o, st _ h1, h2⟩
/-- a step that writes one slot of a cell that is new since n0 -/
theorem Go.ofWr {st' : List Value} {a : Addr} {sl : Nat} {v : Value} (H : Ok Z K own bytes maxL ret nm) (ha : n0 ≤ a) (hs : a ∈ sf) (step : ∀ (p : Program) (e : Env) (s : State) (m : MethodId) (args : Array Value) (below : List Frame) (meth : Method) (c : Code) (T : State) (locs : List Loc) (a0 : Array Value), (∀ d ∈ tables_1, d.before a0 Z = true) → Stand p l e R s m args below meth c T locs k j → p.tables.exec = Jvm.exec → c.code = bytes → Z.Warmed39 s.vm → s.vm.findClass own = some m.cls → meth.name = nm → T.heap = h →
      ∃ T' h', Stand p l e R s m args below meth c T' (locs ++ [⟨a, sl⟩]) k j ∧ T'.heap = h' ∧ Wr h h' a sl v ∧ ∀ target, Steps p.tables e below (T'.setTop (mkF m pc' ls st')) target → Steps p.tables e below (T.setTop (mkF m pc ls st)) target)
    (r : ∀ (h' : Heap), Wr h h' a sl v → Go l Z n0 R K Q h' sf k j pc' ls st') : Go l Z n0 R K Q h sf k j pc ls st := by
  obtain ⟨p, e, s, m, args, below, meth, c⟩ := K
  intro vm0 k0 T locs X eT hS hk hC hSf hF hO
  obtain ⟨H1, H2, H3, H4, H5, H6, H7, H8, a0, hw, hEL, hat⟩ := H
  obtain ⟨T', h', X', eT', W, st⟩ := step p e (s.setVm vm0) m args below meth c T locs a0 hw X H1 H2 (State.Warmed39.trans H6 hS.1) ((hS.1.alike.findClass _ _).trans H5) H7 eT
  have hsz := W.size
  obtain ⟨s₂, o, h1, h2⟩ := r h' W vm0 k0 T' _ X' eT' hS (by rw [hsz]; exact hk) (hC.trans (CHr.wr W (hSf a hs).2 hC.1)) (fun x q => ⟨by rw [hsz]; exact (hSf x q).1, Safe.wr W (hSf a hs).2 hC.1 (hSf x q).2⟩) (Fr.snoc X' hF ha) (hO.wr W ha)
  exact ⟨s₂, o, st _ h1, h2⟩
/-- a step that may write any slots of one cell that is new since n0 -/
theorem Go.ofKeep {st' : List Value} {b : Addr} {P : Heap → Prop} (H : Ok Z K own bytes maxL ret nm) (ha : n0 ≤ b) (hs : b ∈ sf) (step : ∀ (p : Program) (e : Env) (s : State) (m : MethodId) (args : Array Value) (below : List Frame) (meth : Method) (c : Code) (T : State) (locs : List Loc) (a0 : Array Value), (∀ d ∈ tables_1, d.before a0 Z = true) → Stand p l e R s m args below meth c T locs k j → p.tables.exec = Jvm.exec → c.code = bytes → c.maxLocals = maxL → Z.Warmed39 s.vm → s.vm.findClass own = some m.cls → T.heap = h → Fr n0 locs →
      ∃ T' h' L, Stand p l e R s m args below meth c T' L k j ∧ T'.heap = h' ∧ Fr n0 L ∧ Keep h h' [b] ∧ P h' ∧ ∀ target, Steps p.tables e below (T'.setTop (mkF m pc' ls st')) target → Steps p.tables e below (T.setTop (mkF m pc ls st)) target)
    (r : ∀ (h' : Heap), Keep h h' [b] → P h' → Go l Z n0 R K Q h' sf k j pc' ls st') : Go l Z n0 R K Q h sf k j pc ls st := by
  obtain ⟨p, e, s, m, args, below, meth, c⟩ := K
  intro vm0 k0 T locs X eT hS hk hC hSf hF hO
  obtain ⟨H1, H2, H3, H4, H5, H6, H7, H8, a0, hw, hEL, hat⟩ := H
  obtain ⟨T', h', L, X', eT', hL, hK, hP, st⟩ := step p e (s.setVm vm0) m args below meth c T locs a0 hw X H1 H2 H3 (State.Warmed39.trans H6 hS.1) ((hS.1.alike.findClass _ _).trans H5) eT hF
  have hsafe : ∀ x ∈ [b], Safe Z consts_1 vm0 h x := allS (hSf b hs).2 all0
  obtain ⟨s₂, o, h1, h2⟩ := r h' hK hP vm0 k0 T' L X' eT' hS (Nat.le_trans hk hK.1) (hC.trans (CHr.keep hK hsafe hC.1)) (fun x q => ⟨Nat.lt_of_lt_of_le (hSf x q).1 hK.1, Safe.keep hK hsafe hC.1 (hSf x q).2⟩) hL (hO.keep hK (allS ha all0))
  exact ⟨s₂, o, st _ h1, h2⟩
theorem Ctr.backS {p : Program} {e : Env} {s : State} {args : Array Value} {below : List Frame} {vm0 : Vm} {a0 : Array Value} {y : MethodName} {ybytes : ByteArray} {ymaxL : Nat} {yret : Option FieldType} {rm : Room} {as : Array Value} {Qc : Option Value → Heap → List Addr → Prop} {sfc : List Addr} {W : Nat} (ct : Ctr l Z n0 y ybytes ymaxL yret rm as h sfc Qc) (hO : Old Z n0 h)
    (hZ : Z.Warmed39 vm0) (hEL : EW Z a0 consts_1) (hC : CHv Z consts_1 vm0 h) (hSf : Sfs Z vm0 h sfc) (wc : (Jvm.Cond.code y ybytes ymaxL yret).before a0 Z = true) (wz : (Jvm.Cond.initialized y.cls).before a0 Z = true) (hfr : rm.frames + 1 ≤ R.frames) (hlo : W + (ymaxL + 11) + rm.locals ≤ R.locals) :
    BackS l R p e below (s.setVm vm0) args y 3 W (fun A a => a = as ∧ A.U.heap = h ∧ A.cells + rm.cells ≤ R.cells ∧ A.slots + rm.slots ≤ R.slots)
      (fun A _ v B => ∃ L, Fnl Z n0 Qc v B.U L ∧ B.locs = A.locs ++ L ∧ B.cells = A.cells + rm.cells ∧ B.slots = A.slots + rm.slots ∧ CHr Z consts_1 vm0 h B.U.vm B.U.heap) := by
  refine BackS.of_freeW (bytes := ybytes) (maxL := ymaxL) (ret := yret) (E := fun _ U o t L k n => (k = rm.cells ∧ n = rm.slots) ∧ (∃ v, o = .returned v ∧ Fnl Z n0 Qc v t L) ∧ CHr Z consts_1 U.vm U.heap t.vm t.heap) (ct hO []) hfr hlo ?_ ?_ (fun _ _ _ _ _ _ _ _ _ => trivial) ?_ ?_
  · intro m meth c A a Y hp
    have hU : Z.Warmed39 A.U.vm := wtrans (s := s.setVm vm0) hZ Y.warmed
    exact ⟨by show (Jvm.Cond.and _ .tt).before a A.U = true; rw [Cond.before_and, mv hU wc]; rfl, mv hU wc, mv hU wz, hp.2.2.1, hp.2.2.2⟩
  · intro m meth c A a g mk Y hp
    have q := CHv.at Y hZ hEL hC
    exact ⟨hp.1, wtrans (s := s.setVm vm0) hZ Y.warmed, hp.2.1, q.1, hSf.chr q⟩
  · rintro a U o t ⟨v, L, h1, h2, h3, h4⟩
    exact ⟨L, _, _, h4, ⟨rfl, rfl⟩, ⟨v, h1, h2⟩, h3⟩
  · rintro m meth c A a g mk v t L k n Y hp - - ⟨⟨rfl, rfl⟩, ⟨v', e3, e4⟩, e5⟩
    cases e3
    refine ⟨L, e4, rfl, rfl, rfl, (CHv.at Y hZ hEL hC).trans ?_⟩
    rw [← hp.2.1]; exact e5
/-- a call, by whatever law of calls -/
theorem Go.ofCall {y : MethodName} {ybytes : ByteArray} {ymaxL : Nat} {yret : Option FieldType} {rm : Room} {as : Array Value} {Qc : Option Value → Heap → List Addr → Prop} {sfc : List Addr} {rest : List Value} {W : Nat} (H : Ok Z K own bytes maxL ret nm) (ct : Ctr l Z n0 y ybytes ymaxL yret rm as h sfc Qc) (hsf : ∀ x ∈ sfc, x ∈ sf)
    (hc : Jvm.Cond.code y ybytes ymaxL yret ∈ tables_1) (hi : Jvm.Cond.initialized y.cls ∈ tables_1) (hfr : rm.frames + 1 ≤ R.frames) (hlo : W + (ymaxL + 11) + rm.locals ≤ R.locals) (hce : k + rm.cells ≤ R.cells) (hsl : j + rm.slots ≤ R.slots)
    (law : ∀ (p : Program) (e : Env) (s : State) (m : MethodId) (args : Array Value) (below : List Frame) (meth : Method) (c : Code) (T : State) (locs : List Loc) (a0 : Array Value), (∀ d ∈ tables_1, d.before a0 Z = true) → Stand p l e R s m args below meth c T locs k j → p.tables.exec = Jvm.exec → c.code = bytes → c.maxLocals = maxL → Z.Warmed39 s.vm → s.vm.findClass own = some m.cls → T.heap = h →
      ∀ (Pre : Pt → Array Value → Prop) (Post : Pt → Array Value → Option Value → Pt → Prop), BackS l R p e below s args y 3 W Pre Post → (∀ vm₁, s.WarmedH vm₁ → Pre ⟨T.setVm vm₁, locs, k, j⟩ as) →
      ∃ (v : Option Value) (vm₁ : Vm) (B : Pt), Stand p l e R (s.setVm B.U.vm) m args below meth c B.U B.locs B.cells B.slots ∧ s.Since B.U.vm B.U.heap.size ∧ T.heap.size ≤ B.U.heap.size ∧ Post ⟨T.setVm vm₁, locs, k, j⟩ as v B ∧ ∀ target, Steps p.tables e below (B.U.setTop (mkF m pc' ls (v.toList ++ rest))) target → Steps p.tables e below (T.setTop (mkF m pc ls st)) target)
    (r : ∀ (v : Option Value) (h' : Heap) (sn : List Addr), Qc v h' sn → Go l Z n0 R K Q h' (sn ++ sf) (k + rm.cells) (j + rm.slots) pc' ls (v.toList ++ rest)) : Go l Z n0 R K Q h sf k j pc ls st := by
  obtain ⟨p, e, s, m, args, below, meth, c⟩ := K
  intro vm0 k0 T locs X eT hS hk hC hSf hF hO
  obtain ⟨H1, H2, H3, H4, H5, H6, H7, H8, a0, hw, hEL, hat⟩ := H
  have hZ0 : Z.Warmed39 (s.setVm vm0).vm := State.Warmed39.trans H6 hS.1
  have hown0 : (s.setVm vm0).vm.findClass own = some m.cls := (hS.1.alike.findClass _ _).trans H5
  have hB := Ctr.backS (p := p) (e := e) (s := s) (args := args) (below := below) (R := R) (W := W) (vm0 := vm0) ct hO hZ0 hEL hC.1 (fun x q => hSf x (hsf x q)) (hw _ hc) (hw _ hi) hfr hlo
  obtain ⟨v, vm₁, B, X', hS2, hgr, ⟨L, ⟨⟨sn, hq, hsn⟩, hFL, hO'⟩, e1, e2, e3, e4⟩, stp⟩ := law p e (s.setVm vm0) m args below meth c T locs a0 hw X H1 H2 H3 hZ0 hown0 eT _ _ hB (fun vm₁ _ => ⟨rfl, eT, hce, hsl⟩)
  obtain ⟨U, Lc, kc, jc⟩ := B
  dsimp only [Pt.U, Pt.locs, Pt.cells, Pt.slots] at X' hS2 hgr hq hsn hO' e1 e2 e3 e4 stp
  subst e1 e2 e3
  rw [eT] at hgr
  obtain ⟨X2, hS3, -, -⟩ := rebS hS hk X' hS2 hgr hZ0 hown0
  obtain ⟨s₂, o, h1, h2⟩ := r v _ sn hq U.vm _ U _ X2 rfl hS3 (Nat.le_refl _) (hC.trans e4) (hsn.app (hSf.chr e4)) (hF.app hFL) hO'
  exact ⟨s₂, o, stp _ h1, h2⟩
theorem Go.callS {y : MethodName} {ybytes : ByteArray} {ymaxL : Nat} {yret : Option FieldType} {rm : Room} {Qc : Option Value → Heap → List Addr → Prop} {sfc : List Addr} {rest : List Value} (W : Nat) {idx : Nat} (argsL : List Value) {ps : List FieldType} {rt : Option FieldType} (H : Ok Z K own bytes maxL ret nm) (d : decode bytes pc = .ok (.invokestatic idx, 3)) (hp : pc + 3 = pc')
    (hl : Jvm.Cond.methodLink own idx y ∈ tables_1) (hst : Jvm.Cond.static y ∈ tables_1) (hi : Jvm.Cond.initialized y.cls ∈ tables_1) (hc : Jvm.Cond.code y ybytes ymaxL yret ∈ tables_1) (hpd : parseMethodDescriptor y.desc = some ⟨ps, rt⟩)
    (ct : Ctr l Z n0 y ybytes ymaxL yret rm argsL.toArray h sfc Qc) (hsf : ∀ x ∈ sfc, x ∈ sf) (hlen : argsL.length = ps.length) (hsz : ls.size = maxL) (hstk : st = argsL.reverse ++ rest) (hW : (rest.map fun v => v.category).sum ≤ W)
    (hfr : rm.frames + 1 ≤ R.frames) (hlo : W + (ymaxL + 11) + rm.locals ≤ R.locals) (hce : k + rm.cells ≤ R.cells) (hsl : j + rm.slots ≤ R.slots) (hy : y.cls ≠ "java/lang/invoke/MethodHandle" ∧ y.cls ≠ "java/lang/invoke/VarHandle")
    (r : ∀ (v : Option Value) (h' : Heap) (sn : List Addr), Qc v h' sn → Go l Z n0 R K Q h' (sn ++ sf) (k + rm.cells) (j + rm.slots) pc' ls (v.toList ++ rest)) : Go l Z n0 R K Q h sf k j pc ls st := by
  subst hp
  refine Go.ofCall (W := W) (rest := rest) H ct hsf hc hi hfr hlo hce hsl ?_ r
  intro p e s m args below meth c T locs a0 hw X hx hby hml hZ hown eT Pre Post hB hpre
  obtain ⟨v, vm₁, B, -, X', hS2, hgr, hpost, stp⟩ := Jvm.RoadKit.callSS X hx (y := y) hown (mvT hZ (hw _ hl)) (mvT hZ (hw _ hst)) (mvT hZ (hw _ hi)) (mvT hZ (hw _ hc)) hy hB (g := mkF m pc ls st) rfl (by rw [hml]; exact hsz) (argsL := argsL) (rest := rest) (lenOf hpd hlen) hstk (by show 2 * 0 + _ ≤ _; simpa using hW) (hb hby d) hpre
  exact ⟨v, vm₁, B, X', hS2, hgr, hpost, fun t ht => stp.trans ht⟩
theorem Go.callI {y : MethodName} {ybytes : ByteArray} {ymaxL : Nat} {rm : Room} {Qc : Option Value → Heap → List Addr → Prop} {sfc : List Addr} {rest : List Value} (W : Nat) {idx : Nat} {a : Addr} (argsL : List Value) {ps : List FieldType} {rt : Option FieldType} (H : Ok Z K own bytes maxL ret nm) (d : decode bytes pc = .ok (.invokespecial idx, 3)) (hp : pc + 3 = pc') (hy1 : y.name = "<init>")
    (hl : Jvm.Cond.methodLink own idx y ∈ tables_1) (hst : Jvm.Cond.instanceMethod y ∈ tables_1) (hi : Jvm.Cond.initialized y.cls ∈ tables_1) (hc : Jvm.Cond.code y ybytes ymaxL none ∈ tables_1) (hpd : parseMethodDescriptor y.desc = some ⟨ps, rt⟩)
    (ct : Ctr l Z n0 y ybytes ymaxL none rm (.ref a :: argsL).toArray h sfc Qc) (hsf : ∀ x ∈ sfc, x ∈ sf) (hlen : argsL.length = ps.length) (hsz : ls.size = maxL) (hstk : st = argsL.reverse ++ .ref a :: rest) (hW : (rest.map fun v => v.category).sum ≤ W)
    (hfr : rm.frames + 1 ≤ R.frames) (hlo : W + (ymaxL + 11) + rm.locals ≤ R.locals) (hce : k + rm.cells ≤ R.cells) (hsl : j + rm.slots ≤ R.slots) (hy : y.cls ≠ "java/lang/invoke/MethodHandle" ∧ y.cls ≠ "java/lang/invoke/VarHandle")
    (r : ∀ (v : Option Value) (h' : Heap) (sn : List Addr), Qc v h' sn → Go l Z n0 R K Q h' (sn ++ sf) (k + rm.cells) (j + rm.slots) pc' ls (v.toList ++ rest)) : Go l Z n0 R K Q h sf k j pc ls st := by
  subst hp
  refine Go.ofCall (W := W) (rest := rest) H ct hsf hc hi hfr hlo hce hsl ?_ r
  intro p e s m args below meth c T locs a0 hw X hx hby hml hZ hown eT Pre Post hB hpre
  obtain ⟨v, vm₁, B, -, X', hS2, hgr, hpost, stp⟩ := X.specialBackS hx (y := y) hy1 hown (mvT hZ (hw _ hl)) (mvT hZ (hw _ hst)) (mvT hZ (hw _ hc)) hy hB (g := mkF m pc ls st) rfl (by rw [hml]; exact hsz) (Steps.refl _) (a := a) (argsL := argsL) (rest := rest) (lenOf hpd hlen) hstk (by show 2 * 0 + _ ≤ _; simpa using hW) (hb hby d) hpre
  exact ⟨v, vm₁, B, X', hS2, hgr, hpost, fun t ht => stp.trans ht⟩
theorem Go.callV {y : MethodName} {C : String} {ybytes : ByteArray} {ymaxL : Nat} {yret : Option FieldType} {rm : Room} {Qc : Option Value → Heap → List Addr → Prop} {sfc : List Addr} {rest : List Value} (W : Nat) {idx : Nat} {a : Addr} (argsL : List Value) {ps : List FieldType} {rt : Option FieldType} (H : Ok Z K own bytes maxL ret nm) (d : decode bytes pc = .ok (.invokevirtual idx, 3)) (hp : pc + 3 = pc') (E : Exa Z h a C)
    (hl : Jvm.Cond.methodLink own idx y ∈ tables_1) (hde : Jvm.Cond.declares y ∈ tables_1) (hse : Jvm.Cond.selects C y y ∈ tables_1) (hst : Jvm.Cond.instanceMethod y ∈ tables_1) (hi : Jvm.Cond.initialized y.cls ∈ tables_1) (hc : Jvm.Cond.code y ybytes ymaxL yret ∈ tables_1) (hpd : parseMethodDescriptor y.desc = some ⟨ps, rt⟩)
    (ct : Ctr l Z n0 y ybytes ymaxL yret rm (.ref a :: argsL).toArray h sfc Qc) (hsf : ∀ x ∈ sfc, x ∈ sf) (hlen : argsL.length = ps.length) (hsz : ls.size = maxL) (hstk : st = argsL.reverse ++ .ref a :: rest) (hW : (rest.map fun v => v.category).sum ≤ W)
    (hfr : rm.frames + 1 ≤ R.frames) (hlo : W + (ymaxL + 11) + rm.locals ≤ R.locals) (hce : k + rm.cells ≤ R.cells) (hsl : j + rm.slots ≤ R.slots) (hy : y.cls ≠ "java/lang/invoke/MethodHandle" ∧ y.cls ≠ "java/lang/invoke/VarHandle")
    (r : ∀ (v : Option Value) (h' : Heap) (sn : List Addr), Qc v h' sn → Go l Z n0 R K Q h' (sn ++ sf) (k + rm.cells) (j + rm.slots) pc' ls (v.toList ++ rest)) : Go l Z n0 R K Q h sf k j pc ls st := by
  subst hp
  refine Go.ofCall (W := W) (rest := rest) H ct hsf hc hi hfr hlo hce hsl ?_ r
  intro p e s m args below meth c T locs a0 hw X hx hby hml hZ hown eT Pre Post hB hpre
  obtain ⟨cq, kq, qa, qb, qc⟩ := isOf hZ eT E
  obtain ⟨v, vm₁, B, -, X', hS2, hgr, hpost, stp⟩ := X.virtualBackS hx (y := y) (z := y) hown (mvT hZ (hw _ hl)) (mvT hZ (hw _ hde)) (notFace_of_selects (args := #[]) (mvT hZ (hw _ hse))) (mvT hZ (hw _ hse)) (mvT hZ (hw _ hst)) hy hB qa qc (g := mkF m pc ls st) rfl (by rw [hml]; exact hsz) (Steps.refl _) (argsL := argsL) (rest := rest) (lenOf hpd hlen) hstk (by show 2 * 0 + _ ≤ _; simpa using hW) (hb hby d) hpre
  exact ⟨v, vm₁, B, X', hS2, hgr, hpost, fun t ht => stp.trans ht⟩
theorem Go.ret0 {sn : List Addr} {v : Option Value} (H : Ok Z K own bytes maxL ret nm) (hv : ret = none → v = none) (hq : Q v h sn) (hs : ∀ x ∈ sn, x ∈ sf) (hk : k ≤ R.cells) (hj : j ≤ R.slots)
    (step : ∀ (p : Program) (e : Env) (s : State) (m : MethodId) (args : Array Value) (below : List Frame) (meth : Method) (c : Code) (T : State) (locs : List Loc) (fs : List Frame), Stand p l e R s m args below meth c T locs k j → p.tables.exec = Jvm.exec → c.code = bytes → meth.sig.returnType = ret →
      (∀ (f : JFrame) (acts : List Action), f.method = m → f.locked = none → f.entered = [] → (doReturn e (T.setTop f) acts v).1 = T.setFrames fs) → Steps p.tables e below (T.setTop (mkF m pc ls st)) (T.setFrames fs)) : Go l Z n0 R K Q h sf k j pc ls st := by
  obtain ⟨p, e, s, m, args, below, meth, c⟩ := K
  intro vm0 k0 T locs X eT hS hk0 hC hSf hF hO
  obtain ⟨H1, H2, H3, H4, H5, H6, H7, H8, a0, hw, hEL, hat⟩ := H
  have hZ0 : Z.Warmed39 vm0 := State.Warmed39.trans H6 hS.1
  obtain ⟨fs, hr, hrun, hended, g1, g2, g3, g4⟩ := X.leaveW hS (by rw [eT]; exact hk0) (v := v) (fun q => hv (H4.symm.trans q)) H8
  have q := CHv.at X hZ0 hEL hC.1
  have hCe : CHr Z consts_1 s.vm s.heap T.vm T.heap := by rw [eT]; exact hC.trans q
  refine ⟨_, _, step p e (s.setVm vm0) m args below meth c T locs fs X H1 H2 H4 hr, hrun, hended, v, locs, rfl, ⟨⟨sn, ?_, ?_⟩, hF, ?_⟩, hCe, ⟨g1, g2, g3, g4.mono hk hj⟩⟩
  · show Q v T.heap sn
    rw [eT]; exact hq
  · show Sfs Z T.vm T.heap sn
    rw [eT]; exact Sfs.chr q (fun x hx => hSf x (hs x hx))
  · show Old Z n0 T.heap
    rw [eT]; exact hO
end Kit
section Steps1
variable {l : Launch} {Z : State} {n0 : Nat} {R : Room} {K : Cx} {Q : Option Value → Heap → List Addr → Prop} {h : Heap} {sf : List Addr} {k j pc pc' : Nat} {ls ls' : Array Slot} {st : List Value} {own : String} {bytes : ByteArray} {maxL : Nat} {ret : Option FieldType} {nm : String}
theorem Go.aload {i : Nat} {v : Value} (H : Ok Z K own bytes maxL ret nm) (d : decode bytes pc = .ok (.aload i, 2)) (hp : pc + 2 = pc') (hl : ls[i]? = some (.val v)) (hv : v.isRef = true) (r : Go l Z n0 R K Q h sf k j pc' ls (v :: st)) : Go l Z n0 R K Q h sf k j pc ls st := by
  subst hp
  exact Go.of H (fun p e below T t m c hA hx hby hr => XS.aload hA hx rfl (hb hby d) hl hv hr) r
theorem Go.aloadN {i : Fin 4} {v : Value} (H : Ok Z K own bytes maxL ret nm) (d : decode bytes pc = .ok (.aload_n i, 1)) (hp : pc + 1 = pc') (hl : ls[i.val]? = some (.val v)) (hv : v.isRef = true) (r : Go l Z n0 R K Q h sf k j pc' ls (v :: st)) : Go l Z n0 R K Q h sf k j pc ls st := by
  subst hp
  exact Go.of H (fun p e below T t m c hA hx hby hr => XS.aloadN hA hx rfl (hb hby d) hl hv hr) r
theorem Go.iload {i : Nat} {v : Int32} (H : Ok Z K own bytes maxL ret nm) (d : decode bytes pc = .ok (.iload i, 2)) (hp : pc + 2 = pc') (hl : ls[i]? = some (.val (.int v))) (r : Go l Z n0 R K Q h sf k j pc' ls (.int v :: st)) : Go l Z n0 R K Q h sf k j pc ls st := by
  subst hp
  exact Go.of H (fun p e below T t m c hA hx hby hr => XS.iload hA hx rfl (hb hby d) hl hr) r
theorem Go.iloadN {i : Fin 4} {v : Int32} (H : Ok Z K own bytes maxL ret nm) (d : decode bytes pc = .ok (.iload_n i, 1)) (hp : pc + 1 = pc') (hl : ls[i.val]? = some (.val (.int v))) (r : Go l Z n0 R K Q h sf k j pc' ls (.int v :: st)) : Go l Z n0 R K Q h sf k j pc ls st := by
  subst hp
  exact Go.of H (fun p e below T t m c hA hx hby hr => XS.iloadN hA hx rfl (hb hby d) hl hr) r
theorem Go.lload {i : Nat} {v : Int64} (H : Ok Z K own bytes maxL ret nm) (d : decode bytes pc = .ok (.lload i, 2)) (hp : pc + 2 = pc') (hl : ls[i]? = some (.val (.long v))) (r : Go l Z n0 R K Q h sf k j pc' ls (.long v :: st)) : Go l Z n0 R K Q h sf k j pc ls st := by
  subst hp
  exact Go.of H (fun p e below T t m c hA hx hby hr => XS.lload hA hx rfl (hb hby d) hl hr) r
theorem Go.lloadN {i : Fin 4} {v : Int64} (H : Ok Z K own bytes maxL ret nm) (d : decode bytes pc = .ok (.lload_n i, 1)) (hp : pc + 1 = pc') (hl : ls[i.val]? = some (.val (.long v))) (r : Go l Z n0 R K Q h sf k j pc' ls (.long v :: st)) : Go l Z n0 R K Q h sf k j pc ls st := by
  subst hp
  exact Go.of H (fun p e below T t m c hA hx hby hr => XS.lloadN hA hx rfl (hb hby d) hl hr) r
theorem Go.istore {i : Nat} {x : Int32} (H : Ok Z K own bytes maxL ret nm) (d : decode bytes pc = .ok (.istore i, 2)) (hp : pc + 2 = pc') (hl : storeLocals ls i (.int x) = some ls') (r : Go l Z n0 R K Q h sf k j pc' ls' st) : Go l Z n0 R K Q h sf k j pc ls (.int x :: st) := by
  subst hp
  exact Go.of H (fun p e below T t m c hA hx hby hr => XS.istore hA hx rfl (hb hby d) rfl hl hr) r
theorem Go.istoreN {i : Fin 4} {x : Int32} (H : Ok Z K own bytes maxL ret nm) (d : decode bytes pc = .ok (.istore_n i, 1)) (hp : pc + 1 = pc') (hl : storeLocals ls i.val (.int x) = some ls') (r : Go l Z n0 R K Q h sf k j pc' ls' st) : Go l Z n0 R K Q h sf k j pc ls (.int x :: st) := by
  subst hp
  exact Go.of H (fun p e below T t m c hA hx hby hr => XS.istoreN hA hx rfl (hb hby d) rfl hl hr) r
theorem Go.lstore {i : Nat} {x : Int64} (H : Ok Z K own bytes maxL ret nm) (d : decode bytes pc = .ok (.lstore i, 2)) (hp : pc + 2 = pc') (hl : storeLocals ls i (.long x) = some ls') (r : Go l Z n0 R K Q h sf k j pc' ls' st) : Go l Z n0 R K Q h sf k j pc ls (.long x :: st) := by
  subst hp
  exact Go.of H (fun p e below T t m c hA hx hby hr => XS.lstore hA hx rfl (hb hby d) rfl hl hr) r
theorem Go.lstoreN {i : Fin 4} {x : Int64} (H : Ok Z K own bytes maxL ret nm) (d : decode bytes pc = .ok (.lstore_n i, 1)) (hp : pc + 1 = pc') (hl : storeLocals ls i.val (.long x) = some ls') (r : Go l Z n0 R K Q h sf k j pc' ls' st) : Go l Z n0 R K Q h sf k j pc ls (.long x :: st) := by
  subst hp
  exact Go.of H (fun p e below T t m c hA hx hby hr => XS.lstoreN hA hx rfl (hb hby d) rfl hl hr) r
theorem Go.astore {i : Nat} {x : Value} (H : Ok Z K own bytes maxL ret nm) (d : decode bytes pc = .ok (.astore i, 2)) (hp : pc + 2 = pc') (hv : x.isRef = true) (hl : storeLocals ls i x = some ls') (r : Go l Z n0 R K Q h sf k j pc' ls' st) : Go l Z n0 R K Q h sf k j pc ls (x :: st) := by
  subst hp
  exact Go.of H (fun p e below T t m c hA hx hby hr => XS.astore hA hx rfl (hb hby d) rfl hv hl hr) r
theorem Go.astoreN {i : Fin 4} {x : Value} (H : Ok Z K own bytes maxL ret nm) (d : decode bytes pc = .ok (.astore_n i, 1)) (hp : pc + 1 = pc') (hv : x.isRef = true) (hl : storeLocals ls i.val x = some ls') (r : Go l Z n0 R K Q h sf k j pc' ls' st) : Go l Z n0 R K Q h sf k j pc ls (x :: st) := by
  subst hp
  exact Go.of H (fun p e below T t m c hA hx hby hr => XS.astoreN hA hx rfl (hb hby d) rfl hv hl hr) r
theorem Go.iconst {i : Int} (v : Int32) (H : Ok Z K own bytes maxL ret nm) (d : decode bytes pc = .ok (.iconst i, 1)) (hp : pc + 1 = pc') (hv : Int32.ofInt i = v) (r : Go l Z n0 R K Q h sf k j pc' ls (.int v :: st)) : Go l Z n0 R K Q h sf k j pc ls st := by
  subst hp
  exact Go.of H (fun p e below T t m c hA hx hby hr => XS.iconst hA hx rfl (hb hby d) (hv ▸ hr)) r
theorem Go.bipush {i : Int} (v : Int32) (H : Ok Z K own bytes maxL ret nm) (d : decode bytes pc = .ok (.bipush i, 2)) (hp : pc + 2 = pc') (hv : (Int8.ofInt i).toInt32 = v) (r : Go l Z n0 R K Q h sf k j pc' ls (.int v :: st)) : Go l Z n0 R K Q h sf k j pc ls st := by
  subst hp
  exact Go.of H (fun p e below T t m c hA hx hby hr => XS.bipush hA hx rfl (hb hby d) (hv ▸ hr)) r
theorem Go.sipush {i : Int} (v : Int32) (H : Ok Z K own bytes maxL ret nm) (d : decode bytes pc = .ok (.sipush i, 3)) (hp : pc + 3 = pc') (hv : (Int16.ofInt i).toInt32 = v) (r : Go l Z n0 R K Q h sf k j pc' ls (.int v :: st)) : Go l Z n0 R K Q h sf k j pc ls st := by
  subst hp
  exact Go.of H (fun p e below T t m c hA hx hby hr => XS.sipush hA hx rfl (hb hby d) (hv ▸ hr)) r
theorem Go.lconst {i : Fin 2} (v : Int64) (H : Ok Z K own bytes maxL ret nm) (d : decode bytes pc = .ok (.lconst i, 1)) (hp : pc + 1 = pc') (hv : Int64.ofNat i.val = v) (r : Go l Z n0 R K Q h sf k j pc' ls (.long v :: st)) : Go l Z n0 R K Q h sf k j pc ls st := by
  subst hp
  exact Go.of H (fun p e below T t m c hA hx hby hr => XS.lconst hA hx rfl (hb hby d) (hv ▸ hr)) r
theorem Go.aconstNull  (H : Ok Z K own bytes maxL ret nm) (d : decode bytes pc = .ok (.aconst_null, 1)) (hp : pc + 1 = pc')  (r : Go l Z n0 R K Q h sf k j pc' ls (.null :: st)) : Go l Z n0 R K Q h sf k j pc ls st := by
  subst hp
  exact Go.of H (fun p e below T t m c hA hx hby hr => XS.aconstNull hA hx rfl (hb hby d) hr) r
theorem Go.iadd {x y : Int32} (H : Ok Z K own bytes maxL ret nm) (d : decode bytes pc = .ok (.iadd, 1)) (hp : pc + 1 = pc')  (r : Go l Z n0 R K Q h sf k j pc' ls (.int (x + y) :: st)) : Go l Z n0 R K Q h sf k j pc ls (.int y :: .int x :: st) := by
  subst hp
  exact Go.of H (fun p e below T t m c hA hx hby hr => XS.iadd hA hx rfl (hb hby d) rfl hr) r
theorem Go.isub {x y : Int32} (H : Ok Z K own bytes maxL ret nm) (d : decode bytes pc = .ok (.isub, 1)) (hp : pc + 1 = pc')  (r : Go l Z n0 R K Q h sf k j pc' ls (.int (x - y) :: st)) : Go l Z n0 R K Q h sf k j pc ls (.int y :: .int x :: st) := by
  subst hp
  exact Go.of H (fun p e below T t m c hA hx hby hr => XS.isub hA hx rfl (hb hby d) rfl hr) r
theorem Go.imul {x y : Int32} (H : Ok Z K own bytes maxL ret nm) (d : decode bytes pc = .ok (.imul, 1)) (hp : pc + 1 = pc')  (r : Go l Z n0 R K Q h sf k j pc' ls (.int (x * y) :: st)) : Go l Z n0 R K Q h sf k j pc ls (.int y :: .int x :: st) := by
  subst hp
  exact Go.of H (fun p e below T t m c hA hx hby hr => XS.imul hA hx rfl (hb hby d) rfl hr) r
theorem Go.iand {x y : Int32} (H : Ok Z K own bytes maxL ret nm) (d : decode bytes pc = .ok (.iand, 1)) (hp : pc + 1 = pc')  (r : Go l Z n0 R K Q h sf k j pc' ls (.int (x &&& y) :: st)) : Go l Z n0 R K Q h sf k j pc ls (.int y :: .int x :: st) := by
  subst hp
  exact Go.of H (fun p e below T t m c hA hx hby hr => XS.iand hA hx rfl (hb hby d) rfl hr) r
theorem Go.ior {x y : Int32} (H : Ok Z K own bytes maxL ret nm) (d : decode bytes pc = .ok (.ior, 1)) (hp : pc + 1 = pc')  (r : Go l Z n0 R K Q h sf k j pc' ls (.int (x ||| y) :: st)) : Go l Z n0 R K Q h sf k j pc ls (.int y :: .int x :: st) := by
  subst hp
  exact Go.of H (fun p e below T t m c hA hx hby hr => XS.ior hA hx rfl (hb hby d) rfl hr) r
theorem Go.ixor {x y : Int32} (H : Ok Z K own bytes maxL ret nm) (d : decode bytes pc = .ok (.ixor, 1)) (hp : pc + 1 = pc')  (r : Go l Z n0 R K Q h sf k j pc' ls (.int (x ^^^ y) :: st)) : Go l Z n0 R K Q h sf k j pc ls (.int y :: .int x :: st) := by
  subst hp
  exact Go.of H (fun p e below T t m c hA hx hby hr => XS.ixor hA hx rfl (hb hby d) rfl hr) r
theorem Go.ladd {x y : Int64} (H : Ok Z K own bytes maxL ret nm) (d : decode bytes pc = .ok (.ladd, 1)) (hp : pc + 1 = pc')  (r : Go l Z n0 R K Q h sf k j pc' ls (.long (x + y) :: st)) : Go l Z n0 R K Q h sf k j pc ls (.long y :: .long x :: st) := by
  subst hp
  exact Go.of H (fun p e below T t m c hA hx hby hr => XS.ladd hA hx rfl (hb hby d) rfl hr) r
theorem Go.lsub {x y : Int64} (H : Ok Z K own bytes maxL ret nm) (d : decode bytes pc = .ok (.lsub, 1)) (hp : pc + 1 = pc')  (r : Go l Z n0 R K Q h sf k j pc' ls (.long (x - y) :: st)) : Go l Z n0 R K Q h sf k j pc ls (.long y :: .long x :: st) := by
  subst hp
  exact Go.of H (fun p e below T t m c hA hx hby hr => XS.lsub hA hx rfl (hb hby d) rfl hr) r
theorem Go.lmul {x y : Int64} (H : Ok Z K own bytes maxL ret nm) (d : decode bytes pc = .ok (.lmul, 1)) (hp : pc + 1 = pc')  (r : Go l Z n0 R K Q h sf k j pc' ls (.long (x * y) :: st)) : Go l Z n0 R K Q h sf k j pc ls (.long y :: .long x :: st) := by
  subst hp
  exact Go.of H (fun p e below T t m c hA hx hby hr => XS.lmul hA hx rfl (hb hby d) rfl hr) r
theorem Go.land {x y : Int64} (H : Ok Z K own bytes maxL ret nm) (d : decode bytes pc = .ok (.land, 1)) (hp : pc + 1 = pc')  (r : Go l Z n0 R K Q h sf k j pc' ls (.long (x &&& y) :: st)) : Go l Z n0 R K Q h sf k j pc ls (.long y :: .long x :: st) := by
  subst hp
  exact Go.of H (fun p e below T t m c hA hx hby hr => XS.land hA hx rfl (hb hby d) rfl hr) r
theorem Go.lor {x y : Int64} (H : Ok Z K own bytes maxL ret nm) (d : decode bytes pc = .ok (.lor, 1)) (hp : pc + 1 = pc')  (r : Go l Z n0 R K Q h sf k j pc' ls (.long (x ||| y) :: st)) : Go l Z n0 R K Q h sf k j pc ls (.long y :: .long x :: st) := by
  subst hp
  exact Go.of H (fun p e below T t m c hA hx hby hr => XS.lor hA hx rfl (hb hby d) rfl hr) r
theorem Go.lxor {x y : Int64} (H : Ok Z K own bytes maxL ret nm) (d : decode bytes pc = .ok (.lxor, 1)) (hp : pc + 1 = pc')  (r : Go l Z n0 R K Q h sf k j pc' ls (.long (x ^^^ y) :: st)) : Go l Z n0 R K Q h sf k j pc ls (.long y :: .long x :: st) := by
  subst hp
  exact Go.of H (fun p e below T t m c hA hx hby hr => XS.lxor hA hx rfl (hb hby d) rfl hr) r
theorem Go.ishl {x y : Int32} (H : Ok Z K own bytes maxL ret nm) (d : decode bytes pc = .ok (.ishl, 1)) (hp : pc + 1 = pc')  (r : Go l Z n0 R K Q h sf k j pc' ls (.int (x <<< (y &&& 31)) :: st)) : Go l Z n0 R K Q h sf k j pc ls (.int y :: .int x :: st) := by
  subst hp
  exact Go.of H (fun p e below T t m c hA hx hby hr => XS.ishl hA hx rfl (hb hby d) rfl hr) r
theorem Go.ishr {x y : Int32} (H : Ok Z K own bytes maxL ret nm) (d : decode bytes pc = .ok (.ishr, 1)) (hp : pc + 1 = pc')  (r : Go l Z n0 R K Q h sf k j pc' ls (.int (x >>> (y &&& 31)) :: st)) : Go l Z n0 R K Q h sf k j pc ls (.int y :: .int x :: st) := by
  subst hp
  exact Go.of H (fun p e below T t m c hA hx hby hr => XS.ishr hA hx rfl (hb hby d) rfl hr) r
theorem Go.iushr {x y : Int32} (H : Ok Z K own bytes maxL ret nm) (d : decode bytes pc = .ok (.iushr, 1)) (hp : pc + 1 = pc')  (r : Go l Z n0 R K Q h sf k j pc' ls (.int ((x.toUInt32 >>> (y &&& 31).toUInt32).toInt32) :: st)) : Go l Z n0 R K Q h sf k j pc ls (.int y :: .int x :: st) := by
  subst hp
  exact Go.of H (fun p e below T t m c hA hx hby hr => XS.iushr hA hx rfl (hb hby d) rfl hr) r
theorem Go.lshl {x : Int64} {y : Int32} (H : Ok Z K own bytes maxL ret nm) (d : decode bytes pc = .ok (.lshl, 1)) (hp : pc + 1 = pc')  (r : Go l Z n0 R K Q h sf k j pc' ls (.long (x <<< (y &&& 0x3f).toInt64) :: st)) : Go l Z n0 R K Q h sf k j pc ls (.int y :: .long x :: st) := by
  subst hp
  exact Go.of H (fun p e below T t m c hA hx hby hr => XS.lshl hA hx rfl (hb hby d) rfl hr) r
theorem Go.lshr {x : Int64} {y : Int32} (H : Ok Z K own bytes maxL ret nm) (d : decode bytes pc = .ok (.lshr, 1)) (hp : pc + 1 = pc')  (r : Go l Z n0 R K Q h sf k j pc' ls (.long (x >>> (y &&& 0x3f).toInt64) :: st)) : Go l Z n0 R K Q h sf k j pc ls (.int y :: .long x :: st) := by
  subst hp
  exact Go.of H (fun p e below T t m c hA hx hby hr => XS.lshr hA hx rfl (hb hby d) rfl hr) r
theorem Go.lushr {x : Int64} {y : Int32} (H : Ok Z K own bytes maxL ret nm) (d : decode bytes pc = .ok (.lushr, 1)) (hp : pc + 1 = pc')  (r : Go l Z n0 R K Q h sf k j pc' ls (.long ((x.toUInt64 >>> (y &&& 0x3f).toInt64.toUInt64).toInt64) :: st)) : Go l Z n0 R K Q h sf k j pc ls (.int y :: .long x :: st) := by
  subst hp
  exact Go.of H (fun p e below T t m c hA hx hby hr => XS.lushr hA hx rfl (hb hby d) rfl hr) r
theorem Go.idiv {x y : Int32} (H : Ok Z K own bytes maxL ret nm) (d : decode bytes pc = .ok (.idiv, 1)) (hp : pc + 1 = pc') (hy : y ≠ 0) (r : Go l Z n0 R K Q h sf k j pc' ls (.int (x / y) :: st)) : Go l Z n0 R K Q h sf k j pc ls (.int y :: .int x :: st) := by
  subst hp
  exact Go.of H (fun p e below T t m c hA hx hby hr => XS.idiv hA hx rfl (hb hby d) rfl hy hr) r
theorem Go.irem {x y : Int32} (H : Ok Z K own bytes maxL ret nm) (d : decode bytes pc = .ok (.irem, 1)) (hp : pc + 1 = pc') (hy : y ≠ 0) (r : Go l Z n0 R K Q h sf k j pc' ls (.int (x % y) :: st)) : Go l Z n0 R K Q h sf k j pc ls (.int y :: .int x :: st) := by
  subst hp
  exact Go.of H (fun p e below T t m c hA hx hby hr => XS.irem hA hx rfl (hb hby d) rfl hy (by rw [irem_eq_mod x y]; exact hr)) r
theorem Go.ldiv {x y : Int64} (H : Ok Z K own bytes maxL ret nm) (d : decode bytes pc = .ok (.ldiv, 1)) (hp : pc + 1 = pc') (hy : y ≠ 0) (r : Go l Z n0 R K Q h sf k j pc' ls (.long (x / y) :: st)) : Go l Z n0 R K Q h sf k j pc ls (.long y :: .long x :: st) := by
  subst hp
  exact Go.of H (fun p e below T t m c hA hx hby hr => XS.ldiv hA hx rfl (hb hby d) rfl hy hr) r
theorem Go.lrem {x y : Int64} (H : Ok Z K own bytes maxL ret nm) (d : decode bytes pc = .ok (.lrem, 1)) (hp : pc + 1 = pc') (hy : y ≠ 0) (r : Go l Z n0 R K Q h sf k j pc' ls (.long (x % y) :: st)) : Go l Z n0 R K Q h sf k j pc ls (.long y :: .long x :: st) := by
  subst hp
  exact Go.of H (fun p e below T t m c hA hx hby hr => XS.lrem hA hx rfl (hb hby d) rfl hy (by rw [lrem_mod x y]; exact hr)) r
theorem Go.ineg {x : Int32} (H : Ok Z K own bytes maxL ret nm) (d : decode bytes pc = .ok (.ineg, 1)) (hp : pc + 1 = pc')  (r : Go l Z n0 R K Q h sf k j pc' ls (.int (-x) :: st)) : Go l Z n0 R K Q h sf k j pc ls (.int x :: st) := by
  subst hp
  exact Go.of H (fun p e below T t m c hA hx hby hr => XS.ineg hA hx rfl (hb hby d) rfl hr) r
theorem Go.lneg {x : Int64} (H : Ok Z K own bytes maxL ret nm) (d : decode bytes pc = .ok (.lneg, 1)) (hp : pc + 1 = pc')  (r : Go l Z n0 R K Q h sf k j pc' ls (.long (-x) :: st)) : Go l Z n0 R K Q h sf k j pc ls (.long x :: st) := by
  subst hp
  exact Go.of H (fun p e below T t m c hA hx hby hr => XS.lneg hA hx rfl (hb hby d) rfl hr) r
theorem Go.i2c {x : Int32} (H : Ok Z K own bytes maxL ret nm) (d : decode bytes pc = .ok (.i2c, 1)) (hp : pc + 1 = pc')  (r : Go l Z n0 R K Q h sf k j pc' ls (.int (nar .char x) :: st)) : Go l Z n0 R K Q h sf k j pc ls (.int x :: st) := by
  subst hp
  exact Go.of H (fun p e below T t m c hA hx hby hr => XS.i2c hA hx rfl (hb hby d) rfl hr) r
theorem Go.i2b {x : Int32} (H : Ok Z K own bytes maxL ret nm) (d : decode bytes pc = .ok (.i2b, 1)) (hp : pc + 1 = pc')  (r : Go l Z n0 R K Q h sf k j pc' ls (.int (nar .byte x) :: st)) : Go l Z n0 R K Q h sf k j pc ls (.int x :: st) := by
  subst hp
  exact Go.of H (fun p e below T t m c hA hx hby hr => XS.i2b hA hx rfl (hb hby d) rfl hr) r
theorem Go.i2s {x : Int32} (H : Ok Z K own bytes maxL ret nm) (d : decode bytes pc = .ok (.i2s, 1)) (hp : pc + 1 = pc')  (r : Go l Z n0 R K Q h sf k j pc' ls (.int (nar .short x) :: st)) : Go l Z n0 R K Q h sf k j pc ls (.int x :: st) := by
  subst hp
  exact Go.of H (fun p e below T t m c hA hx hby hr => XS.i2s hA hx rfl (hb hby d) rfl hr) r
theorem Go.i2l {x : Int32} (H : Ok Z K own bytes maxL ret nm) (d : decode bytes pc = .ok (.i2l, 1)) (hp : pc + 1 = pc')  (r : Go l Z n0 R K Q h sf k j pc' ls (.long x.toInt64 :: st)) : Go l Z n0 R K Q h sf k j pc ls (.int x :: st) := by
  subst hp
  exact Go.of H (fun p e below T t m c hA hx hby hr => XS.i2l hA hx rfl (hb hby d) rfl hr) r
theorem Go.l2i {x : Int64} (H : Ok Z K own bytes maxL ret nm) (d : decode bytes pc = .ok (.l2i, 1)) (hp : pc + 1 = pc')  (r : Go l Z n0 R K Q h sf k j pc' ls (.int x.toInt32 :: st)) : Go l Z n0 R K Q h sf k j pc ls (.long x :: st) := by
  subst hp
  exact Go.of H (fun p e below T t m c hA hx hby hr => XS.l2i hA hx rfl (hb hby d) rfl hr) r
theorem Go.lcmp {x y : Int64} (H : Ok Z K own bytes maxL ret nm) (d : decode bytes pc = .ok (.lcmp, 1)) (hp : pc + 1 = pc')  (r : Go l Z n0 R K Q h sf k j pc' ls (.int (lcmpW x y) :: st)) : Go l Z n0 R K Q h sf k j pc ls (.long y :: .long x :: st) := by
  subst hp
  exact Go.of H (fun p e below T t m c hA hx hby hr => XS.lcmp hA hx rfl (hb hby d) rfl hr) r
theorem Go.iinc {i : Nat} {cst : Int} {x : Int32} (v : Int32) (H : Ok Z K own bytes maxL ret nm) (d : decode bytes pc = .ok (.iinc i cst, 3)) (hp : pc + 3 = pc') (hl : ls[i]? = some (.val (.int x))) (hv : Int32.ofInt cst = v) (hl' : storeLocals ls i (.int (x + v)) = some ls') (r : Go l Z n0 R K Q h sf k j pc' ls' st) : Go l Z n0 R K Q h sf k j pc ls st := by
  subst hp
  exact Go.of H (fun p e below T t m c hA hx hby hr => XS.iinc hA hx rfl (hb hby d) hl (by rw [hv]; exact hl') hr) r
theorem Go.dup {x : Value} (H : Ok Z K own bytes maxL ret nm) (d : decode bytes pc = .ok (.dup, 1)) (hp : pc + 1 = pc') (hc : x.category = 1) (r : Go l Z n0 R K Q h sf k j pc' ls (x :: x :: st)) : Go l Z n0 R K Q h sf k j pc ls (x :: st) := by
  subst hp
  exact Go.of H (fun p e below T t m c hA hx hby hr => XS.dup hA hx rfl (hb hby d) rfl hc hr) r
theorem Go.pop {x : Value} (H : Ok Z K own bytes maxL ret nm) (d : decode bytes pc = .ok (.pop, 1)) (hp : pc + 1 = pc') (hc : x.category = 1) (r : Go l Z n0 R K Q h sf k j pc' ls st) : Go l Z n0 R K Q h sf k j pc ls (x :: st) := by
  subst hp
  exact Go.of H (fun p e below T t m c hA hx hby hr => XS.pop hA hx rfl (hb hby d) rfl hc hr) r
theorem Go.dupX1 {x y : Value} (H : Ok Z K own bytes maxL ret nm) (d : decode bytes pc = .ok (.dup_x1, 1)) (hp : pc + 1 = pc') (hc : x.category = 1) (hc' : y.category = 1) (r : Go l Z n0 R K Q h sf k j pc' ls (x :: y :: x :: st)) : Go l Z n0 R K Q h sf k j pc ls (x :: y :: st) := by
  subst hp
  exact Go.of H (fun p e below T t m c hA hx hby hr => XT.dupX1 hA hx rfl (hb hby d) rfl hc hc' hr) r
theorem Go.dup2 {x y : Value} (H : Ok Z K own bytes maxL ret nm) (d : decode bytes pc = .ok (.dup2, 1)) (hp : pc + 1 = pc') (hc : x.category = 1) (hc' : y.category = 1) (r : Go l Z n0 R K Q h sf k j pc' ls (x :: y :: x :: y :: st)) : Go l Z n0 R K Q h sf k j pc ls (x :: y :: st) := by
  subst hp
  exact Go.of H (fun p e below T t m c hA hx hby hr => XT.dup2 hA hx rfl (hb hby d) rfl hc hc' hr) r
theorem Go.goto {o : Int} (H : Ok Z K own bytes maxL ret nm) (d : decode bytes pc = .ok (.goto o, 3)) (ho : 0 ≤ (pc : Int) + o) (hp : ((pc : Int) + o).toNat = pc') (r : Go l Z n0 R K Q h sf k j pc' ls st) : Go l Z n0 R K Q h sf k j pc ls st := Go.of H (fun p e below T t m c hA hx hby hr => XS.goto hA hx rfl (pc0 := pc) (pc' := pc') rfl (hb hby d) ho hp hr) r
theorem Go.icmpY {cd : ClassFile.Cond} {x y : Int32} {o : Int} (H : Ok Z K own bytes maxL ret nm) (d : decode bytes pc = .ok (.if_icmp cd o, 3)) (hc : if_icmp.holds cd x y = true) (ho : 0 ≤ (pc : Int) + o) (hp : ((pc : Int) + o).toNat = pc') (r : Go l Z n0 R K Q h sf k j pc' ls st) : Go l Z n0 R K Q h sf k j pc ls (.int y :: .int x :: st) := Go.of H (fun p e below T t m c hA hx hby hr => XS.icmpYes hA hx rfl (pc0 := pc) (pc' := pc') rfl (hb hby d) rfl hc ho hp hr) r
theorem Go.icmpN {cd : ClassFile.Cond} {x y : Int32} {o : Int} (H : Ok Z K own bytes maxL ret nm) (d : decode bytes pc = .ok (.if_icmp cd o, 3)) (hc : if_icmp.holds cd x y = false) (hp : pc + 3 = pc') (r : Go l Z n0 R K Q h sf k j pc' ls st) : Go l Z n0 R K Q h sf k j pc ls (.int y :: .int x :: st) := by
  subst hp
  exact Go.of H (fun p e below T t m c hA hx hby hr => XS.icmpNo hA hx rfl (hb hby d) rfl hc hr) r
theorem Go.ifY {cd : ClassFile.Cond} {x : Int32} {o : Int} (H : Ok Z K own bytes maxL ret nm) (d : decode bytes pc = .ok (.ifCond cd o, 3)) (hc : if_icmp.holds cd x 0 = true) (ho : 0 ≤ (pc : Int) + o) (hp : ((pc : Int) + o).toNat = pc') (r : Go l Z n0 R K Q h sf k j pc' ls st) : Go l Z n0 R K Q h sf k j pc ls (.int x :: st) := Go.of H (fun p e below T t m c hA hx hby hr => XS.ifYes hA hx rfl (pc0 := pc) (pc' := pc') rfl (hb hby d) rfl ((if0 _ _).trans hc) ho hp hr) r
theorem Go.ifN {cd : ClassFile.Cond} {x : Int32} {o : Int} (H : Ok Z K own bytes maxL ret nm) (d : decode bytes pc = .ok (.ifCond cd o, 3)) (hc : if_icmp.holds cd x 0 = false) (hp : pc + 3 = pc') (r : Go l Z n0 R K Q h sf k j pc' ls st) : Go l Z n0 R K Q h sf k j pc ls (.int x :: st) := by
  subst hp
  exact Go.of H (fun p e below T t m c hA hx hby hr => XS.ifNo hA hx rfl (hb hby d) rfl ((if0 _ _).trans hc) hr) r
theorem Go.ifnullY {o : Int} (H : Ok Z K own bytes maxL ret nm) (d : decode bytes pc = .ok (.ifnull o, 3)) (ho : 0 ≤ (pc : Int) + o) (hp : ((pc : Int) + o).toNat = pc') (r : Go l Z n0 R K Q h sf k j pc' ls st) : Go l Z n0 R K Q h sf k j pc ls (.null :: st) := Go.of H (fun p e below T t m c hA hx hby hr => XS.ifnullYes hA hx rfl (pc0 := pc) (pc' := pc') rfl (hb hby d) rfl ho hp hr) r
theorem Go.ifnullN {b : Addr} {o : Int} (H : Ok Z K own bytes maxL ret nm) (d : decode bytes pc = .ok (.ifnull o, 3)) (hp : pc + 3 = pc') (r : Go l Z n0 R K Q h sf k j pc' ls st) : Go l Z n0 R K Q h sf k j pc ls (.ref b :: st) := by
  subst hp
  exact Go.of H (fun p e below T t m c hA hx hby hr => XS.ifnullNo hA hx rfl (hb hby d) rfl hr) r
theorem Go.ifnonnullY {b : Addr} {o : Int} (H : Ok Z K own bytes maxL ret nm) (d : decode bytes pc = .ok (.ifnonnull o, 3)) (ho : 0 ≤ (pc : Int) + o) (hp : ((pc : Int) + o).toNat = pc') (r : Go l Z n0 R K Q h sf k j pc' ls st) : Go l Z n0 R K Q h sf k j pc ls (.ref b :: st) := Go.of H (fun p e below T t m c hA hx hby hr => XS.ifnonnullYes hA hx rfl (pc0 := pc) (pc' := pc') rfl (hb hby d) rfl ho hp hr) r
theorem Go.ifnonnullN {o : Int} (H : Ok Z K own bytes maxL ret nm) (d : decode bytes pc = .ok (.ifnonnull o, 3)) (hp : pc + 3 = pc') (r : Go l Z n0 R K Q h sf k j pc' ls st) : Go l Z n0 R K Q h sf k j pc ls (.null :: st) := by
  subst hp
  exact Go.of H (fun p e below T t m c hA hx hby hr => XS.ifnonnullNo hA hx rfl (hb hby d) rfl hr) r
theorem Go.acmpY {cd : ClassFile.ACond} {x y : Value} {o : Int} (H : Ok Z K own bytes maxL ret nm) (d : decode bytes pc = .ok (.if_acmp cd o, 3)) (h1 : x.isRef = true) (h2 : y.isRef = true) (hc : XT.acmp cd x y = true) (ho : 0 ≤ (pc : Int) + o) (hp : ((pc : Int) + o).toNat = pc') (r : Go l Z n0 R K Q h sf k j pc' ls st) : Go l Z n0 R K Q h sf k j pc ls (y :: x :: st) := Go.of H (fun p e below T t m c hA hx hby hr => XT.acmpYes hA hx rfl (pc0 := pc) (pc' := pc') rfl (hb hby d) rfl h1 h2 hc ho hp hr) r
theorem Go.acmpN {cd : ClassFile.ACond} {x y : Value} {o : Int} (H : Ok Z K own bytes maxL ret nm) (d : decode bytes pc = .ok (.if_acmp cd o, 3)) (h1 : x.isRef = true) (h2 : y.isRef = true) (hc : XT.acmp cd x y = false) (hp : pc + 3 = pc') (r : Go l Z n0 R K Q h sf k j pc' ls st) : Go l Z n0 R K Q h sf k j pc ls (y :: x :: st) := by
  subst hp
  exact Go.of H (fun p e below T t m c hA hx hby hr => XT.acmpNo hA hx rfl (hb hby d) rfl h1 h2 hc hr) r
theorem Go.ldcInt {idx : Nat} {v : Int32} (H : Ok Z K own bytes maxL ret nm) (d : decode bytes pc = .ok (.ldc idx, 2)) (hp : pc + 2 = pc') (w : Jvm.Cond.constant own idx v ∈ tables_1) (r : Go l Z n0 R K Q h sf k j pc' ls (.int v :: st)) : Go l Z n0 R K Q h sf k j pc ls st := by
  subst hp
  refine Go.of2 H ?_ r
  intro p e s m args below meth c T locs a0 hw X hx hby hml hZ hown eT hO
  exact ⟨T, X, eT, fun t hr => X.ldcInt hx hown (mvT hZ (hw _ w)) (g := mkF m pc ls st) rfl (hb hby d) t hr⟩
theorem Go.ldcWInt {idx : Nat} {v : Int32} (H : Ok Z K own bytes maxL ret nm) (d : decode bytes pc = .ok (.ldc_w idx, 3)) (hp : pc + 3 = pc') (w : Jvm.Cond.constant own idx v ∈ tables_1) (r : Go l Z n0 R K Q h sf k j pc' ls (.int v :: st)) : Go l Z n0 R K Q h sf k j pc ls st := by
  subst hp
  refine Go.of2 H ?_ r
  intro p e s m args below meth c T locs a0 hw X hx hby hml hZ hown eT hO
  exact ⟨T, X, eT, fun t hr => X.ldcwInt hx hown (mvT hZ (hw _ w)) (g := mkF m pc ls st) rfl (hb hby d) t hr⟩
theorem Go.ldc2 {idx : Nat} {v : Int64} (H : Ok Z K own bytes maxL ret nm) (d : decode bytes pc = .ok (.ldc2_w idx, 3)) (hp : pc + 3 = pc') (w : Jvm.Cond.constantLong own idx v ∈ tables_1) (r : Go l Z n0 R K Q h sf k j pc' ls (.long v :: st)) : Go l Z n0 R K Q h sf k j pc ls st := by
  subst hp
  refine Go.of2 H ?_ r
  intro p e s m args below meth c T locs a0 hw X hx hby hml hZ hown eT hO
  exact ⟨T, X, eT, fun t hr => X.ldc2Long hx hown (mvT hZ (hw _ w)) (g := mkF m pc ls st) rfl (hb hby d) t hr⟩
theorem Go.getfield {idx : Nat} {O n d' : String} {a : Addr} {v : Value} (H : Ok Z K own bytes maxL ret nm) (d : decode bytes pc = .ok (.getfield idx, 3)) (hp : pc + 3 = pc') (w : Jvm.Cond.fieldLink own idx O n d' ∈ tables_1) (F : Fld Z h a O n d' v) (r : Go l Z n0 R K Q h sf k j pc' ls (v :: st)) : Go l Z n0 R K Q h sf k j pc ls (.ref a :: st) := by
  subst hp
  refine Go.of2 H ?_ r
  intro p e s m args below meth c T locs a0 hw X hx hby hml hZ hown eT hO
  exact getF X hx hZ hown (host := "") (Or.inl (hw _ w)) Via.refl eT F (g := mkF m pc ls (.ref a :: st)) rfl rfl (hb hby d)
theorem Go.getstatic {idx : Nat} {O n d' : String} {v : Value} (H : Ok Z K own bytes maxL ret nm) (d : decode bytes pc = .ok (.getstatic idx, 3)) (hp : pc + 3 = pc') (w : Jvm.Cond.fieldLink own idx O n d' ∈ tables_1) (F : Sta Z Z.heap O n d' v) (r : Go l Z n0 R K Q h sf k j pc' ls (v :: st)) : Go l Z n0 R K Q h sf k j pc ls st := by
  subst hp
  refine Go.of2 H ?_ r
  intro p e s m args below meth c T locs a0 hw X hx hby hml hZ hown eT hO
  exact getS (host := "") X hx hZ hown (hw _ w) Via.refl eT (F.ext hO.2) (g := mkF m pc ls st) rfl (hb hby d)
theorem Go.checkcast {idx : Nat} {C : String} {a : Addr} (H : Ok Z K own bytes maxL ret nm) (d : decode bytes pc = .ok (.checkcast idx, 3)) (hp : pc + 3 = pc') (w : Jvm.Cond.classLink own idx C ∈ tables_1) (F : Ins Z h a C true) (r : Go l Z n0 R K Q h sf k j pc' ls (.ref a :: st)) : Go l Z n0 R K Q h sf k j pc ls (.ref a :: st) := by
  subst hp
  refine Go.of2 H ?_ r
  intro p e s m args below meth c T locs a0 hw X hx hby hml hZ hown eT hO
  exact castY X hx hZ hown (hw _ w) eT F (g := mkF m pc ls (.ref a :: st)) rfl rfl (hb hby d)
theorem Go.instanceofY {idx : Nat} {C : String} {a : Addr} (H : Ok Z K own bytes maxL ret nm) (d : decode bytes pc = .ok (.instanceof idx, 3)) (hp : pc + 3 = pc') (w : Jvm.Cond.classLink own idx C ∈ tables_1) (F : Ins Z h a C true) (r : Go l Z n0 R K Q h sf k j pc' ls (.int 1 :: st)) : Go l Z n0 R K Q h sf k j pc ls (.ref a :: st) := by
  subst hp
  refine Go.of2 H ?_ r
  intro p e s m args below meth c T locs a0 hw X hx hby hml hZ hown eT hO
  exact instY X hx hZ hown (hw _ w) eT F (g := mkF m pc ls (.ref a :: st)) rfl rfl (hb hby d)
theorem Go.initObj {idx : Nat} {a : Addr} (H : Ok Z K own bytes maxL ret nm) (d : decode bytes pc = .ok (.invokespecial idx, 3)) (hp : pc + 3 = pc') (w1 : Jvm.Cond.methodLink own idx Lib.objectInit ∈ tables_1) (w2 : Jvm.Cond.instanceMethod Lib.objectInit ∈ tables_1) (w3 : Jvm.Cond.code Lib.objectInit ⟨#[0xb1]⟩ 1 none ∈ tables_1) (W : Nat) (hsz : ls.size = maxL) (hW : (st.map fun v => v.category).sum ≤ W) (hf : 1 ≤ R.frames) (hlo : W + 12 ≤ R.locals) (r : Go l Z n0 R K Q h sf k j pc' ls st) : Go l Z n0 R K Q h sf k j pc ls (.ref a :: st) := by
  subst hp
  refine Go.of2 H ?_ r
  intro p e s m args below meth c T locs a0 hw X hx hby hml hZ hown eT hO
  exact initO X hx hZ hown (hw _ w1) (hw _ w2) (hw _ w3) eT (g := mkF m pc ls (.ref a :: st)) rfl (by rw [hml]; exact hsz) rfl (hb hby d) hf (W := W) (by show 2 * 0 + _ ≤ _; simpa using hW) hlo
end Steps1
/-- an array whose components are just these ints -/
def Vec (Z : State) (h : Heap) (a : Addr) (ty : FieldType) (vs : List Int32) : Prop := ∃ c : Cell, Arr Z h a c ty ∧ c.slots.toList = vs.map Value.int ∧ ∀ v ∈ vs, fits ty (.int v) = true
section Vecs
variable {Z : State} {h h' : Heap} {a b : Addr} {ty : FieldType} {vs : List Int32} {ws : List Addr}
theorem Vec.lt (F : Vec Z h a ty vs) : a < h.size := by obtain ⟨c, A, -⟩ := F; exact A.lt
theorem Vec.ext (F : Vec Z h a ty vs) (E : Ext h h') : Vec Z h' a ty vs := by obtain ⟨c, A, q⟩ := F; exact ⟨c, A.ext E, q⟩
theorem Vec.keep (F : Vec Z h a ty vs) (K : Keep h h' ws) (q : a ∉ ws) : Vec Z h' a ty vs := by obtain ⟨c, A, r⟩ := F; exact ⟨c, ⟨K.2.1 a c A.1 q, A.2⟩, r⟩
theorem Vec.size {c : Cell} (q : c.slots.toList = vs.map Value.int) : c.slots.size = vs.length := by rw [← Array.length_toList, q, List.length_map]
theorem Vec.get {c : Cell} (q : c.slots.toList = vs.map Value.int) {i : Nat} {v : Int32} (hv : vs[i]? = some v) : c.slots[i]? = some (.int v) := by
  rw [← Array.getElem?_toList, q, List.getElem?_map, hv]; rfl
theorem Vec.set {i : Nat} {v : Int32} (F : Vec Z h a ty vs) (W : Wr h h' a i (.int v)) (hv : fits ty (.int v) = true) : Vec Z h' a ty (vs.set i v) := by
  obtain ⟨c, A, q, hf⟩ := F
  refine ⟨_, A.same W, ?_, fun u hu => (List.mem_or_eq_of_mem_set hu).elim (hf u) (fun e => e ▸ hv)⟩
  rw [List.map_set, ← q]
  show (c.slots.setIfInBounds i _).toList = _
  rw [Array.toList_setIfInBounds]
theorem Vec.ne {ty' : FieldType} {vs' : List Int32} (F : Vec Z h a ty vs) (G : Vec Z h b ty' vs') (hn : ty ≠ ty') : a ≠ b := fun e => by
  subst e
  obtain ⟨c, ⟨h1, ⟨-, k, g1, comp, g2⟩, -⟩, -, -⟩ := F
  obtain ⟨c', ⟨h1', ⟨-, k', g1', comp', g2'⟩, -⟩, -, -⟩ := G
  cases h1.symm.trans h1'
  cases g1.symm.trans g1'
  rw [g2] at g2'
  cases g2'
  exact hn rfl
theorem Vec.neExa {C : String} {x : Addr} {n : Nat} (F : Vec Z h a ty vs) (G : Exa Z h x C) (w : Wds Z) (hi : Jvm.Cond.instantiable C n ∈ tables_1) : a ≠ x := by
  obtain ⟨c, A, -⟩ := F
  obtain ⟨a0, hw⟩ := w.w
  exact (ne_arr G (hw _ hi) A).symm
end Vecs
section Steps2
variable {l : Launch} {Z : State} {n0 : Nat} {R : Room} {K : Cx} {Q : Option Value → Heap → List Addr → Prop} {h : Heap} {sf : List Addr} {k j pc pc' : Nat} {ls ls' : Array Slot} {st : List Value} {own : String} {bytes : ByteArray} {maxL : Nat} {ret : Option FieldType} {nm : String}
theorem Go.caload {a : Addr} {i : Int32} {v : Int32} {vs : List Int32} (H : Ok Z K own bytes maxL ret nm) (d : decode bytes pc = .ok (.caload, 1)) (hp : pc + 1 = pc') (F : Vec Z h a .char vs) (n : Nat) (hi : i.toNatClampNeg = n) (h0 : ¬ i < 0) (hv : vs[n]? = some v) (r : Go l Z n0 R K Q h sf k j pc' ls (.int v :: st)) : Go l Z n0 R K Q h sf k j pc ls (.int i :: .ref a :: st) := by
  subst hp
  refine Go.of2 H ?_ r
  intro p e s m args below meth c T locs a0 hw X hx hby hml hZ hown eT hO
  obtain ⟨c', A, q, -⟩ := F
  refine ⟨T, X, eT, fun t hr => X.caload hx (j := i) (v := .int v) (by rw [eT]; exact A.1) (State.isArrayOf_alike hZ.alike A.2.1) A.2.2 ?_ (by rw [hi]; exact Vec.get q hv) (g := mkF m pc ls (.int i :: .ref a :: st)) rfl rfl (hb hby d) t hr⟩
  rw [Vec.size q, hi]
  have := (List.getElem?_eq_some_iff.mp hv).1
  rintro (q | q)
  · exact h0 q
  · omega
theorem Go.baload {a : Addr} {i : Int32} {v : Int32} {vs : List Int32} (H : Ok Z K own bytes maxL ret nm) (d : decode bytes pc = .ok (.baload, 1)) (hp : pc + 1 = pc') (F : Vec Z h a .byte vs) (n : Nat) (hi : i.toNatClampNeg = n) (h0 : ¬ i < 0) (hv : vs[n]? = some v) (r : Go l Z n0 R K Q h sf k j pc' ls (.int v :: st)) : Go l Z n0 R K Q h sf k j pc ls (.int i :: .ref a :: st) := by
  subst hp
  refine Go.of2 H ?_ r
  intro p e s m args below meth c T locs a0 hw X hx hby hml hZ hown eT hO
  obtain ⟨c', A, q, -⟩ := F
  refine ⟨T, X, eT, fun t hr => X.baloadBytes hx (j := i) (v := .int v) (by rw [eT]; exact A.1) (State.isArrayOf_alike hZ.alike A.2.1) A.2.2 ?_ (by rw [hi]; exact Vec.get q hv) (g := mkF m pc ls (.int i :: .ref a :: st)) rfl rfl (hb hby d) t hr⟩
  rw [Vec.size q, hi]
  have := (List.getElem?_eq_some_iff.mp hv).1
  rintro (q | q)
  · exact h0 q
  · omega
theorem Go.iaload {a : Addr} {i : Int32} {v : Int32} {vs : List Int32} (H : Ok Z K own bytes maxL ret nm) (d : decode bytes pc = .ok (.iaload, 1)) (hp : pc + 1 = pc') (F : Vec Z h a .int vs) (n : Nat) (hi : i.toNatClampNeg = n) (h0 : ¬ i < 0) (hv : vs[n]? = some v) (r : Go l Z n0 R K Q h sf k j pc' ls (.int v :: st)) : Go l Z n0 R K Q h sf k j pc ls (.int i :: .ref a :: st) := by
  subst hp
  refine Go.of2 H ?_ r
  intro p e s m args below meth c T locs a0 hw X hx hby hml hZ hown eT hO
  obtain ⟨c', A, q, -⟩ := F
  refine ⟨T, X, eT, fun t hr => X.iaload hx (j := i) (v := .int v) (by rw [eT]; exact A.1) (State.isArrayOf_alike hZ.alike A.2.1) A.2.2 ?_ (by rw [hi]; exact Vec.get q hv) (g := mkF m pc ls (.int i :: .ref a :: st)) rfl rfl (hb hby d) t hr⟩
  rw [Vec.size q, hi]
  have := (List.getElem?_eq_some_iff.mp hv).1
  rintro (q | q)
  · exact h0 q
  · omega
theorem Go.arraylength {a : Addr} {ty : FieldType} {vs : List Int32} (v : Int32) (H : Ok Z K own bytes maxL ret nm) (d : decode bytes pc = .ok (.arraylength, 1)) (hp : pc + 1 = pc') (F : Vec Z h a ty vs) (hv : vs.length.toInt32 = v) (r : Go l Z n0 R K Q h sf k j pc' ls (.int v :: st)) : Go l Z n0 R K Q h sf k j pc ls (.ref a :: st) := by
  subst hp
  refine Go.of2 H ?_ r
  intro p e s m args below meth c T locs a0 hw X hx hby hml hZ hown eT hO
  obtain ⟨c', A, q, -⟩ := F
  refine ⟨T, X, eT, fun t hr => X.arraylength hx (by rw [eT]; exact A.1) (State.isArrayOf_alike hZ.alike A.2.1) (g := mkF m pc ls (.ref a :: st)) rfl rfl (hb hby d) t ?_⟩
  rw [Vec.size q, hv]; exact hr
theorem Go.castore {a : Addr} {i x : Int32} {vs : List Int32} (v : Int32) (H : Ok Z K own bytes maxL ret nm) (d : decode bytes pc = .ok (.castore, 1)) (hp : pc + 1 = pc') (F : Vec Z h a .char vs) (n : Nat) (hi : i.toNatClampNeg = n) (h0 : ¬ i < 0) (hn : n < vs.length) (hx : nar .char x = v) (ha : n0 ≤ a) (hs : a ∈ sf) (r : ∀ h', Keep h h' [a] → Vec Z h' a .char (vs.set n v) → Go l Z n0 R K Q h' sf k j pc' ls st) : Go l Z n0 R K Q h sf k j pc ls (.int x :: .int i :: .ref a :: st) := by
  subst hp hx
  refine Go.ofWr (a := a) (sl := i.toNatClampNeg) (v := .int (nar .char x)) H ha hs ?_ (fun h' W => r h' (Keep.of_wr W) (by rw [← hi]; exact F.set W (fits_nar_char _)))
  intro p e s m args below meth c T locs a0 hw X hx hby hZ hown hnm eT
  obtain ⟨c', A, q, -⟩ := F
  refine stC X hx hZ eT A (j := i) ?_ (g := mkF m pc ls (.int x :: .int i :: .ref a :: st)) rfl rfl (hb hby d)
  rw [Vec.size q, hi]
  rintro (q | q)
  · exact h0 q
  · omega
theorem Go.bastore {a : Addr} {i x : Int32} {vs : List Int32} (v : Int32) (H : Ok Z K own bytes maxL ret nm) (d : decode bytes pc = .ok (.bastore, 1)) (hp : pc + 1 = pc') (F : Vec Z h a .byte vs) (n : Nat) (hi : i.toNatClampNeg = n) (h0 : ¬ i < 0) (hn : n < vs.length) (hx : nar .byte x = v) (ha : n0 ≤ a) (hs : a ∈ sf) (r : ∀ h', Keep h h' [a] → Vec Z h' a .byte (vs.set n v) → Go l Z n0 R K Q h' sf k j pc' ls st) : Go l Z n0 R K Q h sf k j pc ls (.int x :: .int i :: .ref a :: st) := by
  subst hp hx
  refine Go.ofWr (a := a) (sl := i.toNatClampNeg) (v := .int (nar .byte x)) H ha hs ?_ (fun h' W => r h' (Keep.of_wr W) (by rw [← hi]; exact F.set W (fits_nar_byte _)))
  intro p e s m args below meth c T locs a0 hw X hx hby hZ hown hnm eT
  obtain ⟨c', A, q, -⟩ := F
  refine stB X hx hZ eT A (j := i) ?_ (g := mkF m pc ls (.int x :: .int i :: .ref a :: st)) rfl rfl (hb hby d)
  rw [Vec.size q, hi]
  rintro (q | q)
  · exact h0 q
  · omega
theorem Go.newarray {aty : ArrayType} {n : Int32} (N : Nat) (cap : Nat) (H : Ok Z K own bytes maxL ret nm) (d : decode bytes pc = .ok (.newarray aty, 2)) (hp : pc + 2 = pc') (w : Jvm.Cond.arrayClass (newarray.typeOf aty) ∈ tables_1) (hd : defaultValue (newarray.typeOf aty) = .int 0) (hft : fits (newarray.typeOf aty) (.int 0) = true) (hn : ¬ n < 0) (hN : n.toNatClampNeg = N) (hcap : N ≤ cap) (hb' : cap * 8 ≤ 536870912) (hce : k + 1 ≤ R.cells) (hsl : j + cap ≤ R.slots)
    (r : ∀ a h', a = h.size → n0 ≤ a → Ext h h' → Vec Z h' a (newarray.typeOf aty) (List.replicate N 0) → Go l Z n0 R K Q h' (a :: sf) (k + 1) (j + cap) pc' ls (.ref a :: st)) : Go l Z n0 R K Q h sf k j pc ls (.int n :: st) := by
  subst hp hN
  refine Go.ofNew (P := fun a h' => Vec Z h' a (newarray.typeOf aty) (List.replicate n.toNatClampNeg 0)) H ?_ (fun a h' F => F.lt) r
  intro p e s m args below meth c T locs a0 hw X hx hby hZ hown eT
  obtain ⟨T', h', cA, X', eT', E, A, stp⟩ := newP X hx hZ (hw _ w) eT (g := mkF m pc ls (.int n :: st)) rfl (hb hby d) rfl hn (cap := cap) hcap hb' hce hsl
  refine ⟨T', h', X', eT', E, ⟨_, A, ?_, fun v hv => by rw [List.eq_of_mem_replicate hv]; exact hft⟩, stp⟩
  simp [newA, hd]
theorem Go.new {C : String} {idx n : Nat} (H : Ok Z K own bytes maxL ret nm) (d : decode bytes pc = .ok (.new idx, 3)) (hp : pc + 3 = pc') (w : Jvm.Cond.classLink own idx C ∈ tables_1) (wi : Jvm.Cond.instantiable C n ∈ tables_1) (wz : Jvm.Cond.initialized C ∈ tables_1) (hce : k + 1 ≤ R.cells) (hsl : j + n ≤ R.slots)
    (r : ∀ a h', a = h.size → n0 ≤ a → Ext h h' → Exa Z h' a C → (∀ {O nm d : String} {ty : FieldType}, (Jvm.Cond.lays C O nm d ∈ tables_1 ∨ Jvm.Cond.laysFinal C O nm d ∈ tables_1) → parseFieldDescriptor d = some ty → Fld Z h' a O nm d (defaultValue ty)) → Go l Z n0 R K Q h' (a :: sf) (k + 1) (j + n) pc' ls (.ref a :: st)) : Go l Z n0 R K Q h sf k j pc ls st := by
  subst hp
  refine Go.ofNew (P := fun a h' => Exa Z h' a C ∧ (∀ {O nm d : String} {ty : FieldType}, (Jvm.Cond.lays C O nm d ∈ tables_1 ∨ Jvm.Cond.laysFinal C O nm d ∈ tables_1) → parseFieldDescriptor d = some ty → Fld Z h' a O nm d (defaultValue ty))) H ?_ (fun a h' F => F.1.lt) (fun a h' e1 e2 E hP => r a h' e1 e2 E hP.1 hP.2)
  intro p e s m args below meth c T locs a0 hw X hx hby hZ hown eT
  obtain ⟨T', h', X', eT', E, A, D, -, stp⟩ := newO X hx hZ hown (hw _ w) (hw _ wi) (hw _ wz) eT (g := mkF m pc ls st) rfl (hb hby d) hce hsl
  exact ⟨T', h', X', eT', E, ⟨A, fun L ht => D (L.imp (hw _) (hw _)) ht⟩, stp⟩
theorem Go.putfield {idx kk : Nat} {C O n d' : String} {ty : FieldType} {a : Addr} {x v old : Value} (H : Ok Z K own bytes maxL ret nm) (d : decode bytes pc = .ok (.putfield idx, 3)) (hp : pc + 3 = pc') (w : Jvm.Cond.fieldLink own idx O n d' ∈ tables_1) (F : Fld Z h a O n d' old) (E : Exa Z h a C) (L : Jvm.Cond.lays C O n d' ∈ tables_1 ∨ (Jvm.Cond.laysFinal C O n d' ∈ tables_1 ∧ own = O ∧ nm = "<init>")) (wi : Jvm.Cond.instantiable C kk ∈ tables_1) (hty : parseFieldDescriptor d' = some ty) (hn : narrow ty x = v) (hf : fits ty v = true) (ha : n0 ≤ a) (hs : a ∈ sf)
    (r : ∀ h', Wr h h' a (Jvm.RoadKit.slotOf Z O n d') v → Go l Z n0 R K Q h' sf k j pc' ls st) : Go l Z n0 R K Q h sf k j pc ls (x :: .ref a :: st) := by
  subst hp
  refine Go.ofWr (a := a) (sl := Jvm.RoadKit.slotOf Z O n d') (v := v) H ha hs ?_ r
  intro p e s m args below meth c T locs a0 hw X hx hby hZ hown hnm eT
  exact putFN X hx hZ hown (hw _ w) Via.refl eT F E (L.imp (hw _) (fun q => ⟨hw _ q.1, q.2.1, hnm.trans q.2.2⟩)) (hw _ wi) hty hn hf (g := mkF m pc ls (x :: .ref a :: st)) rfl rfl (hb hby d)
theorem Go.ireturn {x : Int32} {t : FieldType} (v : Int32) (sn : List Addr) (H : Ok Z K own bytes maxL (some t) nm) (d : decode bytes pc = .ok (.ireturn, 1)) (ht : t = .boolean ∨ t = .byte ∨ t = .char ∨ t = .short) (hv : nar t x = v) (hq : Q (some (.int v)) h sn) (hs : ∀ y ∈ sn, y ∈ sf) (hk : k ≤ R.cells) (hj : j ≤ R.slots) : Go l Z n0 R K Q h sf k j pc ls (.int x :: st) := by
  subst hv
  exact Go.ret0 H (v := some (.int (nar t x))) (fun q => nomatch q) hq hs hk hj (fun p e s m args below meth c T locs fs X hx hby hret hl => retN X hx hret ht (hb hby d) hl)
theorem Go.ireturnI {x : Int32} (sn : List Addr) (H : Ok Z K own bytes maxL (some .int) nm) (d : decode bytes pc = .ok (.ireturn, 1)) (hq : Q (some (.int x)) h sn) (hs : ∀ y ∈ sn, y ∈ sf) (hk : k ≤ R.cells) (hj : j ≤ R.slots) : Go l Z n0 R K Q h sf k j pc ls (.int x :: st) := by
  exact Go.ret0 H (v := some (.int x)) (fun q => nomatch q) hq hs hk hj (fun p e s m args below meth c T locs fs X hx hby hret hl => retOut X hx hret rfl (Or.inl ⟨rfl, Or.inl rfl, _, rfl⟩) (hb hby d) hl)
theorem Go.lreturn {x : Int64} (sn : List Addr) (H : Ok Z K own bytes maxL (some .long) nm) (d : decode bytes pc = .ok (.lreturn, 1)) (hq : Q (some (.long x)) h sn) (hs : ∀ y ∈ sn, y ∈ sf) (hk : k ≤ R.cells) (hj : j ≤ R.slots) : Go l Z n0 R K Q h sf k j pc ls (.long x :: st) := by
  exact Go.ret0 H (v := some (.long x)) (fun q => nomatch q) hq hs hk hj (fun p e s m args below meth c T locs fs X hx hby hret hl => retOut X hx hret rfl (Or.inr (Or.inl ⟨rfl, rfl, _, rfl⟩)) (hb hby d) hl)
theorem Go.areturn {x : Value} {t : FieldType} (sn : List Addr) (H : Ok Z K own bytes maxL (some t) nm) (d : decode bytes pc = .ok (.areturn, 1)) (ht : t.isReference = true) (hx : x.isRef = true) (hn : narrow t x = x) (hq : Q (some x) h sn) (hs : ∀ y ∈ sn, y ∈ sf) (hk : k ≤ R.cells) (hj : j ≤ R.slots) : Go l Z n0 R K Q h sf k j pc ls (x :: st) := by
  exact Go.ret0 H (v := some x) (fun q => nomatch q) hq hs hk hj (fun p e s m args below meth c T locs fs X hx' hby hret hl => retOut X hx' hret hn (Or.inr (Or.inr (Or.inr (Or.inr ⟨rfl, ht, hx⟩)))) (hb hby d) hl)
theorem Go.return_ (sn : List Addr) (H : Ok Z K own bytes maxL none nm) (d : decode bytes pc = .ok (.return_, 1)) (hq : Q none h sn) (hs : ∀ y ∈ sn, y ∈ sf) (hk : k ≤ R.cells) (hj : j ≤ R.slots) : Go l Z n0 R K Q h sf k j pc ls [] := by
  exact Go.ret0 H (v := none) (fun _ => rfl) hq hs hk hj (fun p e s m args below meth c T locs fs X hx hby hret hl => X.returnOut hx hret (hb hby d) hl)
theorem own_toarv {Z : State} {h : Heap} {a : Addr} {ty : FieldType} {vs : List Int32} (F : Vec Z h a ty vs) (hn : vs.length < 2 ^ 31) : ∃ kc, Arv Z h a kc ty vs.length.toInt32 (vs.map Value.int) (.int 0) := by
  obtain ⟨c, A, q, hf⟩ := F
  have hs := Vec.size q
  have e : vs.length.toInt32.toNatClampNeg = vs.length := by rw [Int32.toNatClampNeg, len_toInt hn]; simp
  have hg : ∀ i, i < vs.length → (vs.map Value.int).getD i (.int 0) = .int (vs.getD i 0) := fun i hi => by simp [List.getD, hi]
  refine ⟨c.cls, c, A, rfl, by rw [hs, e], by rw [Int32.lt_iff_toInt_lt, len_toInt hn]; simp, fun i hi => ?_, fun i hi => ?_⟩
  · rw [hg i (by omega)]
    exact Vec.get q (by simp [List.getD, show i < vs.length by omega])
  · rw [hg i (by omega)]
    exact hf _ (by have : i < vs.length := by omega
                   simp [List.getD, this])
theorem own_ofarv {Z : State} {h : Heap} {b : Addr} {k : ClassId} {ty : FieldType} {z : Int32} {bs : List Int32} (F : Arv Z h b k ty z (bs.map Value.int) (.int 0)) (hz : z.toNatClampNeg = bs.length) : Vec Z h b ty bs := by
  obtain ⟨c, A, -, S, -, H, G⟩ := F
  refine ⟨c, A, ?_, fun v hv => ?_⟩
  · apply List.ext_getElem?
    intro i
    rw [Array.getElem?_toList]
    by_cases hi : i < c.slots.size
    · have hb : i < bs.length := by omega
      rw [H i hi]; simp [List.getD, hb]
    · rw [Array.getElem?_eq_none (by omega), List.getElem?_eq_none (by simp; omega)]
  · obtain ⟨i, hi, rfl⟩ := List.mem_iff_getElem.mp hv
    have := G i (by omega)
    simpa [List.getD, hi] using this
/-- System.arraycopy between two arrays of one primitive kind; sp, dp, nn: the two places and how many -/
theorem Go.arraycopy {idx : Nat} {a b : Addr} {ty : FieldType} {us vs : List Int32} {sp dp nn : Int32} (S D N : Nat) (H : Ok Z K own bytes maxL ret nm) (d : decode bytes pc = .ok (.invokestatic idx, 3)) (hp : pc + 3 = pc') (w1 : Jvm.Cond.methodLink own idx Jvm.Stand.acN ∈ tables_1) (w2 : Jvm.Cond.native Jvm.Stand.acN ∈ tables_1) (w3 : Jvm.Cond.static Jvm.Stand.acN ∈ tables_1) (w4 : Jvm.Cond.initialized "java/lang/System" ∈ tables_1)
    (A : Vec Z h a ty us) (B : Vec Z h b ty vs) (hu : us.length < 2 ^ 31) (hv : vs.length < 2 ^ 31) (hty : refKind ty = false) (hS : sp.toNatClampNeg = S) (hD : dp.toNatClampNeg = D) (hN : nn.toNatClampNeg = N) (h1 : ¬ sp < 0) (h2 : ¬ dp < 0) (h3 : ¬ nn < 0) (h4 : S + N ≤ us.length) (h5 : D + N ≤ vs.length) (ha : n0 ≤ b) (hs : b ∈ sf) (W : Nat) (hsz : ls.size = maxL) (hW : (st.map fun v => v.category).sum ≤ W) (hf : 1 ≤ R.frames) (hlo : W + (nativeFrameWords "java/lang/System" "arraycopy" 5 + 11) ≤ R.locals)
    (r : ∀ h', Keep h h' [b] → Vec Z h' b ty (vs.take D ++ (us.drop S).take N ++ vs.drop (D + N)) → Go l Z n0 R K Q h' sf k j pc' ls st) : Go l Z n0 R K Q h sf k j pc ls (.int nn :: .int dp :: .ref b :: .int sp :: .ref a :: st) := by
  subst hp hS hD hN
  refine Go.ofKeep (b := b) (P := fun h' => Vec Z h' b ty (vs.take dp.toNatClampNeg ++ (us.drop sp.toNatClampNeg).take nn.toNatClampNeg ++ vs.drop (dp.toNatClampNeg + nn.toNatClampNeg))) H ha hs ?_ r
  intro p e s m args below meth c T locs a0 hw X hx hby hml hZ hown eT hF
  obtain ⟨ka, A'⟩ := own_toarv A hu
  obtain ⟨kb, B'⟩ := own_toarv B hv
  have eu : us.length.toInt32.toNatClampNeg = us.length := by rw [Int32.toNatClampNeg, len_toInt hu]; simp
  have ev : vs.length.toInt32.toNatClampNeg = vs.length := by rw [Int32.toNatClampNeg, len_toInt hv]; simp
  have hus : ((us.drop sp.toNatClampNeg).take nn.toNatClampNeg).map Value.int = (List.range nn.toNatClampNeg).map fun i => (us.map Value.int).getD (sp.toNatClampNeg + i) (.int 0) := by
    apply List.ext_getElem
    · simp; omega
    · intro i g1 g2
      simp only [List.length_map, List.length_take, List.length_drop] at g1
      have g3 : sp.toNatClampNeg + i < us.length := by omega
      simp [List.getD, g3]
  obtain ⟨T', h', L, X', eT', hL, hK, V, stp⟩ := cpA X hx hZ hown (hw _ w1) (hw _ w2) (hw _ w3) (hw _ w4) eT A' B' (Or.inl ⟨rfl, hty⟩) h1 h2 h3 (by rw [eu]; exact h4) (by rw [ev]; exact h5) hus (by simpa using h5) hF ha (g := mkF m pc ls (.int nn :: .int dp :: .ref b :: .int sp :: .ref a :: st)) rfl (by rw [hml]; exact hsz) rfl (hb hby d) hf (W := W) (by show 2 * 0 + _ ≤ _; simpa using hW) hlo
  refine ⟨T', h', L, X', eT', hL, hK, own_ofarv (by rw [List.map_append, List.map_append, List.map_take, List.map_drop]; exact V) ?_, stp⟩
  rw [ev]; simp; omega
end Steps2
/-! numbers and strings -/
theorem own_ins {Z : State} {h : Heap} {a : Addr} {C D : String} (W : Wds Z) (F : Exa Z h a C) (w : Jvm.Cond.castable C D ∈ tables_1) : Ins Z h a D true := by
  obtain ⟨a0, hw⟩ := W.w; exact Ins.of_exa F (hw _ w)
theorem own_sne {Z : State} {C O n d O' n' d' : String} {t t' : FieldType} (W : Wds Z) (L : Jvm.Cond.lays C O n d ∈ tables_1 ∨ Jvm.Cond.laysFinal C O n d ∈ tables_1) (L' : Jvm.Cond.lays C O' n' d' ∈ tables_1 ∨ Jvm.Cond.laysFinal C O' n' d' ∈ tables_1) (hn : n ≠ n') (ht : parseFieldDescriptor d = some t) (ht' : parseFieldDescriptor d' = some t') : Jvm.RoadKit.slotOf Z O n d ≠ Jvm.RoadKit.slotOf Z O' n' d' := by
  obtain ⟨a0, hw⟩ := W.w
  exact slot_ne (a0 := a0) (C := C) (L.imp (hw _) (hw _)) (L'.imp (hw _) (hw _)) hn ht ht'
theorem own_len {n : Nat} (h : n < 2 ^ 31) : n.toInt32.toInt = n := len_toInt h
theorem own_lt {i n : Nat} (hn : n < 2 ^ 31) (h : i < n) : i.toInt32 < n.toInt32 := by
  rw [Int32.lt_iff_toInt_lt, own_len hn, own_len (by omega)]; omega
theorem own_nlt {i n : Nat} (hi : i < 2 ^ 31) (h : n ≤ i) : ¬ i.toInt32 < n.toInt32 := by
  rw [Int32.lt_iff_toInt_lt, own_len hi, own_len (by omega)]; omega
theorem own_n0 {i : Nat} (h : i < 2 ^ 31) : ¬ i.toInt32 < 0 := by
  rw [Int32.lt_iff_toInt_lt, own_len h]; simp
theorem own_cl {i : Nat} (h : i < 2 ^ 31) : i.toInt32.toNatClampNeg = i := by
  rw [Int32.toNatClampNeg, own_len h]; simp
theorem own_s (i : Nat) : i.toInt32 + 1 = (i + 1).toInt32 := (Int32.ofNat_add i 1).symm
theorem own_ne0 {n : Nat} (hn : n < 2 ^ 31) (h : 0 < n) : ¬ n.toInt32 = 0 := fun e => by
  have := congrArg Int32.toInt e; rw [own_len hn] at this; simp at this; omega
def isL (c : Int32) : Prop := 0 ≤ c.toInt ∧ c.toInt ≤ 255
def isC (c : Int32) : Prop := 0 ≤ c.toInt ∧ c.toInt ≤ 65535
theorem isL.c {c : Int32} (h : isL c) : isC c := ⟨h.1, by have := h.2; omega⟩
theorem own_char {x : Int32} (h : isC x) : nar .char x = x := Int32.toInt_inj.mp (by have := c_i2c x; obtain ⟨h1, h2⟩ := h; simp only [nar]; omega)
theorem own_isC (x : Int32) : isC (nar .char x) := by have := c_i2c x; simp only [nar]; exact ⟨this.2.1, by omega⟩
theorem own_nn {x : Int32} : nar .char (nar .char x) = nar .char x := own_char (own_isC x)
theorem own_nb {x : Int32} : nar .byte (nar .byte x) = nar .byte x := by
  have h1 := c_i2b x
  have h2 := c_i2b (nar .byte x)
  simp only [nar] at *
  exact Int32.toInt_inj.mp (by omega)
theorem own_back {c : Int32} (h : isL c) : nar .char (nar .byte c &&& 255) = c := by
  have h1 := c_i2b c
  have h2 := c_mask (nar .byte c) 255 8 (by decide) (by decide)
  have h3 := c_i2c (nar .byte c &&& 255)
  obtain ⟨g1, g2⟩ := h
  simp only [nar] at *
  exact Int32.toInt_inj.mp (by omega)
theorem own_le255 {c : Int32} (h : isL c) : ¬ (255 : Int32) < c := by
  rw [Int32.lt_iff_toInt_lt]; have := h.2; simp only [Int32.reduceToInt]; omega
theorem own_cat {f : Value} (h : f.isRef = true) : f.category = 1 := by rcases ref_cases h with rfl | ⟨a, rfl⟩ <;> rfl
theorem own_ext {h h' : Heap} (K : Keep h h' []) : Ext h h' := ⟨K.1, fun a c q => K.2.1 a c q nin0⟩
theorem own_keep {h h' : Heap} {ws : List Addr} (E : Ext h h') : Keep h h' ws := (Keep.refl _ _).ext E
theorem Exa.ltb {Z : State} {h : Heap} {a : Addr} {C : String} (F : Exa Z h a C) : a < h.size := F.lt
/-- a Latin-1 String x whose bytes lie at b -/
def Str (Z : State) (h : Heap) (x b : Addr) (cs : List Int32) : Prop := Exa Z h x "java/lang/String" ∧ Fld Z h x "java/lang/String" "value" "[B" (.ref b) ∧ Fld Z h x "java/lang/String" "coder" "B" (.int 0) ∧ Vec Z h b .byte (cs.map (nar .byte)) ∧ (∀ c ∈ cs, isL c) ∧ cs.length < 2 ^ 31
section StrF
variable {Z : State} {h h' : Heap} {x b : Addr} {cs : List Int32} {ws : List Addr}
theorem Str.lt (F : Str Z h x b cs) : x < h.size := F.1.lt
theorem Str.ltb (F : Str Z h x b cs) : b < h.size := F.2.2.2.1.lt
theorem Str.ext (F : Str Z h x b cs) (E : Ext h h') : Str Z h' x b cs := ⟨F.1.ext E, F.2.1.ext E, F.2.2.1.ext E, F.2.2.2.1.ext E, F.2.2.2.2⟩
theorem Str.keep (F : Str Z h x b cs) (K : Keep h h' ws) (q : x ∉ ws) (q' : b ∉ ws) : Str Z h' x b cs := ⟨F.1.keep K, F.2.1.keep K q, F.2.2.1.keep K q, F.2.2.2.1.keep K q', F.2.2.2.2⟩
end StrF
theorem own_and255 (y : Int32) : isL (nar .char (y &&& 255)) := by
  have h1 := c_and y 255 (by decide)
  have h2 : (255 : Int32).toInt = 255 := by decide
  have h3 : nar .char (y &&& 255) = y &&& 255 := own_char ⟨h1.1, by omega⟩
  rw [h3]; exact ⟨h1.1, by omega⟩
theorem own_an {P : Int32 → Prop} : ∀ c ∈ ([] : List Int32), P c := fun _ q => nomatch q
theorem own_ac {P : Int32 → Prop} {a : Int32} {t : List Int32} (h : P a) (r : ∀ c ∈ t, P c) : ∀ c ∈ a :: t, P c := fun c q => by
  rcases List.mem_cons.mp q with rfl | q
  · exact h
  · exact r c q
theorem own_narR {t : FieldType} {v : Value} (h : v.isRef = true) : narrow t v = v := by rcases ref_cases h with rfl | ⟨a, rfl⟩ <;> cases t <;> rfl
theorem own_fitR {t : FieldType} {v : Value} (h : v.isRef = true) (ht : t.isReference = true) : fits t v = true := by rcases ref_cases h with rfl | ⟨a, rfl⟩ <;> cases t <;> first | rfl | (cases ht)
theorem Fld.det {Z : State} {h : Heap} {a : Addr} {C n d : String} {v w : Value} (F : Fld Z h a C n d v) (G : Fld Z h a C n d w) : v = w := Decidable.byContradiction fun q => (F.ne G q) rfl
theorem Vec.det {Z : State} {h : Heap} {a : Addr} {ty ty' : FieldType} {vs ws : List Int32} (F : Vec Z h a ty vs) (G : Vec Z h a ty' ws) : vs = ws := by
  obtain ⟨c, A, q, -⟩ := F
  obtain ⟨c', A', q', -⟩ := G
  cases A.1.symm.trans A'.1
  have e := q.symm.trans q'
  exact (List.map_inj_right (fun a b e => by cases e; rfl)).mp e
theorem own_inj {c d : Int32} (h : isL c) (g : isL d) (e : nar .byte c = nar .byte d) : c = d := by rw [← own_back h, ← own_back g, e]
theorem own_mapinj : ∀ {cs ds : List Int32}, (∀ c ∈ cs, isL c) → (∀ d ∈ ds, isL d) → cs.map (nar .byte) = ds.map (nar .byte) → cs = ds
  | [], [], _, _, _ => rfl
  | [], _ :: _, _, _, e => by cases e
  | _ :: _, [], _, _, e => by cases e
  | c :: cs, d :: ds, h, g, e => by
    simp only [List.map_cons, List.cons.injEq] at e
    rw [own_inj (h c (by simp)) (g d (by simp)) e.1, own_mapinj (fun c q => h c (by simp [q])) (fun c q => g c (by simp [q])) e.2]
theorem Str.det {Z : State} {h : Heap} {x b b' : Addr} {cs ds : List Int32} (F : Str Z h x b cs) (G : Str Z h x b' ds) : cs = ds := by
  have e := Fld.det F.2.1 G.2.1
  cases e
  exact own_mapinj F.2.2.2.2.1 G.2.2.2.2.1 (F.2.2.2.1.det G.2.2.2.1)
theorem own_ofinj {i n : Nat} (hi : i < 2 ^ 31) (hn : n < 2 ^ 31) (e : i.toInt32 = n.toInt32) : i = n := by
  have := congrArg Int32.toInt e; rw [own_len hi, own_len hn] at this; omega
theorem Go.ldcS {l : Launch} {Z : State} {n0 : Nat} {R : Room} {K : Cx} {Q : Option Value → Heap → List Addr → Prop} {h : Heap} {sf : List Addr} {k j pc pc' : Nat} {ls : Array Slot} {st : List Value} {own : String} {bytes : ByteArray} {maxL : Nat} {ret : Option FieldType} {nm : String} {idx : Nat} {text : String} (cs : List Int32) (zl : Int32) (n : Nat)
    (H : Ok Z K own bytes maxL ret nm) (d : decode bytes pc = .ok (.ldc idx, 2)) (hp : pc + 2 = pc') (w : Jvm.Cond.stringLink own idx text ∈ tables_1) (hm : (own, idx) ∈ consts_1) (ht : (∀ c ∈ text.toList, c.toNat < 256) ∧ text.toList.map (fun c => Value.int (Jvm.Lit.byteI c.toNat.toUInt16)) = (cs.map (nar .byte)).map Value.int) (hL : ∀ c ∈ cs, isL c) (hz : ¬ zl < 0) (hl : zl.toNatClampNeg = cs.length) (hn : 4 * text.toList.length ≤ n) (hbig : n ≤ 536870912) (hc : k + 2 ≤ R.cells) (hsl : j + (n + 4) ≤ R.slots)
    (r : ∀ a b h', Ext h h' → Str Z h' a b cs → (∀ x ∈ sf, x ≠ a ∧ x ≠ b) → Go l Z n0 R K Q h' sf (k + 2) (j + (n + 4)) pc' ls (.ref a :: st)) : Go l Z n0 R K Q h sf k j pc ls st := by
  subst hp
  obtain ⟨p, e, s, m, args, below, meth, c⟩ := K
  intro vm0 k0 T locs X eT hS hk hC hSf hF hO
  obtain ⟨H1, H2, H3, H4, H5, H6, H7, H8, a0, hw, hEL, hat⟩ := H
  have hZ0 : Z.Warmed39 vm0 := State.Warmed39.trans H6 hS.1
  have hown0 : vm0.findClass own = some m.cls := (hS.1.alike.findClass _ _).trans H5
  obtain ⟨a, T', h', k1, b, kc, X', eT', E, hS', hk', hZ', hown', A, Fc, Fv, V, la, lb, hC', -, hne, stp⟩ := ldcCH X H1 hZ0 hown0 (hw _ w) hat eT hS hk hEL hm hC.1 (vs := (cs.map (nar .byte)).map Value.int) (z := zl) ht hz (by simp [hl]) (g := mkF m pc ls st) rfl (hb H2 d) hn hbig hc hsl
  have hS2 := hSf.chr hC'
  have hlen := (back32 hz).2
  obtain ⟨s₂, o, h1, h2⟩ := r a b h' E ⟨A, Fv, Fc, own_ofarv V (by simp [hl]), hL, by omega⟩ (fun x hx => hne x (hS2 x hx).2) T'.vm k1 T' locs X' eT' hS' hk' (hC.trans hC') hS2 hF (hO.ext E)
  exact ⟨s₂, o, stp _ h1, h2⟩
def Sx (Z : State) (z : Int32) (f : Value) : Prop := Wds Z ∧ ¬ z = 0 ∧ Sta Z Z.heap "java/lang/String" "COMPACT_STRINGS" "Z" (.int z) ∧ f.isRef = true ∧ Sta Z Z.heap "jdk/internal/util/Preconditions" "SIOOBE_FORMATTER" "Ljava/util/function/BiFunction;" f
theorem d7_3 : decode jdk_52_method_21_code 3 = .ok (.iload 5, 2) := by decide +kernel
theorem d7_5 : decode jdk_52_method_21_code 5 = .ok (.iload 4, 2) := by decide +kernel
theorem d7_7 : decode jdk_52_method_21_code 7 = .ok (.if_icmp .ge 37, 3) := by decide +kernel
theorem d7_44 : decode jdk_52_method_21_code 44 = .ok (.iload 4, 2) := by decide +kernel
theorem d7_46 : decode jdk_52_method_21_code 46 = .ok (.ireturn, 1) := by decide +kernel
theorem d7_10 : decode jdk_52_method_21_code 10 = .ok (.aload_n 0, 1) := by decide +kernel
theorem d7_11 : decode jdk_52_method_21_code 11 = .ok (.iload_n 1, 1) := by decide +kernel
theorem d7_12 : decode jdk_52_method_21_code 12 = .ok (.caload, 1) := by decide +kernel
theorem d7_13 : decode jdk_52_method_21_code 13 = .ok (.istore 6, 2) := by decide +kernel
theorem d7_15 : decode jdk_52_method_21_code 15 = .ok (.iload 6, 2) := by decide +kernel
theorem d7_17 : decode jdk_52_method_21_code 17 = .ok (.sipush 255, 3) := by decide +kernel
theorem d7_20 : decode jdk_52_method_21_code 20 = .ok (.if_icmp .le 6, 3) := by decide +kernel
theorem d7_26 : decode jdk_52_method_21_code 26 = .ok (.aload_n 2, 1) := by decide +kernel
theorem d7_27 : decode jdk_52_method_21_code 27 = .ok (.iload_n 3, 1) := by decide +kernel
theorem d7_28 : decode jdk_52_method_21_code 28 = .ok (.iload 6, 2) := by decide +kernel
theorem d7_30 : decode jdk_52_method_21_code 30 = .ok (.i2b, 1) := by decide +kernel
theorem d7_31 : decode jdk_52_method_21_code 31 = .ok (.bastore, 1) := by decide +kernel
theorem d7_32 : decode jdk_52_method_21_code 32 = .ok (.iinc 1 1, 3) := by decide +kernel
theorem d7_35 : decode jdk_52_method_21_code 35 = .ok (.iinc 3 1, 3) := by decide +kernel
theorem d7_38 : decode jdk_52_method_21_code 38 = .ok (.iinc 5 1, 3) := by decide +kernel
theorem d7_41 : decode jdk_52_method_21_code 41 = .ok (.goto (-38), 3) := by decide +kernel
abbrev N0 : MethodName := ⟨"java/lang/StringUTF16", "compress", "([CI[BII)I"⟩

theorem own_full {Z : State} {h : Heap} {d : Addr} {cs : List Int32} {i : Nat} (e : i = cs.length) (F : Vec Z h d .byte ((cs.take i).map (nar .byte) ++ List.replicate 0 0)) : Vec Z h d .byte (cs.map (nar .byte)) := by
  subst e; simpa using F
theorem own_fill {cs : List Int32} {g : Int32 → Int32} {i m : Nat} {c : Int32} (hc : cs[i]? = some c) : ((cs.take i).map g ++ List.replicate (m + 1) 0).set i (g c) = (cs.take (i + 1)).map g ++ List.replicate m 0 := by
  have hl : i < cs.length := (List.getElem?_eq_some_iff.mp hc).1
  have h1 : ((cs.take i).map g).length = i := by simp; omega
  rw [List.set_append_right _ _ (by omega), h1, Nat.sub_self, List.replicate_succ, List.set_cons_zero, List.take_add_one, hc]; simp
set_option maxRecDepth 65536 in
theorem lp_cmp5 (l : Launch) {Z : State} {n0 : Nat} (a d : Addr) (cs : List Int32) (h0 : Heap) (hL : ∀ c ∈ cs, isL c) (hn : cs.length < 2 ^ 31) (zd : n0 ≤ d) (hne : a ≠ d) {R : Room} {K : Cx} (H : Ok Z K "java/lang/StringUTF16" jdk_52_method_21_code 7 (some .int) "compress") :
    ∀ (m i : Nat), i + m = cs.length → ∀ (h : Heap) (s6 : Slot), One s6 → Vec Z h a .char cs → Vec Z h d .byte ((cs.take i).map (nar .byte) ++ List.replicate m 0) → Keep h0 h [d] →
      Go l Z n0 R K (fun v h' sn => v = some (.int cs.length.toInt32) ∧ Keep h0 h' [d] ∧ Vec Z h' d .byte (cs.map (nar .byte)) ∧ sn = []) h [d] 0 0 3 #[.val (.ref a), .val (.int i.toInt32), .val (.ref d), .val (.int i.toInt32), .val (.int cs.length.toInt32), .val (.int i.toInt32), s6] [] := by
  intro m
  induction m with
  | zero =>
    intro i hi h s6 h6 Fa Fd KK
    refine Go.iload H d7_3 rfl rfl ?_
    refine Go.iload H d7_5 rfl rfl ?_
    refine Go.icmpY (pc' := 44) H d7_7 (flt (own_nlt (by omega) (by omega))).2.1 (by decide) (by decide) ?_
    refine Go.iload H d7_44 rfl rfl ?_
    exact Go.ireturnI [] H d7_46 ⟨rfl, KK, own_full (by omega) Fd, rfl⟩ all0 (Nat.zero_le _) (Nat.zero_le _)
  | succ m ih =>
    intro i hi h s6 h6 Fa Fd KK
    have hlt : i < cs.length := by omega
    obtain ⟨c, hc⟩ : ∃ c, cs[i]? = some c := ⟨_, List.getElem?_eq_getElem hlt⟩
    have hLc : isL c := hL c (List.mem_of_getElem? hc)
    refine Go.iload H d7_3 rfl rfl ?_
    refine Go.iload H d7_5 rfl rfl ?_
    refine Go.icmpN H d7_7 (tlt (own_lt hn hlt)).2.1 rfl ?_
    refine Go.aloadN H d7_10 rfl rfl rfl ?_
    refine Go.iloadN H d7_11 rfl rfl ?_
    refine Go.caload (v := c) H d7_12 rfl Fa i (own_cl (by omega)) (own_n0 (by omega)) hc ?_
    refine Go.istore (ls' := #[.val (.ref a), .val (.int i.toInt32), .val (.ref d), .val (.int i.toInt32), .val (.int cs.length.toInt32), .val (.int i.toInt32), .val (.int c)]) H d7_13 rfl (XS.store1 rfl h6 rfl) ?_
    refine Go.iload H d7_15 rfl rfl ?_
    refine Go.sipush (255 : Int32) H d7_17 rfl rfl ?_
    refine Go.icmpY (pc' := 26) H d7_20 (flt (own_le255 hLc)).2.2.2 (by decide) (by decide) ?_
    refine Go.aloadN H d7_26 rfl rfl rfl ?_
    refine Go.iloadN H d7_27 rfl rfl ?_
    refine Go.iload H d7_28 rfl rfl ?_
    refine Go.i2b H d7_30 rfl ?_
    refine Go.bastore (nar .byte c) H d7_31 rfl Fd i (own_cl (by omega)) (own_n0 (by omega)) (by simp; omega) own_nb zd (by simp) ?_
    intro h1 K2 F3
    replace Fa := Fa.keep K2 (ninS hne nin0)
    replace KK := KK.trans K2 (allS (Or.inl (by simp)) all0)
    refine Go.iinc (ls' := #[.val (.ref a), .val (.int (i.toInt32 + (1 : Int32))), .val (.ref d), .val (.int i.toInt32), .val (.int cs.length.toInt32), .val (.int i.toInt32), .val (.int c)]) (1 : Int32) H d7_32 rfl rfl rfl rfl ?_
    refine Go.iinc (ls' := #[.val (.ref a), .val (.int (i.toInt32 + (1 : Int32))), .val (.ref d), .val (.int (i.toInt32 + (1 : Int32))), .val (.int cs.length.toInt32), .val (.int i.toInt32), .val (.int c)]) (1 : Int32) H d7_35 rfl rfl rfl rfl ?_
    refine Go.iinc (ls' := #[.val (.ref a), .val (.int (i.toInt32 + (1 : Int32))), .val (.ref d), .val (.int (i.toInt32 + (1 : Int32))), .val (.int cs.length.toInt32), .val (.int (i.toInt32 + (1 : Int32))), .val (.int c)]) (1 : Int32) H d7_38 rfl rfl rfl rfl ?_
    refine Go.goto (pc' := 3) H d7_41 (by decide) (by decide) ?_
    rw [own_fill hc] at F3
    rw [own_s i]
    exact ih (i + 1) (by omega) _ _ (One.val rfl) Fa F3 KK
theorem d7_0 : decode jdk_52_method_21_code 0 = .ok (.iconst 0, 1) := by decide +kernel
theorem d7_1 : decode jdk_52_method_21_code 1 = .ok (.istore 5, 2) := by decide +kernel
theorem pn_N0 : plainName N0.cls = true := by first | (simp [plainName, overriddenIn]; done) | decide +kernel

abbrev rm_cmp5 : Room := { frames := 0, cells := 0, slots := 0, locals := 0 }
set_option maxRecDepth 65536 in
set_option maxHeartbeats 4000000 in
theorem ct_cmp5 (l : Launch) {Z : State} {n0 : Nat} {z : Int32} {f : Value} (W : Sx Z z f) (a d : Addr) (cs : List Int32) (h : Heap) (Fa : Vec Z h a .char cs) (Fd : Vec Z h d .byte (List.replicate cs.length 0)) (hL : ∀ c ∈ cs, isL c) (hn : cs.length < 2 ^ 31) (zd : n0 ≤ d) (hne : a ≠ d) :
    Ctr l Z n0 N0 jdk_52_method_21_code 7 (some .int) rm_cmp5 #[(.ref a), (.int (0 : Int32)), (.ref d), (.int (0 : Int32)), (.int cs.length.toInt32)] h [d] (fun v h' sn => v = some (.int cs.length.toInt32) ∧ Keep h h' [d] ∧ Vec Z h' d .byte (cs.map (nar .byte)) ∧ sn = []) := by
  refine Ctr.of_go (ls := #[.val (.ref a), .val (.int (0 : Int32)), .val (.ref d), .val (.int (0 : Int32)), .val (.int cs.length.toInt32), .unset, .unset]) W.1 (plainFor_of_name pn_N0) (fun m => by first | (simp [entryFrame, mkF, argsToLocals, Value.category]; done) | rfl) (fun K H => ?_)
  refine Go.iconst (0 : Int32) H d7_0 rfl rfl ?_
  refine Go.istore (ls' := #[.val (.ref a), .val (.int (0 : Int32)), .val (.ref d), .val (.int (0 : Int32)), .val (.int cs.length.toInt32), .val (.int (0 : Int32)), .unset]) H d7_1 rfl rfl ?_
  exact lp_cmp5 l a d cs h hL hn zd hne H cs.length 0 (by omega) h _ One.u Fa (by simpa using Fd) (Keep.refl _ _)
theorem d6_0 : decode jdk_52_method_16_code 0 = .ok (.iload_n 2, 1) := by decide +kernel
theorem d6_1 : decode jdk_52_method_16_code 1 = .ok (.newarray .byte, 2) := by decide +kernel
theorem w27 : Jvm.Cond.arrayClass Jvm.ClassFile.FieldType.byte ∈ tables_1 := List.mem_of_getElem? (i := 27) rfl
theorem d6_3 : decode jdk_52_method_16_code 3 = .ok (.astore_n 3, 1) := by decide +kernel
theorem d6_4 : decode jdk_52_method_16_code 4 = .ok (.aload_n 0, 1) := by decide +kernel
theorem d6_5 : decode jdk_52_method_16_code 5 = .ok (.iload_n 1, 1) := by decide +kernel
theorem d6_6 : decode jdk_52_method_16_code 6 = .ok (.aload_n 3, 1) := by decide +kernel
theorem d6_7 : decode jdk_52_method_16_code 7 = .ok (.iconst 0, 1) := by decide +kernel
theorem d6_8 : decode jdk_52_method_16_code 8 = .ok (.iload_n 2, 1) := by decide +kernel
theorem d6_9 : decode jdk_52_method_16_code 9 = .ok (.invokestatic 115, 3) := by decide +kernel
theorem w30 : Jvm.Cond.code N0 jdk_52_method_21_code (7 : Nat) (Option.some Jvm.ClassFile.FieldType.int) ∈ tables_1 := List.mem_of_getElem? (i := 30) rfl
theorem w25 : Jvm.Cond.initialized "java/lang/StringUTF16" ∈ tables_1 := List.mem_of_getElem? (i := 25) rfl
theorem pd_N0 : parseMethodDescriptor N0.desc = some ⟨[(.array .char), .int, (.array .byte), .int, .int], (some .int)⟩ := by decide +kernel
theorem nh_N0 : N0.cls ≠ "java/lang/invoke/MethodHandle" ∧ N0.cls ≠ "java/lang/invoke/VarHandle" := by decide
theorem w28 : Jvm.Cond.methodLink "java/lang/StringUTF16" (115 : Nat) N0 ∈ tables_1 := List.mem_of_getElem? (i := 28) rfl
theorem w29 : Jvm.Cond.static N0 ∈ tables_1 := List.mem_of_getElem? (i := 29) rfl
theorem d6_12 : decode jdk_52_method_16_code 12 = .ok (.istore 4, 2) := by decide +kernel
theorem d6_14 : decode jdk_52_method_16_code 14 = .ok (.iload 4, 2) := by decide +kernel
theorem d6_16 : decode jdk_52_method_16_code 16 = .ok (.iload_n 2, 1) := by decide +kernel
theorem d6_17 : decode jdk_52_method_16_code 17 = .ok (.if_icmp .eq 40, 3) := by decide +kernel
theorem d6_57 : decode jdk_52_method_16_code 57 = .ok (.aload_n 3, 1) := by decide +kernel
theorem d6_58 : decode jdk_52_method_16_code 58 = .ok (.areturn, 1) := by decide +kernel
abbrev N1 : MethodName := ⟨"java/lang/StringUTF16", "compress", "([CII)[B"⟩

abbrev rm_cmp3 : Room := { frames := 1, cells := 1, slots := 7, locals := 18 }
set_option maxRecDepth 65536 in
set_option maxHeartbeats 4000000 in
theorem ct_cmp3 (l : Launch) {Z : State} {n0 : Nat} {z : Int32} {f : Value} (W : Sx Z z f) (a : Addr) (cs : List Int32) (h : Heap) (Fa : Vec Z h a .char cs) (hL : ∀ c ∈ cs, isL c) (hn : cs.length ≤ 7) :
    Ctr l Z n0 N1 jdk_52_method_16_code 6 (some (.array .byte)) rm_cmp3 #[(.ref a), (.int (0 : Int32)), (.int cs.length.toInt32)] h [] (fun v h' sn => ∃ b, v = some (.ref b) ∧ Ext h h' ∧ h.size ≤ b ∧ Vec Z h' b .byte (cs.map (nar .byte)) ∧ sn = []) := by
  refine Ctr.of_go (ls := #[.val (.ref a), .val (.int (0 : Int32)), .val (.int cs.length.toInt32), .unset, .unset, .unset]) W.1 (plainFor_of_name pn_N0) (fun m => by first | (simp [entryFrame, mkF, argsToLocals, Value.category]; done) | rfl) (fun K H => ?_)
  have KK : Keep h h [] := Keep.refl _ _
  refine Go.iloadN H d6_0 rfl rfl ?_
  refine Go.newarray cs.length 7 H d6_1 rfl w27 rfl (by decide) (own_n0 (by omega)) (own_cl (by omega)) hn (by decide) (by decide) (by decide) ?_
  intro a1 h2 g3 z4 E5 F6
  have ne7 : a ≠ a1 := Nat.ne_of_lt (Nat.lt_of_lt_of_le Fa.lt (Nat.le_of_eq g3.symm))
  have sz8 := Nat.le_trans KK.1 (Nat.le_of_eq g3.symm)
  replace Fa := Fa.ext E5
  replace KK := KK.ext E5
  show Go _ _ _ _ _ _ h2 [a1] 1 7 3 #[.val (.ref a), .val (.int (0 : Int32)), .val (.int cs.length.toInt32), .unset, .unset, .unset] [(.ref a1)]
  refine Go.astoreN (ls' := #[.val (.ref a), .val (.int (0 : Int32)), .val (.int cs.length.toInt32), .val (.ref a1), .unset, .unset]) H d6_3 rfl rfl rfl ?_
  refine Go.aloadN H d6_4 rfl rfl rfl ?_
  refine Go.iloadN H d6_5 rfl rfl ?_
  refine Go.aloadN H d6_6 rfl rfl rfl ?_
  refine Go.iconst (0 : Int32) H d6_7 rfl rfl ?_
  refine Go.iloadN H d6_8 rfl rfl ?_
  refine Go.callS (rest := []) 0 [(.ref a), (.int (0 : Int32)), (.ref a1), (.int (0 : Int32)), (.int cs.length.toInt32)] H d6_9 rfl w28 w29 w25 w30 pd_N0 (ct_cmp5 l W a a1 cs h2 Fa F6 hL (by omega) z4 ne7) (by simp) rfl rfl rfl (Nat.le_of_eq rfl) (by decide) (by decide) (by decide) (by decide) nh_N0 ?_
  rintro _ h9 _ ⟨rfl, K10, F11, rfl⟩
  replace Fa := Fa.keep K10 (ninS ne7 nin0)
  replace KK := KK.trans K10 (allS (Or.inr sz8) all0)
  show Go _ _ _ _ _ _ h9 [a1] 1 7 12 #[.val (.ref a), .val (.int (0 : Int32)), .val (.int cs.length.toInt32), .val (.ref a1), .unset, .unset] [(.int cs.length.toInt32)]
  refine Go.istore (ls' := #[.val (.ref a), .val (.int (0 : Int32)), .val (.int cs.length.toInt32), .val (.ref a1), .val (.int cs.length.toInt32), .unset]) H d6_12 rfl rfl ?_
  refine Go.iload H d6_14 rfl rfl ?_
  refine Go.iloadN H d6_16 rfl rfl ?_
  refine Go.icmpY (pc' := 57) H d6_17 (teq rfl).1 (by decide) (by decide) ?_
  refine Go.aloadN H d6_57 rfl rfl rfl ?_
  exact Go.areturn [] H d6_58 rfl rfl (own_narR rfl) ⟨_, rfl, own_ext KK, Nat.le_of_eq g3.symm, F11, rfl⟩ all0 (by decide) (by decide)
theorem own_cod (x : Int32) : nar .byte (((x - x).toUInt32 >>> ((31 : Int32) &&& 31).toUInt32).toInt32) = 0 := by rw [Int32.sub_self]; decide
theorem d8_0 : decode jdk_52_method_15_code 0 = .ok (.iload_n 1, 1) := by decide +kernel
theorem d8_1 : decode jdk_52_method_15_code 1 = .ok (.aload_n 0, 1) := by decide +kernel
theorem d8_2 : decode jdk_52_method_15_code 2 = .ok (.arraylength, 1) := by decide +kernel
theorem d8_3 : decode jdk_52_method_15_code 3 = .ok (.isub, 1) := by decide +kernel
theorem d8_4 : decode jdk_52_method_15_code 4 = .ok (.bipush 31, 2) := by decide +kernel
theorem d8_6 : decode jdk_52_method_15_code 6 = .ok (.iushr, 1) := by decide +kernel
theorem d8_7 : decode jdk_52_method_15_code 7 = .ok (.i2b, 1) := by decide +kernel
theorem d8_8 : decode jdk_52_method_15_code 8 = .ok (.ireturn, 1) := by decide +kernel
abbrev N2 : MethodName := ⟨"java/lang/StringUTF16", "coderFromArrayLen", "([BI)B"⟩

abbrev rm_codl : Room := { frames := 0, cells := 0, slots := 0, locals := 0 }
set_option maxRecDepth 65536 in
set_option maxHeartbeats 4000000 in
theorem ct_codl (l : Launch) {Z : State} {n0 : Nat} {z : Int32} {f : Value} (W : Sx Z z f) (b : Addr) (bs : List Int32) (n : Int32) (h : Heap) (Fb : Vec Z h b .byte bs) (hb : bs.length.toInt32 = n) :
    Ctr l Z n0 N2 jdk_52_method_15_code 2 (some .byte) rm_codl #[(.ref b), (.int n)] h [] (fun v h' sn => v = some (.int 0) ∧ h = h' ∧ sn = []) := by
  refine Ctr.of_go (ls := #[.val (.ref b), .val (.int n)]) W.1 (plainFor_of_name pn_N0) (fun m => by first | (simp [entryFrame, mkF, argsToLocals, Value.category]; done) | rfl) (fun K H => ?_)
  refine Go.iloadN H d8_0 rfl rfl ?_
  refine Go.aloadN H d8_1 rfl rfl rfl ?_
  refine Go.arraylength n H d8_2 rfl Fb hb ?_
  refine Go.isub H d8_3 rfl ?_
  refine Go.bipush (31 : Int32) H d8_4 rfl rfl ?_
  refine Go.iushr H d8_6 rfl ?_
  refine Go.i2b H d8_7 rfl ?_
  exact Go.ireturn (0 : Int32) [] H d8_8 (by simp) (own_nb.trans (own_cod _)) ⟨rfl, rfl, rfl⟩ all0 (by decide) (by decide)
theorem w9 : Jvm.Cond.instantiable "java/lang/String" (4 : Nat) ∈ tables_1 := List.mem_of_getElem? (i := 9) rfl
theorem d4_0 : decode jdk_42_method_149_code 0 = .ok (.aload_n 0, 1) := by decide +kernel
theorem d4_1 : decode jdk_42_method_149_code 1 = .ok (.invokespecial 1, 3) := by decide +kernel
abbrev N3 : MethodName := ⟨"java/lang/Object", "<init>", "()V"⟩
theorem w19 : Jvm.Cond.methodLink "java/lang/String" (1 : Nat) N3 ∈ tables_1 := List.mem_of_getElem? (i := 19) rfl
theorem w20 : Jvm.Cond.instanceMethod N3 ∈ tables_1 := List.mem_of_getElem? (i := 20) rfl
theorem w21 : Jvm.Cond.code N3 object_method_1_code (1 : Nat) (Option.none : Option Jvm.ClassFile.FieldType) ∈ tables_1 := List.mem_of_getElem? (i := 21) rfl
theorem d4_4 : decode jdk_42_method_149_code 4 = .ok (.iload_n 3, 1) := by decide +kernel
theorem d4_5 : decode jdk_42_method_149_code 5 = .ok (.ifCond .ne 22, 3) := by decide +kernel
theorem d4_8 : decode jdk_42_method_149_code 8 = .ok (.aload_n 0, 1) := by decide +kernel
theorem d4_9 : decode jdk_42_method_149_code 9 = .ok (.ldc 7, 2) := by decide +kernel
theorem lt_0 : (∀ c ∈ ("" : String).toList, c.toNat < 256) ∧ ("" : String).toList.map (fun c => Value.int (Jvm.Lit.byteI c.toNat.toUInt16)) = ((([] : List Int32)).map (nar .byte)).map Value.int := by decide +kernel
theorem lt_0_l : ∀ c ∈ ([] : List Int32), isL c := own_an
theorem cm_0 : ("java/lang/String", 7) ∈ consts_1 := by decide
theorem w73 : Jvm.Cond.stringLink "java/lang/String" (7 : Nat) "" ∈ tables_1 := List.mem_of_getElem? (i := 73) rfl
theorem d4_11 : decode jdk_42_method_149_code 11 = .ok (.getfield 9, 3) := by decide +kernel
theorem w36 : Jvm.Cond.fieldLink "java/lang/String" (9 : Nat) "java/lang/String" "value" "[B" ∈ tables_1 := List.mem_of_getElem? (i := 36) rfl
theorem d4_14 : decode jdk_42_method_149_code 14 = .ok (.putfield 9, 3) := by decide +kernel
theorem w37 : Jvm.Cond.laysFinal "java/lang/String" "java/lang/String" "value" "[B" ∈ tables_1 := List.mem_of_getElem? (i := 37) rfl
theorem w35 : Jvm.Cond.laysFinal "java/lang/String" "java/lang/String" "coder" "B" ∈ tables_1 := List.mem_of_getElem? (i := 35) rfl
theorem d4_17 : decode jdk_42_method_149_code 17 = .ok (.aload_n 0, 1) := by decide +kernel
theorem d4_18 : decode jdk_42_method_149_code 18 = .ok (.ldc 7, 2) := by decide +kernel
theorem d4_20 : decode jdk_42_method_149_code 20 = .ok (.getfield 15, 3) := by decide +kernel
theorem w34 : Jvm.Cond.fieldLink "java/lang/String" (15 : Nat) "java/lang/String" "coder" "B" ∈ tables_1 := List.mem_of_getElem? (i := 34) rfl
theorem d4_23 : decode jdk_42_method_149_code 23 = .ok (.putfield 15, 3) := by decide +kernel
theorem d4_26 : decode jdk_42_method_149_code 26 = .ok (.return_, 1) := by decide +kernel
theorem d4_27 : decode jdk_42_method_149_code 27 = .ok (.getstatic 38, 3) := by decide +kernel
theorem w22 : Jvm.Cond.fieldLink "java/lang/String" (38 : Nat) "java/lang/String" "COMPACT_STRINGS" "Z" ∈ tables_1 := List.mem_of_getElem? (i := 22) rfl
theorem d4_30 : decode jdk_42_method_149_code 30 = .ok (.ifCond .eq 28, 3) := by decide +kernel
theorem d4_33 : decode jdk_42_method_149_code 33 = .ok (.aload_n 1, 1) := by decide +kernel
theorem d4_34 : decode jdk_42_method_149_code 34 = .ok (.iload_n 2, 1) := by decide +kernel
theorem d4_35 : decode jdk_42_method_149_code 35 = .ok (.iload_n 3, 1) := by decide +kernel
theorem d4_36 : decode jdk_42_method_149_code 36 = .ok (.invokestatic 177, 3) := by decide +kernel
theorem w26 : Jvm.Cond.code N1 jdk_52_method_16_code (6 : Nat) (Option.some (Jvm.ClassFile.FieldType.array Jvm.ClassFile.FieldType.byte)) ∈ tables_1 := List.mem_of_getElem? (i := 26) rfl
theorem pd_N1 : parseMethodDescriptor N1.desc = some ⟨[(.array .char), .int, .int], (some (.array .byte))⟩ := by decide +kernel
theorem w23 : Jvm.Cond.methodLink "java/lang/String" (177 : Nat) N1 ∈ tables_1 := List.mem_of_getElem? (i := 23) rfl
theorem w24 : Jvm.Cond.static N1 ∈ tables_1 := List.mem_of_getElem? (i := 24) rfl
theorem d4_39 : decode jdk_42_method_149_code 39 = .ok (.astore 5, 2) := by decide +kernel
theorem d4_41 : decode jdk_42_method_149_code 41 = .ok (.aload_n 0, 1) := by decide +kernel
theorem d4_42 : decode jdk_42_method_149_code 42 = .ok (.aload 5, 2) := by decide +kernel
theorem d4_44 : decode jdk_42_method_149_code 44 = .ok (.iload_n 3, 1) := by decide +kernel
theorem d4_45 : decode jdk_42_method_149_code 45 = .ok (.invokestatic 47, 3) := by decide +kernel
theorem w33 : Jvm.Cond.code N2 jdk_52_method_15_code (2 : Nat) (Option.some Jvm.ClassFile.FieldType.byte) ∈ tables_1 := List.mem_of_getElem? (i := 33) rfl
theorem pd_N2 : parseMethodDescriptor N2.desc = some ⟨[(.array .byte), .int], (some .byte)⟩ := by decide +kernel
theorem w31 : Jvm.Cond.methodLink "java/lang/String" (47 : Nat) N2 ∈ tables_1 := List.mem_of_getElem? (i := 31) rfl
theorem w32 : Jvm.Cond.static N2 ∈ tables_1 := List.mem_of_getElem? (i := 32) rfl
theorem d4_48 : decode jdk_42_method_149_code 48 = .ok (.putfield 15, 3) := by decide +kernel
theorem d4_51 : decode jdk_42_method_149_code 51 = .ok (.aload_n 0, 1) := by decide +kernel
theorem d4_52 : decode jdk_42_method_149_code 52 = .ok (.aload 5, 2) := by decide +kernel
theorem d4_54 : decode jdk_42_method_149_code 54 = .ok (.putfield 9, 3) := by decide +kernel
theorem d4_57 : decode jdk_42_method_149_code 57 = .ok (.return_, 1) := by decide +kernel
abbrev N4 : MethodName := ⟨"java/lang/String", "<init>", "([CIILjava/lang/Void;)V"⟩
theorem pn_N4 : plainName N4.cls = true := by first | (simp [plainName, overriddenIn]; done) | decide +kernel

abbrev rm_new4 : Room := { frames := 2, cells := 4, slots := 8, locals := 35 }
set_option maxRecDepth 65536 in
set_option maxHeartbeats 4000000 in
theorem ct_new4 (l : Launch) {Z : State} {n0 : Nat} {z : Int32} {f : Value} (W : Sx Z z f) (x a : Addr) (cs : List Int32) (h : Heap) (A : Exa Z h x "java/lang/String") (Fv : Fld Z h x "java/lang/String" "value" "[B" .null) (Fc : Fld Z h x "java/lang/String" "coder" "B" (.int 0)) (Fa : Vec Z h a .char cs) (hL : ∀ c ∈ cs, isL c) (hn : cs.length ≤ 7) (zx : n0 ≤ x) :
    Ctr l Z n0 N4 jdk_42_method_149_code 6 none rm_new4 #[(.ref x), (.ref a), (.int (0 : Int32)), (.int cs.length.toInt32), .null] h [x] (fun v h' sn => v = none ∧ Keep h h' [x] ∧ (∃ b, Str Z h' x b cs) ∧ sn = []) := by
  refine Ctr.of_go (ls := #[.val (.ref x), .val (.ref a), .val (.int (0 : Int32)), .val (.int cs.length.toInt32), .val .null, .unset]) W.1 (plainFor_of_name pn_N4) (fun m => by first | (simp [entryFrame, mkF, argsToLocals, Value.category]; done) | rfl) (fun K H => ?_)
  have KK : Keep h h [x] := Keep.refl _ _
  have hax : a ≠ x := Vec.neExa Fa A W.1 w9
  refine Go.aloadN H d4_0 rfl rfl rfl ?_
  refine Go.initObj H d4_1 rfl w19 w20 w21 0 rfl (Nat.le_of_eq rfl) (by decide) (by decide) ?_
  refine Go.iloadN H d4_4 rfl rfl ?_
  by_cases c1 : cs = []
  ·
    refine Go.ifN H d4_5 (teq (by rw [c1]; rfl)).2 rfl ?_
    refine Go.aloadN H d4_8 rfl rfl rfl ?_
    refine Go.ldcS ([] : List Int32) (0 : Int32) 0 H d4_9 rfl w73 cm_0 lt_0 lt_0_l (by decide) (by decide) (by decide) (by decide) (by decide) (by decide) ?_
    intro a2 b3 h4 E5 S6 q7
    replace A := A.ext E5
    replace Fv := Fv.ext E5
    replace Fc := Fc.ext E5
    replace Fa := Fa.ext E5
    replace KK := KK.ext E5
    have ne8 : x ≠ a2 := (q7 x (by simp)).1
    have ne9 : x ≠ b3 := (q7 x (by simp)).2
    show Go _ _ _ _ _ _ h4 [x] 2 4 11 #[.val (.ref x), .val (.ref a), .val (.int (0 : Int32)), .val (.int cs.length.toInt32), .val .null, .unset] [(.ref a2), (.ref x)]
    refine Go.getfield H d4_11 rfl w36 S6.2.1 ?_
    refine Go.putfield (v := (.ref b3)) H d4_14 rfl w36 Fv A (Or.inr ⟨w37, rfl, rfl⟩) w9 (ty := (.array .byte)) (by decide) rfl rfl zx (by simp) ?_
    intro h10 Wr11
    have F12 := Fv.same Wr11
    have K13 := Keep.of_wr Wr11
    replace A := A.wr Wr11
    replace Fc := Fc.other Wr11 (Or.inr (own_sne W.1 (Or.inr w35) (Or.inr w37) (by decide) (t := .byte) (t' := (.array .byte)) (by decide) (by decide)))
    replace Fa := Fa.keep K13 (ninS hax nin0)
    replace S6 := S6.keep K13 (ninS (Ne.symm ne8) nin0) (ninS (Ne.symm ne9) nin0)
    replace KK := KK.wr Wr11 (Or.inl (by simp))
    refine Go.aloadN H d4_17 rfl rfl rfl ?_
    refine Go.ldcS ([] : List Int32) (0 : Int32) 0 H d4_18 rfl w73 cm_0 lt_0 lt_0_l (by decide) (by decide) (by decide) (by decide) (by decide) (by decide) ?_
    intro a14 b15 h16 E17 S18 q19
    replace A := A.ext E17
    replace Fc := Fc.ext E17
    replace Fa := Fa.ext E17
    replace S6 := S6.ext E17
    replace F12 := F12.ext E17
    replace KK := KK.ext E17
    have ne20 : x ≠ a14 := (q19 x (by simp)).1
    have ne21 : x ≠ b15 := (q19 x (by simp)).2
    show Go _ _ _ _ _ _ h16 [x] 4 8 20 #[.val (.ref x), .val (.ref a), .val (.int (0 : Int32)), .val (.int cs.length.toInt32), .val .null, .unset] [(.ref a14), (.ref x)]
    refine Go.getfield H d4_20 rfl w34 S18.2.2.1 ?_
    refine Go.putfield (v := (.int (0 : Int32))) H d4_23 rfl w34 Fc A (Or.inr ⟨w35, rfl, rfl⟩) w9 (ty := .byte) (by decide) (by decide) (by decide) zx (by simp) ?_
    intro h22 Wr23
    have F24 := Fc.same Wr23
    have K25 := Keep.of_wr Wr23
    replace A := A.wr Wr23
    replace Fa := Fa.keep K25 (ninS hax nin0)
    replace S6 := S6.keep K25 (ninS (Ne.symm ne8) nin0) (ninS (Ne.symm ne9) nin0)
    replace F12 := F12.other Wr23 (Or.inr (own_sne W.1 (Or.inr w37) (Or.inr w35) (by decide) (t := (.array .byte)) (t' := .byte) (by decide) (by decide)))
    replace S18 := S18.keep K25 (ninS (Ne.symm ne20) nin0) (ninS (Ne.symm ne21) nin0)
    replace KK := KK.wr Wr23 (Or.inl (by simp))
    exact Go.return_ [] H d4_26 ⟨rfl, KK, ⟨_, ⟨A, F12, F24, (by rw [c1]; exact S6.2.2.2.1), hL, by omega⟩⟩, rfl⟩ all0 (by decide) (by decide)
  ·
    refine Go.ifY (pc' := 27) H d4_5 (feq (own_ne0 (by omega) (List.length_pos_iff.mpr c1))).2 (by decide) (by decide) ?_
    refine Go.getstatic H d4_27 rfl w22 W.2.2.1 ?_
    refine Go.ifN H d4_30 (feq W.2.1).1 rfl ?_
    refine Go.aloadN H d4_33 rfl rfl rfl ?_
    refine Go.iloadN H d4_34 rfl rfl ?_
    refine Go.iloadN H d4_35 rfl rfl ?_
    refine Go.callS (rest := []) 0 [(.ref a), (.int (0 : Int32)), (.int cs.length.toInt32)] H d4_36 rfl w23 w24 w25 w26 pd_N1 (ct_cmp3 l W a cs h Fa hL hn) all0 rfl rfl rfl (Nat.le_of_eq rfl) (by decide) (by decide) (by decide) (by decide) nh_N0 ?_
    rintro _ h27 _ ⟨b26, rfl, E28, g29, F30, rfl⟩
    have ne32 : x ≠ b26 := Nat.ne_of_lt (Nat.lt_of_lt_of_le A.lt g29)
    have ne33 : a ≠ b26 := Nat.ne_of_lt (Nat.lt_of_lt_of_le Fa.lt g29)
    replace A := A.ext E28
    replace Fv := Fv.ext E28
    replace Fc := Fc.ext E28
    replace Fa := Fa.ext E28
    replace KK := KK.ext E28
    show Go _ _ _ _ _ _ h27 [x] 1 7 39 #[.val (.ref x), .val (.ref a), .val (.int (0 : Int32)), .val (.int cs.length.toInt32), .val .null, .unset] [(.ref b26)]
    refine Go.astore (ls' := #[.val (.ref x), .val (.ref a), .val (.int (0 : Int32)), .val (.int cs.length.toInt32), .val .null, .val (.ref b26)]) H d4_39 rfl rfl rfl ?_
    refine Go.aloadN H d4_41 rfl rfl rfl ?_
    refine Go.aload H d4_42 rfl rfl rfl ?_
    refine Go.iloadN H d4_44 rfl rfl ?_
    refine Go.callS (rest := [(.ref x)]) 1 [(.ref b26), (.int cs.length.toInt32)] H d4_45 rfl w31 w32 w25 w33 pd_N2 (ct_codl l W b26 _ cs.length.toInt32 h27 F30 (by rw [List.length_map])) all0 rfl rfl rfl (Nat.le_of_eq rfl) (by decide) (by decide) (by decide) (by decide) nh_N0 ?_
    rintro _ _ _ ⟨rfl, rfl, rfl⟩
    show Go _ _ _ _ _ _ h27 [x] 1 7 48 #[.val (.ref x), .val (.ref a), .val (.int (0 : Int32)), .val (.int cs.length.toInt32), .val .null, .val (.ref b26)] [(.int (0 : Int32)), (.ref x)]
    refine Go.putfield (v := (.int (0 : Int32))) H d4_48 rfl w34 Fc A (Or.inr ⟨w35, rfl, rfl⟩) w9 (ty := .byte) (by decide) (by decide) (by decide) zx (by simp) ?_
    intro h34 Wr35
    have F36 := Fc.same Wr35
    have K37 := Keep.of_wr Wr35
    replace A := A.wr Wr35
    replace Fv := Fv.other Wr35 (Or.inr (own_sne W.1 (Or.inr w37) (Or.inr w35) (by decide) (t := (.array .byte)) (t' := .byte) (by decide) (by decide)))
    replace Fa := Fa.keep K37 (ninS hax nin0)
    replace F30 := F30.keep K37 (ninS (Ne.symm ne32) nin0)
    replace KK := KK.wr Wr35 (Or.inl (by simp))
    refine Go.aloadN H d4_51 rfl rfl rfl ?_
    refine Go.aload H d4_52 rfl rfl rfl ?_
    refine Go.putfield (v := (.ref b26)) H d4_54 rfl w36 Fv A (Or.inr ⟨w37, rfl, rfl⟩) w9 (ty := (.array .byte)) (by decide) rfl rfl zx (by simp) ?_
    intro h38 Wr39
    have F40 := Fv.same Wr39
    have K41 := Keep.of_wr Wr39
    replace A := A.wr Wr39
    replace Fa := Fa.keep K41 (ninS hax nin0)
    replace F30 := F30.keep K41 (ninS (Ne.symm ne32) nin0)
    replace F36 := F36.other Wr39 (Or.inr (own_sne W.1 (Or.inr w35) (Or.inr w37) (by decide) (t := .byte) (t' := (.array .byte)) (by decide) (by decide)))
    replace KK := KK.wr Wr39 (Or.inl (by simp))
    exact Go.return_ [] H d4_57 ⟨rfl, KK, ⟨_, ⟨A, F40, F36, F30, hL, by omega⟩⟩, rfl⟩ all0 (by decide) (by decide)
theorem d3_0 : decode jdk_42_method_3_code 0 = .ok (.aload_n 0, 1) := by decide +kernel
theorem d3_1 : decode jdk_42_method_3_code 1 = .ok (.aload_n 1, 1) := by decide +kernel
theorem d3_2 : decode jdk_42_method_3_code 2 = .ok (.iconst 0, 1) := by decide +kernel
theorem d3_3 : decode jdk_42_method_3_code 3 = .ok (.aload_n 1, 1) := by decide +kernel
theorem d3_4 : decode jdk_42_method_3_code 4 = .ok (.arraylength, 1) := by decide +kernel
theorem d3_5 : decode jdk_42_method_3_code 5 = .ok (.aconst_null, 1) := by decide +kernel
theorem d3_6 : decode jdk_42_method_3_code 6 = .ok (.invokespecial 27, 3) := by decide +kernel
theorem w18 : Jvm.Cond.code N4 jdk_42_method_149_code (6 : Nat) (Option.none : Option Jvm.ClassFile.FieldType) ∈ tables_1 := List.mem_of_getElem? (i := 18) rfl
theorem w10 : Jvm.Cond.initialized "java/lang/String" ∈ tables_1 := List.mem_of_getElem? (i := 10) rfl
theorem pd_N4 : parseMethodDescriptor N4.desc = some ⟨[(.array .char), .int, .int, (.object "java/lang/Void")], none⟩ := by decide +kernel
theorem nh_N4 : N4.cls ≠ "java/lang/invoke/MethodHandle" ∧ N4.cls ≠ "java/lang/invoke/VarHandle" := by decide
theorem w15 : Jvm.Cond.methodLink "java/lang/String" (27 : Nat) N4 ∈ tables_1 := List.mem_of_getElem? (i := 15) rfl
theorem w16 : Jvm.Cond.instanceMethod N4 ∈ tables_1 := List.mem_of_getElem? (i := 16) rfl
theorem d3_9 : decode jdk_42_method_3_code 9 = .ok (.return_, 1) := by decide +kernel
abbrev N5 : MethodName := ⟨"java/lang/String", "<init>", "([C)V"⟩

abbrev rm_new1 : Room := { frames := 3, cells := 4, slots := 8, locals := 52 }
set_option maxRecDepth 65536 in
set_option maxHeartbeats 4000000 in
theorem ct_new1 (l : Launch) {Z : State} {n0 : Nat} {z : Int32} {f : Value} (W : Sx Z z f) (x a : Addr) (cs : List Int32) (h : Heap) (A : Exa Z h x "java/lang/String") (Fv : Fld Z h x "java/lang/String" "value" "[B" .null) (Fc : Fld Z h x "java/lang/String" "coder" "B" (.int 0)) (Fa : Vec Z h a .char cs) (hL : ∀ c ∈ cs, isL c) (hn : cs.length ≤ 7) (zx : n0 ≤ x) :
    Ctr l Z n0 N5 jdk_42_method_3_code 2 none rm_new1 #[(.ref x), (.ref a)] h [x] (fun v h' sn => v = none ∧ Keep h h' [x] ∧ (∃ b, Str Z h' x b cs) ∧ sn = []) := by
  refine Ctr.of_go (ls := #[.val (.ref x), .val (.ref a)]) W.1 (plainFor_of_name pn_N4) (fun m => by first | (simp [entryFrame, mkF, argsToLocals, Value.category]; done) | rfl) (fun K H => ?_)
  have hax : a ≠ x := Vec.neExa Fa A W.1 w9
  refine Go.aloadN H d3_0 rfl rfl rfl ?_
  refine Go.aloadN H d3_1 rfl rfl rfl ?_
  refine Go.iconst (0 : Int32) H d3_2 rfl rfl ?_
  refine Go.aloadN H d3_3 rfl rfl rfl ?_
  refine Go.arraylength cs.length.toInt32 H d3_4 rfl Fa rfl ?_
  refine Go.aconstNull H d3_5 rfl ?_
  refine Go.callI (rest := []) 0 [(.ref a), (.int (0 : Int32)), (.int cs.length.toInt32), .null] H d3_6 rfl rfl w15 w16 w10 w18 pd_N4 (ct_new4 l W x a cs h A Fv Fc  Fa hL hn  zx) (by simp) rfl rfl rfl (Nat.le_of_eq rfl) (by decide) (by decide) (by decide) (by decide) nh_N4 ?_
  rintro _ h1 _ ⟨rfl, K2, ⟨b3, S5⟩, rfl⟩
  replace Fa := Fa.keep K2 (ninS hax nin0)
  show Go _ _ _ _ _ _ h1 [x] 4 8 9 #[.val (.ref x), .val (.ref a)] []
  exact Go.return_ [] H d3_9 ⟨rfl, K2, ⟨_, S5⟩, rfl⟩ all0 (by decide) (by decide)
theorem d14_0 : decode jdk_42_method_154_code 0 = .ok (.getstatic 38, 3) := by decide +kernel
theorem d14_3 : decode jdk_42_method_154_code 3 = .ok (.ifCond .eq 14, 3) := by decide +kernel
theorem d14_6 : decode jdk_42_method_154_code 6 = .ok (.aload_n 0, 1) := by decide +kernel
theorem d14_7 : decode jdk_42_method_154_code 7 = .ok (.getfield 15, 3) := by decide +kernel
theorem d14_10 : decode jdk_42_method_154_code 10 = .ok (.ifCond .ne 7, 3) := by decide +kernel
theorem d14_13 : decode jdk_42_method_154_code 13 = .ok (.iconst 1, 1) := by decide +kernel
theorem d14_14 : decode jdk_42_method_154_code 14 = .ok (.goto 4, 3) := by decide +kernel
theorem d14_18 : decode jdk_42_method_154_code 18 = .ok (.ireturn, 1) := by decide +kernel
abbrev N6 : MethodName := ⟨"java/lang/String", "isLatin1", "()Z"⟩

abbrev rm_isl : Room := { frames := 0, cells := 0, slots := 0, locals := 0 }
set_option maxRecDepth 65536 in
set_option maxHeartbeats 4000000 in
theorem ct_isl (l : Launch) {Z : State} {n0 : Nat} {z : Int32} {f : Value} (W : Sx Z z f) (x b : Addr) (cs : List Int32) (h : Heap) (S : Str Z h x b cs) :
    Ctr l Z n0 N6 jdk_42_method_154_code 1 (some .boolean) rm_isl #[(.ref x)] h [] (fun v h' sn => v = some (.int 1) ∧ h = h' ∧ sn = []) := by
  refine Ctr.of_go (ls := #[.val (.ref x)]) W.1 (plainFor_of_name pn_N4) (fun m => by first | (simp [entryFrame, mkF, argsToLocals, Value.category]; done) | rfl) (fun K H => ?_)
  obtain ⟨A, Fv, Fc, Fb, hL, hn⟩ := S
  refine Go.getstatic H d14_0 rfl w22 W.2.2.1 ?_
  refine Go.ifN H d14_3 (feq W.2.1).1 rfl ?_
  refine Go.aloadN H d14_6 rfl rfl rfl ?_
  refine Go.getfield H d14_7 rfl w34 Fc ?_
  refine Go.ifN H d14_10 (by decide) rfl ?_
  refine Go.iconst (1 : Int32) H d14_13 rfl rfl ?_
  refine Go.goto (pc' := 18) H d14_14 (by decide) (by decide) ?_
  exact Go.ireturn (1 : Int32) [] H d14_18 (by simp) (by decide) ⟨rfl, rfl, rfl⟩ all0 (by decide) (by decide)
theorem d22_0 : decode jdk_41_method_11_code 0 = .ok (.iload_n 0, 1) := by decide +kernel
theorem d22_1 : decode jdk_41_method_11_code 1 = .ok (.ifCond .lt 8, 3) := by decide +kernel
theorem d22_4 : decode jdk_41_method_11_code 4 = .ok (.iload_n 0, 1) := by decide +kernel
theorem d22_5 : decode jdk_41_method_11_code 5 = .ok (.iload_n 1, 1) := by decide +kernel
theorem d22_6 : decode jdk_41_method_11_code 6 = .ok (.if_icmp .lt 10, 3) := by decide +kernel
theorem d22_16 : decode jdk_41_method_11_code 16 = .ok (.iload_n 0, 1) := by decide +kernel
theorem d22_17 : decode jdk_41_method_11_code 17 = .ok (.ireturn, 1) := by decide +kernel
abbrev N7 : MethodName := ⟨"jdk/internal/util/Preconditions", "checkIndex", "(IILjava/util/function/BiFunction;)I"⟩
theorem pn_N7 : plainName N7.cls = true := by first | (simp [plainName, overriddenIn]; done) | decide +kernel

abbrev rm_pre : Room := { frames := 0, cells := 0, slots := 0, locals := 0 }
set_option maxRecDepth 65536 in
set_option maxHeartbeats 4000000 in
theorem ct_pre (l : Launch) {Z : State} {n0 : Nat} {z : Int32} {f : Value} (W : Sx Z z f) (i n : Int32) (h : Heap) (h0 : ¬ i < 0) (hi : i < n) :
    Ctr l Z n0 N7 jdk_41_method_11_code 3 (some .int) rm_pre #[(.int i), (.int n), f] h [] (fun v h' sn => v = some (.int i) ∧ h = h' ∧ sn = []) := by
  refine Ctr.of_go (ls := #[.val (.int i), .val (.int n), .val f]) W.1 (plainFor_of_name pn_N7) (fun m => (by rcases ref_cases W.2.2.2.1 with q | ⟨fa, q⟩ <;> rw [q] <;> rfl)) (fun K H => ?_)
  refine Go.iloadN H d22_0 rfl rfl ?_
  refine Go.ifN H d22_1 (flt h0).1 rfl ?_
  refine Go.iloadN H d22_4 rfl rfl ?_
  refine Go.iloadN H d22_5 rfl rfl ?_
  refine Go.icmpY (pc' := 16) H d22_6 (tlt hi).1 (by decide) (by decide) ?_
  refine Go.iloadN H d22_16 rfl rfl ?_
  exact Go.ireturnI [] H d22_17 ⟨rfl, rfl, rfl⟩ all0 (by decide) (by decide)
theorem d21_0 : decode jdk_42_method_155_code 0 = .ok (.iload_n 0, 1) := by decide +kernel
theorem d21_1 : decode jdk_42_method_155_code 1 = .ok (.iload_n 1, 1) := by decide +kernel
theorem d21_2 : decode jdk_42_method_155_code 2 = .ok (.getstatic 1053, 3) := by decide +kernel
theorem w93 : Jvm.Cond.fieldLink "java/lang/String" (1053 : Nat) "jdk/internal/util/Preconditions" "SIOOBE_FORMATTER" "Ljava/util/function/BiFunction;" ∈ tables_1 := List.mem_of_getElem? (i := 93) rfl
theorem d21_5 : decode jdk_42_method_155_code 5 = .ok (.invokestatic 1059, 3) := by decide +kernel
theorem w97 : Jvm.Cond.code N7 jdk_41_method_11_code (3 : Nat) (Option.some Jvm.ClassFile.FieldType.int) ∈ tables_1 := List.mem_of_getElem? (i := 97) rfl
theorem w94 : Jvm.Cond.initialized "jdk/internal/util/Preconditions" ∈ tables_1 := List.mem_of_getElem? (i := 94) rfl
theorem pd_N7 : parseMethodDescriptor N7.desc = some ⟨[.int, .int, (.object "java/util/function/BiFunction")], (some .int)⟩ := by decide +kernel
theorem nh_N7 : N7.cls ≠ "java/lang/invoke/MethodHandle" ∧ N7.cls ≠ "java/lang/invoke/VarHandle" := by decide
theorem w95 : Jvm.Cond.methodLink "java/lang/String" (1059 : Nat) N7 ∈ tables_1 := List.mem_of_getElem? (i := 95) rfl
theorem w96 : Jvm.Cond.static N7 ∈ tables_1 := List.mem_of_getElem? (i := 96) rfl
theorem d21_8 : decode jdk_42_method_155_code 8 = .ok (.pop, 1) := by decide +kernel
theorem d21_9 : decode jdk_42_method_155_code 9 = .ok (.return_, 1) := by decide +kernel
abbrev N8 : MethodName := ⟨"java/lang/String", "checkIndex", "(II)V"⟩

abbrev rm_chk : Room := { frames := 1, cells := 0, slots := 0, locals := 14 }
set_option maxRecDepth 65536 in
set_option maxHeartbeats 4000000 in
theorem ct_chk (l : Launch) {Z : State} {n0 : Nat} {z : Int32} {f : Value} (W : Sx Z z f) (i n : Int32) (h : Heap) (h0 : ¬ i < 0) (hi : i < n) :
    Ctr l Z n0 N8 jdk_42_method_155_code 2 none rm_chk #[(.int i), (.int n)] h [] (fun v h' sn => v = none ∧ h = h' ∧ sn = []) := by
  refine Ctr.of_go (ls := #[.val (.int i), .val (.int n)]) W.1 (plainFor_of_name pn_N4) (fun m => by first | (simp [entryFrame, mkF, argsToLocals, Value.category]; done) | rfl) (fun K H => ?_)
  refine Go.iloadN H d21_0 rfl rfl ?_
  refine Go.iloadN H d21_1 rfl rfl ?_
  refine Go.getstatic H d21_2 rfl w93 W.2.2.2.2 ?_
  refine Go.callS (rest := []) 0 [(.int i), (.int n), f] H d21_5 rfl w95 w96 w94 w97 pd_N7 (ct_pre l W i n h h0 hi) all0 rfl rfl rfl (Nat.le_of_eq rfl) (by decide) (by decide) (by decide) (by decide) nh_N7 ?_
  rintro _ _ _ ⟨rfl, rfl, rfl⟩
  show Go _ _ _ _ _ _ h [] 0 0 8 #[.val (.int i), .val (.int n)] [(.int i)]
  refine Go.pop H d21_8 rfl rfl ?_
  exact Go.return_ [] H d21_9 ⟨rfl, rfl, rfl⟩ all0 (by decide) (by decide)
theorem own_ltn {i : Int32} {n ni : Nat} (h0 : ¬ i < 0) (hi : i.toNatClampNeg = ni) (hn : n < 2 ^ 31) (h : ni < n) : i < n.toInt32 := by
  rw [Int32.lt_iff_toInt_lt] at h0 ⊢; rw [own_len hn]; simp only [Int32.toNatClampNeg] at hi; simp only [Int32.reduceToInt] at h0; omega
theorem own_getm {cs : List Int32} {ni : Nat} {c : Int32} (hc : cs[ni]? = some c) : (cs.map (nar .byte))[ni]? = some (nar .byte c) := by rw [List.getElem?_map, hc]; rfl
theorem d20_0 : decode jdk_43_method_2_code 0 = .ok (.iload_n 1, 1) := by decide +kernel
theorem d20_1 : decode jdk_43_method_2_code 1 = .ok (.aload_n 0, 1) := by decide +kernel
theorem d20_2 : decode jdk_43_method_2_code 2 = .ok (.arraylength, 1) := by decide +kernel
theorem d20_3 : decode jdk_43_method_2_code 3 = .ok (.invokestatic 9, 3) := by decide +kernel
theorem w92 : Jvm.Cond.code N8 jdk_42_method_155_code (2 : Nat) (Option.none : Option Jvm.ClassFile.FieldType) ∈ tables_1 := List.mem_of_getElem? (i := 92) rfl
theorem pd_N8 : parseMethodDescriptor N8.desc = some ⟨[.int, .int], none⟩ := by decide +kernel
theorem w90 : Jvm.Cond.methodLink "java/lang/StringLatin1" (9 : Nat) N8 ∈ tables_1 := List.mem_of_getElem? (i := 90) rfl
theorem w91 : Jvm.Cond.static N8 ∈ tables_1 := List.mem_of_getElem? (i := 91) rfl
theorem d20_6 : decode jdk_43_method_2_code 6 = .ok (.aload_n 0, 1) := by decide +kernel
theorem d20_7 : decode jdk_43_method_2_code 7 = .ok (.iload_n 1, 1) := by decide +kernel
theorem d20_8 : decode jdk_43_method_2_code 8 = .ok (.baload, 1) := by decide +kernel
theorem d20_9 : decode jdk_43_method_2_code 9 = .ok (.sipush 255, 3) := by decide +kernel
theorem d20_12 : decode jdk_43_method_2_code 12 = .ok (.iand, 1) := by decide +kernel
theorem d20_13 : decode jdk_43_method_2_code 13 = .ok (.i2c, 1) := by decide +kernel
theorem d20_14 : decode jdk_43_method_2_code 14 = .ok (.ireturn, 1) := by decide +kernel
abbrev N9 : MethodName := ⟨"java/lang/StringLatin1", "charAt", "([BI)C"⟩
theorem pn_N9 : plainName N9.cls = true := by first | (simp [plainName, overriddenIn]; done) | decide +kernel

abbrev rm_lch : Room := { frames := 2, cells := 0, slots := 0, locals := 27 }
set_option maxRecDepth 65536 in
set_option maxHeartbeats 4000000 in
theorem ct_lch (l : Launch) {Z : State} {n0 : Nat} {z : Int32} {f : Value} (W : Sx Z z f) (b : Addr) (cs : List Int32) (i c : Int32) (ni : Nat) (h : Heap) (Fb : Vec Z h b .byte (cs.map (nar .byte))) (hL : ∀ c ∈ cs, isL c) (hn : cs.length < 2 ^ 31) (h0 : ¬ i < 0) (hi : i.toNatClampNeg = ni) (hc : cs[ni]? = some c) :
    Ctr l Z n0 N9 jdk_43_method_2_code 2 (some .char) rm_lch #[(.ref b), (.int i)] h [] (fun v h' sn => v = some (.int c) ∧ h = h' ∧ sn = []) := by
  refine Ctr.of_go (ls := #[.val (.ref b), .val (.int i)]) W.1 (plainFor_of_name pn_N9) (fun m => by first | (simp [entryFrame, mkF, argsToLocals, Value.category]; done) | rfl) (fun K H => ?_)
  refine Go.iloadN H d20_0 rfl rfl ?_
  refine Go.aloadN H d20_1 rfl rfl rfl ?_
  refine Go.arraylength cs.length.toInt32 H d20_2 rfl Fb (by rw [List.length_map]) ?_
  refine Go.callS (rest := []) 0 [(.int i), (.int cs.length.toInt32)] H d20_3 rfl w90 w91 w10 w92 pd_N8 (ct_chk l W i cs.length.toInt32 h h0 (own_ltn h0 hi hn (List.getElem?_eq_some_iff.mp hc).1)) all0 rfl rfl rfl (Nat.le_of_eq rfl) (by decide) (by decide) (by decide) (by decide) nh_N4 ?_
  rintro _ _ _ ⟨rfl, rfl, rfl⟩
  show Go _ _ _ _ _ _ h [] 0 0 6 #[.val (.ref b), .val (.int i)] []
  refine Go.aloadN H d20_6 rfl rfl rfl ?_
  refine Go.iloadN H d20_7 rfl rfl ?_
  refine Go.baload (v := (nar .byte c)) H d20_8 rfl Fb ni hi h0 (own_getm hc) ?_
  refine Go.sipush (255 : Int32) H d20_9 rfl rfl ?_
  refine Go.iand H d20_12 rfl ?_
  refine Go.i2c H d20_13 rfl ?_
  exact Go.ireturn c [] H d20_14 (by simp) (own_nn.trans (own_back (hL c (List.mem_of_getElem? hc)))) ⟨rfl, rfl, rfl⟩ all0 (by decide) (by decide)
theorem d19_0 : decode jdk_42_method_56_code 0 = .ok (.aload_n 0, 1) := by decide +kernel
theorem d19_1 : decode jdk_42_method_56_code 1 = .ok (.invokevirtual 492, 3) := by decide +kernel
theorem w65 : Jvm.Cond.code N6 jdk_42_method_154_code (1 : Nat) (Option.some Jvm.ClassFile.FieldType.boolean) ∈ tables_1 := List.mem_of_getElem? (i := 65) rfl
theorem pd_N6 : parseMethodDescriptor N6.desc = some ⟨[], (some .boolean)⟩ := by decide +kernel
theorem w61 : Jvm.Cond.methodLink "java/lang/String" (492 : Nat) N6 ∈ tables_1 := List.mem_of_getElem? (i := 61) rfl
theorem w62 : Jvm.Cond.declares N6 ∈ tables_1 := List.mem_of_getElem? (i := 62) rfl
theorem w64 : Jvm.Cond.selects "java/lang/String" N6 N6 ∈ tables_1 := List.mem_of_getElem? (i := 64) rfl
theorem w63 : Jvm.Cond.instanceMethod N6 ∈ tables_1 := List.mem_of_getElem? (i := 63) rfl
theorem d19_4 : decode jdk_42_method_56_code 4 = .ok (.ifCond .eq 12, 3) := by decide +kernel
theorem d19_7 : decode jdk_42_method_56_code 7 = .ok (.aload_n 0, 1) := by decide +kernel
theorem d19_8 : decode jdk_42_method_56_code 8 = .ok (.getfield 9, 3) := by decide +kernel
theorem d19_11 : decode jdk_42_method_56_code 11 = .ok (.iload_n 1, 1) := by decide +kernel
theorem d19_12 : decode jdk_42_method_56_code 12 = .ok (.invokestatic 495, 3) := by decide +kernel
theorem w89 : Jvm.Cond.code N9 jdk_43_method_2_code (2 : Nat) (Option.some Jvm.ClassFile.FieldType.char) ∈ tables_1 := List.mem_of_getElem? (i := 89) rfl
theorem w68 : Jvm.Cond.initialized "java/lang/StringLatin1" ∈ tables_1 := List.mem_of_getElem? (i := 68) rfl
theorem pd_N9 : parseMethodDescriptor N9.desc = some ⟨[(.array .byte), .int], (some .char)⟩ := by decide +kernel
theorem nh_N9 : N9.cls ≠ "java/lang/invoke/MethodHandle" ∧ N9.cls ≠ "java/lang/invoke/VarHandle" := by decide
theorem w87 : Jvm.Cond.methodLink "java/lang/String" (495 : Nat) N9 ∈ tables_1 := List.mem_of_getElem? (i := 87) rfl
theorem w88 : Jvm.Cond.static N9 ∈ tables_1 := List.mem_of_getElem? (i := 88) rfl
theorem d19_15 : decode jdk_42_method_56_code 15 = .ok (.ireturn, 1) := by decide +kernel
abbrev N10 : MethodName := ⟨"java/lang/String", "charAt", "(I)C"⟩

abbrev rm_cha : Room := { frames := 3, cells := 0, slots := 0, locals := 40 }
set_option maxRecDepth 65536 in
set_option maxHeartbeats 4000000 in
theorem ct_cha (l : Launch) {Z : State} {n0 : Nat} {z : Int32} {f : Value} (W : Sx Z z f) (x b : Addr) (cs : List Int32) (i c : Int32) (ni : Nat) (h : Heap) (S : Str Z h x b cs) (h0 : ¬ i < 0) (hi : i.toNatClampNeg = ni) (hc : cs[ni]? = some c) :
    Ctr l Z n0 N10 jdk_42_method_56_code 2 (some .char) rm_cha #[(.ref x), (.int i)] h [] (fun v h' sn => v = some (.int c) ∧ h = h' ∧ sn = []) := by
  refine Ctr.of_go (ls := #[.val (.ref x), .val (.int i)]) W.1 (plainFor_of_name pn_N4) (fun m => by first | (simp [entryFrame, mkF, argsToLocals, Value.category]; done) | rfl) (fun K H => ?_)
  have S0 := S
  obtain ⟨A, Fv, Fc, Fb, hL, hn⟩ := S
  refine Go.aloadN H d19_0 rfl rfl rfl ?_
  refine Go.callV (rest := []) 0 [] H d19_1 rfl A w61 w62 w64 w63 w10 w65 pd_N6 (ct_isl l W x b cs h S0) all0 rfl rfl rfl (Nat.le_of_eq rfl) (by decide) (by decide) (by decide) (by decide) nh_N4 ?_
  rintro _ _ _ ⟨rfl, rfl, rfl⟩
  show Go _ _ _ _ _ _ h [] 0 0 4 #[.val (.ref x), .val (.int i)] [(.int (1 : Int32))]
  refine Go.ifN H d19_4 (by decide) rfl ?_
  refine Go.aloadN H d19_7 rfl rfl rfl ?_
  refine Go.getfield H d19_8 rfl w36 Fv ?_
  refine Go.iloadN H d19_11 rfl rfl ?_
  refine Go.callS (rest := []) 0 [(.ref b), (.int i)] H d19_12 rfl w87 w88 w68 w89 pd_N9 (ct_lch l W b cs i c ni h Fb hL hn h0 hi hc) all0 rfl rfl rfl (Nat.le_of_eq rfl) (by decide) (by decide) (by decide) (by decide) nh_N9 ?_
  rintro _ _ _ ⟨rfl, rfl, rfl⟩
  show Go _ _ _ _ _ _ h [] 0 0 15 #[.val (.ref x), .val (.int i)] [(.int c)]
  exact Go.ireturn c [] H d19_15 (by simp) (own_char (hL c (List.mem_of_getElem? hc)).c) ⟨rfl, rfl, rfl⟩ all0 (by decide) (by decide)
theorem d13_0 : decode jdk_42_method_152_code 0 = .ok (.getstatic 38, 3) := by decide +kernel
theorem d13_3 : decode jdk_42_method_152_code 3 = .ok (.ifCond .eq 10, 3) := by decide +kernel
theorem d13_6 : decode jdk_42_method_152_code 6 = .ok (.aload_n 0, 1) := by decide +kernel
theorem d13_7 : decode jdk_42_method_152_code 7 = .ok (.getfield 15, 3) := by decide +kernel
theorem d13_10 : decode jdk_42_method_152_code 10 = .ok (.goto 4, 3) := by decide +kernel
theorem d13_14 : decode jdk_42_method_152_code 14 = .ok (.ireturn, 1) := by decide +kernel
abbrev N11 : MethodName := ⟨"java/lang/String", "coder", "()B"⟩

abbrev rm_cod : Room := { frames := 0, cells := 0, slots := 0, locals := 0 }
set_option maxRecDepth 65536 in
set_option maxHeartbeats 4000000 in
theorem ct_cod (l : Launch) {Z : State} {n0 : Nat} {z : Int32} {f : Value} (W : Sx Z z f) (x b : Addr) (cs : List Int32) (h : Heap) (S : Str Z h x b cs) :
    Ctr l Z n0 N11 jdk_42_method_152_code 1 (some .byte) rm_cod #[(.ref x)] h [] (fun v h' sn => v = some (.int 0) ∧ h = h' ∧ sn = []) := by
  refine Ctr.of_go (ls := #[.val (.ref x)]) W.1 (plainFor_of_name pn_N4) (fun m => by first | (simp [entryFrame, mkF, argsToLocals, Value.category]; done) | rfl) (fun K H => ?_)
  obtain ⟨A, Fv, Fc, Fb, hL, hn⟩ := S
  refine Go.getstatic H d13_0 rfl w22 W.2.2.1 ?_
  refine Go.ifN H d13_3 (feq W.2.1).1 rfl ?_
  refine Go.aloadN H d13_6 rfl rfl rfl ?_
  refine Go.getfield H d13_7 rfl w34 Fc ?_
  refine Go.goto (pc' := 14) H d13_10 (by decide) (by decide) ?_
  exact Go.ireturn (0 : Int32) [] H d13_14 (by simp) (by decide) ⟨rfl, rfl, rfl⟩ all0 (by decide) (by decide)
theorem own_shr0 (x : Int32) : x >>> ((0 : Int32) &&& 31) = x := Int32.toInt_inj.mp (by rw [c_ishr x 0 0 (by decide)]; simp)
theorem d17_0 : decode jdk_42_method_54_code 0 = .ok (.aload_n 0, 1) := by decide +kernel
theorem d17_1 : decode jdk_42_method_54_code 1 = .ok (.getfield 9, 3) := by decide +kernel
theorem d17_4 : decode jdk_42_method_54_code 4 = .ok (.arraylength, 1) := by decide +kernel
theorem d17_5 : decode jdk_42_method_54_code 5 = .ok (.aload_n 0, 1) := by decide +kernel
theorem d17_6 : decode jdk_42_method_54_code 6 = .ok (.invokevirtual 335, 3) := by decide +kernel
theorem w60 : Jvm.Cond.code N11 jdk_42_method_152_code (1 : Nat) (Option.some Jvm.ClassFile.FieldType.byte) ∈ tables_1 := List.mem_of_getElem? (i := 60) rfl
theorem pd_N11 : parseMethodDescriptor N11.desc = some ⟨[], (some .byte)⟩ := by decide +kernel
theorem w56 : Jvm.Cond.methodLink "java/lang/String" (335 : Nat) N11 ∈ tables_1 := List.mem_of_getElem? (i := 56) rfl
theorem w57 : Jvm.Cond.declares N11 ∈ tables_1 := List.mem_of_getElem? (i := 57) rfl
theorem w59 : Jvm.Cond.selects "java/lang/String" N11 N11 ∈ tables_1 := List.mem_of_getElem? (i := 59) rfl
theorem w58 : Jvm.Cond.instanceMethod N11 ∈ tables_1 := List.mem_of_getElem? (i := 58) rfl
theorem d17_9 : decode jdk_42_method_54_code 9 = .ok (.ishr, 1) := by decide +kernel
theorem d17_10 : decode jdk_42_method_54_code 10 = .ok (.ireturn, 1) := by decide +kernel
abbrev N12 : MethodName := ⟨"java/lang/String", "length", "()I"⟩

abbrev rm_len : Room := { frames := 1, cells := 0, slots := 0, locals := 13 }
set_option maxRecDepth 65536 in
set_option maxHeartbeats 4000000 in
theorem ct_len (l : Launch) {Z : State} {n0 : Nat} {z : Int32} {f : Value} (W : Sx Z z f) (x b : Addr) (cs : List Int32) (h : Heap) (S : Str Z h x b cs) :
    Ctr l Z n0 N12 jdk_42_method_54_code 1 (some .int) rm_len #[(.ref x)] h [] (fun v h' sn => v = some (.int cs.length.toInt32) ∧ h = h' ∧ sn = []) := by
  refine Ctr.of_go (ls := #[.val (.ref x)]) W.1 (plainFor_of_name pn_N4) (fun m => by first | (simp [entryFrame, mkF, argsToLocals, Value.category]; done) | rfl) (fun K H => ?_)
  have S0 := S
  obtain ⟨A, Fv, Fc, Fb, hL, hn⟩ := S
  refine Go.aloadN H d17_0 rfl rfl rfl ?_
  refine Go.getfield H d17_1 rfl w36 Fv ?_
  refine Go.arraylength cs.length.toInt32 H d17_4 rfl Fb (by rw [List.length_map]) ?_
  refine Go.aloadN H d17_5 rfl rfl rfl ?_
  refine Go.callV (rest := [(.int cs.length.toInt32)]) 1 [] H d17_6 rfl A w56 w57 w59 w58 w10 w60 pd_N11 (ct_cod l W x b cs h S0) all0 rfl rfl rfl (Nat.le_of_eq rfl) (by decide) (by decide) (by decide) (by decide) nh_N4 ?_
  rintro _ _ _ ⟨rfl, rfl, rfl⟩
  show Go _ _ _ _ _ _ h [] 0 0 9 #[.val (.ref x)] [(.int (0 : Int32)), (.int cs.length.toInt32)]
  refine Go.ishr H d17_9 rfl ?_
  exact Go.ireturnI [] H d17_10 ⟨by rw [own_shr0], rfl, rfl⟩ all0 (by decide) (by decide)
theorem own_v9 (y : Int64) (h : (y &&& 511).toInt32 < 256) : isL (nar .char (y &&& 511).toInt32) := by
  have h1 := c_maskL y 511 9 (by decide) (by decide)
  have h2 := c_l2i (y &&& 511)
  have h3 := rng32 (y &&& 511).toInt32
  rw [Int32.lt_iff_toInt_lt] at h
  have h4 : (256 : Int32).toInt = 256 := by decide
  have h5 : 0 ≤ (y &&& 511).toInt32.toInt ∧ (y &&& 511).toInt32.toInt ≤ 255 := by omega
  rw [own_char ⟨h5.1, by omega⟩]; exact h5
def chF0 (x : Int64) : Int32 := if (((x.toUInt64 >>> ((0 : Int32) &&& 0x3f).toInt64.toUInt64).toInt64) &&& (511 : Int64)).toInt32 < (256 : Int32) then (nar .char (((x.toUInt64 >>> ((0 : Int32) &&& 0x3f).toInt64.toUInt64).toInt64) &&& (511 : Int64)).toInt32) else if ((((x.toUInt64 >>> ((0 : Int32) &&& 0x3f).toInt64.toUInt64).toInt64) &&& (511 : Int64)).toInt32 &&& (3 : Int32)) = (1 : Int32) then (123 : Int32) else if ((((x.toUInt64 >>> ((0 : Int32) &&& 0x3f).toInt64.toUInt64).toInt64) &&& (511 : Int64)).toInt32 &&& (3 : Int32)) = (2 : Int32) then (125 : Int32) else (36 : Int32)
theorem d1_0 : decode method_3_code 0 = .ok (.lload_n 0, 1) := by decide +kernel
theorem d1_1 : decode method_3_code 1 = .ok (.bipush 9, 2) := by decide +kernel
theorem d1_3 : decode method_3_code 3 = .ok (.iload_n 2, 1) := by decide +kernel
theorem d1_4 : decode method_3_code 4 = .ok (.imul, 1) := by decide +kernel
theorem d1_5 : decode method_3_code 5 = .ok (.lushr, 1) := by decide +kernel
theorem d1_6 : decode method_3_code 6 = .ok (.ldc2_w 27, 3) := by decide +kernel
theorem w4 : Jvm.Cond.constantLong "com/example/autowire/autowire/beans/PlaceholdersHoldsPlaceholderPinLaw" (27 : Nat) (511 : Int64) ∈ tables_1 := List.mem_of_getElem? (i := 4) rfl
theorem d1_9 : decode method_3_code 9 = .ok (.land, 1) := by decide +kernel
theorem d1_10 : decode method_3_code 10 = .ok (.l2i, 1) := by decide +kernel
theorem d1_11 : decode method_3_code 11 = .ok (.istore_n 3, 1) := by decide +kernel
theorem d1_12 : decode method_3_code 12 = .ok (.iload_n 3, 1) := by decide +kernel
theorem d1_13 : decode method_3_code 13 = .ok (.sipush 256, 3) := by decide +kernel
theorem d1_16 : decode method_3_code 16 = .ok (.if_icmp .ge 6, 3) := by decide +kernel
theorem d1_19 : decode method_3_code 19 = .ok (.iload_n 3, 1) := by decide +kernel
theorem d1_20 : decode method_3_code 20 = .ok (.i2c, 1) := by decide +kernel
theorem d1_21 : decode method_3_code 21 = .ok (.ireturn, 1) := by decide +kernel
theorem d1_22 : decode method_3_code 22 = .ok (.iload_n 3, 1) := by decide +kernel
theorem d1_23 : decode method_3_code 23 = .ok (.iconst 3, 1) := by decide +kernel
theorem d1_24 : decode method_3_code 24 = .ok (.iand, 1) := by decide +kernel
theorem d1_25 : decode method_3_code 25 = .ok (.istore 4, 2) := by decide +kernel
theorem d1_27 : decode method_3_code 27 = .ok (.iload 4, 2) := by decide +kernel
theorem d1_29 : decode method_3_code 29 = .ok (.iconst 1, 1) := by decide +kernel
theorem d1_30 : decode method_3_code 30 = .ok (.if_icmp .ne 6, 3) := by decide +kernel
theorem d1_33 : decode method_3_code 33 = .ok (.bipush 123, 2) := by decide +kernel
theorem d1_35 : decode method_3_code 35 = .ok (.ireturn, 1) := by decide +kernel
theorem d1_36 : decode method_3_code 36 = .ok (.iload 4, 2) := by decide +kernel
theorem d1_38 : decode method_3_code 38 = .ok (.iconst 2, 1) := by decide +kernel
theorem d1_39 : decode method_3_code 39 = .ok (.if_icmp .ne 6, 3) := by decide +kernel
theorem d1_42 : decode method_3_code 42 = .ok (.bipush 125, 2) := by decide +kernel
theorem d1_44 : decode method_3_code 44 = .ok (.ireturn, 1) := by decide +kernel
theorem d1_45 : decode method_3_code 45 = .ok (.bipush 36, 2) := by decide +kernel
theorem d1_47 : decode method_3_code 47 = .ok (.ireturn, 1) := by decide +kernel
abbrev N13 : MethodName := ⟨"com/example/autowire/autowire/beans/PlaceholdersHoldsPlaceholderPinLaw", "ch", "(JI)C"⟩
theorem pn_N13 : plainName N13.cls = true := by first | (simp [plainName, overriddenIn]; done) | decide +kernel

abbrev rm_ch0 : Room := { frames := 0, cells := 0, slots := 0, locals := 0 }
set_option maxRecDepth 65536 in
set_option maxHeartbeats 4000000 in
theorem ct_ch0 (l : Launch) {Z : State} {n0 : Nat} {z : Int32} {f : Value} (W : Sx Z z f) (x : Int64) (h : Heap) :
    Ctr l Z n0 N13 method_3_code 5 (some .char) rm_ch0 #[(.long x), (.int (0 : Int32))] h [] (fun v h' sn => v = some (.int (chF0 x)) ∧ Ext h h' ∧ sn = []) := by
  refine Ctr.of_go (ls := #[.val (.long x), .second, .val (.int (0 : Int32)), .unset, .unset]) W.1 (plainFor_of_name pn_N13) (fun m => by first | (simp [entryFrame, mkF, argsToLocals, Value.category]; done) | rfl) (fun K H => ?_)
  have KK : Keep h h [] := Keep.refl _ _
  refine Go.lloadN H d1_0 rfl rfl ?_
  refine Go.bipush (9 : Int32) H d1_1 rfl rfl ?_
  refine Go.iloadN H d1_3 rfl rfl ?_
  refine Go.imul H d1_4 rfl ?_
  show Go _ _ _ _ _ _ h [] 0 0 5 #[.val (.long x), .second, .val (.int (0 : Int32)), .unset, .unset] [(.int (0 : Int32)), (.long x)]
  refine Go.lushr H d1_5 rfl ?_
  refine Go.ldc2 H d1_6 rfl w4 ?_
  refine Go.land H d1_9 rfl ?_
  refine Go.l2i H d1_10 rfl ?_
  refine Go.istoreN (ls' := #[.val (.long x), .second, .val (.int (0 : Int32)), .val (.int (((x.toUInt64 >>> ((0 : Int32) &&& 0x3f).toInt64.toUInt64).toInt64) &&& (511 : Int64)).toInt32), .unset]) H d1_11 rfl rfl ?_
  refine Go.iloadN H d1_12 rfl rfl ?_
  refine Go.sipush (256 : Int32) H d1_13 rfl rfl ?_
  by_cases c1 : (((x.toUInt64 >>> ((0 : Int32) &&& 0x3f).toInt64.toUInt64).toInt64) &&& (511 : Int64)).toInt32 < (256 : Int32)
  ·
    refine Go.icmpN H d1_16 (tlt c1).2.1 rfl ?_
    refine Go.iloadN H d1_19 rfl rfl ?_
    refine Go.i2c H d1_20 rfl ?_
    exact Go.ireturn (nar .char (((x.toUInt64 >>> ((0 : Int32) &&& 0x3f).toInt64.toUInt64).toInt64) &&& (511 : Int64)).toInt32) [] H d1_21 (by simp) own_nn ⟨congrArg (fun q => some (Value.int q)) (show (nar .char (((x.toUInt64 >>> ((0 : Int32) &&& 0x3f).toInt64.toUInt64).toInt64) &&& (511 : Int64)).toInt32) = chF0 x from Eq.symm (by rw [chF0, if_pos c1])), own_ext KK, rfl⟩ all0 (by decide) (by decide)
  ·
    refine Go.icmpY (pc' := 22) H d1_16 (flt c1).2.1 (by decide) (by decide) ?_
    refine Go.iloadN H d1_22 rfl rfl ?_
    refine Go.iconst (3 : Int32) H d1_23 rfl rfl ?_
    refine Go.iand H d1_24 rfl ?_
    refine Go.istore (ls' := #[.val (.long x), .second, .val (.int (0 : Int32)), .val (.int (((x.toUInt64 >>> ((0 : Int32) &&& 0x3f).toInt64.toUInt64).toInt64) &&& (511 : Int64)).toInt32), .val (.int ((((x.toUInt64 >>> ((0 : Int32) &&& 0x3f).toInt64.toUInt64).toInt64) &&& (511 : Int64)).toInt32 &&& (3 : Int32)))]) H d1_25 rfl rfl ?_
    refine Go.iload H d1_27 rfl rfl ?_
    refine Go.iconst (1 : Int32) H d1_29 rfl rfl ?_
    by_cases c2 : ((((x.toUInt64 >>> ((0 : Int32) &&& 0x3f).toInt64.toUInt64).toInt64) &&& (511 : Int64)).toInt32 &&& (3 : Int32)) = (1 : Int32)
    ·
      refine Go.icmpN H d1_30 (teq c2).2 rfl ?_
      refine Go.bipush (123 : Int32) H d1_33 rfl rfl ?_
      exact Go.ireturn (123 : Int32) [] H d1_35 (by simp) (by decide) ⟨congrArg (fun q => some (Value.int q)) (show (123 : Int32) = chF0 x from Eq.symm (by rw [chF0, if_neg c1, if_pos c2])), own_ext KK, rfl⟩ all0 (by decide) (by decide)
    ·
      refine Go.icmpY (pc' := 36) H d1_30 (feq c2).2 (by decide) (by decide) ?_
      refine Go.iload H d1_36 rfl rfl ?_
      refine Go.iconst (2 : Int32) H d1_38 rfl rfl ?_
      by_cases c3 : ((((x.toUInt64 >>> ((0 : Int32) &&& 0x3f).toInt64.toUInt64).toInt64) &&& (511 : Int64)).toInt32 &&& (3 : Int32)) = (2 : Int32)
      ·
        refine Go.icmpN H d1_39 (teq c3).2 rfl ?_
        refine Go.bipush (125 : Int32) H d1_42 rfl rfl ?_
        exact Go.ireturn (125 : Int32) [] H d1_44 (by simp) (by decide) ⟨congrArg (fun q => some (Value.int q)) (show (125 : Int32) = chF0 x from Eq.symm (by rw [chF0, if_neg c1, if_neg c2, if_pos c3])), own_ext KK, rfl⟩ all0 (by decide) (by decide)
      ·
        refine Go.icmpY (pc' := 45) H d1_39 (feq c3).2 (by decide) (by decide) ?_
        refine Go.bipush (36 : Int32) H d1_45 rfl rfl ?_
        exact Go.ireturn (36 : Int32) [] H d1_47 (by simp) (by decide) ⟨congrArg (fun q => some (Value.int q)) (show (36 : Int32) = chF0 x from Eq.symm (by rw [chF0, if_neg c1, if_neg c2, if_neg c3])), own_ext KK, rfl⟩ all0 (by decide) (by decide)
theorem chF0_l (x : Int64) : isL (chF0 x) := by
  unfold chF0
  split
  · exact own_v9 _ (by assumption)
  · repeat' split
    all_goals exact ⟨by decide, by decide⟩
def chF1 (x : Int64) : Int32 := if (((x.toUInt64 >>> ((9 : Int32) &&& 0x3f).toInt64.toUInt64).toInt64) &&& (511 : Int64)).toInt32 < (256 : Int32) then (nar .char (((x.toUInt64 >>> ((9 : Int32) &&& 0x3f).toInt64.toUInt64).toInt64) &&& (511 : Int64)).toInt32) else if ((((x.toUInt64 >>> ((9 : Int32) &&& 0x3f).toInt64.toUInt64).toInt64) &&& (511 : Int64)).toInt32 &&& (3 : Int32)) = (1 : Int32) then (123 : Int32) else if ((((x.toUInt64 >>> ((9 : Int32) &&& 0x3f).toInt64.toUInt64).toInt64) &&& (511 : Int64)).toInt32 &&& (3 : Int32)) = (2 : Int32) then (125 : Int32) else (36 : Int32)

abbrev rm_ch1 : Room := { frames := 0, cells := 0, slots := 0, locals := 0 }
set_option maxRecDepth 65536 in
set_option maxHeartbeats 4000000 in
theorem ct_ch1 (l : Launch) {Z : State} {n0 : Nat} {z : Int32} {f : Value} (W : Sx Z z f) (x : Int64) (h : Heap) :
    Ctr l Z n0 N13 method_3_code 5 (some .char) rm_ch1 #[(.long x), (.int (1 : Int32))] h [] (fun v h' sn => v = some (.int (chF1 x)) ∧ Ext h h' ∧ sn = []) := by
  refine Ctr.of_go (ls := #[.val (.long x), .second, .val (.int (1 : Int32)), .unset, .unset]) W.1 (plainFor_of_name pn_N13) (fun m => by first | (simp [entryFrame, mkF, argsToLocals, Value.category]; done) | rfl) (fun K H => ?_)
  have KK : Keep h h [] := Keep.refl _ _
  refine Go.lloadN H d1_0 rfl rfl ?_
  refine Go.bipush (9 : Int32) H d1_1 rfl rfl ?_
  refine Go.iloadN H d1_3 rfl rfl ?_
  refine Go.imul H d1_4 rfl ?_
  show Go _ _ _ _ _ _ h [] 0 0 5 #[.val (.long x), .second, .val (.int (1 : Int32)), .unset, .unset] [(.int (9 : Int32)), (.long x)]
  refine Go.lushr H d1_5 rfl ?_
  refine Go.ldc2 H d1_6 rfl w4 ?_
  refine Go.land H d1_9 rfl ?_
  refine Go.l2i H d1_10 rfl ?_
  refine Go.istoreN (ls' := #[.val (.long x), .second, .val (.int (1 : Int32)), .val (.int (((x.toUInt64 >>> ((9 : Int32) &&& 0x3f).toInt64.toUInt64).toInt64) &&& (511 : Int64)).toInt32), .unset]) H d1_11 rfl rfl ?_
  refine Go.iloadN H d1_12 rfl rfl ?_
  refine Go.sipush (256 : Int32) H d1_13 rfl rfl ?_
  by_cases c1 : (((x.toUInt64 >>> ((9 : Int32) &&& 0x3f).toInt64.toUInt64).toInt64) &&& (511 : Int64)).toInt32 < (256 : Int32)
  ·
    refine Go.icmpN H d1_16 (tlt c1).2.1 rfl ?_
    refine Go.iloadN H d1_19 rfl rfl ?_
    refine Go.i2c H d1_20 rfl ?_
    exact Go.ireturn (nar .char (((x.toUInt64 >>> ((9 : Int32) &&& 0x3f).toInt64.toUInt64).toInt64) &&& (511 : Int64)).toInt32) [] H d1_21 (by simp) own_nn ⟨congrArg (fun q => some (Value.int q)) (show (nar .char (((x.toUInt64 >>> ((9 : Int32) &&& 0x3f).toInt64.toUInt64).toInt64) &&& (511 : Int64)).toInt32) = chF1 x from Eq.symm (by rw [chF1, if_pos c1])), own_ext KK, rfl⟩ all0 (by decide) (by decide)
  ·
    refine Go.icmpY (pc' := 22) H d1_16 (flt c1).2.1 (by decide) (by decide) ?_
    refine Go.iloadN H d1_22 rfl rfl ?_
    refine Go.iconst (3 : Int32) H d1_23 rfl rfl ?_
    refine Go.iand H d1_24 rfl ?_
    refine Go.istore (ls' := #[.val (.long x), .second, .val (.int (1 : Int32)), .val (.int (((x.toUInt64 >>> ((9 : Int32) &&& 0x3f).toInt64.toUInt64).toInt64) &&& (511 : Int64)).toInt32), .val (.int ((((x.toUInt64 >>> ((9 : Int32) &&& 0x3f).toInt64.toUInt64).toInt64) &&& (511 : Int64)).toInt32 &&& (3 : Int32)))]) H d1_25 rfl rfl ?_
    refine Go.iload H d1_27 rfl rfl ?_
    refine Go.iconst (1 : Int32) H d1_29 rfl rfl ?_
    by_cases c2 : ((((x.toUInt64 >>> ((9 : Int32) &&& 0x3f).toInt64.toUInt64).toInt64) &&& (511 : Int64)).toInt32 &&& (3 : Int32)) = (1 : Int32)
    ·
      refine Go.icmpN H d1_30 (teq c2).2 rfl ?_
      refine Go.bipush (123 : Int32) H d1_33 rfl rfl ?_
      exact Go.ireturn (123 : Int32) [] H d1_35 (by simp) (by decide) ⟨congrArg (fun q => some (Value.int q)) (show (123 : Int32) = chF1 x from Eq.symm (by rw [chF1, if_neg c1, if_pos c2])), own_ext KK, rfl⟩ all0 (by decide) (by decide)
    ·
      refine Go.icmpY (pc' := 36) H d1_30 (feq c2).2 (by decide) (by decide) ?_
      refine Go.iload H d1_36 rfl rfl ?_
      refine Go.iconst (2 : Int32) H d1_38 rfl rfl ?_
      by_cases c3 : ((((x.toUInt64 >>> ((9 : Int32) &&& 0x3f).toInt64.toUInt64).toInt64) &&& (511 : Int64)).toInt32 &&& (3 : Int32)) = (2 : Int32)
      ·
        refine Go.icmpN H d1_39 (teq c3).2 rfl ?_
        refine Go.bipush (125 : Int32) H d1_42 rfl rfl ?_
        exact Go.ireturn (125 : Int32) [] H d1_44 (by simp) (by decide) ⟨congrArg (fun q => some (Value.int q)) (show (125 : Int32) = chF1 x from Eq.symm (by rw [chF1, if_neg c1, if_neg c2, if_pos c3])), own_ext KK, rfl⟩ all0 (by decide) (by decide)
      ·
        refine Go.icmpY (pc' := 45) H d1_39 (feq c3).2 (by decide) (by decide) ?_
        refine Go.bipush (36 : Int32) H d1_45 rfl rfl ?_
        exact Go.ireturn (36 : Int32) [] H d1_47 (by simp) (by decide) ⟨congrArg (fun q => some (Value.int q)) (show (36 : Int32) = chF1 x from Eq.symm (by rw [chF1, if_neg c1, if_neg c2, if_neg c3])), own_ext KK, rfl⟩ all0 (by decide) (by decide)
theorem chF1_l (x : Int64) : isL (chF1 x) := by
  unfold chF1
  split
  · exact own_v9 _ (by assumption)
  · repeat' split
    all_goals exact ⟨by decide, by decide⟩
def chF2 (x : Int64) : Int32 := if (((x.toUInt64 >>> ((18 : Int32) &&& 0x3f).toInt64.toUInt64).toInt64) &&& (511 : Int64)).toInt32 < (256 : Int32) then (nar .char (((x.toUInt64 >>> ((18 : Int32) &&& 0x3f).toInt64.toUInt64).toInt64) &&& (511 : Int64)).toInt32) else if ((((x.toUInt64 >>> ((18 : Int32) &&& 0x3f).toInt64.toUInt64).toInt64) &&& (511 : Int64)).toInt32 &&& (3 : Int32)) = (1 : Int32) then (123 : Int32) else if ((((x.toUInt64 >>> ((18 : Int32) &&& 0x3f).toInt64.toUInt64).toInt64) &&& (511 : Int64)).toInt32 &&& (3 : Int32)) = (2 : Int32) then (125 : Int32) else (36 : Int32)

abbrev rm_ch2 : Room := { frames := 0, cells := 0, slots := 0, locals := 0 }
set_option maxRecDepth 65536 in
set_option maxHeartbeats 4000000 in
theorem ct_ch2 (l : Launch) {Z : State} {n0 : Nat} {z : Int32} {f : Value} (W : Sx Z z f) (x : Int64) (h : Heap) :
    Ctr l Z n0 N13 method_3_code 5 (some .char) rm_ch2 #[(.long x), (.int (2 : Int32))] h [] (fun v h' sn => v = some (.int (chF2 x)) ∧ Ext h h' ∧ sn = []) := by
  refine Ctr.of_go (ls := #[.val (.long x), .second, .val (.int (2 : Int32)), .unset, .unset]) W.1 (plainFor_of_name pn_N13) (fun m => by first | (simp [entryFrame, mkF, argsToLocals, Value.category]; done) | rfl) (fun K H => ?_)
  have KK : Keep h h [] := Keep.refl _ _
  refine Go.lloadN H d1_0 rfl rfl ?_
  refine Go.bipush (9 : Int32) H d1_1 rfl rfl ?_
  refine Go.iloadN H d1_3 rfl rfl ?_
  refine Go.imul H d1_4 rfl ?_
  show Go _ _ _ _ _ _ h [] 0 0 5 #[.val (.long x), .second, .val (.int (2 : Int32)), .unset, .unset] [(.int (18 : Int32)), (.long x)]
  refine Go.lushr H d1_5 rfl ?_
  refine Go.ldc2 H d1_6 rfl w4 ?_
  refine Go.land H d1_9 rfl ?_
  refine Go.l2i H d1_10 rfl ?_
  refine Go.istoreN (ls' := #[.val (.long x), .second, .val (.int (2 : Int32)), .val (.int (((x.toUInt64 >>> ((18 : Int32) &&& 0x3f).toInt64.toUInt64).toInt64) &&& (511 : Int64)).toInt32), .unset]) H d1_11 rfl rfl ?_
  refine Go.iloadN H d1_12 rfl rfl ?_
  refine Go.sipush (256 : Int32) H d1_13 rfl rfl ?_
  by_cases c1 : (((x.toUInt64 >>> ((18 : Int32) &&& 0x3f).toInt64.toUInt64).toInt64) &&& (511 : Int64)).toInt32 < (256 : Int32)
  ·
    refine Go.icmpN H d1_16 (tlt c1).2.1 rfl ?_
    refine Go.iloadN H d1_19 rfl rfl ?_
    refine Go.i2c H d1_20 rfl ?_
    exact Go.ireturn (nar .char (((x.toUInt64 >>> ((18 : Int32) &&& 0x3f).toInt64.toUInt64).toInt64) &&& (511 : Int64)).toInt32) [] H d1_21 (by simp) own_nn ⟨congrArg (fun q => some (Value.int q)) (show (nar .char (((x.toUInt64 >>> ((18 : Int32) &&& 0x3f).toInt64.toUInt64).toInt64) &&& (511 : Int64)).toInt32) = chF2 x from Eq.symm (by rw [chF2, if_pos c1])), own_ext KK, rfl⟩ all0 (by decide) (by decide)
  ·
    refine Go.icmpY (pc' := 22) H d1_16 (flt c1).2.1 (by decide) (by decide) ?_
    refine Go.iloadN H d1_22 rfl rfl ?_
    refine Go.iconst (3 : Int32) H d1_23 rfl rfl ?_
    refine Go.iand H d1_24 rfl ?_
    refine Go.istore (ls' := #[.val (.long x), .second, .val (.int (2 : Int32)), .val (.int (((x.toUInt64 >>> ((18 : Int32) &&& 0x3f).toInt64.toUInt64).toInt64) &&& (511 : Int64)).toInt32), .val (.int ((((x.toUInt64 >>> ((18 : Int32) &&& 0x3f).toInt64.toUInt64).toInt64) &&& (511 : Int64)).toInt32 &&& (3 : Int32)))]) H d1_25 rfl rfl ?_
    refine Go.iload H d1_27 rfl rfl ?_
    refine Go.iconst (1 : Int32) H d1_29 rfl rfl ?_
    by_cases c2 : ((((x.toUInt64 >>> ((18 : Int32) &&& 0x3f).toInt64.toUInt64).toInt64) &&& (511 : Int64)).toInt32 &&& (3 : Int32)) = (1 : Int32)
    ·
      refine Go.icmpN H d1_30 (teq c2).2 rfl ?_
      refine Go.bipush (123 : Int32) H d1_33 rfl rfl ?_
      exact Go.ireturn (123 : Int32) [] H d1_35 (by simp) (by decide) ⟨congrArg (fun q => some (Value.int q)) (show (123 : Int32) = chF2 x from Eq.symm (by rw [chF2, if_neg c1, if_pos c2])), own_ext KK, rfl⟩ all0 (by decide) (by decide)
    ·
      refine Go.icmpY (pc' := 36) H d1_30 (feq c2).2 (by decide) (by decide) ?_
      refine Go.iload H d1_36 rfl rfl ?_
      refine Go.iconst (2 : Int32) H d1_38 rfl rfl ?_
      by_cases c3 : ((((x.toUInt64 >>> ((18 : Int32) &&& 0x3f).toInt64.toUInt64).toInt64) &&& (511 : Int64)).toInt32 &&& (3 : Int32)) = (2 : Int32)
      ·
        refine Go.icmpN H d1_39 (teq c3).2 rfl ?_
        refine Go.bipush (125 : Int32) H d1_42 rfl rfl ?_
        exact Go.ireturn (125 : Int32) [] H d1_44 (by simp) (by decide) ⟨congrArg (fun q => some (Value.int q)) (show (125 : Int32) = chF2 x from Eq.symm (by rw [chF2, if_neg c1, if_neg c2, if_pos c3])), own_ext KK, rfl⟩ all0 (by decide) (by decide)
      ·
        refine Go.icmpY (pc' := 45) H d1_39 (feq c3).2 (by decide) (by decide) ?_
        refine Go.bipush (36 : Int32) H d1_45 rfl rfl ?_
        exact Go.ireturn (36 : Int32) [] H d1_47 (by simp) (by decide) ⟨congrArg (fun q => some (Value.int q)) (show (36 : Int32) = chF2 x from Eq.symm (by rw [chF2, if_neg c1, if_neg c2, if_neg c3])), own_ext KK, rfl⟩ all0 (by decide) (by decide)
theorem chF2_l (x : Int64) : isL (chF2 x) := by
  unfold chF2
  split
  · exact own_v9 _ (by assumption)
  · repeat' split
    all_goals exact ⟨by decide, by decide⟩
def chF3 (x : Int64) : Int32 := if (((x.toUInt64 >>> ((27 : Int32) &&& 0x3f).toInt64.toUInt64).toInt64) &&& (511 : Int64)).toInt32 < (256 : Int32) then (nar .char (((x.toUInt64 >>> ((27 : Int32) &&& 0x3f).toInt64.toUInt64).toInt64) &&& (511 : Int64)).toInt32) else if ((((x.toUInt64 >>> ((27 : Int32) &&& 0x3f).toInt64.toUInt64).toInt64) &&& (511 : Int64)).toInt32 &&& (3 : Int32)) = (1 : Int32) then (123 : Int32) else if ((((x.toUInt64 >>> ((27 : Int32) &&& 0x3f).toInt64.toUInt64).toInt64) &&& (511 : Int64)).toInt32 &&& (3 : Int32)) = (2 : Int32) then (125 : Int32) else (36 : Int32)

abbrev rm_ch3 : Room := { frames := 0, cells := 0, slots := 0, locals := 0 }
set_option maxRecDepth 65536 in
set_option maxHeartbeats 4000000 in
theorem ct_ch3 (l : Launch) {Z : State} {n0 : Nat} {z : Int32} {f : Value} (W : Sx Z z f) (x : Int64) (h : Heap) :
    Ctr l Z n0 N13 method_3_code 5 (some .char) rm_ch3 #[(.long x), (.int (3 : Int32))] h [] (fun v h' sn => v = some (.int (chF3 x)) ∧ Ext h h' ∧ sn = []) := by
  refine Ctr.of_go (ls := #[.val (.long x), .second, .val (.int (3 : Int32)), .unset, .unset]) W.1 (plainFor_of_name pn_N13) (fun m => by first | (simp [entryFrame, mkF, argsToLocals, Value.category]; done) | rfl) (fun K H => ?_)
  have KK : Keep h h [] := Keep.refl _ _
  refine Go.lloadN H d1_0 rfl rfl ?_
  refine Go.bipush (9 : Int32) H d1_1 rfl rfl ?_
  refine Go.iloadN H d1_3 rfl rfl ?_
  refine Go.imul H d1_4 rfl ?_
  show Go _ _ _ _ _ _ h [] 0 0 5 #[.val (.long x), .second, .val (.int (3 : Int32)), .unset, .unset] [(.int (27 : Int32)), (.long x)]
  refine Go.lushr H d1_5 rfl ?_
  refine Go.ldc2 H d1_6 rfl w4 ?_
  refine Go.land H d1_9 rfl ?_
  refine Go.l2i H d1_10 rfl ?_
  refine Go.istoreN (ls' := #[.val (.long x), .second, .val (.int (3 : Int32)), .val (.int (((x.toUInt64 >>> ((27 : Int32) &&& 0x3f).toInt64.toUInt64).toInt64) &&& (511 : Int64)).toInt32), .unset]) H d1_11 rfl rfl ?_
  refine Go.iloadN H d1_12 rfl rfl ?_
  refine Go.sipush (256 : Int32) H d1_13 rfl rfl ?_
  by_cases c1 : (((x.toUInt64 >>> ((27 : Int32) &&& 0x3f).toInt64.toUInt64).toInt64) &&& (511 : Int64)).toInt32 < (256 : Int32)
  ·
    refine Go.icmpN H d1_16 (tlt c1).2.1 rfl ?_
    refine Go.iloadN H d1_19 rfl rfl ?_
    refine Go.i2c H d1_20 rfl ?_
    exact Go.ireturn (nar .char (((x.toUInt64 >>> ((27 : Int32) &&& 0x3f).toInt64.toUInt64).toInt64) &&& (511 : Int64)).toInt32) [] H d1_21 (by simp) own_nn ⟨congrArg (fun q => some (Value.int q)) (show (nar .char (((x.toUInt64 >>> ((27 : Int32) &&& 0x3f).toInt64.toUInt64).toInt64) &&& (511 : Int64)).toInt32) = chF3 x from Eq.symm (by rw [chF3, if_pos c1])), own_ext KK, rfl⟩ all0 (by decide) (by decide)
  ·
    refine Go.icmpY (pc' := 22) H d1_16 (flt c1).2.1 (by decide) (by decide) ?_
    refine Go.iloadN H d1_22 rfl rfl ?_
    refine Go.iconst (3 : Int32) H d1_23 rfl rfl ?_
    refine Go.iand H d1_24 rfl ?_
    refine Go.istore (ls' := #[.val (.long x), .second, .val (.int (3 : Int32)), .val (.int (((x.toUInt64 >>> ((27 : Int32) &&& 0x3f).toInt64.toUInt64).toInt64) &&& (511 : Int64)).toInt32), .val (.int ((((x.toUInt64 >>> ((27 : Int32) &&& 0x3f).toInt64.toUInt64).toInt64) &&& (511 : Int64)).toInt32 &&& (3 : Int32)))]) H d1_25 rfl rfl ?_
    refine Go.iload H d1_27 rfl rfl ?_
    refine Go.iconst (1 : Int32) H d1_29 rfl rfl ?_
    by_cases c2 : ((((x.toUInt64 >>> ((27 : Int32) &&& 0x3f).toInt64.toUInt64).toInt64) &&& (511 : Int64)).toInt32 &&& (3 : Int32)) = (1 : Int32)
    ·
      refine Go.icmpN H d1_30 (teq c2).2 rfl ?_
      refine Go.bipush (123 : Int32) H d1_33 rfl rfl ?_
      exact Go.ireturn (123 : Int32) [] H d1_35 (by simp) (by decide) ⟨congrArg (fun q => some (Value.int q)) (show (123 : Int32) = chF3 x from Eq.symm (by rw [chF3, if_neg c1, if_pos c2])), own_ext KK, rfl⟩ all0 (by decide) (by decide)
    ·
      refine Go.icmpY (pc' := 36) H d1_30 (feq c2).2 (by decide) (by decide) ?_
      refine Go.iload H d1_36 rfl rfl ?_
      refine Go.iconst (2 : Int32) H d1_38 rfl rfl ?_
      by_cases c3 : ((((x.toUInt64 >>> ((27 : Int32) &&& 0x3f).toInt64.toUInt64).toInt64) &&& (511 : Int64)).toInt32 &&& (3 : Int32)) = (2 : Int32)
      ·
        refine Go.icmpN H d1_39 (teq c3).2 rfl ?_
        refine Go.bipush (125 : Int32) H d1_42 rfl rfl ?_
        exact Go.ireturn (125 : Int32) [] H d1_44 (by simp) (by decide) ⟨congrArg (fun q => some (Value.int q)) (show (125 : Int32) = chF3 x from Eq.symm (by rw [chF3, if_neg c1, if_neg c2, if_pos c3])), own_ext KK, rfl⟩ all0 (by decide) (by decide)
      ·
        refine Go.icmpY (pc' := 45) H d1_39 (feq c3).2 (by decide) (by decide) ?_
        refine Go.bipush (36 : Int32) H d1_45 rfl rfl ?_
        exact Go.ireturn (36 : Int32) [] H d1_47 (by simp) (by decide) ⟨congrArg (fun q => some (Value.int q)) (show (36 : Int32) = chF3 x from Eq.symm (by rw [chF3, if_neg c1, if_neg c2, if_neg c3])), own_ext KK, rfl⟩ all0 (by decide) (by decide)
theorem chF3_l (x : Int64) : isL (chF3 x) := by
  unfold chF3
  split
  · exact own_v9 _ (by assumption)
  · repeat' split
    all_goals exact ⟨by decide, by decide⟩
def chF4 (x : Int64) : Int32 := if (((x.toUInt64 >>> ((36 : Int32) &&& 0x3f).toInt64.toUInt64).toInt64) &&& (511 : Int64)).toInt32 < (256 : Int32) then (nar .char (((x.toUInt64 >>> ((36 : Int32) &&& 0x3f).toInt64.toUInt64).toInt64) &&& (511 : Int64)).toInt32) else if ((((x.toUInt64 >>> ((36 : Int32) &&& 0x3f).toInt64.toUInt64).toInt64) &&& (511 : Int64)).toInt32 &&& (3 : Int32)) = (1 : Int32) then (123 : Int32) else if ((((x.toUInt64 >>> ((36 : Int32) &&& 0x3f).toInt64.toUInt64).toInt64) &&& (511 : Int64)).toInt32 &&& (3 : Int32)) = (2 : Int32) then (125 : Int32) else (36 : Int32)

abbrev rm_ch4 : Room := { frames := 0, cells := 0, slots := 0, locals := 0 }
set_option maxRecDepth 65536 in
set_option maxHeartbeats 4000000 in
theorem ct_ch4 (l : Launch) {Z : State} {n0 : Nat} {z : Int32} {f : Value} (W : Sx Z z f) (x : Int64) (h : Heap) :
    Ctr l Z n0 N13 method_3_code 5 (some .char) rm_ch4 #[(.long x), (.int (4 : Int32))] h [] (fun v h' sn => v = some (.int (chF4 x)) ∧ Ext h h' ∧ sn = []) := by
  refine Ctr.of_go (ls := #[.val (.long x), .second, .val (.int (4 : Int32)), .unset, .unset]) W.1 (plainFor_of_name pn_N13) (fun m => by first | (simp [entryFrame, mkF, argsToLocals, Value.category]; done) | rfl) (fun K H => ?_)
  have KK : Keep h h [] := Keep.refl _ _
  refine Go.lloadN H d1_0 rfl rfl ?_
  refine Go.bipush (9 : Int32) H d1_1 rfl rfl ?_
  refine Go.iloadN H d1_3 rfl rfl ?_
  refine Go.imul H d1_4 rfl ?_
  show Go _ _ _ _ _ _ h [] 0 0 5 #[.val (.long x), .second, .val (.int (4 : Int32)), .unset, .unset] [(.int (36 : Int32)), (.long x)]
  refine Go.lushr H d1_5 rfl ?_
  refine Go.ldc2 H d1_6 rfl w4 ?_
  refine Go.land H d1_9 rfl ?_
  refine Go.l2i H d1_10 rfl ?_
  refine Go.istoreN (ls' := #[.val (.long x), .second, .val (.int (4 : Int32)), .val (.int (((x.toUInt64 >>> ((36 : Int32) &&& 0x3f).toInt64.toUInt64).toInt64) &&& (511 : Int64)).toInt32), .unset]) H d1_11 rfl rfl ?_
  refine Go.iloadN H d1_12 rfl rfl ?_
  refine Go.sipush (256 : Int32) H d1_13 rfl rfl ?_
  by_cases c1 : (((x.toUInt64 >>> ((36 : Int32) &&& 0x3f).toInt64.toUInt64).toInt64) &&& (511 : Int64)).toInt32 < (256 : Int32)
  ·
    refine Go.icmpN H d1_16 (tlt c1).2.1 rfl ?_
    refine Go.iloadN H d1_19 rfl rfl ?_
    refine Go.i2c H d1_20 rfl ?_
    exact Go.ireturn (nar .char (((x.toUInt64 >>> ((36 : Int32) &&& 0x3f).toInt64.toUInt64).toInt64) &&& (511 : Int64)).toInt32) [] H d1_21 (by simp) own_nn ⟨congrArg (fun q => some (Value.int q)) (show (nar .char (((x.toUInt64 >>> ((36 : Int32) &&& 0x3f).toInt64.toUInt64).toInt64) &&& (511 : Int64)).toInt32) = chF4 x from Eq.symm (by rw [chF4, if_pos c1])), own_ext KK, rfl⟩ all0 (by decide) (by decide)
  ·
    refine Go.icmpY (pc' := 22) H d1_16 (flt c1).2.1 (by decide) (by decide) ?_
    refine Go.iloadN H d1_22 rfl rfl ?_
    refine Go.iconst (3 : Int32) H d1_23 rfl rfl ?_
    refine Go.iand H d1_24 rfl ?_
    refine Go.istore (ls' := #[.val (.long x), .second, .val (.int (4 : Int32)), .val (.int (((x.toUInt64 >>> ((36 : Int32) &&& 0x3f).toInt64.toUInt64).toInt64) &&& (511 : Int64)).toInt32), .val (.int ((((x.toUInt64 >>> ((36 : Int32) &&& 0x3f).toInt64.toUInt64).toInt64) &&& (511 : Int64)).toInt32 &&& (3 : Int32)))]) H d1_25 rfl rfl ?_
    refine Go.iload H d1_27 rfl rfl ?_
    refine Go.iconst (1 : Int32) H d1_29 rfl rfl ?_
    by_cases c2 : ((((x.toUInt64 >>> ((36 : Int32) &&& 0x3f).toInt64.toUInt64).toInt64) &&& (511 : Int64)).toInt32 &&& (3 : Int32)) = (1 : Int32)
    ·
      refine Go.icmpN H d1_30 (teq c2).2 rfl ?_
      refine Go.bipush (123 : Int32) H d1_33 rfl rfl ?_
      exact Go.ireturn (123 : Int32) [] H d1_35 (by simp) (by decide) ⟨congrArg (fun q => some (Value.int q)) (show (123 : Int32) = chF4 x from Eq.symm (by rw [chF4, if_neg c1, if_pos c2])), own_ext KK, rfl⟩ all0 (by decide) (by decide)
    ·
      refine Go.icmpY (pc' := 36) H d1_30 (feq c2).2 (by decide) (by decide) ?_
      refine Go.iload H d1_36 rfl rfl ?_
      refine Go.iconst (2 : Int32) H d1_38 rfl rfl ?_
      by_cases c3 : ((((x.toUInt64 >>> ((36 : Int32) &&& 0x3f).toInt64.toUInt64).toInt64) &&& (511 : Int64)).toInt32 &&& (3 : Int32)) = (2 : Int32)
      ·
        refine Go.icmpN H d1_39 (teq c3).2 rfl ?_
        refine Go.bipush (125 : Int32) H d1_42 rfl rfl ?_
        exact Go.ireturn (125 : Int32) [] H d1_44 (by simp) (by decide) ⟨congrArg (fun q => some (Value.int q)) (show (125 : Int32) = chF4 x from Eq.symm (by rw [chF4, if_neg c1, if_neg c2, if_pos c3])), own_ext KK, rfl⟩ all0 (by decide) (by decide)
      ·
        refine Go.icmpY (pc' := 45) H d1_39 (feq c3).2 (by decide) (by decide) ?_
        refine Go.bipush (36 : Int32) H d1_45 rfl rfl ?_
        exact Go.ireturn (36 : Int32) [] H d1_47 (by simp) (by decide) ⟨congrArg (fun q => some (Value.int q)) (show (36 : Int32) = chF4 x from Eq.symm (by rw [chF4, if_neg c1, if_neg c2, if_neg c3])), own_ext KK, rfl⟩ all0 (by decide) (by decide)
theorem chF4_l (x : Int64) : isL (chF4 x) := by
  unfold chF4
  split
  · exact own_v9 _ (by assumption)
  · repeat' split
    all_goals exact ⟨by decide, by decide⟩
def chF5 (x : Int64) : Int32 := if (((x.toUInt64 >>> ((45 : Int32) &&& 0x3f).toInt64.toUInt64).toInt64) &&& (511 : Int64)).toInt32 < (256 : Int32) then (nar .char (((x.toUInt64 >>> ((45 : Int32) &&& 0x3f).toInt64.toUInt64).toInt64) &&& (511 : Int64)).toInt32) else if ((((x.toUInt64 >>> ((45 : Int32) &&& 0x3f).toInt64.toUInt64).toInt64) &&& (511 : Int64)).toInt32 &&& (3 : Int32)) = (1 : Int32) then (123 : Int32) else if ((((x.toUInt64 >>> ((45 : Int32) &&& 0x3f).toInt64.toUInt64).toInt64) &&& (511 : Int64)).toInt32 &&& (3 : Int32)) = (2 : Int32) then (125 : Int32) else (36 : Int32)

abbrev rm_ch5 : Room := { frames := 0, cells := 0, slots := 0, locals := 0 }
set_option maxRecDepth 65536 in
set_option maxHeartbeats 4000000 in
theorem ct_ch5 (l : Launch) {Z : State} {n0 : Nat} {z : Int32} {f : Value} (W : Sx Z z f) (x : Int64) (h : Heap) :
    Ctr l Z n0 N13 method_3_code 5 (some .char) rm_ch5 #[(.long x), (.int (5 : Int32))] h [] (fun v h' sn => v = some (.int (chF5 x)) ∧ Ext h h' ∧ sn = []) := by
  refine Ctr.of_go (ls := #[.val (.long x), .second, .val (.int (5 : Int32)), .unset, .unset]) W.1 (plainFor_of_name pn_N13) (fun m => by first | (simp [entryFrame, mkF, argsToLocals, Value.category]; done) | rfl) (fun K H => ?_)
  have KK : Keep h h [] := Keep.refl _ _
  refine Go.lloadN H d1_0 rfl rfl ?_
  refine Go.bipush (9 : Int32) H d1_1 rfl rfl ?_
  refine Go.iloadN H d1_3 rfl rfl ?_
  refine Go.imul H d1_4 rfl ?_
  show Go _ _ _ _ _ _ h [] 0 0 5 #[.val (.long x), .second, .val (.int (5 : Int32)), .unset, .unset] [(.int (45 : Int32)), (.long x)]
  refine Go.lushr H d1_5 rfl ?_
  refine Go.ldc2 H d1_6 rfl w4 ?_
  refine Go.land H d1_9 rfl ?_
  refine Go.l2i H d1_10 rfl ?_
  refine Go.istoreN (ls' := #[.val (.long x), .second, .val (.int (5 : Int32)), .val (.int (((x.toUInt64 >>> ((45 : Int32) &&& 0x3f).toInt64.toUInt64).toInt64) &&& (511 : Int64)).toInt32), .unset]) H d1_11 rfl rfl ?_
  refine Go.iloadN H d1_12 rfl rfl ?_
  refine Go.sipush (256 : Int32) H d1_13 rfl rfl ?_
  by_cases c1 : (((x.toUInt64 >>> ((45 : Int32) &&& 0x3f).toInt64.toUInt64).toInt64) &&& (511 : Int64)).toInt32 < (256 : Int32)
  ·
    refine Go.icmpN H d1_16 (tlt c1).2.1 rfl ?_
    refine Go.iloadN H d1_19 rfl rfl ?_
    refine Go.i2c H d1_20 rfl ?_
    exact Go.ireturn (nar .char (((x.toUInt64 >>> ((45 : Int32) &&& 0x3f).toInt64.toUInt64).toInt64) &&& (511 : Int64)).toInt32) [] H d1_21 (by simp) own_nn ⟨congrArg (fun q => some (Value.int q)) (show (nar .char (((x.toUInt64 >>> ((45 : Int32) &&& 0x3f).toInt64.toUInt64).toInt64) &&& (511 : Int64)).toInt32) = chF5 x from Eq.symm (by rw [chF5, if_pos c1])), own_ext KK, rfl⟩ all0 (by decide) (by decide)
  ·
    refine Go.icmpY (pc' := 22) H d1_16 (flt c1).2.1 (by decide) (by decide) ?_
    refine Go.iloadN H d1_22 rfl rfl ?_
    refine Go.iconst (3 : Int32) H d1_23 rfl rfl ?_
    refine Go.iand H d1_24 rfl ?_
    refine Go.istore (ls' := #[.val (.long x), .second, .val (.int (5 : Int32)), .val (.int (((x.toUInt64 >>> ((45 : Int32) &&& 0x3f).toInt64.toUInt64).toInt64) &&& (511 : Int64)).toInt32), .val (.int ((((x.toUInt64 >>> ((45 : Int32) &&& 0x3f).toInt64.toUInt64).toInt64) &&& (511 : Int64)).toInt32 &&& (3 : Int32)))]) H d1_25 rfl rfl ?_
    refine Go.iload H d1_27 rfl rfl ?_
    refine Go.iconst (1 : Int32) H d1_29 rfl rfl ?_
    by_cases c2 : ((((x.toUInt64 >>> ((45 : Int32) &&& 0x3f).toInt64.toUInt64).toInt64) &&& (511 : Int64)).toInt32 &&& (3 : Int32)) = (1 : Int32)
    ·
      refine Go.icmpN H d1_30 (teq c2).2 rfl ?_
      refine Go.bipush (123 : Int32) H d1_33 rfl rfl ?_
      exact Go.ireturn (123 : Int32) [] H d1_35 (by simp) (by decide) ⟨congrArg (fun q => some (Value.int q)) (show (123 : Int32) = chF5 x from Eq.symm (by rw [chF5, if_neg c1, if_pos c2])), own_ext KK, rfl⟩ all0 (by decide) (by decide)
    ·
      refine Go.icmpY (pc' := 36) H d1_30 (feq c2).2 (by decide) (by decide) ?_
      refine Go.iload H d1_36 rfl rfl ?_
      refine Go.iconst (2 : Int32) H d1_38 rfl rfl ?_
      by_cases c3 : ((((x.toUInt64 >>> ((45 : Int32) &&& 0x3f).toInt64.toUInt64).toInt64) &&& (511 : Int64)).toInt32 &&& (3 : Int32)) = (2 : Int32)
      ·
        refine Go.icmpN H d1_39 (teq c3).2 rfl ?_
        refine Go.bipush (125 : Int32) H d1_42 rfl rfl ?_
        exact Go.ireturn (125 : Int32) [] H d1_44 (by simp) (by decide) ⟨congrArg (fun q => some (Value.int q)) (show (125 : Int32) = chF5 x from Eq.symm (by rw [chF5, if_neg c1, if_neg c2, if_pos c3])), own_ext KK, rfl⟩ all0 (by decide) (by decide)
      ·
        refine Go.icmpY (pc' := 45) H d1_39 (feq c3).2 (by decide) (by decide) ?_
        refine Go.bipush (36 : Int32) H d1_45 rfl rfl ?_
        exact Go.ireturn (36 : Int32) [] H d1_47 (by simp) (by decide) ⟨congrArg (fun q => some (Value.int q)) (show (36 : Int32) = chF5 x from Eq.symm (by rw [chF5, if_neg c1, if_neg c2, if_neg c3])), own_ext KK, rfl⟩ all0 (by decide) (by decide)
theorem chF5_l (x : Int64) : isL (chF5 x) := by
  unfold chF5
  split
  · exact own_v9 _ (by assumption)
  · repeat' split
    all_goals exact ⟨by decide, by decide⟩
def chF6 (x : Int64) : Int32 := if (((x.toUInt64 >>> ((54 : Int32) &&& 0x3f).toInt64.toUInt64).toInt64) &&& (511 : Int64)).toInt32 < (256 : Int32) then (nar .char (((x.toUInt64 >>> ((54 : Int32) &&& 0x3f).toInt64.toUInt64).toInt64) &&& (511 : Int64)).toInt32) else if ((((x.toUInt64 >>> ((54 : Int32) &&& 0x3f).toInt64.toUInt64).toInt64) &&& (511 : Int64)).toInt32 &&& (3 : Int32)) = (1 : Int32) then (123 : Int32) else if ((((x.toUInt64 >>> ((54 : Int32) &&& 0x3f).toInt64.toUInt64).toInt64) &&& (511 : Int64)).toInt32 &&& (3 : Int32)) = (2 : Int32) then (125 : Int32) else (36 : Int32)

abbrev rm_ch6 : Room := { frames := 0, cells := 0, slots := 0, locals := 0 }
set_option maxRecDepth 65536 in
set_option maxHeartbeats 4000000 in
theorem ct_ch6 (l : Launch) {Z : State} {n0 : Nat} {z : Int32} {f : Value} (W : Sx Z z f) (x : Int64) (h : Heap) :
    Ctr l Z n0 N13 method_3_code 5 (some .char) rm_ch6 #[(.long x), (.int (6 : Int32))] h [] (fun v h' sn => v = some (.int (chF6 x)) ∧ Ext h h' ∧ sn = []) := by
  refine Ctr.of_go (ls := #[.val (.long x), .second, .val (.int (6 : Int32)), .unset, .unset]) W.1 (plainFor_of_name pn_N13) (fun m => by first | (simp [entryFrame, mkF, argsToLocals, Value.category]; done) | rfl) (fun K H => ?_)
  have KK : Keep h h [] := Keep.refl _ _
  refine Go.lloadN H d1_0 rfl rfl ?_
  refine Go.bipush (9 : Int32) H d1_1 rfl rfl ?_
  refine Go.iloadN H d1_3 rfl rfl ?_
  refine Go.imul H d1_4 rfl ?_
  show Go _ _ _ _ _ _ h [] 0 0 5 #[.val (.long x), .second, .val (.int (6 : Int32)), .unset, .unset] [(.int (54 : Int32)), (.long x)]
  refine Go.lushr H d1_5 rfl ?_
  refine Go.ldc2 H d1_6 rfl w4 ?_
  refine Go.land H d1_9 rfl ?_
  refine Go.l2i H d1_10 rfl ?_
  refine Go.istoreN (ls' := #[.val (.long x), .second, .val (.int (6 : Int32)), .val (.int (((x.toUInt64 >>> ((54 : Int32) &&& 0x3f).toInt64.toUInt64).toInt64) &&& (511 : Int64)).toInt32), .unset]) H d1_11 rfl rfl ?_
  refine Go.iloadN H d1_12 rfl rfl ?_
  refine Go.sipush (256 : Int32) H d1_13 rfl rfl ?_
  by_cases c1 : (((x.toUInt64 >>> ((54 : Int32) &&& 0x3f).toInt64.toUInt64).toInt64) &&& (511 : Int64)).toInt32 < (256 : Int32)
  ·
    refine Go.icmpN H d1_16 (tlt c1).2.1 rfl ?_
    refine Go.iloadN H d1_19 rfl rfl ?_
    refine Go.i2c H d1_20 rfl ?_
    exact Go.ireturn (nar .char (((x.toUInt64 >>> ((54 : Int32) &&& 0x3f).toInt64.toUInt64).toInt64) &&& (511 : Int64)).toInt32) [] H d1_21 (by simp) own_nn ⟨congrArg (fun q => some (Value.int q)) (show (nar .char (((x.toUInt64 >>> ((54 : Int32) &&& 0x3f).toInt64.toUInt64).toInt64) &&& (511 : Int64)).toInt32) = chF6 x from Eq.symm (by rw [chF6, if_pos c1])), own_ext KK, rfl⟩ all0 (by decide) (by decide)
  ·
    refine Go.icmpY (pc' := 22) H d1_16 (flt c1).2.1 (by decide) (by decide) ?_
    refine Go.iloadN H d1_22 rfl rfl ?_
    refine Go.iconst (3 : Int32) H d1_23 rfl rfl ?_
    refine Go.iand H d1_24 rfl ?_
    refine Go.istore (ls' := #[.val (.long x), .second, .val (.int (6 : Int32)), .val (.int (((x.toUInt64 >>> ((54 : Int32) &&& 0x3f).toInt64.toUInt64).toInt64) &&& (511 : Int64)).toInt32), .val (.int ((((x.toUInt64 >>> ((54 : Int32) &&& 0x3f).toInt64.toUInt64).toInt64) &&& (511 : Int64)).toInt32 &&& (3 : Int32)))]) H d1_25 rfl rfl ?_
    refine Go.iload H d1_27 rfl rfl ?_
    refine Go.iconst (1 : Int32) H d1_29 rfl rfl ?_
    by_cases c2 : ((((x.toUInt64 >>> ((54 : Int32) &&& 0x3f).toInt64.toUInt64).toInt64) &&& (511 : Int64)).toInt32 &&& (3 : Int32)) = (1 : Int32)
    ·
      refine Go.icmpN H d1_30 (teq c2).2 rfl ?_
      refine Go.bipush (123 : Int32) H d1_33 rfl rfl ?_
      exact Go.ireturn (123 : Int32) [] H d1_35 (by simp) (by decide) ⟨congrArg (fun q => some (Value.int q)) (show (123 : Int32) = chF6 x from Eq.symm (by rw [chF6, if_neg c1, if_pos c2])), own_ext KK, rfl⟩ all0 (by decide) (by decide)
    ·
      refine Go.icmpY (pc' := 36) H d1_30 (feq c2).2 (by decide) (by decide) ?_
      refine Go.iload H d1_36 rfl rfl ?_
      refine Go.iconst (2 : Int32) H d1_38 rfl rfl ?_
      by_cases c3 : ((((x.toUInt64 >>> ((54 : Int32) &&& 0x3f).toInt64.toUInt64).toInt64) &&& (511 : Int64)).toInt32 &&& (3 : Int32)) = (2 : Int32)
      ·
        refine Go.icmpN H d1_39 (teq c3).2 rfl ?_
        refine Go.bipush (125 : Int32) H d1_42 rfl rfl ?_
        exact Go.ireturn (125 : Int32) [] H d1_44 (by simp) (by decide) ⟨congrArg (fun q => some (Value.int q)) (show (125 : Int32) = chF6 x from Eq.symm (by rw [chF6, if_neg c1, if_neg c2, if_pos c3])), own_ext KK, rfl⟩ all0 (by decide) (by decide)
      ·
        refine Go.icmpY (pc' := 45) H d1_39 (feq c3).2 (by decide) (by decide) ?_
        refine Go.bipush (36 : Int32) H d1_45 rfl rfl ?_
        exact Go.ireturn (36 : Int32) [] H d1_47 (by simp) (by decide) ⟨congrArg (fun q => some (Value.int q)) (show (36 : Int32) = chF6 x from Eq.symm (by rw [chF6, if_neg c1, if_neg c2, if_neg c3])), own_ext KK, rfl⟩ all0 (by decide) (by decide)
theorem chF6_l (x : Int64) : isL (chF6 x) := by
  unfold chF6
  split
  · exact own_v9 _ (by assumption)
  · repeat' split
    all_goals exact ⟨by decide, by decide⟩
theorem d2_0 : decode method_4_code 0 = .ok (.iload_n 0, 1) := by decide +kernel
theorem d2_1 : decode method_4_code 1 = .ok (.ifCond .ne 14, 3) := by decide +kernel
theorem d2_4 : decode method_4_code 4 = .ok (.new 29, 3) := by decide +kernel
theorem w8 : Jvm.Cond.classLink "com/example/autowire/autowire/beans/PlaceholdersHoldsPlaceholderPinLaw" (29 : Nat) "java/lang/String" ∈ tables_1 := List.mem_of_getElem? (i := 8) rfl
theorem d2_7 : decode method_4_code 7 = .ok (.dup, 1) := by decide +kernel
theorem d2_8 : decode method_4_code 8 = .ok (.iconst 0, 1) := by decide +kernel
theorem d2_9 : decode method_4_code 9 = .ok (.newarray .char, 2) := by decide +kernel
theorem w11 : Jvm.Cond.arrayClass Jvm.ClassFile.FieldType.char ∈ tables_1 := List.mem_of_getElem? (i := 11) rfl
theorem d2_11 : decode method_4_code 11 = .ok (.invokespecial 31, 3) := by decide +kernel
theorem w14 : Jvm.Cond.code N5 jdk_42_method_3_code (2 : Nat) (Option.none : Option Jvm.ClassFile.FieldType) ∈ tables_1 := List.mem_of_getElem? (i := 14) rfl
theorem pd_N5 : parseMethodDescriptor N5.desc = some ⟨[(.array .char)], none⟩ := by decide +kernel
theorem w12 : Jvm.Cond.methodLink "com/example/autowire/autowire/beans/PlaceholdersHoldsPlaceholderPinLaw" (31 : Nat) N5 ∈ tables_1 := List.mem_of_getElem? (i := 12) rfl
theorem w13 : Jvm.Cond.instanceMethod N5 ∈ tables_1 := List.mem_of_getElem? (i := 13) rfl
theorem d2_14 : decode method_4_code 14 = .ok (.areturn, 1) := by decide +kernel
abbrev N14 : MethodName := ⟨"com/example/autowire/autowire/beans/PlaceholdersHoldsPlaceholderPinLaw", "make", "(ICCCCCCC)Ljava/lang/String;"⟩

abbrev rm_make0 : Room := { frames := 4, cells := 6, slots := 12, locals := 66 }
set_option maxRecDepth 65536 in
set_option maxHeartbeats 4000000 in
theorem ct_make0 (l : Launch) {Z : State} {n0 : Nat} {z : Int32} {f : Value} (W : Sx Z z f) (c0 c1 c2 c3 c4 c5 c6 : Int32) (h : Heap) (k0 : isL c0) (k1 : isL c1) (k2 : isL c2) (k3 : isL c3) (k4 : isL c4) (k5 : isL c5) (k6 : isL c6) :
    Ctr l Z n0 N14 method_4_code 8 (some (.object "java/lang/String")) rm_make0 #[(.int (0 : Int32)), (.int c0), (.int c1), (.int c2), (.int c3), (.int c4), (.int c5), (.int c6)] h [] (fun v h' sn => ∃ a b, v = some (.ref a) ∧ Ext h h' ∧ h.size ≤ a ∧ Str Z h' a b ([] : List Int32) ∧ sn = []) := by
  refine Ctr.of_go (ls := #[.val (.int (0 : Int32)), .val (.int c0), .val (.int c1), .val (.int c2), .val (.int c3), .val (.int c4), .val (.int c5), .val (.int c6)]) W.1 (plainFor_of_name pn_N13) (fun m => by first | (simp [entryFrame, mkF, argsToLocals, Value.category]; done) | rfl) (fun K H => ?_)
  have KK : Keep h h [] := Keep.refl _ _
  refine Go.iloadN H d2_0 rfl rfl ?_
  refine Go.ifN H d2_1 (by decide) rfl ?_
  refine Go.new H d2_4 rfl w8 w9 w10 (by decide) (by decide) ?_
  intro a1 h2 g3 z4 E5 A6 D7
  have sz8 := Nat.le_trans KK.1 (Nat.le_of_eq g3.symm)
  replace KK := KK.ext E5
  have F9 : Fld Z h2 a1 "java/lang/String" "coder" "B" (.int (0 : Int32)) := D7 (Or.inr w35) (ty := .byte) (by decide)
  have F10 : Fld Z h2 a1 "java/lang/String" "value" "[B" .null := D7 (Or.inr w37) (ty := (.array .byte)) (by decide)
  show Go _ _ _ _ _ _ h2 [a1] 1 4 7 #[.val (.int (0 : Int32)), .val (.int c0), .val (.int c1), .val (.int c2), .val (.int c3), .val (.int c4), .val (.int c5), .val (.int c6)] [(.ref a1)]
  refine Go.dup H d2_7 rfl rfl ?_
  refine Go.iconst (0 : Int32) H d2_8 rfl rfl ?_
  refine Go.newarray 0 0 H d2_9 rfl w11 rfl (by decide) (by decide) (by decide) (by decide) (by decide) (by decide) (by decide) ?_
  intro a11 h12 g13 z14 E15 F16
  have ne17 : a1 ≠ a11 := Nat.ne_of_lt (Nat.lt_of_lt_of_le A6.lt (Nat.le_of_eq g13.symm))
  have sz18 := Nat.le_trans KK.1 (Nat.le_of_eq g13.symm)
  replace A6 := A6.ext E15
  replace F9 := F9.ext E15
  replace F10 := F10.ext E15
  replace KK := KK.ext E15
  replace F16 : Vec Z h12 a11 .char [] := F16
  show Go _ _ _ _ _ _ h12 [a11, a1] 2 4 11 #[.val (.int (0 : Int32)), .val (.int c0), .val (.int c1), .val (.int c2), .val (.int c3), .val (.int c4), .val (.int c5), .val (.int c6)] [(.ref a11), (.ref a1), (.ref a1)]
  refine Go.callI (rest := [(.ref a1)]) 1 [(.ref a11)] H d2_11 rfl rfl w12 w13 w10 w14 pd_N5 (ct_new1 l W a1 a11 ([] : List Int32) h12 A6 F10 F9  F16 own_an (Nat.le_of_ble_eq_true rfl)  z4) (by simp) rfl rfl rfl (Nat.le_of_eq rfl) (by decide) (by decide) (by decide) (by decide) nh_N4 ?_
  rintro _ h19 _ ⟨rfl, K20, ⟨b21, S23⟩, rfl⟩
  replace F16 := F16.keep K20 (ninS (Ne.symm ne17) nin0)
  replace KK := KK.trans K20 (allS (Or.inr sz8) all0)
  show Go _ _ _ _ _ _ h19 [a11, a1] 6 12 14 #[.val (.int (0 : Int32)), .val (.int c0), .val (.int c1), .val (.int c2), .val (.int c3), .val (.int c4), .val (.int c5), .val (.int c6)] [(.ref a1)]
  exact Go.areturn [] H d2_14 rfl rfl (own_narR rfl) ⟨_, _, rfl, own_ext KK, Nat.le_of_eq g3.symm, S23, rfl⟩ all0 (by decide) (by decide)
theorem d2_15 : decode method_4_code 15 = .ok (.iload_n 0, 1) := by decide +kernel
theorem d2_16 : decode method_4_code 16 = .ok (.iconst 1, 1) := by decide +kernel
theorem d2_17 : decode method_4_code 17 = .ok (.if_icmp .ne 18, 3) := by decide +kernel
theorem d2_20 : decode method_4_code 20 = .ok (.new 29, 3) := by decide +kernel
theorem d2_23 : decode method_4_code 23 = .ok (.dup, 1) := by decide +kernel
theorem d2_24 : decode method_4_code 24 = .ok (.iconst 1, 1) := by decide +kernel
theorem d2_25 : decode method_4_code 25 = .ok (.newarray .char, 2) := by decide +kernel
theorem d2_27 : decode method_4_code 27 = .ok (.dup, 1) := by decide +kernel
theorem d2_28 : decode method_4_code 28 = .ok (.iconst 0, 1) := by decide +kernel
theorem d2_29 : decode method_4_code 29 = .ok (.iload_n 1, 1) := by decide +kernel
theorem d2_30 : decode method_4_code 30 = .ok (.castore, 1) := by decide +kernel
theorem d2_31 : decode method_4_code 31 = .ok (.invokespecial 31, 3) := by decide +kernel
theorem d2_34 : decode method_4_code 34 = .ok (.areturn, 1) := by decide +kernel

abbrev rm_make1 : Room := { frames := 4, cells := 6, slots := 13, locals := 66 }
set_option maxRecDepth 65536 in
set_option maxHeartbeats 4000000 in
theorem ct_make1 (l : Launch) {Z : State} {n0 : Nat} {z : Int32} {f : Value} (W : Sx Z z f) (c0 c1 c2 c3 c4 c5 c6 : Int32) (h : Heap) (k0 : isL c0) (k1 : isL c1) (k2 : isL c2) (k3 : isL c3) (k4 : isL c4) (k5 : isL c5) (k6 : isL c6) :
    Ctr l Z n0 N14 method_4_code 8 (some (.object "java/lang/String")) rm_make1 #[(.int (1 : Int32)), (.int c0), (.int c1), (.int c2), (.int c3), (.int c4), (.int c5), (.int c6)] h [] (fun v h' sn => ∃ a b, v = some (.ref a) ∧ Ext h h' ∧ h.size ≤ a ∧ Str Z h' a b [c0] ∧ sn = []) := by
  refine Ctr.of_go (ls := #[.val (.int (1 : Int32)), .val (.int c0), .val (.int c1), .val (.int c2), .val (.int c3), .val (.int c4), .val (.int c5), .val (.int c6)]) W.1 (plainFor_of_name pn_N13) (fun m => by first | (simp [entryFrame, mkF, argsToLocals, Value.category]; done) | rfl) (fun K H => ?_)
  have KK : Keep h h [] := Keep.refl _ _
  refine Go.iloadN H d2_0 rfl rfl ?_
  refine Go.ifY (pc' := 15) H d2_1 (by decide) (by decide) (by decide) ?_
  refine Go.iloadN H d2_15 rfl rfl ?_
  refine Go.iconst (1 : Int32) H d2_16 rfl rfl ?_
  refine Go.icmpN H d2_17 (by decide) rfl ?_
  refine Go.new H d2_20 rfl w8 w9 w10 (by decide) (by decide) ?_
  intro a1 h2 g3 z4 E5 A6 D7
  have sz8 := Nat.le_trans KK.1 (Nat.le_of_eq g3.symm)
  replace KK := KK.ext E5
  have F9 : Fld Z h2 a1 "java/lang/String" "coder" "B" (.int (0 : Int32)) := D7 (Or.inr w35) (ty := .byte) (by decide)
  have F10 : Fld Z h2 a1 "java/lang/String" "value" "[B" .null := D7 (Or.inr w37) (ty := (.array .byte)) (by decide)
  show Go _ _ _ _ _ _ h2 [a1] 1 4 23 #[.val (.int (1 : Int32)), .val (.int c0), .val (.int c1), .val (.int c2), .val (.int c3), .val (.int c4), .val (.int c5), .val (.int c6)] [(.ref a1)]
  refine Go.dup H d2_23 rfl rfl ?_
  refine Go.iconst (1 : Int32) H d2_24 rfl rfl ?_
  refine Go.newarray 1 1 H d2_25 rfl w11 rfl (by decide) (by decide) (by decide) (by decide) (by decide) (by decide) (by decide) ?_
  intro a11 h12 g13 z14 E15 F16
  have ne17 : a1 ≠ a11 := Nat.ne_of_lt (Nat.lt_of_lt_of_le A6.lt (Nat.le_of_eq g13.symm))
  have sz18 := Nat.le_trans KK.1 (Nat.le_of_eq g13.symm)
  replace A6 := A6.ext E15
  replace F9 := F9.ext E15
  replace F10 := F10.ext E15
  replace KK := KK.ext E15
  replace F16 : Vec Z h12 a11 .char [(0 : Int32)] := F16
  show Go _ _ _ _ _ _ h12 [a11, a1] 2 5 27 #[.val (.int (1 : Int32)), .val (.int c0), .val (.int c1), .val (.int c2), .val (.int c3), .val (.int c4), .val (.int c5), .val (.int c6)] [(.ref a11), (.ref a1), (.ref a1)]
  refine Go.dup H d2_27 rfl rfl ?_
  refine Go.iconst (0 : Int32) H d2_28 rfl rfl ?_
  refine Go.iloadN H d2_29 rfl rfl ?_
  refine Go.castore c0 H d2_30 rfl F16 0 (by decide) (by decide) (Nat.le_of_ble_eq_true rfl) (own_char k0.c) z14 (by simp) ?_
  intro h19 K20 F21
  replace A6 := A6.keep K20
  replace F9 := F9.keep K20 (ninS ne17 nin0)
  replace F10 := F10.keep K20 (ninS ne17 nin0)
  replace KK := KK.trans K20 (allS (Or.inr sz18) all0)
  replace F21 : Vec Z h19 a11 .char [c0] := F21
  refine Go.callI (rest := [(.ref a1)]) 1 [(.ref a11)] H d2_31 rfl rfl w12 w13 w10 w14 pd_N5 (ct_new1 l W a1 a11 [c0] h19 A6 F10 F9  F21 (own_ac k0 own_an) (Nat.le_of_ble_eq_true rfl)  z4) (by simp) rfl rfl rfl (Nat.le_of_eq rfl) (by decide) (by decide) (by decide) (by decide) nh_N4 ?_
  rintro _ h22 _ ⟨rfl, K23, ⟨b24, S26⟩, rfl⟩
  replace F21 := F21.keep K23 (ninS (Ne.symm ne17) nin0)
  replace KK := KK.trans K23 (allS (Or.inr sz8) all0)
  show Go _ _ _ _ _ _ h22 [a11, a1] 6 13 34 #[.val (.int (1 : Int32)), .val (.int c0), .val (.int c1), .val (.int c2), .val (.int c3), .val (.int c4), .val (.int c5), .val (.int c6)] [(.ref a1)]
  exact Go.areturn [] H d2_34 rfl rfl (own_narR rfl) ⟨_, _, rfl, own_ext KK, Nat.le_of_eq g3.symm, S26, rfl⟩ all0 (by decide) (by decide)
theorem d2_35 : decode method_4_code 35 = .ok (.iload_n 0, 1) := by decide +kernel
theorem d2_36 : decode method_4_code 36 = .ok (.iconst 2, 1) := by decide +kernel
theorem d2_37 : decode method_4_code 37 = .ok (.if_icmp .ne 22, 3) := by decide +kernel
theorem d2_40 : decode method_4_code 40 = .ok (.new 29, 3) := by decide +kernel
theorem d2_43 : decode method_4_code 43 = .ok (.dup, 1) := by decide +kernel
theorem d2_44 : decode method_4_code 44 = .ok (.iconst 2, 1) := by decide +kernel
theorem d2_45 : decode method_4_code 45 = .ok (.newarray .char, 2) := by decide +kernel
theorem d2_47 : decode method_4_code 47 = .ok (.dup, 1) := by decide +kernel
theorem d2_48 : decode method_4_code 48 = .ok (.iconst 0, 1) := by decide +kernel
theorem d2_49 : decode method_4_code 49 = .ok (.iload_n 1, 1) := by decide +kernel
theorem d2_50 : decode method_4_code 50 = .ok (.castore, 1) := by decide +kernel
theorem d2_51 : decode method_4_code 51 = .ok (.dup, 1) := by decide +kernel
theorem d2_52 : decode method_4_code 52 = .ok (.iconst 1, 1) := by decide +kernel
theorem d2_53 : decode method_4_code 53 = .ok (.iload_n 2, 1) := by decide +kernel
theorem d2_54 : decode method_4_code 54 = .ok (.castore, 1) := by decide +kernel
theorem d2_55 : decode method_4_code 55 = .ok (.invokespecial 31, 3) := by decide +kernel
theorem d2_58 : decode method_4_code 58 = .ok (.areturn, 1) := by decide +kernel

abbrev rm_make2 : Room := { frames := 4, cells := 6, slots := 14, locals := 66 }
set_option maxRecDepth 65536 in
set_option maxHeartbeats 4000000 in
theorem ct_make2 (l : Launch) {Z : State} {n0 : Nat} {z : Int32} {f : Value} (W : Sx Z z f) (c0 c1 c2 c3 c4 c5 c6 : Int32) (h : Heap) (k0 : isL c0) (k1 : isL c1) (k2 : isL c2) (k3 : isL c3) (k4 : isL c4) (k5 : isL c5) (k6 : isL c6) :
    Ctr l Z n0 N14 method_4_code 8 (some (.object "java/lang/String")) rm_make2 #[(.int (2 : Int32)), (.int c0), (.int c1), (.int c2), (.int c3), (.int c4), (.int c5), (.int c6)] h [] (fun v h' sn => ∃ a b, v = some (.ref a) ∧ Ext h h' ∧ h.size ≤ a ∧ Str Z h' a b [c0, c1] ∧ sn = []) := by
  refine Ctr.of_go (ls := #[.val (.int (2 : Int32)), .val (.int c0), .val (.int c1), .val (.int c2), .val (.int c3), .val (.int c4), .val (.int c5), .val (.int c6)]) W.1 (plainFor_of_name pn_N13) (fun m => by first | (simp [entryFrame, mkF, argsToLocals, Value.category]; done) | rfl) (fun K H => ?_)
  have KK : Keep h h [] := Keep.refl _ _
  refine Go.iloadN H d2_0 rfl rfl ?_
  refine Go.ifY (pc' := 15) H d2_1 (by decide) (by decide) (by decide) ?_
  refine Go.iloadN H d2_15 rfl rfl ?_
  refine Go.iconst (1 : Int32) H d2_16 rfl rfl ?_
  refine Go.icmpY (pc' := 35) H d2_17 (by decide) (by decide) (by decide) ?_
  refine Go.iloadN H d2_35 rfl rfl ?_
  refine Go.iconst (2 : Int32) H d2_36 rfl rfl ?_
  refine Go.icmpN H d2_37 (by decide) rfl ?_
  refine Go.new H d2_40 rfl w8 w9 w10 (by decide) (by decide) ?_
  intro a1 h2 g3 z4 E5 A6 D7
  have sz8 := Nat.le_trans KK.1 (Nat.le_of_eq g3.symm)
  replace KK := KK.ext E5
  have F9 : Fld Z h2 a1 "java/lang/String" "coder" "B" (.int (0 : Int32)) := D7 (Or.inr w35) (ty := .byte) (by decide)
  have F10 : Fld Z h2 a1 "java/lang/String" "value" "[B" .null := D7 (Or.inr w37) (ty := (.array .byte)) (by decide)
  show Go _ _ _ _ _ _ h2 [a1] 1 4 43 #[.val (.int (2 : Int32)), .val (.int c0), .val (.int c1), .val (.int c2), .val (.int c3), .val (.int c4), .val (.int c5), .val (.int c6)] [(.ref a1)]
  refine Go.dup H d2_43 rfl rfl ?_
  refine Go.iconst (2 : Int32) H d2_44 rfl rfl ?_
  refine Go.newarray 2 2 H d2_45 rfl w11 rfl (by decide) (by decide) (by decide) (by decide) (by decide) (by decide) (by decide) ?_
  intro a11 h12 g13 z14 E15 F16
  have ne17 : a1 ≠ a11 := Nat.ne_of_lt (Nat.lt_of_lt_of_le A6.lt (Nat.le_of_eq g13.symm))
  have sz18 := Nat.le_trans KK.1 (Nat.le_of_eq g13.symm)
  replace A6 := A6.ext E15
  replace F9 := F9.ext E15
  replace F10 := F10.ext E15
  replace KK := KK.ext E15
  replace F16 : Vec Z h12 a11 .char [(0 : Int32), (0 : Int32)] := F16
  show Go _ _ _ _ _ _ h12 [a11, a1] 2 6 47 #[.val (.int (2 : Int32)), .val (.int c0), .val (.int c1), .val (.int c2), .val (.int c3), .val (.int c4), .val (.int c5), .val (.int c6)] [(.ref a11), (.ref a1), (.ref a1)]
  refine Go.dup H d2_47 rfl rfl ?_
  refine Go.iconst (0 : Int32) H d2_48 rfl rfl ?_
  refine Go.iloadN H d2_49 rfl rfl ?_
  refine Go.castore c0 H d2_50 rfl F16 0 (by decide) (by decide) (Nat.le_of_ble_eq_true rfl) (own_char k0.c) z14 (by simp) ?_
  intro h19 K20 F21
  replace A6 := A6.keep K20
  replace F9 := F9.keep K20 (ninS ne17 nin0)
  replace F10 := F10.keep K20 (ninS ne17 nin0)
  replace KK := KK.trans K20 (allS (Or.inr sz18) all0)
  replace F21 : Vec Z h19 a11 .char [c0, (0 : Int32)] := F21
  refine Go.dup H d2_51 rfl rfl ?_
  refine Go.iconst (1 : Int32) H d2_52 rfl rfl ?_
  refine Go.iloadN H d2_53 rfl rfl ?_
  refine Go.castore c1 H d2_54 rfl F21 1 (by decide) (by decide) (Nat.le_of_ble_eq_true rfl) (own_char k1.c) z14 (by simp) ?_
  intro h22 K23 F24
  replace A6 := A6.keep K23
  replace F9 := F9.keep K23 (ninS ne17 nin0)
  replace F10 := F10.keep K23 (ninS ne17 nin0)
  replace KK := KK.trans K23 (allS (Or.inr sz18) all0)
  replace F24 : Vec Z h22 a11 .char [c0, c1] := F24
  refine Go.callI (rest := [(.ref a1)]) 1 [(.ref a11)] H d2_55 rfl rfl w12 w13 w10 w14 pd_N5 (ct_new1 l W a1 a11 [c0, c1] h22 A6 F10 F9  F24 (own_ac k0 (own_ac k1 own_an)) (Nat.le_of_ble_eq_true rfl)  z4) (by simp) rfl rfl rfl (Nat.le_of_eq rfl) (by decide) (by decide) (by decide) (by decide) nh_N4 ?_
  rintro _ h25 _ ⟨rfl, K26, ⟨b27, S29⟩, rfl⟩
  replace F24 := F24.keep K26 (ninS (Ne.symm ne17) nin0)
  replace KK := KK.trans K26 (allS (Or.inr sz8) all0)
  show Go _ _ _ _ _ _ h25 [a11, a1] 6 14 58 #[.val (.int (2 : Int32)), .val (.int c0), .val (.int c1), .val (.int c2), .val (.int c3), .val (.int c4), .val (.int c5), .val (.int c6)] [(.ref a1)]
  exact Go.areturn [] H d2_58 rfl rfl (own_narR rfl) ⟨_, _, rfl, own_ext KK, Nat.le_of_eq g3.symm, S29, rfl⟩ all0 (by decide) (by decide)
theorem d2_59 : decode method_4_code 59 = .ok (.iload_n 0, 1) := by decide +kernel
theorem d2_60 : decode method_4_code 60 = .ok (.iconst 3, 1) := by decide +kernel
theorem d2_61 : decode method_4_code 61 = .ok (.if_icmp .ne 26, 3) := by decide +kernel
theorem d2_64 : decode method_4_code 64 = .ok (.new 29, 3) := by decide +kernel
theorem d2_67 : decode method_4_code 67 = .ok (.dup, 1) := by decide +kernel
theorem d2_68 : decode method_4_code 68 = .ok (.iconst 3, 1) := by decide +kernel
theorem d2_69 : decode method_4_code 69 = .ok (.newarray .char, 2) := by decide +kernel
theorem d2_71 : decode method_4_code 71 = .ok (.dup, 1) := by decide +kernel
theorem d2_72 : decode method_4_code 72 = .ok (.iconst 0, 1) := by decide +kernel
theorem d2_73 : decode method_4_code 73 = .ok (.iload_n 1, 1) := by decide +kernel
theorem d2_74 : decode method_4_code 74 = .ok (.castore, 1) := by decide +kernel
theorem d2_75 : decode method_4_code 75 = .ok (.dup, 1) := by decide +kernel
theorem d2_76 : decode method_4_code 76 = .ok (.iconst 1, 1) := by decide +kernel
theorem d2_77 : decode method_4_code 77 = .ok (.iload_n 2, 1) := by decide +kernel
theorem d2_78 : decode method_4_code 78 = .ok (.castore, 1) := by decide +kernel
theorem d2_79 : decode method_4_code 79 = .ok (.dup, 1) := by decide +kernel
theorem d2_80 : decode method_4_code 80 = .ok (.iconst 2, 1) := by decide +kernel
theorem d2_81 : decode method_4_code 81 = .ok (.iload_n 3, 1) := by decide +kernel
theorem d2_82 : decode method_4_code 82 = .ok (.castore, 1) := by decide +kernel
theorem d2_83 : decode method_4_code 83 = .ok (.invokespecial 31, 3) := by decide +kernel
theorem d2_86 : decode method_4_code 86 = .ok (.areturn, 1) := by decide +kernel

abbrev rm_make3 : Room := { frames := 4, cells := 6, slots := 15, locals := 66 }
set_option maxRecDepth 65536 in
set_option maxHeartbeats 4000000 in
theorem ct_make3 (l : Launch) {Z : State} {n0 : Nat} {z : Int32} {f : Value} (W : Sx Z z f) (c0 c1 c2 c3 c4 c5 c6 : Int32) (h : Heap) (k0 : isL c0) (k1 : isL c1) (k2 : isL c2) (k3 : isL c3) (k4 : isL c4) (k5 : isL c5) (k6 : isL c6) :
    Ctr l Z n0 N14 method_4_code 8 (some (.object "java/lang/String")) rm_make3 #[(.int (3 : Int32)), (.int c0), (.int c1), (.int c2), (.int c3), (.int c4), (.int c5), (.int c6)] h [] (fun v h' sn => ∃ a b, v = some (.ref a) ∧ Ext h h' ∧ h.size ≤ a ∧ Str Z h' a b [c0, c1, c2] ∧ sn = []) := by
  refine Ctr.of_go (ls := #[.val (.int (3 : Int32)), .val (.int c0), .val (.int c1), .val (.int c2), .val (.int c3), .val (.int c4), .val (.int c5), .val (.int c6)]) W.1 (plainFor_of_name pn_N13) (fun m => by first | (simp [entryFrame, mkF, argsToLocals, Value.category]; done) | rfl) (fun K H => ?_)
  have KK : Keep h h [] := Keep.refl _ _
  refine Go.iloadN H d2_0 rfl rfl ?_
  refine Go.ifY (pc' := 15) H d2_1 (by decide) (by decide) (by decide) ?_
  refine Go.iloadN H d2_15 rfl rfl ?_
  refine Go.iconst (1 : Int32) H d2_16 rfl rfl ?_
  refine Go.icmpY (pc' := 35) H d2_17 (by decide) (by decide) (by decide) ?_
  refine Go.iloadN H d2_35 rfl rfl ?_
  refine Go.iconst (2 : Int32) H d2_36 rfl rfl ?_
  refine Go.icmpY (pc' := 59) H d2_37 (by decide) (by decide) (by decide) ?_
  refine Go.iloadN H d2_59 rfl rfl ?_
  refine Go.iconst (3 : Int32) H d2_60 rfl rfl ?_
  refine Go.icmpN H d2_61 (by decide) rfl ?_
  refine Go.new H d2_64 rfl w8 w9 w10 (by decide) (by decide) ?_
  intro a1 h2 g3 z4 E5 A6 D7
  have sz8 := Nat.le_trans KK.1 (Nat.le_of_eq g3.symm)
  replace KK := KK.ext E5
  have F9 : Fld Z h2 a1 "java/lang/String" "coder" "B" (.int (0 : Int32)) := D7 (Or.inr w35) (ty := .byte) (by decide)
  have F10 : Fld Z h2 a1 "java/lang/String" "value" "[B" .null := D7 (Or.inr w37) (ty := (.array .byte)) (by decide)
  show Go _ _ _ _ _ _ h2 [a1] 1 4 67 #[.val (.int (3 : Int32)), .val (.int c0), .val (.int c1), .val (.int c2), .val (.int c3), .val (.int c4), .val (.int c5), .val (.int c6)] [(.ref a1)]
  refine Go.dup H d2_67 rfl rfl ?_
  refine Go.iconst (3 : Int32) H d2_68 rfl rfl ?_
  refine Go.newarray 3 3 H d2_69 rfl w11 rfl (by decide) (by decide) (by decide) (by decide) (by decide) (by decide) (by decide) ?_
  intro a11 h12 g13 z14 E15 F16
  have ne17 : a1 ≠ a11 := Nat.ne_of_lt (Nat.lt_of_lt_of_le A6.lt (Nat.le_of_eq g13.symm))
  have sz18 := Nat.le_trans KK.1 (Nat.le_of_eq g13.symm)
  replace A6 := A6.ext E15
  replace F9 := F9.ext E15
  replace F10 := F10.ext E15
  replace KK := KK.ext E15
  replace F16 : Vec Z h12 a11 .char [(0 : Int32), (0 : Int32), (0 : Int32)] := F16
  show Go _ _ _ _ _ _ h12 [a11, a1] 2 7 71 #[.val (.int (3 : Int32)), .val (.int c0), .val (.int c1), .val (.int c2), .val (.int c3), .val (.int c4), .val (.int c5), .val (.int c6)] [(.ref a11), (.ref a1), (.ref a1)]
  refine Go.dup H d2_71 rfl rfl ?_
  refine Go.iconst (0 : Int32) H d2_72 rfl rfl ?_
  refine Go.iloadN H d2_73 rfl rfl ?_
  refine Go.castore c0 H d2_74 rfl F16 0 (by decide) (by decide) (Nat.le_of_ble_eq_true rfl) (own_char k0.c) z14 (by simp) ?_
  intro h19 K20 F21
  replace A6 := A6.keep K20
  replace F9 := F9.keep K20 (ninS ne17 nin0)
  replace F10 := F10.keep K20 (ninS ne17 nin0)
  replace KK := KK.trans K20 (allS (Or.inr sz18) all0)
  replace F21 : Vec Z h19 a11 .char [c0, (0 : Int32), (0 : Int32)] := F21
  refine Go.dup H d2_75 rfl rfl ?_
  refine Go.iconst (1 : Int32) H d2_76 rfl rfl ?_
  refine Go.iloadN H d2_77 rfl rfl ?_
  refine Go.castore c1 H d2_78 rfl F21 1 (by decide) (by decide) (Nat.le_of_ble_eq_true rfl) (own_char k1.c) z14 (by simp) ?_
  intro h22 K23 F24
  replace A6 := A6.keep K23
  replace F9 := F9.keep K23 (ninS ne17 nin0)
  replace F10 := F10.keep K23 (ninS ne17 nin0)
  replace KK := KK.trans K23 (allS (Or.inr sz18) all0)
  replace F24 : Vec Z h22 a11 .char [c0, c1, (0 : Int32)] := F24
  refine Go.dup H d2_79 rfl rfl ?_
  refine Go.iconst (2 : Int32) H d2_80 rfl rfl ?_
  refine Go.iloadN H d2_81 rfl rfl ?_
  refine Go.castore c2 H d2_82 rfl F24 2 (by decide) (by decide) (Nat.le_of_ble_eq_true rfl) (own_char k2.c) z14 (by simp) ?_
  intro h25 K26 F27
  replace A6 := A6.keep K26
  replace F9 := F9.keep K26 (ninS ne17 nin0)
  replace F10 := F10.keep K26 (ninS ne17 nin0)
  replace KK := KK.trans K26 (allS (Or.inr sz18) all0)
  replace F27 : Vec Z h25 a11 .char [c0, c1, c2] := F27
  refine Go.callI (rest := [(.ref a1)]) 1 [(.ref a11)] H d2_83 rfl rfl w12 w13 w10 w14 pd_N5 (ct_new1 l W a1 a11 [c0, c1, c2] h25 A6 F10 F9  F27 (own_ac k0 (own_ac k1 (own_ac k2 own_an))) (Nat.le_of_ble_eq_true rfl)  z4) (by simp) rfl rfl rfl (Nat.le_of_eq rfl) (by decide) (by decide) (by decide) (by decide) nh_N4 ?_
  rintro _ h28 _ ⟨rfl, K29, ⟨b30, S32⟩, rfl⟩
  replace F27 := F27.keep K29 (ninS (Ne.symm ne17) nin0)
  replace KK := KK.trans K29 (allS (Or.inr sz8) all0)
  show Go _ _ _ _ _ _ h28 [a11, a1] 6 15 86 #[.val (.int (3 : Int32)), .val (.int c0), .val (.int c1), .val (.int c2), .val (.int c3), .val (.int c4), .val (.int c5), .val (.int c6)] [(.ref a1)]
  exact Go.areturn [] H d2_86 rfl rfl (own_narR rfl) ⟨_, _, rfl, own_ext KK, Nat.le_of_eq g3.symm, S32, rfl⟩ all0 (by decide) (by decide)
theorem d2_87 : decode method_4_code 87 = .ok (.iload_n 0, 1) := by decide +kernel
theorem d2_88 : decode method_4_code 88 = .ok (.iconst 4, 1) := by decide +kernel
theorem d2_89 : decode method_4_code 89 = .ok (.if_icmp .ne 31, 3) := by decide +kernel
theorem d2_92 : decode method_4_code 92 = .ok (.new 29, 3) := by decide +kernel
theorem d2_95 : decode method_4_code 95 = .ok (.dup, 1) := by decide +kernel
theorem d2_96 : decode method_4_code 96 = .ok (.iconst 4, 1) := by decide +kernel
theorem d2_97 : decode method_4_code 97 = .ok (.newarray .char, 2) := by decide +kernel
theorem d2_99 : decode method_4_code 99 = .ok (.dup, 1) := by decide +kernel
theorem d2_100 : decode method_4_code 100 = .ok (.iconst 0, 1) := by decide +kernel
theorem d2_101 : decode method_4_code 101 = .ok (.iload_n 1, 1) := by decide +kernel
theorem d2_102 : decode method_4_code 102 = .ok (.castore, 1) := by decide +kernel
theorem d2_103 : decode method_4_code 103 = .ok (.dup, 1) := by decide +kernel
theorem d2_104 : decode method_4_code 104 = .ok (.iconst 1, 1) := by decide +kernel
theorem d2_105 : decode method_4_code 105 = .ok (.iload_n 2, 1) := by decide +kernel
theorem d2_106 : decode method_4_code 106 = .ok (.castore, 1) := by decide +kernel
theorem d2_107 : decode method_4_code 107 = .ok (.dup, 1) := by decide +kernel
theorem d2_108 : decode method_4_code 108 = .ok (.iconst 2, 1) := by decide +kernel
theorem d2_109 : decode method_4_code 109 = .ok (.iload_n 3, 1) := by decide +kernel
theorem d2_110 : decode method_4_code 110 = .ok (.castore, 1) := by decide +kernel
theorem d2_111 : decode method_4_code 111 = .ok (.dup, 1) := by decide +kernel
theorem d2_112 : decode method_4_code 112 = .ok (.iconst 3, 1) := by decide +kernel
theorem d2_113 : decode method_4_code 113 = .ok (.iload 4, 2) := by decide +kernel
theorem d2_115 : decode method_4_code 115 = .ok (.castore, 1) := by decide +kernel
theorem d2_116 : decode method_4_code 116 = .ok (.invokespecial 31, 3) := by decide +kernel
theorem d2_119 : decode method_4_code 119 = .ok (.areturn, 1) := by decide +kernel

abbrev rm_make4 : Room := { frames := 4, cells := 6, slots := 16, locals := 66 }
set_option maxRecDepth 65536 in
set_option maxHeartbeats 4000000 in
theorem ct_make4 (l : Launch) {Z : State} {n0 : Nat} {z : Int32} {f : Value} (W : Sx Z z f) (c0 c1 c2 c3 c4 c5 c6 : Int32) (h : Heap) (k0 : isL c0) (k1 : isL c1) (k2 : isL c2) (k3 : isL c3) (k4 : isL c4) (k5 : isL c5) (k6 : isL c6) :
    Ctr l Z n0 N14 method_4_code 8 (some (.object "java/lang/String")) rm_make4 #[(.int (4 : Int32)), (.int c0), (.int c1), (.int c2), (.int c3), (.int c4), (.int c5), (.int c6)] h [] (fun v h' sn => ∃ a b, v = some (.ref a) ∧ Ext h h' ∧ h.size ≤ a ∧ Str Z h' a b [c0, c1, c2, c3] ∧ sn = []) := by
  refine Ctr.of_go (ls := #[.val (.int (4 : Int32)), .val (.int c0), .val (.int c1), .val (.int c2), .val (.int c3), .val (.int c4), .val (.int c5), .val (.int c6)]) W.1 (plainFor_of_name pn_N13) (fun m => by first | (simp [entryFrame, mkF, argsToLocals, Value.category]; done) | rfl) (fun K H => ?_)
  have KK : Keep h h [] := Keep.refl _ _
  refine Go.iloadN H d2_0 rfl rfl ?_
  refine Go.ifY (pc' := 15) H d2_1 (by decide) (by decide) (by decide) ?_
  refine Go.iloadN H d2_15 rfl rfl ?_
  refine Go.iconst (1 : Int32) H d2_16 rfl rfl ?_
  refine Go.icmpY (pc' := 35) H d2_17 (by decide) (by decide) (by decide) ?_
  refine Go.iloadN H d2_35 rfl rfl ?_
  refine Go.iconst (2 : Int32) H d2_36 rfl rfl ?_
  refine Go.icmpY (pc' := 59) H d2_37 (by decide) (by decide) (by decide) ?_
  refine Go.iloadN H d2_59 rfl rfl ?_
  refine Go.iconst (3 : Int32) H d2_60 rfl rfl ?_
  refine Go.icmpY (pc' := 87) H d2_61 (by decide) (by decide) (by decide) ?_
  refine Go.iloadN H d2_87 rfl rfl ?_
  refine Go.iconst (4 : Int32) H d2_88 rfl rfl ?_
  refine Go.icmpN H d2_89 (by decide) rfl ?_
  refine Go.new H d2_92 rfl w8 w9 w10 (by decide) (by decide) ?_
  intro a1 h2 g3 z4 E5 A6 D7
  have sz8 := Nat.le_trans KK.1 (Nat.le_of_eq g3.symm)
  replace KK := KK.ext E5
  have F9 : Fld Z h2 a1 "java/lang/String" "coder" "B" (.int (0 : Int32)) := D7 (Or.inr w35) (ty := .byte) (by decide)
  have F10 : Fld Z h2 a1 "java/lang/String" "value" "[B" .null := D7 (Or.inr w37) (ty := (.array .byte)) (by decide)
  show Go _ _ _ _ _ _ h2 [a1] 1 4 95 #[.val (.int (4 : Int32)), .val (.int c0), .val (.int c1), .val (.int c2), .val (.int c3), .val (.int c4), .val (.int c5), .val (.int c6)] [(.ref a1)]
  refine Go.dup H d2_95 rfl rfl ?_
  refine Go.iconst (4 : Int32) H d2_96 rfl rfl ?_
  refine Go.newarray 4 4 H d2_97 rfl w11 rfl (by decide) (by decide) (by decide) (by decide) (by decide) (by decide) (by decide) ?_
  intro a11 h12 g13 z14 E15 F16
  have ne17 : a1 ≠ a11 := Nat.ne_of_lt (Nat.lt_of_lt_of_le A6.lt (Nat.le_of_eq g13.symm))
  have sz18 := Nat.le_trans KK.1 (Nat.le_of_eq g13.symm)
  replace A6 := A6.ext E15
  replace F9 := F9.ext E15
  replace F10 := F10.ext E15
  replace KK := KK.ext E15
  replace F16 : Vec Z h12 a11 .char [(0 : Int32), (0 : Int32), (0 : Int32), (0 : Int32)] := F16
  show Go _ _ _ _ _ _ h12 [a11, a1] 2 8 99 #[.val (.int (4 : Int32)), .val (.int c0), .val (.int c1), .val (.int c2), .val (.int c3), .val (.int c4), .val (.int c5), .val (.int c6)] [(.ref a11), (.ref a1), (.ref a1)]
  refine Go.dup H d2_99 rfl rfl ?_
  refine Go.iconst (0 : Int32) H d2_100 rfl rfl ?_
  refine Go.iloadN H d2_101 rfl rfl ?_
  refine Go.castore c0 H d2_102 rfl F16 0 (by decide) (by decide) (Nat.le_of_ble_eq_true rfl) (own_char k0.c) z14 (by simp) ?_
  intro h19 K20 F21
  replace A6 := A6.keep K20
  replace F9 := F9.keep K20 (ninS ne17 nin0)
  replace F10 := F10.keep K20 (ninS ne17 nin0)
  replace KK := KK.trans K20 (allS (Or.inr sz18) all0)
  replace F21 : Vec Z h19 a11 .char [c0, (0 : Int32), (0 : Int32), (0 : Int32)] := F21
  refine Go.dup H d2_103 rfl rfl ?_
  refine Go.iconst (1 : Int32) H d2_104 rfl rfl ?_
  refine Go.iloadN H d2_105 rfl rfl ?_
  refine Go.castore c1 H d2_106 rfl F21 1 (by decide) (by decide) (Nat.le_of_ble_eq_true rfl) (own_char k1.c) z14 (by simp) ?_
  intro h22 K23 F24
  replace A6 := A6.keep K23
  replace F9 := F9.keep K23 (ninS ne17 nin0)
  replace F10 := F10.keep K23 (ninS ne17 nin0)
  replace KK := KK.trans K23 (allS (Or.inr sz18) all0)
  replace F24 : Vec Z h22 a11 .char [c0, c1, (0 : Int32), (0 : Int32)] := F24
  refine Go.dup H d2_107 rfl rfl ?_
  refine Go.iconst (2 : Int32) H d2_108 rfl rfl ?_
  refine Go.iloadN H d2_109 rfl rfl ?_
  refine Go.castore c2 H d2_110 rfl F24 2 (by decide) (by decide) (Nat.le_of_ble_eq_true rfl) (own_char k2.c) z14 (by simp) ?_
  intro h25 K26 F27
  replace A6 := A6.keep K26
  replace F9 := F9.keep K26 (ninS ne17 nin0)
  replace F10 := F10.keep K26 (ninS ne17 nin0)
  replace KK := KK.trans K26 (allS (Or.inr sz18) all0)
  replace F27 : Vec Z h25 a11 .char [c0, c1, c2, (0 : Int32)] := F27
  refine Go.dup H d2_111 rfl rfl ?_
  refine Go.iconst (3 : Int32) H d2_112 rfl rfl ?_
  refine Go.iload H d2_113 rfl rfl ?_
  refine Go.castore c3 H d2_115 rfl F27 3 (by decide) (by decide) (Nat.le_of_ble_eq_true rfl) (own_char k3.c) z14 (by simp) ?_
  intro h28 K29 F30
  replace A6 := A6.keep K29
  replace F9 := F9.keep K29 (ninS ne17 nin0)
  replace F10 := F10.keep K29 (ninS ne17 nin0)
  replace KK := KK.trans K29 (allS (Or.inr sz18) all0)
  replace F30 : Vec Z h28 a11 .char [c0, c1, c2, c3] := F30
  refine Go.callI (rest := [(.ref a1)]) 1 [(.ref a11)] H d2_116 rfl rfl w12 w13 w10 w14 pd_N5 (ct_new1 l W a1 a11 [c0, c1, c2, c3] h28 A6 F10 F9  F30 (own_ac k0 (own_ac k1 (own_ac k2 (own_ac k3 own_an)))) (Nat.le_of_ble_eq_true rfl)  z4) (by simp) rfl rfl rfl (Nat.le_of_eq rfl) (by decide) (by decide) (by decide) (by decide) nh_N4 ?_
  rintro _ h31 _ ⟨rfl, K32, ⟨b33, S35⟩, rfl⟩
  replace F30 := F30.keep K32 (ninS (Ne.symm ne17) nin0)
  replace KK := KK.trans K32 (allS (Or.inr sz8) all0)
  show Go _ _ _ _ _ _ h31 [a11, a1] 6 16 119 #[.val (.int (4 : Int32)), .val (.int c0), .val (.int c1), .val (.int c2), .val (.int c3), .val (.int c4), .val (.int c5), .val (.int c6)] [(.ref a1)]
  exact Go.areturn [] H d2_119 rfl rfl (own_narR rfl) ⟨_, _, rfl, own_ext KK, Nat.le_of_eq g3.symm, S35, rfl⟩ all0 (by decide) (by decide)
theorem d2_120 : decode method_4_code 120 = .ok (.iload_n 0, 1) := by decide +kernel
theorem d2_121 : decode method_4_code 121 = .ok (.iconst 5, 1) := by decide +kernel
theorem d2_122 : decode method_4_code 122 = .ok (.if_icmp .ne 36, 3) := by decide +kernel
theorem d2_125 : decode method_4_code 125 = .ok (.new 29, 3) := by decide +kernel
theorem d2_128 : decode method_4_code 128 = .ok (.dup, 1) := by decide +kernel
theorem d2_129 : decode method_4_code 129 = .ok (.iconst 5, 1) := by decide +kernel
theorem d2_130 : decode method_4_code 130 = .ok (.newarray .char, 2) := by decide +kernel
theorem d2_132 : decode method_4_code 132 = .ok (.dup, 1) := by decide +kernel
theorem d2_133 : decode method_4_code 133 = .ok (.iconst 0, 1) := by decide +kernel
theorem d2_134 : decode method_4_code 134 = .ok (.iload_n 1, 1) := by decide +kernel
theorem d2_135 : decode method_4_code 135 = .ok (.castore, 1) := by decide +kernel
theorem d2_136 : decode method_4_code 136 = .ok (.dup, 1) := by decide +kernel
theorem d2_137 : decode method_4_code 137 = .ok (.iconst 1, 1) := by decide +kernel
theorem d2_138 : decode method_4_code 138 = .ok (.iload_n 2, 1) := by decide +kernel
theorem d2_139 : decode method_4_code 139 = .ok (.castore, 1) := by decide +kernel
theorem d2_140 : decode method_4_code 140 = .ok (.dup, 1) := by decide +kernel
theorem d2_141 : decode method_4_code 141 = .ok (.iconst 2, 1) := by decide +kernel
theorem d2_142 : decode method_4_code 142 = .ok (.iload_n 3, 1) := by decide +kernel
theorem d2_143 : decode method_4_code 143 = .ok (.castore, 1) := by decide +kernel
theorem d2_144 : decode method_4_code 144 = .ok (.dup, 1) := by decide +kernel
theorem d2_145 : decode method_4_code 145 = .ok (.iconst 3, 1) := by decide +kernel
theorem d2_146 : decode method_4_code 146 = .ok (.iload 4, 2) := by decide +kernel
theorem d2_148 : decode method_4_code 148 = .ok (.castore, 1) := by decide +kernel
theorem d2_149 : decode method_4_code 149 = .ok (.dup, 1) := by decide +kernel
theorem d2_150 : decode method_4_code 150 = .ok (.iconst 4, 1) := by decide +kernel
theorem d2_151 : decode method_4_code 151 = .ok (.iload 5, 2) := by decide +kernel
theorem d2_153 : decode method_4_code 153 = .ok (.castore, 1) := by decide +kernel
theorem d2_154 : decode method_4_code 154 = .ok (.invokespecial 31, 3) := by decide +kernel
theorem d2_157 : decode method_4_code 157 = .ok (.areturn, 1) := by decide +kernel

abbrev rm_make5 : Room := { frames := 4, cells := 6, slots := 17, locals := 66 }
set_option maxRecDepth 65536 in
set_option maxHeartbeats 4000000 in
theorem ct_make5 (l : Launch) {Z : State} {n0 : Nat} {z : Int32} {f : Value} (W : Sx Z z f) (c0 c1 c2 c3 c4 c5 c6 : Int32) (h : Heap) (k0 : isL c0) (k1 : isL c1) (k2 : isL c2) (k3 : isL c3) (k4 : isL c4) (k5 : isL c5) (k6 : isL c6) :
    Ctr l Z n0 N14 method_4_code 8 (some (.object "java/lang/String")) rm_make5 #[(.int (5 : Int32)), (.int c0), (.int c1), (.int c2), (.int c3), (.int c4), (.int c5), (.int c6)] h [] (fun v h' sn => ∃ a b, v = some (.ref a) ∧ Ext h h' ∧ h.size ≤ a ∧ Str Z h' a b [c0, c1, c2, c3, c4] ∧ sn = []) := by
  refine Ctr.of_go (ls := #[.val (.int (5 : Int32)), .val (.int c0), .val (.int c1), .val (.int c2), .val (.int c3), .val (.int c4), .val (.int c5), .val (.int c6)]) W.1 (plainFor_of_name pn_N13) (fun m => by first | (simp [entryFrame, mkF, argsToLocals, Value.category]; done) | rfl) (fun K H => ?_)
  have KK : Keep h h [] := Keep.refl _ _
  refine Go.iloadN H d2_0 rfl rfl ?_
  refine Go.ifY (pc' := 15) H d2_1 (by decide) (by decide) (by decide) ?_
  refine Go.iloadN H d2_15 rfl rfl ?_
  refine Go.iconst (1 : Int32) H d2_16 rfl rfl ?_
  refine Go.icmpY (pc' := 35) H d2_17 (by decide) (by decide) (by decide) ?_
  refine Go.iloadN H d2_35 rfl rfl ?_
  refine Go.iconst (2 : Int32) H d2_36 rfl rfl ?_
  refine Go.icmpY (pc' := 59) H d2_37 (by decide) (by decide) (by decide) ?_
  refine Go.iloadN H d2_59 rfl rfl ?_
  refine Go.iconst (3 : Int32) H d2_60 rfl rfl ?_
  refine Go.icmpY (pc' := 87) H d2_61 (by decide) (by decide) (by decide) ?_
  refine Go.iloadN H d2_87 rfl rfl ?_
  refine Go.iconst (4 : Int32) H d2_88 rfl rfl ?_
  refine Go.icmpY (pc' := 120) H d2_89 (by decide) (by decide) (by decide) ?_
  refine Go.iloadN H d2_120 rfl rfl ?_
  refine Go.iconst (5 : Int32) H d2_121 rfl rfl ?_
  refine Go.icmpN H d2_122 (by decide) rfl ?_
  refine Go.new H d2_125 rfl w8 w9 w10 (by decide) (by decide) ?_
  intro a1 h2 g3 z4 E5 A6 D7
  have sz8 := Nat.le_trans KK.1 (Nat.le_of_eq g3.symm)
  replace KK := KK.ext E5
  have F9 : Fld Z h2 a1 "java/lang/String" "coder" "B" (.int (0 : Int32)) := D7 (Or.inr w35) (ty := .byte) (by decide)
  have F10 : Fld Z h2 a1 "java/lang/String" "value" "[B" .null := D7 (Or.inr w37) (ty := (.array .byte)) (by decide)
  show Go _ _ _ _ _ _ h2 [a1] 1 4 128 #[.val (.int (5 : Int32)), .val (.int c0), .val (.int c1), .val (.int c2), .val (.int c3), .val (.int c4), .val (.int c5), .val (.int c6)] [(.ref a1)]
  refine Go.dup H d2_128 rfl rfl ?_
  refine Go.iconst (5 : Int32) H d2_129 rfl rfl ?_
  refine Go.newarray 5 5 H d2_130 rfl w11 rfl (by decide) (by decide) (by decide) (by decide) (by decide) (by decide) (by decide) ?_
  intro a11 h12 g13 z14 E15 F16
  have ne17 : a1 ≠ a11 := Nat.ne_of_lt (Nat.lt_of_lt_of_le A6.lt (Nat.le_of_eq g13.symm))
  have sz18 := Nat.le_trans KK.1 (Nat.le_of_eq g13.symm)
  replace A6 := A6.ext E15
  replace F9 := F9.ext E15
  replace F10 := F10.ext E15
  replace KK := KK.ext E15
  replace F16 : Vec Z h12 a11 .char [(0 : Int32), (0 : Int32), (0 : Int32), (0 : Int32), (0 : Int32)] := F16
  show Go _ _ _ _ _ _ h12 [a11, a1] 2 9 132 #[.val (.int (5 : Int32)), .val (.int c0), .val (.int c1), .val (.int c2), .val (.int c3), .val (.int c4), .val (.int c5), .val (.int c6)] [(.ref a11), (.ref a1), (.ref a1)]
  refine Go.dup H d2_132 rfl rfl ?_
  refine Go.iconst (0 : Int32) H d2_133 rfl rfl ?_
  refine Go.iloadN H d2_134 rfl rfl ?_
  refine Go.castore c0 H d2_135 rfl F16 0 (by decide) (by decide) (Nat.le_of_ble_eq_true rfl) (own_char k0.c) z14 (by simp) ?_
  intro h19 K20 F21
  replace A6 := A6.keep K20
  replace F9 := F9.keep K20 (ninS ne17 nin0)
  replace F10 := F10.keep K20 (ninS ne17 nin0)
  replace KK := KK.trans K20 (allS (Or.inr sz18) all0)
  replace F21 : Vec Z h19 a11 .char [c0, (0 : Int32), (0 : Int32), (0 : Int32), (0 : Int32)] := F21
  refine Go.dup H d2_136 rfl rfl ?_
  refine Go.iconst (1 : Int32) H d2_137 rfl rfl ?_
  refine Go.iloadN H d2_138 rfl rfl ?_
  refine Go.castore c1 H d2_139 rfl F21 1 (by decide) (by decide) (Nat.le_of_ble_eq_true rfl) (own_char k1.c) z14 (by simp) ?_
  intro h22 K23 F24
  replace A6 := A6.keep K23
  replace F9 := F9.keep K23 (ninS ne17 nin0)
  replace F10 := F10.keep K23 (ninS ne17 nin0)
  replace KK := KK.trans K23 (allS (Or.inr sz18) all0)
  replace F24 : Vec Z h22 a11 .char [c0, c1, (0 : Int32), (0 : Int32), (0 : Int32)] := F24
  refine Go.dup H d2_140 rfl rfl ?_
  refine Go.iconst (2 : Int32) H d2_141 rfl rfl ?_
  refine Go.iloadN H d2_142 rfl rfl ?_
  refine Go.castore c2 H d2_143 rfl F24 2 (by decide) (by decide) (Nat.le_of_ble_eq_true rfl) (own_char k2.c) z14 (by simp) ?_
  intro h25 K26 F27
  replace A6 := A6.keep K26
  replace F9 := F9.keep K26 (ninS ne17 nin0)
  replace F10 := F10.keep K26 (ninS ne17 nin0)
  replace KK := KK.trans K26 (allS (Or.inr sz18) all0)
  replace F27 : Vec Z h25 a11 .char [c0, c1, c2, (0 : Int32), (0 : Int32)] := F27
  refine Go.dup H d2_144 rfl rfl ?_
  refine Go.iconst (3 : Int32) H d2_145 rfl rfl ?_
  refine Go.iload H d2_146 rfl rfl ?_
  refine Go.castore c3 H d2_148 rfl F27 3 (by decide) (by decide) (Nat.le_of_ble_eq_true rfl) (own_char k3.c) z14 (by simp) ?_
  intro h28 K29 F30
  replace A6 := A6.keep K29
  replace F9 := F9.keep K29 (ninS ne17 nin0)
  replace F10 := F10.keep K29 (ninS ne17 nin0)
  replace KK := KK.trans K29 (allS (Or.inr sz18) all0)
  replace F30 : Vec Z h28 a11 .char [c0, c1, c2, c3, (0 : Int32)] := F30
  refine Go.dup H d2_149 rfl rfl ?_
  refine Go.iconst (4 : Int32) H d2_150 rfl rfl ?_
  refine Go.iload H d2_151 rfl rfl ?_
  refine Go.castore c4 H d2_153 rfl F30 4 (by decide) (by decide) (Nat.le_of_ble_eq_true rfl) (own_char k4.c) z14 (by simp) ?_
  intro h31 K32 F33
  replace A6 := A6.keep K32
  replace F9 := F9.keep K32 (ninS ne17 nin0)
  replace F10 := F10.keep K32 (ninS ne17 nin0)
  replace KK := KK.trans K32 (allS (Or.inr sz18) all0)
  replace F33 : Vec Z h31 a11 .char [c0, c1, c2, c3, c4] := F33
  refine Go.callI (rest := [(.ref a1)]) 1 [(.ref a11)] H d2_154 rfl rfl w12 w13 w10 w14 pd_N5 (ct_new1 l W a1 a11 [c0, c1, c2, c3, c4] h31 A6 F10 F9  F33 (own_ac k0 (own_ac k1 (own_ac k2 (own_ac k3 (own_ac k4 own_an))))) (Nat.le_of_ble_eq_true rfl)  z4) (by simp) rfl rfl rfl (Nat.le_of_eq rfl) (by decide) (by decide) (by decide) (by decide) nh_N4 ?_
  rintro _ h34 _ ⟨rfl, K35, ⟨b36, S38⟩, rfl⟩
  replace F33 := F33.keep K35 (ninS (Ne.symm ne17) nin0)
  replace KK := KK.trans K35 (allS (Or.inr sz8) all0)
  show Go _ _ _ _ _ _ h34 [a11, a1] 6 17 157 #[.val (.int (5 : Int32)), .val (.int c0), .val (.int c1), .val (.int c2), .val (.int c3), .val (.int c4), .val (.int c5), .val (.int c6)] [(.ref a1)]
  exact Go.areturn [] H d2_157 rfl rfl (own_narR rfl) ⟨_, _, rfl, own_ext KK, Nat.le_of_eq g3.symm, S38, rfl⟩ all0 (by decide) (by decide)
theorem d2_158 : decode method_4_code 158 = .ok (.iload_n 0, 1) := by decide +kernel
theorem d2_159 : decode method_4_code 159 = .ok (.bipush 6, 2) := by decide +kernel
theorem d2_161 : decode method_4_code 161 = .ok (.if_icmp .ne 42, 3) := by decide +kernel
theorem d2_164 : decode method_4_code 164 = .ok (.new 29, 3) := by decide +kernel
theorem d2_167 : decode method_4_code 167 = .ok (.dup, 1) := by decide +kernel
theorem d2_168 : decode method_4_code 168 = .ok (.bipush 6, 2) := by decide +kernel
theorem d2_170 : decode method_4_code 170 = .ok (.newarray .char, 2) := by decide +kernel
theorem d2_172 : decode method_4_code 172 = .ok (.dup, 1) := by decide +kernel
theorem d2_173 : decode method_4_code 173 = .ok (.iconst 0, 1) := by decide +kernel
theorem d2_174 : decode method_4_code 174 = .ok (.iload_n 1, 1) := by decide +kernel
theorem d2_175 : decode method_4_code 175 = .ok (.castore, 1) := by decide +kernel
theorem d2_176 : decode method_4_code 176 = .ok (.dup, 1) := by decide +kernel
theorem d2_177 : decode method_4_code 177 = .ok (.iconst 1, 1) := by decide +kernel
theorem d2_178 : decode method_4_code 178 = .ok (.iload_n 2, 1) := by decide +kernel
theorem d2_179 : decode method_4_code 179 = .ok (.castore, 1) := by decide +kernel
theorem d2_180 : decode method_4_code 180 = .ok (.dup, 1) := by decide +kernel
theorem d2_181 : decode method_4_code 181 = .ok (.iconst 2, 1) := by decide +kernel
theorem d2_182 : decode method_4_code 182 = .ok (.iload_n 3, 1) := by decide +kernel
theorem d2_183 : decode method_4_code 183 = .ok (.castore, 1) := by decide +kernel
theorem d2_184 : decode method_4_code 184 = .ok (.dup, 1) := by decide +kernel
theorem d2_185 : decode method_4_code 185 = .ok (.iconst 3, 1) := by decide +kernel
theorem d2_186 : decode method_4_code 186 = .ok (.iload 4, 2) := by decide +kernel
theorem d2_188 : decode method_4_code 188 = .ok (.castore, 1) := by decide +kernel
theorem d2_189 : decode method_4_code 189 = .ok (.dup, 1) := by decide +kernel
theorem d2_190 : decode method_4_code 190 = .ok (.iconst 4, 1) := by decide +kernel
theorem d2_191 : decode method_4_code 191 = .ok (.iload 5, 2) := by decide +kernel
theorem d2_193 : decode method_4_code 193 = .ok (.castore, 1) := by decide +kernel
theorem d2_194 : decode method_4_code 194 = .ok (.dup, 1) := by decide +kernel
theorem d2_195 : decode method_4_code 195 = .ok (.iconst 5, 1) := by decide +kernel
theorem d2_196 : decode method_4_code 196 = .ok (.iload 6, 2) := by decide +kernel
theorem d2_198 : decode method_4_code 198 = .ok (.castore, 1) := by decide +kernel
theorem d2_199 : decode method_4_code 199 = .ok (.invokespecial 31, 3) := by decide +kernel
theorem d2_202 : decode method_4_code 202 = .ok (.areturn, 1) := by decide +kernel

abbrev rm_make6 : Room := { frames := 4, cells := 6, slots := 18, locals := 66 }
set_option maxRecDepth 65536 in
set_option maxHeartbeats 4000000 in
theorem ct_make6 (l : Launch) {Z : State} {n0 : Nat} {z : Int32} {f : Value} (W : Sx Z z f) (c0 c1 c2 c3 c4 c5 c6 : Int32) (h : Heap) (k0 : isL c0) (k1 : isL c1) (k2 : isL c2) (k3 : isL c3) (k4 : isL c4) (k5 : isL c5) (k6 : isL c6) :
    Ctr l Z n0 N14 method_4_code 8 (some (.object "java/lang/String")) rm_make6 #[(.int (6 : Int32)), (.int c0), (.int c1), (.int c2), (.int c3), (.int c4), (.int c5), (.int c6)] h [] (fun v h' sn => ∃ a b, v = some (.ref a) ∧ Ext h h' ∧ h.size ≤ a ∧ Str Z h' a b [c0, c1, c2, c3, c4, c5] ∧ sn = []) := by
  refine Ctr.of_go (ls := #[.val (.int (6 : Int32)), .val (.int c0), .val (.int c1), .val (.int c2), .val (.int c3), .val (.int c4), .val (.int c5), .val (.int c6)]) W.1 (plainFor_of_name pn_N13) (fun m => by first | (simp [entryFrame, mkF, argsToLocals, Value.category]; done) | rfl) (fun K H => ?_)
  have KK : Keep h h [] := Keep.refl _ _
  refine Go.iloadN H d2_0 rfl rfl ?_
  refine Go.ifY (pc' := 15) H d2_1 (by decide) (by decide) (by decide) ?_
  refine Go.iloadN H d2_15 rfl rfl ?_
  refine Go.iconst (1 : Int32) H d2_16 rfl rfl ?_
  refine Go.icmpY (pc' := 35) H d2_17 (by decide) (by decide) (by decide) ?_
  refine Go.iloadN H d2_35 rfl rfl ?_
  refine Go.iconst (2 : Int32) H d2_36 rfl rfl ?_
  refine Go.icmpY (pc' := 59) H d2_37 (by decide) (by decide) (by decide) ?_
  refine Go.iloadN H d2_59 rfl rfl ?_
  refine Go.iconst (3 : Int32) H d2_60 rfl rfl ?_
  refine Go.icmpY (pc' := 87) H d2_61 (by decide) (by decide) (by decide) ?_
  refine Go.iloadN H d2_87 rfl rfl ?_
  refine Go.iconst (4 : Int32) H d2_88 rfl rfl ?_
  refine Go.icmpY (pc' := 120) H d2_89 (by decide) (by decide) (by decide) ?_
  refine Go.iloadN H d2_120 rfl rfl ?_
  refine Go.iconst (5 : Int32) H d2_121 rfl rfl ?_
  refine Go.icmpY (pc' := 158) H d2_122 (by decide) (by decide) (by decide) ?_
  refine Go.iloadN H d2_158 rfl rfl ?_
  refine Go.bipush (6 : Int32) H d2_159 rfl rfl ?_
  refine Go.icmpN H d2_161 (by decide) rfl ?_
  refine Go.new H d2_164 rfl w8 w9 w10 (by decide) (by decide) ?_
  intro a1 h2 g3 z4 E5 A6 D7
  have sz8 := Nat.le_trans KK.1 (Nat.le_of_eq g3.symm)
  replace KK := KK.ext E5
  have F9 : Fld Z h2 a1 "java/lang/String" "coder" "B" (.int (0 : Int32)) := D7 (Or.inr w35) (ty := .byte) (by decide)
  have F10 : Fld Z h2 a1 "java/lang/String" "value" "[B" .null := D7 (Or.inr w37) (ty := (.array .byte)) (by decide)
  show Go _ _ _ _ _ _ h2 [a1] 1 4 167 #[.val (.int (6 : Int32)), .val (.int c0), .val (.int c1), .val (.int c2), .val (.int c3), .val (.int c4), .val (.int c5), .val (.int c6)] [(.ref a1)]
  refine Go.dup H d2_167 rfl rfl ?_
  refine Go.bipush (6 : Int32) H d2_168 rfl rfl ?_
  refine Go.newarray 6 6 H d2_170 rfl w11 rfl (by decide) (by decide) (by decide) (by decide) (by decide) (by decide) (by decide) ?_
  intro a11 h12 g13 z14 E15 F16
  have ne17 : a1 ≠ a11 := Nat.ne_of_lt (Nat.lt_of_lt_of_le A6.lt (Nat.le_of_eq g13.symm))
  have sz18 := Nat.le_trans KK.1 (Nat.le_of_eq g13.symm)
  replace A6 := A6.ext E15
  replace F9 := F9.ext E15
  replace F10 := F10.ext E15
  replace KK := KK.ext E15
  replace F16 : Vec Z h12 a11 .char [(0 : Int32), (0 : Int32), (0 : Int32), (0 : Int32), (0 : Int32), (0 : Int32)] := F16
  show Go _ _ _ _ _ _ h12 [a11, a1] 2 10 172 #[.val (.int (6 : Int32)), .val (.int c0), .val (.int c1), .val (.int c2), .val (.int c3), .val (.int c4), .val (.int c5), .val (.int c6)] [(.ref a11), (.ref a1), (.ref a1)]
  refine Go.dup H d2_172 rfl rfl ?_
  refine Go.iconst (0 : Int32) H d2_173 rfl rfl ?_
  refine Go.iloadN H d2_174 rfl rfl ?_
  refine Go.castore c0 H d2_175 rfl F16 0 (by decide) (by decide) (Nat.le_of_ble_eq_true rfl) (own_char k0.c) z14 (by simp) ?_
  intro h19 K20 F21
  replace A6 := A6.keep K20
  replace F9 := F9.keep K20 (ninS ne17 nin0)
  replace F10 := F10.keep K20 (ninS ne17 nin0)
  replace KK := KK.trans K20 (allS (Or.inr sz18) all0)
  replace F21 : Vec Z h19 a11 .char [c0, (0 : Int32), (0 : Int32), (0 : Int32), (0 : Int32), (0 : Int32)] := F21
  refine Go.dup H d2_176 rfl rfl ?_
  refine Go.iconst (1 : Int32) H d2_177 rfl rfl ?_
  refine Go.iloadN H d2_178 rfl rfl ?_
  refine Go.castore c1 H d2_179 rfl F21 1 (by decide) (by decide) (Nat.le_of_ble_eq_true rfl) (own_char k1.c) z14 (by simp) ?_
  intro h22 K23 F24
  replace A6 := A6.keep K23
  replace F9 := F9.keep K23 (ninS ne17 nin0)
  replace F10 := F10.keep K23 (ninS ne17 nin0)
  replace KK := KK.trans K23 (allS (Or.inr sz18) all0)
  replace F24 : Vec Z h22 a11 .char [c0, c1, (0 : Int32), (0 : Int32), (0 : Int32), (0 : Int32)] := F24
  refine Go.dup H d2_180 rfl rfl ?_
  refine Go.iconst (2 : Int32) H d2_181 rfl rfl ?_
  refine Go.iloadN H d2_182 rfl rfl ?_
  refine Go.castore c2 H d2_183 rfl F24 2 (by decide) (by decide) (Nat.le_of_ble_eq_true rfl) (own_char k2.c) z14 (by simp) ?_
  intro h25 K26 F27
  replace A6 := A6.keep K26
  replace F9 := F9.keep K26 (ninS ne17 nin0)
  replace F10 := F10.keep K26 (ninS ne17 nin0)
  replace KK := KK.trans K26 (allS (Or.inr sz18) all0)
  replace F27 : Vec Z h25 a11 .char [c0, c1, c2, (0 : Int32), (0 : Int32), (0 : Int32)] := F27
  refine Go.dup H d2_184 rfl rfl ?_
  refine Go.iconst (3 : Int32) H d2_185 rfl rfl ?_
  refine Go.iload H d2_186 rfl rfl ?_
  refine Go.castore c3 H d2_188 rfl F27 3 (by decide) (by decide) (Nat.le_of_ble_eq_true rfl) (own_char k3.c) z14 (by simp) ?_
  intro h28 K29 F30
  replace A6 := A6.keep K29
  replace F9 := F9.keep K29 (ninS ne17 nin0)
  replace F10 := F10.keep K29 (ninS ne17 nin0)
  replace KK := KK.trans K29 (allS (Or.inr sz18) all0)
  replace F30 : Vec Z h28 a11 .char [c0, c1, c2, c3, (0 : Int32), (0 : Int32)] := F30
  refine Go.dup H d2_189 rfl rfl ?_
  refine Go.iconst (4 : Int32) H d2_190 rfl rfl ?_
  refine Go.iload H d2_191 rfl rfl ?_
  refine Go.castore c4 H d2_193 rfl F30 4 (by decide) (by decide) (Nat.le_of_ble_eq_true rfl) (own_char k4.c) z14 (by simp) ?_
  intro h31 K32 F33
  replace A6 := A6.keep K32
  replace F9 := F9.keep K32 (ninS ne17 nin0)
  replace F10 := F10.keep K32 (ninS ne17 nin0)
  replace KK := KK.trans K32 (allS (Or.inr sz18) all0)
  replace F33 : Vec Z h31 a11 .char [c0, c1, c2, c3, c4, (0 : Int32)] := F33
  refine Go.dup H d2_194 rfl rfl ?_
  refine Go.iconst (5 : Int32) H d2_195 rfl rfl ?_
  refine Go.iload H d2_196 rfl rfl ?_
  refine Go.castore c5 H d2_198 rfl F33 5 (by decide) (by decide) (Nat.le_of_ble_eq_true rfl) (own_char k5.c) z14 (by simp) ?_
  intro h34 K35 F36
  replace A6 := A6.keep K35
  replace F9 := F9.keep K35 (ninS ne17 nin0)
  replace F10 := F10.keep K35 (ninS ne17 nin0)
  replace KK := KK.trans K35 (allS (Or.inr sz18) all0)
  replace F36 : Vec Z h34 a11 .char [c0, c1, c2, c3, c4, c5] := F36
  refine Go.callI (rest := [(.ref a1)]) 1 [(.ref a11)] H d2_199 rfl rfl w12 w13 w10 w14 pd_N5 (ct_new1 l W a1 a11 [c0, c1, c2, c3, c4, c5] h34 A6 F10 F9  F36 (own_ac k0 (own_ac k1 (own_ac k2 (own_ac k3 (own_ac k4 (own_ac k5 own_an)))))) (Nat.le_of_ble_eq_true rfl)  z4) (by simp) rfl rfl rfl (Nat.le_of_eq rfl) (by decide) (by decide) (by decide) (by decide) nh_N4 ?_
  rintro _ h37 _ ⟨rfl, K38, ⟨b39, S41⟩, rfl⟩
  replace F36 := F36.keep K38 (ninS (Ne.symm ne17) nin0)
  replace KK := KK.trans K38 (allS (Or.inr sz8) all0)
  show Go _ _ _ _ _ _ h37 [a11, a1] 6 18 202 #[.val (.int (6 : Int32)), .val (.int c0), .val (.int c1), .val (.int c2), .val (.int c3), .val (.int c4), .val (.int c5), .val (.int c6)] [(.ref a1)]
  exact Go.areturn [] H d2_202 rfl rfl (own_narR rfl) ⟨_, _, rfl, own_ext KK, Nat.le_of_eq g3.symm, S41, rfl⟩ all0 (by decide) (by decide)
theorem d2_203 : decode method_4_code 203 = .ok (.new 29, 3) := by decide +kernel
theorem d2_206 : decode method_4_code 206 = .ok (.dup, 1) := by decide +kernel
theorem d2_207 : decode method_4_code 207 = .ok (.bipush 7, 2) := by decide +kernel
theorem d2_209 : decode method_4_code 209 = .ok (.newarray .char, 2) := by decide +kernel
theorem d2_211 : decode method_4_code 211 = .ok (.dup, 1) := by decide +kernel
theorem d2_212 : decode method_4_code 212 = .ok (.iconst 0, 1) := by decide +kernel
theorem d2_213 : decode method_4_code 213 = .ok (.iload_n 1, 1) := by decide +kernel
theorem d2_214 : decode method_4_code 214 = .ok (.castore, 1) := by decide +kernel
theorem d2_215 : decode method_4_code 215 = .ok (.dup, 1) := by decide +kernel
theorem d2_216 : decode method_4_code 216 = .ok (.iconst 1, 1) := by decide +kernel
theorem d2_217 : decode method_4_code 217 = .ok (.iload_n 2, 1) := by decide +kernel
theorem d2_218 : decode method_4_code 218 = .ok (.castore, 1) := by decide +kernel
theorem d2_219 : decode method_4_code 219 = .ok (.dup, 1) := by decide +kernel
theorem d2_220 : decode method_4_code 220 = .ok (.iconst 2, 1) := by decide +kernel
theorem d2_221 : decode method_4_code 221 = .ok (.iload_n 3, 1) := by decide +kernel
theorem d2_222 : decode method_4_code 222 = .ok (.castore, 1) := by decide +kernel
theorem d2_223 : decode method_4_code 223 = .ok (.dup, 1) := by decide +kernel
theorem d2_224 : decode method_4_code 224 = .ok (.iconst 3, 1) := by decide +kernel
theorem d2_225 : decode method_4_code 225 = .ok (.iload 4, 2) := by decide +kernel
theorem d2_227 : decode method_4_code 227 = .ok (.castore, 1) := by decide +kernel
theorem d2_228 : decode method_4_code 228 = .ok (.dup, 1) := by decide +kernel
theorem d2_229 : decode method_4_code 229 = .ok (.iconst 4, 1) := by decide +kernel
theorem d2_230 : decode method_4_code 230 = .ok (.iload 5, 2) := by decide +kernel
theorem d2_232 : decode method_4_code 232 = .ok (.castore, 1) := by decide +kernel
theorem d2_233 : decode method_4_code 233 = .ok (.dup, 1) := by decide +kernel
theorem d2_234 : decode method_4_code 234 = .ok (.iconst 5, 1) := by decide +kernel
theorem d2_235 : decode method_4_code 235 = .ok (.iload 6, 2) := by decide +kernel
theorem d2_237 : decode method_4_code 237 = .ok (.castore, 1) := by decide +kernel
theorem d2_238 : decode method_4_code 238 = .ok (.dup, 1) := by decide +kernel
theorem d2_239 : decode method_4_code 239 = .ok (.bipush 6, 2) := by decide +kernel
theorem d2_241 : decode method_4_code 241 = .ok (.iload 7, 2) := by decide +kernel
theorem d2_243 : decode method_4_code 243 = .ok (.castore, 1) := by decide +kernel
theorem d2_244 : decode method_4_code 244 = .ok (.invokespecial 31, 3) := by decide +kernel
theorem d2_247 : decode method_4_code 247 = .ok (.areturn, 1) := by decide +kernel

abbrev rm_make7 : Room := { frames := 4, cells := 6, slots := 19, locals := 66 }
set_option maxRecDepth 65536 in
set_option maxHeartbeats 4000000 in
theorem ct_make7 (l : Launch) {Z : State} {n0 : Nat} {z : Int32} {f : Value} (W : Sx Z z f) (c0 c1 c2 c3 c4 c5 c6 : Int32) (h : Heap) (k0 : isL c0) (k1 : isL c1) (k2 : isL c2) (k3 : isL c3) (k4 : isL c4) (k5 : isL c5) (k6 : isL c6) :
    Ctr l Z n0 N14 method_4_code 8 (some (.object "java/lang/String")) rm_make7 #[(.int (7 : Int32)), (.int c0), (.int c1), (.int c2), (.int c3), (.int c4), (.int c5), (.int c6)] h [] (fun v h' sn => ∃ a b, v = some (.ref a) ∧ Ext h h' ∧ h.size ≤ a ∧ Str Z h' a b [c0, c1, c2, c3, c4, c5, c6] ∧ sn = []) := by
  refine Ctr.of_go (ls := #[.val (.int (7 : Int32)), .val (.int c0), .val (.int c1), .val (.int c2), .val (.int c3), .val (.int c4), .val (.int c5), .val (.int c6)]) W.1 (plainFor_of_name pn_N13) (fun m => by first | (simp [entryFrame, mkF, argsToLocals, Value.category]; done) | rfl) (fun K H => ?_)
  have KK : Keep h h [] := Keep.refl _ _
  refine Go.iloadN H d2_0 rfl rfl ?_
  refine Go.ifY (pc' := 15) H d2_1 (by decide) (by decide) (by decide) ?_
  refine Go.iloadN H d2_15 rfl rfl ?_
  refine Go.iconst (1 : Int32) H d2_16 rfl rfl ?_
  refine Go.icmpY (pc' := 35) H d2_17 (by decide) (by decide) (by decide) ?_
  refine Go.iloadN H d2_35 rfl rfl ?_
  refine Go.iconst (2 : Int32) H d2_36 rfl rfl ?_
  refine Go.icmpY (pc' := 59) H d2_37 (by decide) (by decide) (by decide) ?_
  refine Go.iloadN H d2_59 rfl rfl ?_
  refine Go.iconst (3 : Int32) H d2_60 rfl rfl ?_
  refine Go.icmpY (pc' := 87) H d2_61 (by decide) (by decide) (by decide) ?_
  refine Go.iloadN H d2_87 rfl rfl ?_
  refine Go.iconst (4 : Int32) H d2_88 rfl rfl ?_
  refine Go.icmpY (pc' := 120) H d2_89 (by decide) (by decide) (by decide) ?_
  refine Go.iloadN H d2_120 rfl rfl ?_
  refine Go.iconst (5 : Int32) H d2_121 rfl rfl ?_
  refine Go.icmpY (pc' := 158) H d2_122 (by decide) (by decide) (by decide) ?_
  refine Go.iloadN H d2_158 rfl rfl ?_
  refine Go.bipush (6 : Int32) H d2_159 rfl rfl ?_
  refine Go.icmpY (pc' := 203) H d2_161 (by decide) (by decide) (by decide) ?_
  refine Go.new H d2_203 rfl w8 w9 w10 (by decide) (by decide) ?_
  intro a1 h2 g3 z4 E5 A6 D7
  have sz8 := Nat.le_trans KK.1 (Nat.le_of_eq g3.symm)
  replace KK := KK.ext E5
  have F9 : Fld Z h2 a1 "java/lang/String" "coder" "B" (.int (0 : Int32)) := D7 (Or.inr w35) (ty := .byte) (by decide)
  have F10 : Fld Z h2 a1 "java/lang/String" "value" "[B" .null := D7 (Or.inr w37) (ty := (.array .byte)) (by decide)
  show Go _ _ _ _ _ _ h2 [a1] 1 4 206 #[.val (.int (7 : Int32)), .val (.int c0), .val (.int c1), .val (.int c2), .val (.int c3), .val (.int c4), .val (.int c5), .val (.int c6)] [(.ref a1)]
  refine Go.dup H d2_206 rfl rfl ?_
  refine Go.bipush (7 : Int32) H d2_207 rfl rfl ?_
  refine Go.newarray 7 7 H d2_209 rfl w11 rfl (by decide) (by decide) (by decide) (by decide) (by decide) (by decide) (by decide) ?_
  intro a11 h12 g13 z14 E15 F16
  have ne17 : a1 ≠ a11 := Nat.ne_of_lt (Nat.lt_of_lt_of_le A6.lt (Nat.le_of_eq g13.symm))
  have sz18 := Nat.le_trans KK.1 (Nat.le_of_eq g13.symm)
  replace A6 := A6.ext E15
  replace F9 := F9.ext E15
  replace F10 := F10.ext E15
  replace KK := KK.ext E15
  replace F16 : Vec Z h12 a11 .char [(0 : Int32), (0 : Int32), (0 : Int32), (0 : Int32), (0 : Int32), (0 : Int32), (0 : Int32)] := F16
  show Go _ _ _ _ _ _ h12 [a11, a1] 2 11 211 #[.val (.int (7 : Int32)), .val (.int c0), .val (.int c1), .val (.int c2), .val (.int c3), .val (.int c4), .val (.int c5), .val (.int c6)] [(.ref a11), (.ref a1), (.ref a1)]
  refine Go.dup H d2_211 rfl rfl ?_
  refine Go.iconst (0 : Int32) H d2_212 rfl rfl ?_
  refine Go.iloadN H d2_213 rfl rfl ?_
  refine Go.castore c0 H d2_214 rfl F16 0 (by decide) (by decide) (Nat.le_of_ble_eq_true rfl) (own_char k0.c) z14 (by simp) ?_
  intro h19 K20 F21
  replace A6 := A6.keep K20
  replace F9 := F9.keep K20 (ninS ne17 nin0)
  replace F10 := F10.keep K20 (ninS ne17 nin0)
  replace KK := KK.trans K20 (allS (Or.inr sz18) all0)
  replace F21 : Vec Z h19 a11 .char [c0, (0 : Int32), (0 : Int32), (0 : Int32), (0 : Int32), (0 : Int32), (0 : Int32)] := F21
  refine Go.dup H d2_215 rfl rfl ?_
  refine Go.iconst (1 : Int32) H d2_216 rfl rfl ?_
  refine Go.iloadN H d2_217 rfl rfl ?_
  refine Go.castore c1 H d2_218 rfl F21 1 (by decide) (by decide) (Nat.le_of_ble_eq_true rfl) (own_char k1.c) z14 (by simp) ?_
  intro h22 K23 F24
  replace A6 := A6.keep K23
  replace F9 := F9.keep K23 (ninS ne17 nin0)
  replace F10 := F10.keep K23 (ninS ne17 nin0)
  replace KK := KK.trans K23 (allS (Or.inr sz18) all0)
  replace F24 : Vec Z h22 a11 .char [c0, c1, (0 : Int32), (0 : Int32), (0 : Int32), (0 : Int32), (0 : Int32)] := F24
  refine Go.dup H d2_219 rfl rfl ?_
  refine Go.iconst (2 : Int32) H d2_220 rfl rfl ?_
  refine Go.iloadN H d2_221 rfl rfl ?_
  refine Go.castore c2 H d2_222 rfl F24 2 (by decide) (by decide) (Nat.le_of_ble_eq_true rfl) (own_char k2.c) z14 (by simp) ?_
  intro h25 K26 F27
  replace A6 := A6.keep K26
  replace F9 := F9.keep K26 (ninS ne17 nin0)
  replace F10 := F10.keep K26 (ninS ne17 nin0)
  replace KK := KK.trans K26 (allS (Or.inr sz18) all0)
  replace F27 : Vec Z h25 a11 .char [c0, c1, c2, (0 : Int32), (0 : Int32), (0 : Int32), (0 : Int32)] := F27
  refine Go.dup H d2_223 rfl rfl ?_
  refine Go.iconst (3 : Int32) H d2_224 rfl rfl ?_
  refine Go.iload H d2_225 rfl rfl ?_
  refine Go.castore c3 H d2_227 rfl F27 3 (by decide) (by decide) (Nat.le_of_ble_eq_true rfl) (own_char k3.c) z14 (by simp) ?_
  intro h28 K29 F30
  replace A6 := A6.keep K29
  replace F9 := F9.keep K29 (ninS ne17 nin0)
  replace F10 := F10.keep K29 (ninS ne17 nin0)
  replace KK := KK.trans K29 (allS (Or.inr sz18) all0)
  replace F30 : Vec Z h28 a11 .char [c0, c1, c2, c3, (0 : Int32), (0 : Int32), (0 : Int32)] := F30
  refine Go.dup H d2_228 rfl rfl ?_
  refine Go.iconst (4 : Int32) H d2_229 rfl rfl ?_
  refine Go.iload H d2_230 rfl rfl ?_
  refine Go.castore c4 H d2_232 rfl F30 4 (by decide) (by decide) (Nat.le_of_ble_eq_true rfl) (own_char k4.c) z14 (by simp) ?_
  intro h31 K32 F33
  replace A6 := A6.keep K32
  replace F9 := F9.keep K32 (ninS ne17 nin0)
  replace F10 := F10.keep K32 (ninS ne17 nin0)
  replace KK := KK.trans K32 (allS (Or.inr sz18) all0)
  replace F33 : Vec Z h31 a11 .char [c0, c1, c2, c3, c4, (0 : Int32), (0 : Int32)] := F33
  refine Go.dup H d2_233 rfl rfl ?_
  refine Go.iconst (5 : Int32) H d2_234 rfl rfl ?_
  refine Go.iload H d2_235 rfl rfl ?_
  refine Go.castore c5 H d2_237 rfl F33 5 (by decide) (by decide) (Nat.le_of_ble_eq_true rfl) (own_char k5.c) z14 (by simp) ?_
  intro h34 K35 F36
  replace A6 := A6.keep K35
  replace F9 := F9.keep K35 (ninS ne17 nin0)
  replace F10 := F10.keep K35 (ninS ne17 nin0)
  replace KK := KK.trans K35 (allS (Or.inr sz18) all0)
  replace F36 : Vec Z h34 a11 .char [c0, c1, c2, c3, c4, c5, (0 : Int32)] := F36
  refine Go.dup H d2_238 rfl rfl ?_
  refine Go.bipush (6 : Int32) H d2_239 rfl rfl ?_
  refine Go.iload H d2_241 rfl rfl ?_
  refine Go.castore c6 H d2_243 rfl F36 6 (by decide) (by decide) (Nat.le_of_ble_eq_true rfl) (own_char k6.c) z14 (by simp) ?_
  intro h37 K38 F39
  replace A6 := A6.keep K38
  replace F9 := F9.keep K38 (ninS ne17 nin0)
  replace F10 := F10.keep K38 (ninS ne17 nin0)
  replace KK := KK.trans K38 (allS (Or.inr sz18) all0)
  replace F39 : Vec Z h37 a11 .char [c0, c1, c2, c3, c4, c5, c6] := F39
  refine Go.callI (rest := [(.ref a1)]) 1 [(.ref a11)] H d2_244 rfl rfl w12 w13 w10 w14 pd_N5 (ct_new1 l W a1 a11 [c0, c1, c2, c3, c4, c5, c6] h37 A6 F10 F9  F39 (own_ac k0 (own_ac k1 (own_ac k2 (own_ac k3 (own_ac k4 (own_ac k5 (own_ac k6 own_an))))))) (Nat.le_of_ble_eq_true rfl)  z4) (by simp) rfl rfl rfl (Nat.le_of_eq rfl) (by decide) (by decide) (by decide) (by decide) nh_N4 ?_
  rintro _ h40 _ ⟨rfl, K41, ⟨b42, S44⟩, rfl⟩
  replace F39 := F39.keep K41 (ninS (Ne.symm ne17) nin0)
  replace KK := KK.trans K41 (allS (Or.inr sz8) all0)
  show Go _ _ _ _ _ _ h40 [a11, a1] 6 19 247 #[.val (.int (7 : Int32)), .val (.int c0), .val (.int c1), .val (.int c2), .val (.int c3), .val (.int c4), .val (.int c5), .val (.int c6)] [(.ref a1)]
  exact Go.areturn [] H d2_247 rfl rfl (own_narR rfl) ⟨_, _, rfl, own_ext KK, Nat.le_of_eq g3.symm, S44, rfl⟩ all0 (by decide) (by decide)
def stepF (s : Int32) (c : Int32) : Int32 := if s = (-1 : Int32) then (-1 : Int32) else if s = (0 : Int32) then if c = (36 : Int32) then (1 : Int32) else (0 : Int32) else if s = (1 : Int32) then if c = (123 : Int32) then (2 : Int32) else if c = (36 : Int32) then (1 : Int32) else (0 : Int32) else if c = (123 : Int32) then (s + (1 : Int32)) else if c = (125 : Int32) then if s = (2 : Int32) then (-1 : Int32) else (s - (1 : Int32)) else s
theorem d10_0 : decode method_6_code 0 = .ok (.iload_n 0, 1) := by decide +kernel
theorem d10_1 : decode method_6_code 1 = .ok (.iconst (-1), 1) := by decide +kernel
theorem d10_2 : decode method_6_code 2 = .ok (.if_icmp .ne 5, 3) := by decide +kernel
theorem d10_5 : decode method_6_code 5 = .ok (.iconst (-1), 1) := by decide +kernel
theorem d10_6 : decode method_6_code 6 = .ok (.ireturn, 1) := by decide +kernel
theorem d10_7 : decode method_6_code 7 = .ok (.iload_n 0, 1) := by decide +kernel
theorem d10_8 : decode method_6_code 8 = .ok (.ifCond .ne 15, 3) := by decide +kernel
theorem d10_11 : decode method_6_code 11 = .ok (.iload_n 1, 1) := by decide +kernel
theorem d10_12 : decode method_6_code 12 = .ok (.bipush 36, 2) := by decide +kernel
theorem d10_14 : decode method_6_code 14 = .ok (.if_icmp .ne 7, 3) := by decide +kernel
theorem d10_17 : decode method_6_code 17 = .ok (.iconst 1, 1) := by decide +kernel
theorem d10_18 : decode method_6_code 18 = .ok (.goto 4, 3) := by decide +kernel
theorem d10_22 : decode method_6_code 22 = .ok (.ireturn, 1) := by decide +kernel
theorem d10_21 : decode method_6_code 21 = .ok (.iconst 0, 1) := by decide +kernel
theorem d10_23 : decode method_6_code 23 = .ok (.iload_n 0, 1) := by decide +kernel
theorem d10_24 : decode method_6_code 24 = .ok (.iconst 1, 1) := by decide +kernel
theorem d10_25 : decode method_6_code 25 = .ok (.if_icmp .ne 23, 3) := by decide +kernel
theorem d10_28 : decode method_6_code 28 = .ok (.iload_n 1, 1) := by decide +kernel
theorem d10_29 : decode method_6_code 29 = .ok (.bipush 123, 2) := by decide +kernel
theorem d10_31 : decode method_6_code 31 = .ok (.if_icmp .ne 5, 3) := by decide +kernel
theorem d10_34 : decode method_6_code 34 = .ok (.iconst 2, 1) := by decide +kernel
theorem d10_35 : decode method_6_code 35 = .ok (.ireturn, 1) := by decide +kernel
theorem d10_36 : decode method_6_code 36 = .ok (.iload_n 1, 1) := by decide +kernel
theorem d10_37 : decode method_6_code 37 = .ok (.bipush 36, 2) := by decide +kernel
theorem d10_39 : decode method_6_code 39 = .ok (.if_icmp .ne 7, 3) := by decide +kernel
theorem d10_42 : decode method_6_code 42 = .ok (.iconst 1, 1) := by decide +kernel
theorem d10_43 : decode method_6_code 43 = .ok (.goto 4, 3) := by decide +kernel
theorem d10_47 : decode method_6_code 47 = .ok (.ireturn, 1) := by decide +kernel
theorem d10_46 : decode method_6_code 46 = .ok (.iconst 0, 1) := by decide +kernel
theorem d10_48 : decode method_6_code 48 = .ok (.iload_n 1, 1) := by decide +kernel
theorem d10_49 : decode method_6_code 49 = .ok (.bipush 123, 2) := by decide +kernel
theorem d10_51 : decode method_6_code 51 = .ok (.if_icmp .ne 7, 3) := by decide +kernel
theorem d10_54 : decode method_6_code 54 = .ok (.iload_n 0, 1) := by decide +kernel
theorem d10_55 : decode method_6_code 55 = .ok (.iconst 1, 1) := by decide +kernel
theorem d10_56 : decode method_6_code 56 = .ok (.iadd, 1) := by decide +kernel
theorem d10_57 : decode method_6_code 57 = .ok (.ireturn, 1) := by decide +kernel
theorem d10_58 : decode method_6_code 58 = .ok (.iload_n 1, 1) := by decide +kernel
theorem d10_59 : decode method_6_code 59 = .ok (.bipush 125, 2) := by decide +kernel
theorem d10_61 : decode method_6_code 61 = .ok (.if_icmp .ne 16, 3) := by decide +kernel
theorem d10_64 : decode method_6_code 64 = .ok (.iload_n 0, 1) := by decide +kernel
theorem d10_65 : decode method_6_code 65 = .ok (.iconst 2, 1) := by decide +kernel
theorem d10_66 : decode method_6_code 66 = .ok (.if_icmp .ne 7, 3) := by decide +kernel
theorem d10_69 : decode method_6_code 69 = .ok (.iconst (-1), 1) := by decide +kernel
theorem d10_70 : decode method_6_code 70 = .ok (.goto 6, 3) := by decide +kernel
theorem d10_76 : decode method_6_code 76 = .ok (.ireturn, 1) := by decide +kernel
theorem d10_73 : decode method_6_code 73 = .ok (.iload_n 0, 1) := by decide +kernel
theorem d10_74 : decode method_6_code 74 = .ok (.iconst 1, 1) := by decide +kernel
theorem d10_75 : decode method_6_code 75 = .ok (.isub, 1) := by decide +kernel
theorem d10_77 : decode method_6_code 77 = .ok (.iload_n 0, 1) := by decide +kernel
theorem d10_78 : decode method_6_code 78 = .ok (.ireturn, 1) := by decide +kernel
abbrev N15 : MethodName := ⟨"com/example/autowire/autowire/beans/PlaceholdersHoldsPlaceholderPinLaw", "step", "(IC)I"⟩

abbrev rm_step : Room := { frames := 0, cells := 0, slots := 0, locals := 0 }
set_option maxRecDepth 65536 in
set_option maxHeartbeats 4000000 in
theorem ct_step (l : Launch) {Z : State} {n0 : Nat} {z : Int32} {f : Value} (W : Sx Z z f) (s : Int32) (c : Int32) (h : Heap) :
    Ctr l Z n0 N15 method_6_code 2 (some .int) rm_step #[(.int s), (.int c)] h [] (fun v h' sn => v = some (.int (stepF s c)) ∧ h = h' ∧ sn = []) := by
  refine Ctr.of_go (ls := #[.val (.int s), .val (.int c)]) W.1 (plainFor_of_name pn_N13) (fun m => by first | (simp [entryFrame, mkF, argsToLocals, Value.category]; done) | rfl) (fun K H => ?_)
  refine Go.iloadN H d10_0 rfl rfl ?_
  refine Go.iconst (-1 : Int32) H d10_1 rfl rfl ?_
  by_cases c1 : s = (-1 : Int32)
  ·
    refine Go.icmpN H d10_2 (teq c1).2 rfl ?_
    refine Go.iconst (-1 : Int32) H d10_5 rfl rfl ?_
    exact Go.ireturnI [] H d10_6 ⟨congrArg (fun q => some (Value.int q)) (show (-1 : Int32) = stepF s c from Eq.symm (by rw [stepF, if_pos c1])), rfl, rfl⟩ all0 (by decide) (by decide)
  ·
    refine Go.icmpY (pc' := 7) H d10_2 (feq c1).2 (by decide) (by decide) ?_
    refine Go.iloadN H d10_7 rfl rfl ?_
    by_cases c2 : s = (0 : Int32)
    ·
      refine Go.ifN H d10_8 (teq c2).2 rfl ?_
      refine Go.iloadN H d10_11 rfl rfl ?_
      refine Go.bipush (36 : Int32) H d10_12 rfl rfl ?_
      by_cases c3 : c = (36 : Int32)
      ·
        refine Go.icmpN H d10_14 (teq c3).2 rfl ?_
        refine Go.iconst (1 : Int32) H d10_17 rfl rfl ?_
        refine Go.goto (pc' := 22) H d10_18 (by decide) (by decide) ?_
        exact Go.ireturnI [] H d10_22 ⟨congrArg (fun q => some (Value.int q)) (show (1 : Int32) = stepF s c from Eq.symm (by rw [stepF, if_neg c1, if_pos c2, if_pos c3])), rfl, rfl⟩ all0 (by decide) (by decide)
      ·
        refine Go.icmpY (pc' := 21) H d10_14 (feq c3).2 (by decide) (by decide) ?_
        refine Go.iconst (0 : Int32) H d10_21 rfl rfl ?_
        exact Go.ireturnI [] H d10_22 ⟨congrArg (fun q => some (Value.int q)) (show (0 : Int32) = stepF s c from Eq.symm (by rw [stepF, if_neg c1, if_pos c2, if_neg c3])), rfl, rfl⟩ all0 (by decide) (by decide)
    ·
      refine Go.ifY (pc' := 23) H d10_8 (feq c2).2 (by decide) (by decide) ?_
      refine Go.iloadN H d10_23 rfl rfl ?_
      refine Go.iconst (1 : Int32) H d10_24 rfl rfl ?_
      by_cases c4 : s = (1 : Int32)
      ·
        refine Go.icmpN H d10_25 (teq c4).2 rfl ?_
        refine Go.iloadN H d10_28 rfl rfl ?_
        refine Go.bipush (123 : Int32) H d10_29 rfl rfl ?_
        by_cases c5 : c = (123 : Int32)
        ·
          refine Go.icmpN H d10_31 (teq c5).2 rfl ?_
          refine Go.iconst (2 : Int32) H d10_34 rfl rfl ?_
          exact Go.ireturnI [] H d10_35 ⟨congrArg (fun q => some (Value.int q)) (show (2 : Int32) = stepF s c from Eq.symm (by rw [stepF, if_neg c1, if_neg c2, if_pos c4, if_pos c5])), rfl, rfl⟩ all0 (by decide) (by decide)
        ·
          refine Go.icmpY (pc' := 36) H d10_31 (feq c5).2 (by decide) (by decide) ?_
          refine Go.iloadN H d10_36 rfl rfl ?_
          refine Go.bipush (36 : Int32) H d10_37 rfl rfl ?_
          by_cases c6 : c = (36 : Int32)
          ·
            refine Go.icmpN H d10_39 (teq c6).2 rfl ?_
            refine Go.iconst (1 : Int32) H d10_42 rfl rfl ?_
            refine Go.goto (pc' := 47) H d10_43 (by decide) (by decide) ?_
            exact Go.ireturnI [] H d10_47 ⟨congrArg (fun q => some (Value.int q)) (show (1 : Int32) = stepF s c from Eq.symm (by rw [stepF, if_neg c1, if_neg c2, if_pos c4, if_neg c5, if_pos c6])), rfl, rfl⟩ all0 (by decide) (by decide)
          ·
            refine Go.icmpY (pc' := 46) H d10_39 (feq c6).2 (by decide) (by decide) ?_
            refine Go.iconst (0 : Int32) H d10_46 rfl rfl ?_
            exact Go.ireturnI [] H d10_47 ⟨congrArg (fun q => some (Value.int q)) (show (0 : Int32) = stepF s c from Eq.symm (by rw [stepF, if_neg c1, if_neg c2, if_pos c4, if_neg c5, if_neg c6])), rfl, rfl⟩ all0 (by decide) (by decide)
      ·
        refine Go.icmpY (pc' := 48) H d10_25 (feq c4).2 (by decide) (by decide) ?_
        refine Go.iloadN H d10_48 rfl rfl ?_
        refine Go.bipush (123 : Int32) H d10_49 rfl rfl ?_
        by_cases c7 : c = (123 : Int32)
        ·
          refine Go.icmpN H d10_51 (teq c7).2 rfl ?_
          refine Go.iloadN H d10_54 rfl rfl ?_
          refine Go.iconst (1 : Int32) H d10_55 rfl rfl ?_
          refine Go.iadd H d10_56 rfl ?_
          exact Go.ireturnI [] H d10_57 ⟨congrArg (fun q => some (Value.int q)) (show (s + (1 : Int32)) = stepF s c from Eq.symm (by rw [stepF, if_neg c1, if_neg c2, if_neg c4, if_pos c7])), rfl, rfl⟩ all0 (by decide) (by decide)
        ·
          refine Go.icmpY (pc' := 58) H d10_51 (feq c7).2 (by decide) (by decide) ?_
          refine Go.iloadN H d10_58 rfl rfl ?_
          refine Go.bipush (125 : Int32) H d10_59 rfl rfl ?_
          by_cases c8 : c = (125 : Int32)
          ·
            refine Go.icmpN H d10_61 (teq c8).2 rfl ?_
            refine Go.iloadN H d10_64 rfl rfl ?_
            refine Go.iconst (2 : Int32) H d10_65 rfl rfl ?_
            by_cases c9 : s = (2 : Int32)
            ·
              refine Go.icmpN H d10_66 (teq c9).2 rfl ?_
              refine Go.iconst (-1 : Int32) H d10_69 rfl rfl ?_
              refine Go.goto (pc' := 76) H d10_70 (by decide) (by decide) ?_
              exact Go.ireturnI [] H d10_76 ⟨congrArg (fun q => some (Value.int q)) (show (-1 : Int32) = stepF s c from Eq.symm (by rw [stepF, if_neg c1, if_neg c2, if_neg c4, if_neg c7, if_pos c8, if_pos c9])), rfl, rfl⟩ all0 (by decide) (by decide)
            ·
              refine Go.icmpY (pc' := 73) H d10_66 (feq c9).2 (by decide) (by decide) ?_
              refine Go.iloadN H d10_73 rfl rfl ?_
              refine Go.iconst (1 : Int32) H d10_74 rfl rfl ?_
              refine Go.isub H d10_75 rfl ?_
              exact Go.ireturnI [] H d10_76 ⟨congrArg (fun q => some (Value.int q)) (show (s - (1 : Int32)) = stepF s c from Eq.symm (by rw [stepF, if_neg c1, if_neg c2, if_neg c4, if_neg c7, if_pos c8, if_neg c9])), rfl, rfl⟩ all0 (by decide) (by decide)
          ·
            refine Go.icmpY (pc' := 77) H d10_61 (feq c8).2 (by decide) (by decide) ?_
            refine Go.iloadN H d10_77 rfl rfl ?_
            exact Go.ireturnI [] H d10_78 ⟨congrArg (fun q => some (Value.int q)) (show s = stepF s c from Eq.symm (by rw [stepF, if_neg c1, if_neg c2, if_neg c4, if_neg c7, if_neg c8])), rfl, rfl⟩ all0 (by decide) (by decide)
def sifF (s : Int32) (c : Int32) (i : Int32) (n : Int32) : Int32 := if i < n then (stepF s c) else s
theorem d9_0 : decode method_5_code 0 = .ok (.iload_n 2, 1) := by decide +kernel
theorem d9_1 : decode method_5_code 1 = .ok (.iload_n 3, 1) := by decide +kernel
theorem d9_2 : decode method_5_code 2 = .ok (.if_icmp .ge 11, 3) := by decide +kernel
theorem d9_5 : decode method_5_code 5 = .ok (.iload_n 0, 1) := by decide +kernel
theorem d9_6 : decode method_5_code 6 = .ok (.iload_n 1, 1) := by decide +kernel
theorem d9_7 : decode method_5_code 7 = .ok (.invokestatic 34, 3) := by decide +kernel
theorem w43 : Jvm.Cond.code N15 method_6_code (2 : Nat) (Option.some Jvm.ClassFile.FieldType.int) ∈ tables_1 := List.mem_of_getElem? (i := 43) rfl
theorem w2 : Jvm.Cond.initialized "com/example/autowire/autowire/beans/PlaceholdersHoldsPlaceholderPinLaw" ∈ tables_1 := List.mem_of_getElem? (i := 2) rfl
theorem pd_N15 : parseMethodDescriptor N15.desc = some ⟨[.int, .char], (some .int)⟩ := by decide +kernel
theorem nh_N15 : N15.cls ≠ "java/lang/invoke/MethodHandle" ∧ N15.cls ≠ "java/lang/invoke/VarHandle" := by decide
theorem w41 : Jvm.Cond.methodLink "com/example/autowire/autowire/beans/PlaceholdersHoldsPlaceholderPinLaw" (34 : Nat) N15 ∈ tables_1 := List.mem_of_getElem? (i := 41) rfl
theorem w42 : Jvm.Cond.static N15 ∈ tables_1 := List.mem_of_getElem? (i := 42) rfl
theorem d9_10 : decode method_5_code 10 = .ok (.goto 4, 3) := by decide +kernel
theorem d9_14 : decode method_5_code 14 = .ok (.ireturn, 1) := by decide +kernel
theorem d9_13 : decode method_5_code 13 = .ok (.iload_n 0, 1) := by decide +kernel
abbrev N16 : MethodName := ⟨"com/example/autowire/autowire/beans/PlaceholdersHoldsPlaceholderPinLaw", "stepIf", "(ICII)I"⟩

abbrev rm_sif : Room := { frames := 1, cells := 0, slots := 0, locals := 13 }
set_option maxRecDepth 65536 in
set_option maxHeartbeats 4000000 in
theorem ct_sif (l : Launch) {Z : State} {n0 : Nat} {z : Int32} {f : Value} (W : Sx Z z f) (s : Int32) (c : Int32) (i : Int32) (n : Int32) (h : Heap) :
    Ctr l Z n0 N16 method_5_code 4 (some .int) rm_sif #[(.int s), (.int c), (.int i), (.int n)] h [] (fun v h' sn => v = some (.int (sifF s c i n)) ∧ h = h' ∧ sn = []) := by
  refine Ctr.of_go (ls := #[.val (.int s), .val (.int c), .val (.int i), .val (.int n)]) W.1 (plainFor_of_name pn_N13) (fun m => by first | (simp [entryFrame, mkF, argsToLocals, Value.category]; done) | rfl) (fun K H => ?_)
  refine Go.iloadN H d9_0 rfl rfl ?_
  refine Go.iloadN H d9_1 rfl rfl ?_
  by_cases c1 : i < n
  ·
    refine Go.icmpN H d9_2 (tlt c1).2.1 rfl ?_
    refine Go.iloadN H d9_5 rfl rfl ?_
    refine Go.iloadN H d9_6 rfl rfl ?_
    refine Go.callS (rest := []) 0 [(.int s), (.int c)] H d9_7 rfl w41 w42 w2 w43 pd_N15 (ct_step l W s c h) all0 rfl rfl rfl (Nat.le_of_eq rfl) (by decide) (by decide) (by decide) (by decide) nh_N15 ?_
    rintro _ _ _ ⟨rfl, rfl, rfl⟩
    show Go _ _ _ _ _ _ h [] 0 0 10 #[.val (.int s), .val (.int c), .val (.int i), .val (.int n)] [(.int (stepF s c))]
    refine Go.goto (pc' := 14) H d9_10 (by decide) (by decide) ?_
    exact Go.ireturnI [] H d9_14 ⟨congrArg (fun q => some (Value.int q)) (show (stepF s c) = sifF s c i n from Eq.symm (by rw [sifF, if_pos c1])), rfl, rfl⟩ all0 (by decide) (by decide)
  ·
    refine Go.icmpY (pc' := 13) H d9_2 (flt c1).2.1 (by decide) (by decide) ?_
    refine Go.iloadN H d9_13 rfl rfl ?_
    exact Go.ireturnI [] H d9_14 ⟨congrArg (fun q => some (Value.int q)) (show s = sifF s c i n from Eq.symm (by rw [sifF, if_neg c1])), rfl, rfl⟩ all0 (by decide) (by decide)
theorem ct_sifT (l : Launch) {Z : State} {n0 : Nat} {z : Int32} {f : Value} (W : Sx Z z f) (s c i n : Int32) (h : Heap) (hi : i < n) : Ctr l Z n0 N16 method_5_code 4 (some .int) rm_sif #[.int s, .int c, .int i, .int n] h [] (fun v h' sn => v = some (.int (stepF s c)) ∧ h = h' ∧ sn = []) := by
  have q := ct_sif (n0 := n0) l W s c i n h
  rw [sifF, if_pos hi] at q; exact q
theorem ct_sifF (l : Launch) {Z : State} {n0 : Nat} {z : Int32} {f : Value} (W : Sx Z z f) (s c i n : Int32) (h : Heap) (hi : ¬ i < n) : Ctr l Z n0 N16 method_5_code 4 (some .int) rm_sif #[.int s, .int c, .int i, .int n] h [] (fun v h' sn => v = some (.int s) ∧ h = h' ∧ sn = []) := by
  have q := ct_sif (n0 := n0) l W s c i n h
  rw [sifF, if_neg hi] at q; exact q
def runF : Int32 → List Int32 → Int32
  | s, [] => s
  | s, c :: t => runF (stepF s c) t
def closeL : Nat → List Int32 → Bool
  | _, [] => false
  | k, c :: t => if c = 123 then closeL (k + 1) t else if c = 125 then (if k = 0 then true else closeL (k - 1) t) else closeL k t
/-- what lies behind the first 36, 123 -/
def scanL : List Int32 → Option (List Int32)
  | [] => none
  | c :: t => if c = 36 ∧ t.head? = some 123 then some t.tail else scanL t
def holdsL (cs : List Int32) : Bool := match scanL cs with | none => false | some r => closeL 0 r
theorem run_m1 : ∀ t : List Int32, runF (-1) t = -1
  | [] => rfl
  | c :: t => by rw [runF, show stepF (-1) c = -1 from rfl]; exact run_m1 t
def st2 (k : Nat) : Int32 := Int32.ofNat (k + 2)
theorem st2_int (k : Nat) (h : k < 1000000) : (st2 k).toInt = k + 2 := by
  rw [st2, Int32.toInt_ofNat_of_lt (by omega)]; omega
theorem st2_ne (k : Nat) (h : k < 1000000) (n : Int32) (m : Int) (hm : n.toInt = m) (hn : m ≠ k + 2) : ¬ st2 k = n := fun e => by
  have := congrArg Int32.toInt e; rw [st2_int k h, hm] at this; omega
theorem run_2 : ∀ (t : List Int32) (k : Nat), k + t.length < 1000000 → (runF (st2 k) t = -1 ↔ closeL k t = true)
  | [], k, h => by
    simp only [runF, closeL]
    exact ⟨fun e => absurd e (st2_ne k (by simp at h; omega) (-1) (-1) (by decide) (by omega)), fun e => by cases e⟩
  | c :: t, k, h => by
    simp only [List.length_cons] at h
    have a1 := st2_ne k (by omega) (-1) (-1) (by decide) (by omega)
    have a2 := st2_ne k (by omega) 0 0 (by decide) (by omega)
    have a3 := st2_ne k (by omega) 1 1 (by decide) (by omega)
    rw [runF, closeL, stepF, if_neg a1, if_neg a2, if_neg a3]
    by_cases c1 : c = 123
    · rw [if_pos c1, if_pos c1, show st2 k + 1 = st2 (k + 1) from (by rw [st2, st2]; exact (Int32.ofNat_add (k+2) 1).symm)]
      exact run_2 t (k + 1) (by omega)
    · rw [if_neg c1, if_neg c1]
      by_cases c2 : c = 125
      · rw [if_pos c2, if_pos c2]
        by_cases c3 : k = 0
        · subst c3
          rw [if_pos rfl, if_pos (by decide)]
          exact ⟨fun _ => rfl, fun _ => run_m1 t⟩
        · rw [if_neg c3, if_neg (st2_ne k (by omega) 2 2 (by decide) (by omega))]
          have e : st2 k - 1 = st2 (k - 1) := by
            apply Int32.toInt_inj.mp
            rw [Int32.toInt_sub, st2_int k (by omega), st2_int (k - 1) (by omega), show (1 : Int32).toInt = 1 from by decide, Int.bmod_eq_of_le (by omega) (by omega)]; omega
          rw [e]
          exact run_2 t (k - 1) (by omega)
      · rw [if_neg c2, if_neg c2]
        exact run_2 t k (by omega)
theorem holds_36 (c : Int32) (t : List Int32) (h : ¬ c = 123) : holdsL (36 :: c :: t) = holdsL (c :: t) := by
  have : scanL (36 :: c :: t) = scanL (c :: t) := by
    rw [scanL, if_neg]; simp [h]
  simp only [holdsL, this]
theorem holds_ne (c : Int32) (t : List Int32) (h : ¬ c = 36) : holdsL (c :: t) = holdsL t := by
  have : scanL (c :: t) = scanL t := by rw [scanL, if_neg (fun q => h q.1)]
  simp only [holdsL, this]
theorem run_01 : ∀ (t : List Int32), t.length < 1000000 → (runF 0 t = -1 ↔ holdsL t = true) ∧ (runF 1 t = -1 ↔ holdsL (36 :: t) = true)
  | [], _ => ⟨⟨fun e => absurd e (by decide), fun e => by cases e⟩, ⟨fun e => absurd e (by decide), fun e => by simp [holdsL, scanL] at e⟩⟩
  | c :: t, h => by
    simp only [List.length_cons] at h
    have ih := run_01 t (by omega)
    constructor
    · rw [runF]
      by_cases c1 : c = 36
      · rw [show stepF 0 c = 1 from by rw [c1]; rfl, c1]; exact ih.2
      · rw [show stepF 0 c = 0 from by simp [stepF, c1], holds_ne c t c1]; exact ih.1
    · rw [runF]
      by_cases c0 : c = 123
      · rw [show stepF 1 c = st2 0 from by rw [c0]; rfl, c0]
        have e : holdsL (36 :: 123 :: t) = closeL 0 t := by simp [holdsL, scanL]
        rw [e]; exact run_2 t 0 (by omega)
      · rw [holds_36 c t c0]
        by_cases c1 : c = 36
        · rw [show stepF 1 c = 1 from by rw [c1]; rfl, c1]; exact ih.2
        · rw [show stepF 1 c = 0 from by simp [stepF, c0, c1], holds_ne c t c1]; exact ih.1
theorem scan_skip {cs : List Int32} {i : Nat} (hi : i < cs.length) (h : ¬ (cs[i]? = some 36 ∧ cs[i + 1]? = some 123)) : scanL (cs.drop i) = scanL (cs.drop (i + 1)) := by
  rw [List.drop_eq_getElem_cons hi, scanL, if_neg]
  rintro ⟨e1, e2⟩
  refine h ⟨by rw [List.getElem?_eq_getElem hi, e1], ?_⟩
  rw [List.head?_drop] at e2; exact e2
theorem scan_match {cs : List Int32} {i : Nat} (h1 : cs[i]? = some 36) (h2 : cs[i + 1]? = some 123) : scanL (cs.drop i) = some (cs.drop (i + 2)) := by
  have hi : i < cs.length := (List.getElem?_eq_some_iff.mp h1).1
  rw [List.drop_eq_getElem_cons hi, scanL, if_pos, List.tail_drop]
  refine ⟨by rw [List.getElem?_eq_getElem hi] at h1; exact Option.some.inj h1, ?_⟩
  rw [List.head?_drop]; exact h2
theorem scan_end {cs : List Int32} {i : Nat} (h : cs.length < i + 2) : scanL (cs.drop i) = none := by
  by_cases hi : i < cs.length
  · rw [scan_skip hi (fun q => by have := (List.getElem?_eq_some_iff.mp q.2).1; omega), List.drop_eq_nil_of_le (by omega)]; rfl
  · rw [List.drop_eq_nil_of_le (by omega)]; rfl
theorem close_nil (k : Nat) {cs : List Int32} {i : Nat} (h : cs.length ≤ i) : closeL k (cs.drop i) = false := by rw [List.drop_eq_nil_of_le h]; rfl
theorem close_cons (k : Nat) {cs : List Int32} {i : Nat} {c : Int32} (h : cs[i]? = some c) : closeL k (cs.drop i) = if c = 123 then closeL (k + 1) (cs.drop (i + 1)) else if c = 125 then (if k = 0 then true else closeL (k - 1) (cs.drop (i + 1))) else closeL k (cs.drop (i + 1)) := by
  have hi : i < cs.length := (List.getElem?_eq_some_iff.mp h).1
  rw [List.getElem?_eq_getElem hi] at h
  rw [List.drop_eq_getElem_cons hi, Option.some.inj h, closeL]

theorem own_eqb {cs : List Int32} (hL : ∀ c ∈ cs, isL c) {m : Nat} {p : Int32} (k : Int32) (hk : isL k) (hp : (cs.map (nar .byte))[m]? = some p) : (p = nar .byte k ↔ cs[m]? = some k) := by
  rw [List.getElem?_map] at hp
  cases hc : cs[m]? with
  | none => rw [hc] at hp; cases hp
  | some c =>
    rw [hc] at hp; cases hp
    constructor
    · intro e; rw [own_inj (hL c (List.mem_of_getElem? hc)) hk e]
    · intro e; cases e; rfl
theorem own_Ml {M : Int32} {n i : Nat} (hM : M.toInt = (n : Int) - 2) (hi : i < 2 ^ 31) : M < i.toInt32 ↔ n < i + 2 := by
  rw [Int32.lt_iff_toInt_lt, hM, own_len hi]; omega
theorem own_L36 : isL 36 := ⟨by decide, by decide⟩
theorem own_L123 : isL 123 := ⟨by decide, by decide⟩
theorem own_j1 (i : Nat) : i.toInt32 + 1 + 2 - 1 = (i + 2).toInt32 := by rw [← own_s, ← own_s]; grind
theorem own_j2 (i : Nat) : i.toInt32 + 1 + 1 = (i + 2).toInt32 := by rw [own_s, own_s]
def IdxQ (cs : List Int32) (h : Heap) (v : Option Value) (h' : Heap) (sn : List Addr) : Prop := ∃ r : Int32, v = some (.int r) ∧ ((scanL cs = none ∧ r < 0) ∨ ∃ j : Nat, r = j.toInt32 ∧ j + 2 ≤ cs.length ∧ scanL cs = some (cs.drop (j + 2))) ∧ h = h' ∧ sn = []
theorem d16_14 : decode jdk_43_method_25_code 14 = .ok (.iload 7, 2) := by decide +kernel
theorem d16_16 : decode jdk_43_method_25_code 16 = .ok (.iload 6, 2) := by decide +kernel
theorem d16_18 : decode jdk_43_method_25_code 18 = .ok (.if_icmp .gt 101, 3) := by decide +kernel
theorem d16_119 : decode jdk_43_method_25_code 119 = .ok (.iconst (-1), 1) := by decide +kernel
theorem d16_120 : decode jdk_43_method_25_code 120 = .ok (.ireturn, 1) := by decide +kernel
theorem d16_52 : decode jdk_43_method_25_code 52 = .ok (.iload 7, 2) := by decide +kernel
theorem d16_54 : decode jdk_43_method_25_code 54 = .ok (.iload 6, 2) := by decide +kernel
theorem d16_56 : decode jdk_43_method_25_code 56 = .ok (.if_icmp .gt 57, 3) := by decide +kernel
theorem d16_113 : decode jdk_43_method_25_code 113 = .ok (.iinc 7 1, 3) := by decide +kernel
theorem d16_116 : decode jdk_43_method_25_code 116 = .ok (.goto (-102), 3) := by decide +kernel
theorem d16_59 : decode jdk_43_method_25_code 59 = .ok (.iload 7, 2) := by decide +kernel
theorem d16_61 : decode jdk_43_method_25_code 61 = .ok (.iconst 1, 1) := by decide +kernel
theorem d16_62 : decode jdk_43_method_25_code 62 = .ok (.iadd, 1) := by decide +kernel
theorem d16_63 : decode jdk_43_method_25_code 63 = .ok (.istore 8, 2) := by decide +kernel
theorem d16_65 : decode jdk_43_method_25_code 65 = .ok (.iload 8, 2) := by decide +kernel
theorem d16_67 : decode jdk_43_method_25_code 67 = .ok (.iload_n 3, 1) := by decide +kernel
theorem d16_68 : decode jdk_43_method_25_code 68 = .ok (.iadd, 1) := by decide +kernel
theorem d16_69 : decode jdk_43_method_25_code 69 = .ok (.iconst 1, 1) := by decide +kernel
theorem d16_70 : decode jdk_43_method_25_code 70 = .ok (.isub, 1) := by decide +kernel
theorem d16_71 : decode jdk_43_method_25_code 71 = .ok (.istore 9, 2) := by decide +kernel
theorem d16_73 : decode jdk_43_method_25_code 73 = .ok (.iconst 1, 1) := by decide +kernel
theorem d16_74 : decode jdk_43_method_25_code 74 = .ok (.istore 10, 2) := by decide +kernel
theorem d16_76 : decode jdk_43_method_25_code 76 = .ok (.iload 8, 2) := by decide +kernel
theorem d16_78 : decode jdk_43_method_25_code 78 = .ok (.iload 9, 2) := by decide +kernel
theorem d16_80 : decode jdk_43_method_25_code 80 = .ok (.if_icmp .ge 23, 3) := by decide +kernel
theorem d16_83 : decode jdk_43_method_25_code 83 = .ok (.aload_n 0, 1) := by decide +kernel
theorem d16_84 : decode jdk_43_method_25_code 84 = .ok (.iload 8, 2) := by decide +kernel
theorem d16_86 : decode jdk_43_method_25_code 86 = .ok (.baload, 1) := by decide +kernel
theorem d16_87 : decode jdk_43_method_25_code 87 = .ok (.aload_n 2, 1) := by decide +kernel
theorem d16_88 : decode jdk_43_method_25_code 88 = .ok (.iload 10, 2) := by decide +kernel
theorem d16_90 : decode jdk_43_method_25_code 90 = .ok (.baload, 1) := by decide +kernel
theorem d16_91 : decode jdk_43_method_25_code 91 = .ok (.if_icmp .ne 12, 3) := by decide +kernel
theorem d16_94 : decode jdk_43_method_25_code 94 = .ok (.iinc 8 1, 3) := by decide +kernel
theorem d16_97 : decode jdk_43_method_25_code 97 = .ok (.iinc 10 1, 3) := by decide +kernel
theorem d16_100 : decode jdk_43_method_25_code 100 = .ok (.goto (-24), 3) := by decide +kernel
theorem d16_103 : decode jdk_43_method_25_code 103 = .ok (.iload 8, 2) := by decide +kernel
theorem d16_105 : decode jdk_43_method_25_code 105 = .ok (.iload 9, 2) := by decide +kernel
theorem d16_107 : decode jdk_43_method_25_code 107 = .ok (.if_icmp .ne 6, 3) := by decide +kernel
theorem d16_110 : decode jdk_43_method_25_code 110 = .ok (.iload 7, 2) := by decide +kernel
theorem d16_112 : decode jdk_43_method_25_code 112 = .ok (.ireturn, 1) := by decide +kernel
theorem d16_30 : decode jdk_43_method_25_code 30 = .ok (.iinc 7 1, 3) := by decide +kernel
theorem d16_33 : decode jdk_43_method_25_code 33 = .ok (.iload 7, 2) := by decide +kernel
theorem d16_35 : decode jdk_43_method_25_code 35 = .ok (.iload 6, 2) := by decide +kernel
theorem d16_37 : decode jdk_43_method_25_code 37 = .ok (.if_icmp .gt 15, 3) := by decide +kernel
theorem d16_40 : decode jdk_43_method_25_code 40 = .ok (.aload_n 0, 1) := by decide +kernel
theorem d16_41 : decode jdk_43_method_25_code 41 = .ok (.iload 7, 2) := by decide +kernel
theorem d16_43 : decode jdk_43_method_25_code 43 = .ok (.baload, 1) := by decide +kernel
theorem d16_44 : decode jdk_43_method_25_code 44 = .ok (.iload 5, 2) := by decide +kernel
theorem d16_46 : decode jdk_43_method_25_code 46 = .ok (.if_icmp .eq 6, 3) := by decide +kernel
theorem d16_49 : decode jdk_43_method_25_code 49 = .ok (.goto (-19), 3) := by decide +kernel
theorem d16_21 : decode jdk_43_method_25_code 21 = .ok (.aload_n 0, 1) := by decide +kernel
theorem d16_22 : decode jdk_43_method_25_code 22 = .ok (.iload 7, 2) := by decide +kernel
theorem d16_24 : decode jdk_43_method_25_code 24 = .ok (.baload, 1) := by decide +kernel
theorem d16_25 : decode jdk_43_method_25_code 25 = .ok (.iload 5, 2) := by decide +kernel
theorem d16_27 : decode jdk_43_method_25_code 27 = .ok (.if_icmp .eq 25, 3) := by decide +kernel

set_option maxRecDepth 65536 in
set_option maxHeartbeats 4000000 in
theorem ix_end (l : Launch) {Z : State} {n0 : Nat} {h : Heap} (a d : Addr) (cs : List Int32) (M : Int32) (Fa : Vec Z h a .byte (cs.map (nar .byte))) (Fd : Vec Z h d .byte [(nar .byte (36 : Int32)), (nar .byte (123 : Int32))]) (hL : ∀ c ∈ cs, isL c) (hn : cs.length < 2 ^ 30) (hM : M.toInt = (cs.length : Int) - 2) {R : Room} {K : Cx} (H : Ok Z K "java/lang/StringLatin1" jdk_43_method_25_code 11 (some .int) "indexOf") (i : Nat) (hi : cs.length < i + 2) (hi2 : i < 2 ^ 31 - 2) (hs : scanL cs = scanL (cs.drop (i))) : ∀ s8 s9 s10 : Slot, One s8 → One s9 → One s10 → Go l Z n0 R K (IdxQ cs h) h [] 0 0 14 #[.val (.ref a), .val (.int cs.length.toInt32), .val (.ref d), .val (.int (2 : Int32)), .val (.int (0 : Int32)), .val (.int (nar .byte (36 : Int32))), .val (.int M), .val (.int i.toInt32), s8, s9, s10] [] := by
  intro s8 s9 s10 o8 o9 o10
  refine Go.iload H d16_14 rfl rfl ?_
  refine Go.iload H d16_16 rfl rfl ?_
  refine Go.icmpY (pc' := 119) H d16_18 (tlt ((own_Ml hM (by omega)).mpr hi)).2.2.1 (by decide) (by decide) ?_
  refine Go.iconst (-1 : Int32) H d16_119 rfl rfl ?_
  exact Go.ireturnI [] H d16_120 ⟨_, rfl, Or.inl ⟨hs.trans (scan_end hi), by decide⟩, rfl, rfl⟩ all0 (Nat.zero_le _) (Nat.zero_le _)
set_option maxRecDepth 65536 in
set_option maxHeartbeats 4000000 in
theorem ix_end2 (l : Launch) {Z : State} {n0 : Nat} {h : Heap} (a d : Addr) (cs : List Int32) (M : Int32) (Fa : Vec Z h a .byte (cs.map (nar .byte))) (Fd : Vec Z h d .byte [(nar .byte (36 : Int32)), (nar .byte (123 : Int32))]) (hL : ∀ c ∈ cs, isL c) (hn : cs.length < 2 ^ 30) (hM : M.toInt = (cs.length : Int) - 2) {R : Room} {K : Cx} (H : Ok Z K "java/lang/StringLatin1" jdk_43_method_25_code 11 (some .int) "indexOf") (i : Nat) (hi : cs.length < i + 2) (hi2 : i < 2 ^ 30 + 2) (hs : scanL cs = scanL (cs.drop (i))) : ∀ s8 s9 s10 : Slot, One s8 → One s9 → One s10 → Go l Z n0 R K (IdxQ cs h) h [] 0 0 52 #[.val (.ref a), .val (.int cs.length.toInt32), .val (.ref d), .val (.int (2 : Int32)), .val (.int (0 : Int32)), .val (.int (nar .byte (36 : Int32))), .val (.int M), .val (.int i.toInt32), s8, s9, s10] [] := by
  intro s8 s9 s10 o8 o9 o10
  refine Go.iload H d16_52 rfl rfl ?_
  refine Go.iload H d16_54 rfl rfl ?_
  refine Go.icmpY (pc' := 113) H d16_56 (tlt ((own_Ml hM (by omega)).mpr hi)).2.2.1 (by decide) (by decide) ?_
  refine Go.iinc (ls' := #[.val (.ref a), .val (.int cs.length.toInt32), .val (.ref d), .val (.int (2 : Int32)), .val (.int (0 : Int32)), .val (.int (nar .byte (36 : Int32))), .val (.int M), .val (.int (i.toInt32 + (1 : Int32))), s8, s9, s10]) (1 : Int32) H d16_113 rfl rfl rfl rfl ?_
  refine Go.goto (pc' := 14) H d16_116 (by decide) (by decide) ?_
  rw [own_s i]
  exact ix_end l a d cs M Fa Fd hL hn hM H (i + 1) (by omega) (by omega) (hs.trans ((scan_end hi).trans (scan_end (i := i + 1) (by omega)).symm)) _ _ _ o8 o9 o10
set_option maxRecDepth 65536 in
set_option maxHeartbeats 4000000 in
theorem ix_52 (l : Launch) {Z : State} {n0 : Nat} {h : Heap} (a d : Addr) (cs : List Int32) (M : Int32) (Fa : Vec Z h a .byte (cs.map (nar .byte))) (Fd : Vec Z h d .byte [(nar .byte (36 : Int32)), (nar .byte (123 : Int32))]) (hL : ∀ c ∈ cs, isL c) (hn : cs.length < 2 ^ 30) (hM : M.toInt = (cs.length : Int) - 2) {R : Room} {K : Cx} (H : Ok Z K "java/lang/StringLatin1" jdk_43_method_25_code 11 (some .int) "indexOf") (i : Nat) (hi : i + 2 ≤ cs.length) (h36 : cs[i]? = some 36) (hs : scanL cs = scanL (cs.drop (i))) (n14 : (scanL cs = scanL (cs.drop (i + 1)) → ∀ s8 s9 s10 : Slot, One s8 → One s9 → One s10 → Go l Z n0 R K (IdxQ cs h) h [] 0 0 14 #[.val (.ref a), .val (.int cs.length.toInt32), .val (.ref d), .val (.int (2 : Int32)), .val (.int (0 : Int32)), .val (.int (nar .byte (36 : Int32))), .val (.int M), .val (.int (i + 1).toInt32), s8, s9, s10] [])) : ∀ s8 s9 s10 : Slot, One s8 → One s9 → One s10 → Go l Z n0 R K (IdxQ cs h) h [] 0 0 52 #[.val (.ref a), .val (.int cs.length.toInt32), .val (.ref d), .val (.int (2 : Int32)), .val (.int (0 : Int32)), .val (.int (nar .byte (36 : Int32))), .val (.int M), .val (.int i.toInt32), s8, s9, s10] [] := by
  intro s8 s9 s10 o8 o9 o10
  obtain ⟨q, hq⟩ : ∃ q, (cs.map (nar .byte))[i + 1]? = some q := ⟨_, List.getElem?_eq_getElem (by rw [List.length_map]; omega)⟩
  refine Go.iload H d16_52 rfl rfl ?_
  refine Go.iload H d16_54 rfl rfl ?_
  refine Go.icmpN H d16_56 (flt (fun e => absurd ((own_Ml hM (by omega)).mp e) (by omega))).2.2.1 rfl ?_
  refine Go.iload H d16_59 rfl rfl ?_
  refine Go.iconst (1 : Int32) H d16_61 rfl rfl ?_
  refine Go.iadd H d16_62 rfl ?_
  refine Go.istore (ls' := #[.val (.ref a), .val (.int cs.length.toInt32), .val (.ref d), .val (.int (2 : Int32)), .val (.int (0 : Int32)), .val (.int (nar .byte (36 : Int32))), .val (.int M), .val (.int i.toInt32), .val (.int (i.toInt32 + (1 : Int32))), s9, s10]) H d16_63 rfl (XS.store1 rfl o8 rfl) ?_
  refine Go.iload H d16_65 rfl rfl ?_
  refine Go.iloadN H d16_67 rfl rfl ?_
  refine Go.iadd H d16_68 rfl ?_
  refine Go.iconst (1 : Int32) H d16_69 rfl rfl ?_
  refine Go.isub H d16_70 rfl ?_
  refine Go.istore (ls' := #[.val (.ref a), .val (.int cs.length.toInt32), .val (.ref d), .val (.int (2 : Int32)), .val (.int (0 : Int32)), .val (.int (nar .byte (36 : Int32))), .val (.int M), .val (.int i.toInt32), .val (.int (i.toInt32 + (1 : Int32))), .val (.int (((i.toInt32 + (1 : Int32)) + (2 : Int32)) - (1 : Int32))), s10]) H d16_71 rfl (XS.store1 rfl o9 rfl) ?_
  refine Go.iconst (1 : Int32) H d16_73 rfl rfl ?_
  refine Go.istore (ls' := #[.val (.ref a), .val (.int cs.length.toInt32), .val (.ref d), .val (.int (2 : Int32)), .val (.int (0 : Int32)), .val (.int (nar .byte (36 : Int32))), .val (.int M), .val (.int i.toInt32), .val (.int (i.toInt32 + (1 : Int32))), .val (.int (((i.toInt32 + (1 : Int32)) + (2 : Int32)) - (1 : Int32))), .val (.int (1 : Int32))]) H d16_74 rfl (XS.store1 rfl o10 rfl) ?_
  refine Go.iload H d16_76 rfl rfl ?_
  refine Go.iload H d16_78 rfl rfl ?_
  refine Go.icmpN H d16_80 (tlt (by rw [own_j1, own_s]; exact own_lt (by omega) (by omega))).2.1 rfl ?_
  refine Go.aloadN H d16_83 rfl rfl rfl ?_
  refine Go.iload H d16_84 rfl rfl ?_
  refine Go.baload (v := q) H d16_86 rfl Fa (i + 1) (by rw [own_s]; exact own_cl (by omega)) (by rw [own_s]; exact own_n0 (by omega)) hq ?_
  refine Go.aloadN H d16_87 rfl rfl rfl ?_
  refine Go.iload H d16_88 rfl rfl ?_
  refine Go.baload (v := (nar .byte (123 : Int32))) H d16_90 rfl Fd 1 (by decide) (by decide) rfl ?_
  by_cases c1 : q = (nar .byte (123 : Int32))
  ·
    refine Go.icmpN H d16_91 (teq c1).2 rfl ?_
    refine Go.iinc (ls' := #[.val (.ref a), .val (.int cs.length.toInt32), .val (.ref d), .val (.int (2 : Int32)), .val (.int (0 : Int32)), .val (.int (nar .byte (36 : Int32))), .val (.int M), .val (.int i.toInt32), .val (.int ((i.toInt32 + (1 : Int32)) + (1 : Int32))), .val (.int (((i.toInt32 + (1 : Int32)) + (2 : Int32)) - (1 : Int32))), .val (.int (1 : Int32))]) (1 : Int32) H d16_94 rfl rfl rfl rfl ?_
    refine Go.iinc (ls' := #[.val (.ref a), .val (.int cs.length.toInt32), .val (.ref d), .val (.int (2 : Int32)), .val (.int (0 : Int32)), .val (.int (nar .byte (36 : Int32))), .val (.int M), .val (.int i.toInt32), .val (.int ((i.toInt32 + (1 : Int32)) + (1 : Int32))), .val (.int (((i.toInt32 + (1 : Int32)) + (2 : Int32)) - (1 : Int32))), .val (.int ((1 : Int32) + (1 : Int32)))]) (1 : Int32) H d16_97 rfl rfl rfl rfl ?_
    refine Go.goto (pc' := 76) H d16_100 (by decide) (by decide) ?_
    refine Go.iload H d16_76 rfl rfl ?_
    refine Go.iload H d16_78 rfl rfl ?_
    refine Go.icmpY (pc' := 103) H d16_80 (flt (by rw [own_j1, own_j2]; exact Int32.lt_irrefl)).2.1 (by decide) (by decide) ?_
    refine Go.iload H d16_103 rfl rfl ?_
    refine Go.iload H d16_105 rfl rfl ?_
    refine Go.icmpN H d16_107 (teq (by rw [own_j1, own_j2])).2 rfl ?_
    refine Go.iload H d16_110 rfl rfl ?_
    exact Go.ireturnI [] H d16_112 ⟨_, rfl, Or.inr ⟨i, rfl, by omega, hs.trans (scan_match h36 ((own_eqb hL 123 own_L123 hq).mp c1))⟩, rfl, rfl⟩ all0 (Nat.zero_le _) (Nat.zero_le _)
  ·
    refine Go.icmpY (pc' := 103) H d16_91 (feq c1).2 (by decide) (by decide) ?_
    refine Go.iload H d16_103 rfl rfl ?_
    refine Go.iload H d16_105 rfl rfl ?_
    refine Go.icmpY (pc' := 113) H d16_107 (feq (by rw [own_j1, own_s]; exact fun e => absurd (own_ofinj (by omega) (by omega) e) (by omega))).2 (by decide) (by decide) ?_
    refine Go.iinc (ls' := #[.val (.ref a), .val (.int cs.length.toInt32), .val (.ref d), .val (.int (2 : Int32)), .val (.int (0 : Int32)), .val (.int (nar .byte (36 : Int32))), .val (.int M), .val (.int (i.toInt32 + (1 : Int32))), .val (.int (i.toInt32 + (1 : Int32))), .val (.int (((i.toInt32 + (1 : Int32)) + (2 : Int32)) - (1 : Int32))), .val (.int (1 : Int32))]) (1 : Int32) H d16_113 rfl rfl rfl rfl ?_
    refine Go.goto (pc' := 14) H d16_116 (by decide) (by decide) ?_
    rw [own_s i]
    exact n14 (hs.trans (scan_skip (by omega) (fun e => c1 ((own_eqb hL 123 own_L123 hq).mpr e.2)))) _ _ _ (One.val rfl) (One.val rfl) (One.val rfl)
set_option maxRecDepth 65536 in
set_option maxHeartbeats 4000000 in
theorem ix_30 (l : Launch) {Z : State} {n0 : Nat} {h : Heap} (a d : Addr) (cs : List Int32) (M : Int32) (Fa : Vec Z h a .byte (cs.map (nar .byte))) (Fd : Vec Z h d .byte [(nar .byte (36 : Int32)), (nar .byte (123 : Int32))]) (hL : ∀ c ∈ cs, isL c) (hn : cs.length < 2 ^ 30) (hM : M.toInt = (cs.length : Int) - 2) {R : Room} {K : Cx} (H : Ok Z K "java/lang/StringLatin1" jdk_43_method_25_code 11 (some .int) "indexOf") (i : Nat) (hi : i + 2 ≤ cs.length) (h36 : ¬ cs[i]? = some 36) (hs : scanL cs = scanL (cs.drop (i))) (n52 : (scanL cs = scanL (cs.drop (i + 1)) → (cs.length < i + 1 + 2 ∨ (i + 1 + 2 ≤ cs.length ∧ cs[i + 1]? = some 36)) → ∀ s8 s9 s10 : Slot, One s8 → One s9 → One s10 → Go l Z n0 R K (IdxQ cs h) h [] 0 0 52 #[.val (.ref a), .val (.int cs.length.toInt32), .val (.ref d), .val (.int (2 : Int32)), .val (.int (0 : Int32)), .val (.int (nar .byte (36 : Int32))), .val (.int M), .val (.int (i + 1).toInt32), s8, s9, s10] [])) (n30 : (scanL cs = scanL (cs.drop (i + 1)) → i + 1 + 2 ≤ cs.length → ¬ cs[i + 1]? = some 36 → ∀ s8 s9 s10 : Slot, One s8 → One s9 → One s10 → Go l Z n0 R K (IdxQ cs h) h [] 0 0 30 #[.val (.ref a), .val (.int cs.length.toInt32), .val (.ref d), .val (.int (2 : Int32)), .val (.int (0 : Int32)), .val (.int (nar .byte (36 : Int32))), .val (.int M), .val (.int (i + 1).toInt32), s8, s9, s10] [])) : ∀ s8 s9 s10 : Slot, One s8 → One s9 → One s10 → Go l Z n0 R K (IdxQ cs h) h [] 0 0 30 #[.val (.ref a), .val (.int cs.length.toInt32), .val (.ref d), .val (.int (2 : Int32)), .val (.int (0 : Int32)), .val (.int (nar .byte (36 : Int32))), .val (.int M), .val (.int i.toInt32), s8, s9, s10] [] := by
  intro s8 s9 s10 o8 o9 o10
  refine Go.iinc (ls' := #[.val (.ref a), .val (.int cs.length.toInt32), .val (.ref d), .val (.int (2 : Int32)), .val (.int (0 : Int32)), .val (.int (nar .byte (36 : Int32))), .val (.int M), .val (.int (i.toInt32 + (1 : Int32))), s8, s9, s10]) (1 : Int32) H d16_30 rfl rfl rfl rfl ?_
  refine Go.iload H d16_33 rfl rfl ?_
  refine Go.iload H d16_35 rfl rfl ?_
  by_cases c1 : cs.length < i + 1 + 2
  ·
    refine Go.icmpY (pc' := 52) H d16_37 (tlt (by rw [own_s]; exact (own_Ml hM (by omega)).mpr c1)).2.2.1 (by decide) (by decide) ?_
    rw [own_s i]
    exact n52 (hs.trans (scan_skip (by omega) (fun e => h36 e.1))) (Or.inl c1) _ _ _ o8 o9 o10
  ·
    refine Go.icmpN H d16_37 (flt (by rw [own_s]; exact fun e => c1 ((own_Ml hM (by omega)).mp e))).2.2.1 rfl ?_
    obtain ⟨q, hq⟩ : ∃ q, (cs.map (nar .byte))[i + 1]? = some q := ⟨_, List.getElem?_eq_getElem (by rw [List.length_map]; omega)⟩
    refine Go.aloadN H d16_40 rfl rfl rfl ?_
    refine Go.iload H d16_41 rfl rfl ?_
    refine Go.baload (v := q) H d16_43 rfl Fa (i + 1) (by rw [own_s]; exact own_cl (by omega)) (by rw [own_s]; exact own_n0 (by omega)) hq ?_
    refine Go.iload H d16_44 rfl rfl ?_
    by_cases c2 : q = (nar .byte (36 : Int32))
    ·
      refine Go.icmpY (pc' := 52) H d16_46 (teq c2).1 (by decide) (by decide) ?_
      rw [own_s i]
      exact n52 (hs.trans (scan_skip (by omega) (fun e => h36 e.1))) (Or.inr ⟨by omega, (own_eqb hL 36 own_L36 hq).mp c2⟩) _ _ _ o8 o9 o10
    ·
      refine Go.icmpN H d16_46 (feq c2).1 rfl ?_
      refine Go.goto (pc' := 30) H d16_49 (by decide) (by decide) ?_
      rw [own_s i]
      exact n30 (hs.trans (scan_skip (by omega) (fun e => h36 e.1))) (by omega) (fun e => c2 ((own_eqb hL 36 own_L36 hq).mpr e)) _ _ _ o8 o9 o10
set_option maxRecDepth 65536 in
set_option maxHeartbeats 4000000 in
theorem ix_14 (l : Launch) {Z : State} {n0 : Nat} {h : Heap} (a d : Addr) (cs : List Int32) (M : Int32) (Fa : Vec Z h a .byte (cs.map (nar .byte))) (Fd : Vec Z h d .byte [(nar .byte (36 : Int32)), (nar .byte (123 : Int32))]) (hL : ∀ c ∈ cs, isL c) (hn : cs.length < 2 ^ 30) (hM : M.toInt = (cs.length : Int) - 2) {R : Room} {K : Cx} (H : Ok Z K "java/lang/StringLatin1" jdk_43_method_25_code 11 (some .int) "indexOf") (i : Nat) (hi : i + 2 ≤ cs.length) (hs : scanL cs = scanL (cs.drop (i))) (c52 : (scanL cs = scanL (cs.drop (i)) → (cs.length < i + 2 ∨ (i + 2 ≤ cs.length ∧ cs[i]? = some 36)) → ∀ s8 s9 s10 : Slot, One s8 → One s9 → One s10 → Go l Z n0 R K (IdxQ cs h) h [] 0 0 52 #[.val (.ref a), .val (.int cs.length.toInt32), .val (.ref d), .val (.int (2 : Int32)), .val (.int (0 : Int32)), .val (.int (nar .byte (36 : Int32))), .val (.int M), .val (.int i.toInt32), s8, s9, s10] [])) (c30 : (scanL cs = scanL (cs.drop (i)) → i + 2 ≤ cs.length → ¬ cs[i]? = some 36 → ∀ s8 s9 s10 : Slot, One s8 → One s9 → One s10 → Go l Z n0 R K (IdxQ cs h) h [] 0 0 30 #[.val (.ref a), .val (.int cs.length.toInt32), .val (.ref d), .val (.int (2 : Int32)), .val (.int (0 : Int32)), .val (.int (nar .byte (36 : Int32))), .val (.int M), .val (.int i.toInt32), s8, s9, s10] [])) : ∀ s8 s9 s10 : Slot, One s8 → One s9 → One s10 → Go l Z n0 R K (IdxQ cs h) h [] 0 0 14 #[.val (.ref a), .val (.int cs.length.toInt32), .val (.ref d), .val (.int (2 : Int32)), .val (.int (0 : Int32)), .val (.int (nar .byte (36 : Int32))), .val (.int M), .val (.int i.toInt32), s8, s9, s10] [] := by
  intro s8 s9 s10 o8 o9 o10
  obtain ⟨p, hp⟩ : ∃ p, (cs.map (nar .byte))[i]? = some p := ⟨_, List.getElem?_eq_getElem (by rw [List.length_map]; omega)⟩
  refine Go.iload H d16_14 rfl rfl ?_
  refine Go.iload H d16_16 rfl rfl ?_
  refine Go.icmpN H d16_18 (flt (fun e => absurd ((own_Ml hM (by omega)).mp e) (by omega))).2.2.1 rfl ?_
  refine Go.aloadN H d16_21 rfl rfl rfl ?_
  refine Go.iload H d16_22 rfl rfl ?_
  refine Go.baload (v := p) H d16_24 rfl Fa i (own_cl (by omega)) (own_n0 (by omega)) hp ?_
  refine Go.iload H d16_25 rfl rfl ?_
  by_cases c1 : p = (nar .byte (36 : Int32))
  ·
    refine Go.icmpY (pc' := 52) H d16_27 (teq c1).1 (by decide) (by decide) ?_
    exact c52 hs (Or.inr ⟨by omega, (own_eqb hL 36 own_L36 hp).mp c1⟩) _ _ _ o8 o9 o10
  ·
    refine Go.icmpN H d16_27 (feq c1).1 rfl ?_
    exact c30 hs (by omega) (fun e => c1 ((own_eqb hL 36 own_L36 hp).mpr e)) _ _ _ o8 o9 o10
theorem ix_all (l : Launch) {Z : State} {n0 : Nat} {h : Heap} (a d : Addr) (cs : List Int32) (M : Int32) (Fa : Vec Z h a .byte (cs.map (nar .byte))) (Fd : Vec Z h d .byte [(nar .byte (36 : Int32)), (nar .byte (123 : Int32))]) (hL : ∀ c ∈ cs, isL c) (hn : cs.length < 2 ^ 30) (hM : M.toInt = (cs.length : Int) - 2) {R : Room} {K : Cx} (H : Ok Z K "java/lang/StringLatin1" jdk_43_method_25_code 11 (some .int) "indexOf") : ∀ (m i : Nat), cs.length ≤ i + 2 + m → i ≤ cs.length → (scanL cs = scanL (cs.drop (i)) → ∀ s8 s9 s10 : Slot, One s8 → One s9 → One s10 → Go l Z n0 R K (IdxQ cs h) h [] 0 0 14 #[.val (.ref a), .val (.int cs.length.toInt32), .val (.ref d), .val (.int (2 : Int32)), .val (.int (0 : Int32)), .val (.int (nar .byte (36 : Int32))), .val (.int M), .val (.int i.toInt32), s8, s9, s10] []) ∧ (scanL cs = scanL (cs.drop (i)) → (cs.length < i + 2 ∨ (i + 2 ≤ cs.length ∧ cs[i]? = some 36)) → ∀ s8 s9 s10 : Slot, One s8 → One s9 → One s10 → Go l Z n0 R K (IdxQ cs h) h [] 0 0 52 #[.val (.ref a), .val (.int cs.length.toInt32), .val (.ref d), .val (.int (2 : Int32)), .val (.int (0 : Int32)), .val (.int (nar .byte (36 : Int32))), .val (.int M), .val (.int i.toInt32), s8, s9, s10] []) ∧ (scanL cs = scanL (cs.drop (i)) → i + 2 ≤ cs.length → ¬ cs[i]? = some 36 → ∀ s8 s9 s10 : Slot, One s8 → One s9 → One s10 → Go l Z n0 R K (IdxQ cs h) h [] 0 0 30 #[.val (.ref a), .val (.int cs.length.toInt32), .val (.ref d), .val (.int (2 : Int32)), .val (.int (0 : Int32)), .val (.int (nar .byte (36 : Int32))), .val (.int M), .val (.int i.toInt32), s8, s9, s10] []) := by
  intro m
  induction m with
  | zero =>
    intro i hm hi
    have e52 : cs.length < i + 2 → (scanL cs = scanL (cs.drop (i)) → (cs.length < i + 2 ∨ (i + 2 ≤ cs.length ∧ cs[i]? = some 36)) → ∀ s8 s9 s10 : Slot, One s8 → One s9 → One s10 → Go l Z n0 R K (IdxQ cs h) h [] 0 0 52 #[.val (.ref a), .val (.int cs.length.toInt32), .val (.ref d), .val (.int (2 : Int32)), .val (.int (0 : Int32)), .val (.int (nar .byte (36 : Int32))), .val (.int M), .val (.int i.toInt32), s8, s9, s10] []) := fun q hs _ => ix_end2 l a d cs M Fa Fd hL hn hM H i q (by omega) hs
    by_cases q : cs.length < i + 2
    · exact ⟨fun hs => ix_end l a d cs M Fa Fd hL hn hM H i q (by omega) hs, e52 q, fun _ r => absurd r (by omega)⟩
    · have n14 : (scanL cs = scanL (cs.drop (i + 1)) → ∀ s8 s9 s10 : Slot, One s8 → One s9 → One s10 → Go l Z n0 R K (IdxQ cs h) h [] 0 0 14 #[.val (.ref a), .val (.int cs.length.toInt32), .val (.ref d), .val (.int (2 : Int32)), .val (.int (0 : Int32)), .val (.int (nar .byte (36 : Int32))), .val (.int M), .val (.int (i + 1).toInt32), s8, s9, s10] []) := fun hs => ix_end l a d cs M Fa Fd hL hn hM H (i + 1) (by omega) (by omega) hs
      have n52 : (scanL cs = scanL (cs.drop (i + 1)) → (cs.length < i + 1 + 2 ∨ (i + 1 + 2 ≤ cs.length ∧ cs[i + 1]? = some 36)) → ∀ s8 s9 s10 : Slot, One s8 → One s9 → One s10 → Go l Z n0 R K (IdxQ cs h) h [] 0 0 52 #[.val (.ref a), .val (.int cs.length.toInt32), .val (.ref d), .val (.int (2 : Int32)), .val (.int (0 : Int32)), .val (.int (nar .byte (36 : Int32))), .val (.int M), .val (.int (i + 1).toInt32), s8, s9, s10] []) := fun hs _ => ix_end2 l a d cs M Fa Fd hL hn hM H (i + 1) (by omega) (by omega) hs
      have n30 : (scanL cs = scanL (cs.drop (i + 1)) → i + 1 + 2 ≤ cs.length → ¬ cs[i + 1]? = some 36 → ∀ s8 s9 s10 : Slot, One s8 → One s9 → One s10 → Go l Z n0 R K (IdxQ cs h) h [] 0 0 30 #[.val (.ref a), .val (.int cs.length.toInt32), .val (.ref d), .val (.int (2 : Int32)), .val (.int (0 : Int32)), .val (.int (nar .byte (36 : Int32))), .val (.int M), .val (.int (i + 1).toInt32), s8, s9, s10] []) := fun _ r => absurd r (by omega)
      have c52 : (scanL cs = scanL (cs.drop (i)) → (cs.length < i + 2 ∨ (i + 2 ≤ cs.length ∧ cs[i]? = some 36)) → ∀ s8 s9 s10 : Slot, One s8 → One s9 → One s10 → Go l Z n0 R K (IdxQ cs h) h [] 0 0 52 #[.val (.ref a), .val (.int cs.length.toInt32), .val (.ref d), .val (.int (2 : Int32)), .val (.int (0 : Int32)), .val (.int (nar .byte (36 : Int32))), .val (.int M), .val (.int i.toInt32), s8, s9, s10] []) := fun hs r => r.elim (fun r => absurd r (by omega)) (fun r => ix_52 l a d cs M Fa Fd hL hn hM H i r.1 r.2 hs n14)
      have c30 : (scanL cs = scanL (cs.drop (i)) → i + 2 ≤ cs.length → ¬ cs[i]? = some 36 → ∀ s8 s9 s10 : Slot, One s8 → One s9 → One s10 → Go l Z n0 R K (IdxQ cs h) h [] 0 0 30 #[.val (.ref a), .val (.int cs.length.toInt32), .val (.ref d), .val (.int (2 : Int32)), .val (.int (0 : Int32)), .val (.int (nar .byte (36 : Int32))), .val (.int M), .val (.int i.toInt32), s8, s9, s10] []) := fun hs r r2 => ix_30 l a d cs M Fa Fd hL hn hM H i r r2 hs n52 n30
      exact ⟨fun hs => ix_14 l a d cs M Fa Fd hL hn hM H i (by omega) hs c52 c30, c52, c30⟩
  | succ m ih =>
    intro i hm hi
    by_cases q : cs.length < i + 2
    · exact ⟨fun hs => ix_end l a d cs M Fa Fd hL hn hM H i q (by omega) hs, fun hs _ => ix_end2 l a d cs M Fa Fd hL hn hM H i q (by omega) hs, fun _ r => absurd r (by omega)⟩
    · obtain ⟨n14, n52, n30⟩ := ih (i + 1) (by omega) (by omega)
      have c52 : (scanL cs = scanL (cs.drop (i)) → (cs.length < i + 2 ∨ (i + 2 ≤ cs.length ∧ cs[i]? = some 36)) → ∀ s8 s9 s10 : Slot, One s8 → One s9 → One s10 → Go l Z n0 R K (IdxQ cs h) h [] 0 0 52 #[.val (.ref a), .val (.int cs.length.toInt32), .val (.ref d), .val (.int (2 : Int32)), .val (.int (0 : Int32)), .val (.int (nar .byte (36 : Int32))), .val (.int M), .val (.int i.toInt32), s8, s9, s10] []) := fun hs r => r.elim (fun r => absurd r (by omega)) (fun r => ix_52 l a d cs M Fa Fd hL hn hM H i r.1 r.2 hs n14)
      have c30 : (scanL cs = scanL (cs.drop (i)) → i + 2 ≤ cs.length → ¬ cs[i]? = some 36 → ∀ s8 s9 s10 : Slot, One s8 → One s9 → One s10 → Go l Z n0 R K (IdxQ cs h) h [] 0 0 30 #[.val (.ref a), .val (.int cs.length.toInt32), .val (.ref d), .val (.int (2 : Int32)), .val (.int (0 : Int32)), .val (.int (nar .byte (36 : Int32))), .val (.int M), .val (.int i.toInt32), s8, s9, s10] []) := fun hs r r2 => ix_30 l a d cs M Fa Fd hL hn hM H i r r2 hs n52 n30
      exact ⟨fun hs => ix_14 l a d cs M Fa Fd hL hn hM H i (by omega) hs c52 c30, c52, c30⟩
theorem d16_0 : decode jdk_43_method_25_code 0 = .ok (.aload_n 2, 1) := by decide +kernel
theorem d16_1 : decode jdk_43_method_25_code 1 = .ok (.iconst 0, 1) := by decide +kernel
theorem d16_2 : decode jdk_43_method_25_code 2 = .ok (.baload, 1) := by decide +kernel
theorem d16_3 : decode jdk_43_method_25_code 3 = .ok (.istore 5, 2) := by decide +kernel
theorem d16_5 : decode jdk_43_method_25_code 5 = .ok (.iload_n 1, 1) := by decide +kernel
theorem d16_6 : decode jdk_43_method_25_code 6 = .ok (.iload_n 3, 1) := by decide +kernel
theorem d16_7 : decode jdk_43_method_25_code 7 = .ok (.isub, 1) := by decide +kernel
theorem d16_8 : decode jdk_43_method_25_code 8 = .ok (.istore 6, 2) := by decide +kernel
theorem d16_10 : decode jdk_43_method_25_code 10 = .ok (.iload 4, 2) := by decide +kernel
theorem d16_12 : decode jdk_43_method_25_code 12 = .ok (.istore 7, 2) := by decide +kernel
abbrev N17 : MethodName := ⟨"java/lang/StringLatin1", "indexOf", "([BI[BII)I"⟩

abbrev rm_ix5 : Room := { frames := 0, cells := 0, slots := 0, locals := 0 }
set_option maxRecDepth 65536 in
set_option maxHeartbeats 4000000 in
theorem ct_ix5 (l : Launch) {Z : State} {n0 : Nat} {z : Int32} {f : Value} (W : Sx Z z f) (a d : Addr) (cs : List Int32) (h : Heap) (Fa : Vec Z h a .byte (cs.map (nar .byte))) (Fd : Vec Z h d .byte [(nar .byte (36 : Int32)), (nar .byte (123 : Int32))]) (hL : ∀ c ∈ cs, isL c) (hn : cs.length < 2 ^ 30) :
    Ctr l Z n0 N17 jdk_43_method_25_code 11 (some .int) rm_ix5 #[(.ref a), (.int cs.length.toInt32), (.ref d), (.int (2 : Int32)), (.int (0 : Int32))] h [] (fun v h' sn => IdxQ cs h v h' sn) := by
  refine Ctr.of_go (ls := #[.val (.ref a), .val (.int cs.length.toInt32), .val (.ref d), .val (.int (2 : Int32)), .val (.int (0 : Int32)), .unset, .unset, .unset, .unset, .unset, .unset]) W.1 (plainFor_of_name pn_N9) (fun m => by first | (simp [entryFrame, mkF, argsToLocals, Value.category]; done) | rfl) (fun K H => ?_)
  refine Go.aloadN H d16_0 rfl rfl rfl ?_
  refine Go.iconst (0 : Int32) H d16_1 rfl rfl ?_
  refine Go.baload (v := (nar .byte (36 : Int32))) H d16_2 rfl Fd 0 (by decide) (by decide) rfl ?_
  refine Go.istore (ls' := #[.val (.ref a), .val (.int cs.length.toInt32), .val (.ref d), .val (.int (2 : Int32)), .val (.int (0 : Int32)), .val (.int (nar .byte (36 : Int32))), .unset, .unset, .unset, .unset, .unset]) H d16_3 rfl rfl ?_
  refine Go.iloadN H d16_5 rfl rfl ?_
  refine Go.iloadN H d16_6 rfl rfl ?_
  refine Go.isub H d16_7 rfl ?_
  refine Go.istore (ls' := #[.val (.ref a), .val (.int cs.length.toInt32), .val (.ref d), .val (.int (2 : Int32)), .val (.int (0 : Int32)), .val (.int (nar .byte (36 : Int32))), .val (.int (cs.length.toInt32 - (2 : Int32))), .unset, .unset, .unset, .unset]) H d16_8 rfl rfl ?_
  refine Go.iload H d16_10 rfl rfl ?_
  refine Go.istore (ls' := #[.val (.ref a), .val (.int cs.length.toInt32), .val (.ref d), .val (.int (2 : Int32)), .val (.int (0 : Int32)), .val (.int (nar .byte (36 : Int32))), .val (.int (cs.length.toInt32 - (2 : Int32))), .val (.int (0 : Int32)), .unset, .unset, .unset]) H d16_12 rfl rfl ?_
  have hM : (cs.length.toInt32 - (2 : Int32)).toInt = (cs.length : Int) - 2 := by rw [Int32.toInt_sub, own_len (by omega), show (2 : Int32).toInt = 2 from by decide, Int.bmod_eq_of_le (by omega) (by omega)]
  have q := (ix_all l a d cs (cs.length.toInt32 - (2 : Int32)) Fa Fd hL hn hM (n0 := n0) (R := rm_ix5) H cs.length 0 (by omega) (by omega)).1 rfl .unset .unset .unset One.u One.u One.u
  exact q
theorem d15_0 : decode jdk_43_method_24_code 0 = .ok (.aload_n 1, 1) := by decide +kernel
theorem d15_1 : decode jdk_43_method_24_code 1 = .ok (.arraylength, 1) := by decide +kernel
theorem d15_2 : decode jdk_43_method_24_code 2 = .ok (.ifCond .ne 5, 3) := by decide +kernel
theorem d15_7 : decode jdk_43_method_24_code 7 = .ok (.aload_n 0, 1) := by decide +kernel
theorem d15_8 : decode jdk_43_method_24_code 8 = .ok (.arraylength, 1) := by decide +kernel
theorem d15_9 : decode jdk_43_method_24_code 9 = .ok (.ifCond .ne 5, 3) := by decide +kernel
theorem d15_12 : decode jdk_43_method_24_code 12 = .ok (.iconst (-1), 1) := by decide +kernel
theorem d15_13 : decode jdk_43_method_24_code 13 = .ok (.ireturn, 1) := by decide +kernel
theorem d15_14 : decode jdk_43_method_24_code 14 = .ok (.aload_n 0, 1) := by decide +kernel
theorem d15_15 : decode jdk_43_method_24_code 15 = .ok (.aload_n 0, 1) := by decide +kernel
theorem d15_16 : decode jdk_43_method_24_code 16 = .ok (.arraylength, 1) := by decide +kernel
theorem d15_17 : decode jdk_43_method_24_code 17 = .ok (.aload_n 1, 1) := by decide +kernel
theorem d15_18 : decode jdk_43_method_24_code 18 = .ok (.aload_n 1, 1) := by decide +kernel
theorem d15_19 : decode jdk_43_method_24_code 19 = .ok (.arraylength, 1) := by decide +kernel
theorem d15_20 : decode jdk_43_method_24_code 20 = .ok (.iconst 0, 1) := by decide +kernel
theorem d15_21 : decode jdk_43_method_24_code 21 = .ok (.invokestatic 99, 3) := by decide +kernel
theorem w72 : Jvm.Cond.code N17 jdk_43_method_25_code (11 : Nat) (Option.some Jvm.ClassFile.FieldType.int) ∈ tables_1 := List.mem_of_getElem? (i := 72) rfl
theorem pd_N17 : parseMethodDescriptor N17.desc = some ⟨[(.array .byte), .int, (.array .byte), .int, .int], (some .int)⟩ := by decide +kernel
theorem w70 : Jvm.Cond.methodLink "java/lang/StringLatin1" (99 : Nat) N17 ∈ tables_1 := List.mem_of_getElem? (i := 70) rfl
theorem w71 : Jvm.Cond.static N17 ∈ tables_1 := List.mem_of_getElem? (i := 71) rfl
theorem d15_24 : decode jdk_43_method_24_code 24 = .ok (.ireturn, 1) := by decide +kernel
abbrev N18 : MethodName := ⟨"java/lang/StringLatin1", "indexOf", "([B[B)I"⟩

abbrev rm_ix2 : Room := { frames := 1, cells := 0, slots := 0, locals := 22 }
set_option maxRecDepth 65536 in
set_option maxHeartbeats 4000000 in
theorem ct_ix2 (l : Launch) {Z : State} {n0 : Nat} {z : Int32} {f : Value} (W : Sx Z z f) (a d : Addr) (cs : List Int32) (h : Heap) (Fa : Vec Z h a .byte (cs.map (nar .byte))) (Fd : Vec Z h d .byte [(nar .byte (36 : Int32)), (nar .byte (123 : Int32))]) (hL : ∀ c ∈ cs, isL c) (hn : cs.length < 2 ^ 30) :
    Ctr l Z n0 N18 jdk_43_method_24_code 2 (some .int) rm_ix2 #[(.ref a), (.ref d)] h [] (fun v h' sn => IdxQ cs h v h' sn) := by
  refine Ctr.of_go (ls := #[.val (.ref a), .val (.ref d)]) W.1 (plainFor_of_name pn_N9) (fun m => by first | (simp [entryFrame, mkF, argsToLocals, Value.category]; done) | rfl) (fun K H => ?_)
  refine Go.aloadN H d15_0 rfl rfl rfl ?_
  refine Go.arraylength (2 : Int32) H d15_1 rfl Fd rfl ?_
  refine Go.ifY (pc' := 7) H d15_2 (by decide) (by decide) (by decide) ?_
  refine Go.aloadN H d15_7 rfl rfl rfl ?_
  refine Go.arraylength cs.length.toInt32 H d15_8 rfl Fa (by rw [List.length_map]) ?_
  by_cases c1 : cs.length = 0
  ·
    refine Go.ifN H d15_9 (teq (by rw [c1]; rfl)).2 rfl ?_
    refine Go.iconst (-1 : Int32) H d15_12 rfl rfl ?_
    exact Go.ireturnI [] H d15_13 ⟨_, rfl, Or.inl ⟨by rw [List.eq_nil_of_length_eq_zero c1]; rfl, by decide⟩, rfl, rfl⟩ all0 (by decide) (by decide)
  ·
    refine Go.ifY (pc' := 14) H d15_9 (feq (own_ne0 (by omega) (by omega))).2 (by decide) (by decide) ?_
    refine Go.aloadN H d15_14 rfl rfl rfl ?_
    refine Go.aloadN H d15_15 rfl rfl rfl ?_
    refine Go.arraylength cs.length.toInt32 H d15_16 rfl Fa (by rw [List.length_map]) ?_
    refine Go.aloadN H d15_17 rfl rfl rfl ?_
    refine Go.aloadN H d15_18 rfl rfl rfl ?_
    refine Go.arraylength (2 : Int32) H d15_19 rfl Fd rfl ?_
    refine Go.iconst (0 : Int32) H d15_20 rfl rfl ?_
    refine Go.callS (rest := []) 0 [(.ref a), (.int cs.length.toInt32), (.ref d), (.int (2 : Int32)), (.int (0 : Int32))] H d15_21 rfl w70 w71 w68 w72 pd_N17 (ct_ix5 l W a d cs h Fa Fd hL hn) all0 rfl rfl rfl (Nat.le_of_eq rfl) (by decide) (by decide) (by decide) (by decide) nh_N9 ?_
    rintro _ _ _ ⟨r2, rfl, q3, rfl, rfl⟩
    show Go _ _ _ _ _ _ h [] 0 0 24 #[.val (.ref a), .val (.ref d)] [(.int r2)]
    exact Go.ireturnI [] H d15_24 ⟨_, rfl, q3, rfl, rfl⟩ all0 (by decide) (by decide)
theorem d12_0 : decode jdk_42_method_84_code 0 = .ok (.aload_n 0, 1) := by decide +kernel
theorem d12_1 : decode jdk_42_method_84_code 1 = .ok (.invokevirtual 335, 3) := by decide +kernel
theorem d12_4 : decode jdk_42_method_84_code 4 = .ok (.istore_n 2, 1) := by decide +kernel
theorem d12_5 : decode jdk_42_method_84_code 5 = .ok (.iload_n 2, 1) := by decide +kernel
theorem d12_6 : decode jdk_42_method_84_code 6 = .ok (.aload_n 1, 1) := by decide +kernel
theorem d12_7 : decode jdk_42_method_84_code 7 = .ok (.invokevirtual 335, 3) := by decide +kernel
theorem d12_10 : decode jdk_42_method_84_code 10 = .ok (.if_icmp .ne 36, 3) := by decide +kernel
theorem d12_13 : decode jdk_42_method_84_code 13 = .ok (.aload_n 0, 1) := by decide +kernel
theorem d12_14 : decode jdk_42_method_84_code 14 = .ok (.invokevirtual 492, 3) := by decide +kernel
theorem d12_17 : decode jdk_42_method_84_code 17 = .ok (.ifCond .eq 17, 3) := by decide +kernel
theorem d12_20 : decode jdk_42_method_84_code 20 = .ok (.aload_n 0, 1) := by decide +kernel
theorem d12_21 : decode jdk_42_method_84_code 21 = .ok (.getfield 9, 3) := by decide +kernel
theorem d12_24 : decode jdk_42_method_84_code 24 = .ok (.aload_n 1, 1) := by decide +kernel
theorem d12_25 : decode jdk_42_method_84_code 25 = .ok (.getfield 9, 3) := by decide +kernel
theorem d12_28 : decode jdk_42_method_84_code 28 = .ok (.invokestatic 647, 3) := by decide +kernel
theorem w69 : Jvm.Cond.code N18 jdk_43_method_24_code (2 : Nat) (Option.some Jvm.ClassFile.FieldType.int) ∈ tables_1 := List.mem_of_getElem? (i := 69) rfl
theorem pd_N18 : parseMethodDescriptor N18.desc = some ⟨[(.array .byte), (.array .byte)], (some .int)⟩ := by decide +kernel
theorem w66 : Jvm.Cond.methodLink "java/lang/String" (647 : Nat) N18 ∈ tables_1 := List.mem_of_getElem? (i := 66) rfl
theorem w67 : Jvm.Cond.static N18 ∈ tables_1 := List.mem_of_getElem? (i := 67) rfl
theorem d12_31 : decode jdk_42_method_84_code 31 = .ok (.goto 14, 3) := by decide +kernel
theorem d12_45 : decode jdk_42_method_84_code 45 = .ok (.ireturn, 1) := by decide +kernel
abbrev N19 : MethodName := ⟨"java/lang/String", "indexOf", "(Ljava/lang/String;)I"⟩

abbrev rm_ix : Room := { frames := 2, cells := 0, slots := 0, locals := 35 }
set_option maxRecDepth 65536 in
set_option maxHeartbeats 4000000 in
theorem ct_ix (l : Launch) {Z : State} {n0 : Nat} {z : Int32} {f : Value} (W : Sx Z z f) (x b y d : Addr) (cs : List Int32) (h : Heap) (S : Str Z h x b cs) (S2 : Str Z h y d [(36 : Int32), (123 : Int32)]) (hm : cs.length < 2 ^ 30) :
    Ctr l Z n0 N19 jdk_42_method_84_code 3 (some .int) rm_ix #[(.ref x), (.ref y)] h [] (fun v h' sn => IdxQ cs h v h' sn) := by
  refine Ctr.of_go (ls := #[.val (.ref x), .val (.ref y), .unset]) W.1 (plainFor_of_name pn_N4) (fun m => by first | (simp [entryFrame, mkF, argsToLocals, Value.category]; done) | rfl) (fun K H => ?_)
  have S0 := S
  have S20 := S2
  obtain ⟨A, Fv, Fc, Fb, hL, hn⟩ := S
  obtain ⟨A2, Fv2, Fc2, Fb2, hL2, hn2⟩ := S2
  refine Go.aloadN H d12_0 rfl rfl rfl ?_
  refine Go.callV (rest := []) 0 [] H d12_1 rfl A w56 w57 w59 w58 w10 w60 pd_N11 (ct_cod l W x b cs h S0) all0 rfl rfl rfl (Nat.le_of_eq rfl) (by decide) (by decide) (by decide) (by decide) nh_N4 ?_
  rintro _ _ _ ⟨rfl, rfl, rfl⟩
  show Go _ _ _ _ _ _ h [] 0 0 4 #[.val (.ref x), .val (.ref y), .unset] [(.int (0 : Int32))]
  refine Go.istoreN (ls' := #[.val (.ref x), .val (.ref y), .val (.int (0 : Int32))]) H d12_4 rfl rfl ?_
  refine Go.iloadN H d12_5 rfl rfl ?_
  refine Go.aloadN H d12_6 rfl rfl rfl ?_
  refine Go.callV (rest := [(.int (0 : Int32))]) 1 [] H d12_7 rfl A2 w56 w57 w59 w58 w10 w60 pd_N11 (ct_cod l W y d [(36 : Int32), (123 : Int32)] h S20) all0 rfl rfl rfl (Nat.le_of_eq rfl) (by decide) (by decide) (by decide) (by decide) nh_N4 ?_
  rintro _ _ _ ⟨rfl, rfl, rfl⟩
  show Go _ _ _ _ _ _ h [] 0 0 10 #[.val (.ref x), .val (.ref y), .val (.int (0 : Int32))] [(.int (0 : Int32)), (.int (0 : Int32))]
  refine Go.icmpN H d12_10 (by decide) rfl ?_
  refine Go.aloadN H d12_13 rfl rfl rfl ?_
  refine Go.callV (rest := []) 0 [] H d12_14 rfl A w61 w62 w64 w63 w10 w65 pd_N6 (ct_isl l W x b cs h S0) all0 rfl rfl rfl (Nat.le_of_eq rfl) (by decide) (by decide) (by decide) (by decide) nh_N4 ?_
  rintro _ _ _ ⟨rfl, rfl, rfl⟩
  show Go _ _ _ _ _ _ h [] 0 0 17 #[.val (.ref x), .val (.ref y), .val (.int (0 : Int32))] [(.int (1 : Int32))]
  refine Go.ifN H d12_17 (by decide) rfl ?_
  refine Go.aloadN H d12_20 rfl rfl rfl ?_
  refine Go.getfield H d12_21 rfl w36 Fv ?_
  refine Go.aloadN H d12_24 rfl rfl rfl ?_
  refine Go.getfield H d12_25 rfl w36 Fv2 ?_
  refine Go.callS (rest := []) 0 [(.ref b), (.ref d)] H d12_28 rfl w66 w67 w68 w69 pd_N18 (ct_ix2 l W b d cs h Fb Fb2 hL (by omega)) all0 rfl rfl rfl (Nat.le_of_eq rfl) (by decide) (by decide) (by decide) (by decide) nh_N9 ?_
  rintro _ _ _ ⟨r1, rfl, q2, rfl, rfl⟩
  show Go _ _ _ _ _ _ h [] 0 0 31 #[.val (.ref x), .val (.ref y), .val (.int (0 : Int32))] [(.int r1)]
  refine Go.goto (pc' := 45) H d12_31 (by decide) (by decide) ?_
  exact Go.ireturnI [] H d12_45 ⟨_, rfl, q2, rfl, rfl⟩ all0 (by decide) (by decide)
theorem d18_4 : decode prog_20_method_7_code 4 = .ok (.iload_n 3, 1) := by decide +kernel
theorem d18_5 : decode prog_20_method_7_code 5 = .ok (.aload_n 0, 1) := by decide +kernel
theorem d18_6 : decode prog_20_method_7_code 6 = .ok (.invokevirtual 36, 3) := by decide +kernel
theorem w78 : Jvm.Cond.code N12 jdk_42_method_54_code (1 : Nat) (Option.some Jvm.ClassFile.FieldType.int) ∈ tables_1 := List.mem_of_getElem? (i := 78) rfl
theorem pd_N12 : parseMethodDescriptor N12.desc = some ⟨[], (some .int)⟩ := by decide +kernel
theorem w74 : Jvm.Cond.methodLink "com/example/autowire/autowire/beans/Placeholders" (36 : Nat) N12 ∈ tables_1 := List.mem_of_getElem? (i := 74) rfl
theorem w75 : Jvm.Cond.declares N12 ∈ tables_1 := List.mem_of_getElem? (i := 75) rfl
theorem w77 : Jvm.Cond.selects "java/lang/String" N12 N12 ∈ tables_1 := List.mem_of_getElem? (i := 77) rfl
theorem w76 : Jvm.Cond.instanceMethod N12 ∈ tables_1 := List.mem_of_getElem? (i := 76) rfl
theorem d18_9 : decode prog_20_method_7_code 9 = .ok (.if_icmp .ge 45, 3) := by decide +kernel
theorem d18_54 : decode prog_20_method_7_code 54 = .ok (.iconst (-1), 1) := by decide +kernel
theorem d18_55 : decode prog_20_method_7_code 55 = .ok (.ireturn, 1) := by decide +kernel
theorem d18_12 : decode prog_20_method_7_code 12 = .ok (.aload_n 0, 1) := by decide +kernel
theorem d18_13 : decode prog_20_method_7_code 13 = .ok (.iload_n 3, 1) := by decide +kernel
theorem d18_14 : decode prog_20_method_7_code 14 = .ok (.invokevirtual 132, 3) := by decide +kernel
theorem w86 : Jvm.Cond.code N10 jdk_42_method_56_code (2 : Nat) (Option.some Jvm.ClassFile.FieldType.char) ∈ tables_1 := List.mem_of_getElem? (i := 86) rfl
theorem pd_N10 : parseMethodDescriptor N10.desc = some ⟨[.int], (some .char)⟩ := by decide +kernel
theorem w82 : Jvm.Cond.methodLink "com/example/autowire/autowire/beans/Placeholders" (132 : Nat) N10 ∈ tables_1 := List.mem_of_getElem? (i := 82) rfl
theorem w83 : Jvm.Cond.declares N10 ∈ tables_1 := List.mem_of_getElem? (i := 83) rfl
theorem w85 : Jvm.Cond.selects "java/lang/String" N10 N10 ∈ tables_1 := List.mem_of_getElem? (i := 85) rfl
theorem w84 : Jvm.Cond.instanceMethod N10 ∈ tables_1 := List.mem_of_getElem? (i := 84) rfl
theorem d18_17 : decode prog_20_method_7_code 17 = .ok (.istore 4, 2) := by decide +kernel
theorem d18_19 : decode prog_20_method_7_code 19 = .ok (.iload 4, 2) := by decide +kernel
theorem d18_21 : decode prog_20_method_7_code 21 = .ok (.bipush 123, 2) := by decide +kernel
theorem d18_23 : decode prog_20_method_7_code 23 = .ok (.if_icmp .ne 9, 3) := by decide +kernel
theorem d18_26 : decode prog_20_method_7_code 26 = .ok (.iinc 2 1, 3) := by decide +kernel
theorem d18_29 : decode prog_20_method_7_code 29 = .ok (.goto 19, 3) := by decide +kernel
theorem d18_48 : decode prog_20_method_7_code 48 = .ok (.iinc 3 1, 3) := by decide +kernel
theorem d18_51 : decode prog_20_method_7_code 51 = .ok (.goto (-47), 3) := by decide +kernel
theorem d18_32 : decode prog_20_method_7_code 32 = .ok (.iload 4, 2) := by decide +kernel
theorem d18_34 : decode prog_20_method_7_code 34 = .ok (.bipush 125, 2) := by decide +kernel
theorem d18_36 : decode prog_20_method_7_code 36 = .ok (.if_icmp .ne 12, 3) := by decide +kernel
theorem d18_39 : decode prog_20_method_7_code 39 = .ok (.iload_n 2, 1) := by decide +kernel
theorem d18_40 : decode prog_20_method_7_code 40 = .ok (.ifCond .ne 5, 3) := by decide +kernel
theorem d18_43 : decode prog_20_method_7_code 43 = .ok (.iload_n 3, 1) := by decide +kernel
theorem d18_44 : decode prog_20_method_7_code 44 = .ok (.ireturn, 1) := by decide +kernel
theorem d18_45 : decode prog_20_method_7_code 45 = .ok (.iinc 2 (-1), 3) := by decide +kernel

theorem own_km {k : Nat} (h : 0 < k) : k.toInt32 + (-1) = (k - 1).toInt32 := by
  obtain ⟨j, rfl⟩ : ∃ j, k = j + 1 := ⟨k - 1, by omega⟩
  rw [Nat.add_sub_cancel, ← own_s]; grind
set_option maxRecDepth 65536 in
set_option maxHeartbeats 4000000 in
theorem lp_clo (l : Launch) {Z : State} {n0 : Nat} {z : Int32} {f : Value} (W : Sx Z z f) {h : Heap} (x b : Addr) (cs : List Int32) (f0 : Int32) (S : Str Z h x b cs) (hm : cs.length < 2 ^ 30) {K : Cx} (H : Ok Z K "com/example/autowire/autowire/beans/Placeholders" prog_20_method_7_code 5 (some .int) "closing") :
    ∀ (m i k : Nat), i + m = cs.length → k ≤ i → ∀ s4 : Slot, One s4 → Go l Z n0 ({ frames := 4, cells := 0, slots := 0, locals := 53 } : Room) K (fun v h' sn => ∃ r : Int32, v = some (.int r) ∧ (r < 0 ↔ closeL k (cs.drop i) = false) ∧ h = h' ∧ sn = []) h [] 0 0 4 #[.val (.ref x), .val (.int f0), .val (.int k.toInt32), .val (.int i.toInt32), s4] [] := by
  intro m
  induction m with
  | zero =>
    intro i k hi hk s4 o4
    refine Go.iloadN H d18_4 rfl rfl ?_
    refine Go.aloadN H d18_5 rfl rfl rfl ?_
    refine Go.callV (rest := [(.int i.toInt32)]) 1 [] H d18_6 rfl S.1 w74 w75 w77 w76 w10 w78 pd_N12 (ct_len l W x b cs h S) all0 rfl rfl rfl (Nat.le_of_eq rfl) (by decide) (by decide) (by decide) (by decide) nh_N4 ?_
    rintro _ _ _ ⟨rfl, rfl, rfl⟩
    show Go _ _ _ _ _ _ h [] 0 0 9 #[.val (.ref x), .val (.int f0), .val (.int k.toInt32), .val (.int i.toInt32), s4] [(.int cs.length.toInt32), (.int i.toInt32)]
    refine Go.icmpY (pc' := 54) H d18_9 (flt (own_nlt (by omega) (by omega))).2.1 (by decide) (by decide) ?_
    refine Go.iconst (-1 : Int32) H d18_54 rfl rfl ?_
    exact Go.ireturnI [] H d18_55 ⟨_, rfl, ⟨fun _ => close_nil k (by omega), fun _ => by decide⟩, rfl, rfl⟩ all0 (Nat.zero_le _) (Nat.zero_le _)
  | succ m ih =>
    intro i k hi hk s4 o4
    have hlt : i < cs.length := by omega
    obtain ⟨c, hc⟩ : ∃ c, cs[i]? = some c := ⟨_, List.getElem?_eq_getElem hlt⟩
    refine Go.iloadN H d18_4 rfl rfl ?_
    refine Go.aloadN H d18_5 rfl rfl rfl ?_
    refine Go.callV (rest := [(.int i.toInt32)]) 1 [] H d18_6 rfl S.1 w74 w75 w77 w76 w10 w78 pd_N12 (ct_len l W x b cs h S) all0 rfl rfl rfl (Nat.le_of_eq rfl) (by decide) (by decide) (by decide) (by decide) nh_N4 ?_
    rintro _ _ _ ⟨rfl, rfl, rfl⟩
    show Go _ _ _ _ _ _ h [] 0 0 9 #[.val (.ref x), .val (.int f0), .val (.int k.toInt32), .val (.int i.toInt32), s4] [(.int cs.length.toInt32), (.int i.toInt32)]
    refine Go.icmpN H d18_9 (tlt (own_lt (by omega) hlt)).2.1 rfl ?_
    refine Go.aloadN H d18_12 rfl rfl rfl ?_
    refine Go.iloadN H d18_13 rfl rfl ?_
    refine Go.callV (rest := []) 0 [(.int i.toInt32)] H d18_14 rfl S.1 w82 w83 w85 w84 w10 w86 pd_N10 (ct_cha l W x b cs i.toInt32 c i h S (own_n0 (by omega)) (own_cl (by omega)) hc) all0 rfl rfl rfl (Nat.le_of_eq rfl) (by decide) (by decide) (by decide) (by decide) nh_N4 ?_
    rintro _ _ _ ⟨rfl, rfl, rfl⟩
    show Go _ _ _ _ _ _ h [] 0 0 17 #[.val (.ref x), .val (.int f0), .val (.int k.toInt32), .val (.int i.toInt32), s4] [(.int c)]
    refine Go.istore (ls' := #[.val (.ref x), .val (.int f0), .val (.int k.toInt32), .val (.int i.toInt32), .val (.int c)]) H d18_17 rfl (XS.store1 rfl o4 rfl) ?_
    refine Go.iload H d18_19 rfl rfl ?_
    refine Go.bipush (123 : Int32) H d18_21 rfl rfl ?_
    by_cases c1 : c = (123 : Int32)
    ·
      refine Go.icmpN H d18_23 (teq c1).2 rfl ?_
      refine Go.iinc (ls' := #[.val (.ref x), .val (.int f0), .val (.int (k.toInt32 + (1 : Int32))), .val (.int i.toInt32), .val (.int c)]) (1 : Int32) H d18_26 rfl rfl rfl rfl ?_
      refine Go.goto (pc' := 48) H d18_29 (by decide) (by decide) ?_
      refine Go.iinc (ls' := #[.val (.ref x), .val (.int f0), .val (.int (k.toInt32 + (1 : Int32))), .val (.int (i.toInt32 + (1 : Int32))), .val (.int c)]) (1 : Int32) H d18_48 rfl rfl rfl rfl ?_
      refine Go.goto (pc' := 4) H d18_51 (by decide) (by decide) ?_
      rw [close_cons k hc, if_pos c1]
      rw [own_s i, own_s k]
      exact ih (i + 1) (k + 1) (by omega) (by omega) _ (One.val rfl)
    ·
      refine Go.icmpY (pc' := 32) H d18_23 (feq c1).2 (by decide) (by decide) ?_
      refine Go.iload H d18_32 rfl rfl ?_
      refine Go.bipush (125 : Int32) H d18_34 rfl rfl ?_
      by_cases c2 : c = (125 : Int32)
      ·
        refine Go.icmpN H d18_36 (teq c2).2 rfl ?_
        refine Go.iloadN H d18_39 rfl rfl ?_
        by_cases c3 : k = 0
        ·
          refine Go.ifN H d18_40 (teq (by rw [c3]; rfl)).2 rfl ?_
          refine Go.iloadN H d18_43 rfl rfl ?_
          exact Go.ireturnI [] H d18_44 ⟨_, rfl, ⟨fun e => absurd e (own_n0 (by omega)), fun e => by rw [close_cons k hc, if_neg c1, if_pos c2, if_pos c3] at e; cases e⟩, rfl, rfl⟩ all0 (Nat.zero_le _) (Nat.zero_le _)
        ·
          refine Go.ifY (pc' := 45) H d18_40 (feq (own_ne0 (by omega) (by omega))).2 (by decide) (by decide) ?_
          refine Go.iinc (ls' := #[.val (.ref x), .val (.int f0), .val (.int (k.toInt32 + (-1 : Int32))), .val (.int i.toInt32), .val (.int c)]) (-1 : Int32) H d18_45 rfl rfl rfl rfl ?_
          refine Go.iinc (ls' := #[.val (.ref x), .val (.int f0), .val (.int (k.toInt32 + (-1 : Int32))), .val (.int (i.toInt32 + (1 : Int32))), .val (.int c)]) (1 : Int32) H d18_48 rfl rfl rfl rfl ?_
          refine Go.goto (pc' := 4) H d18_51 (by decide) (by decide) ?_
          rw [close_cons k hc, if_neg c1, if_pos c2, if_neg c3]
          rw [own_s i, own_km (by omega)]
          exact ih (i + 1) (k - 1) (by omega) (by omega) _ (One.val rfl)
      ·
        refine Go.icmpY (pc' := 48) H d18_36 (feq c2).2 (by decide) (by decide) ?_
        refine Go.iinc (ls' := #[.val (.ref x), .val (.int f0), .val (.int k.toInt32), .val (.int (i.toInt32 + (1 : Int32))), .val (.int c)]) (1 : Int32) H d18_48 rfl rfl rfl rfl ?_
        refine Go.goto (pc' := 4) H d18_51 (by decide) (by decide) ?_
        rw [close_cons k hc, if_neg c1, if_neg c2]
        rw [own_s i]
        exact ih (i + 1) k (by omega) (by omega) _ (One.val rfl)
theorem d18_0 : decode prog_20_method_7_code 0 = .ok (.iconst 0, 1) := by decide +kernel
theorem d18_1 : decode prog_20_method_7_code 1 = .ok (.istore_n 2, 1) := by decide +kernel
theorem d18_2 : decode prog_20_method_7_code 2 = .ok (.iload_n 1, 1) := by decide +kernel
theorem d18_3 : decode prog_20_method_7_code 3 = .ok (.istore_n 3, 1) := by decide +kernel
abbrev N20 : MethodName := ⟨"com/example/autowire/autowire/beans/Placeholders", "closing", "(Ljava/lang/String;I)I"⟩
theorem pn_N20 : plainName N20.cls = true := by first | (simp [plainName, overriddenIn]; done) | decide +kernel

abbrev rm_clo : Room := { frames := 4, cells := 0, slots := 0, locals := 53 }
set_option maxRecDepth 65536 in
set_option maxHeartbeats 4000000 in
theorem ct_clo (l : Launch) {Z : State} {n0 : Nat} {z : Int32} {f : Value} (W : Sx Z z f) (x b : Addr) (cs : List Int32) (i : Nat) (h : Heap) (S : Str Z h x b cs) (hm : cs.length < 2 ^ 30) (hi : i ≤ cs.length) :
    Ctr l Z n0 N20 prog_20_method_7_code 5 (some .int) rm_clo #[(.ref x), (.int i.toInt32)] h [] (fun v h' sn => ∃ r : Int32, v = some (.int r) ∧ (r < 0 ↔ closeL 0 (cs.drop i) = false) ∧ h = h' ∧ sn = []) := by
  refine Ctr.of_go (ls := #[.val (.ref x), .val (.int i.toInt32), .unset, .unset, .unset]) W.1 (plainFor_of_name pn_N20) (fun m => by first | (simp [entryFrame, mkF, argsToLocals, Value.category]; done) | rfl) (fun K H => ?_)
  refine Go.iconst (0 : Int32) H d18_0 rfl rfl ?_
  refine Go.istoreN (ls' := #[.val (.ref x), .val (.int i.toInt32), .val (.int (0 : Int32)), .unset, .unset]) H d18_1 rfl rfl ?_
  refine Go.iloadN H d18_2 rfl rfl ?_
  refine Go.istoreN (ls' := #[.val (.ref x), .val (.int i.toInt32), .val (.int (0 : Int32)), .val (.int i.toInt32), .unset]) H d18_3 rfl rfl ?_
  exact lp_clo l W x b cs _ S hm H (cs.length - i) i 0 (by omega) (by omega) _ One.u
theorem d11_0 : decode prog_20_method_3_code 0 = .ok (.aload_n 0, 1) := by decide +kernel
theorem d11_1 : decode prog_20_method_3_code 1 = .ok (.ifnonnull 7, 3) := by decide +kernel
theorem d11_4 : decode prog_20_method_3_code 4 = .ok (.iconst (-1), 1) := by decide +kernel
theorem d11_5 : decode prog_20_method_3_code 5 = .ok (.goto 9, 3) := by decide +kernel
theorem d11_14 : decode prog_20_method_3_code 14 = .ok (.istore_n 1, 1) := by decide +kernel
theorem d11_15 : decode prog_20_method_3_code 15 = .ok (.iload_n 1, 1) := by decide +kernel
theorem d11_16 : decode prog_20_method_3_code 16 = .ok (.ifCond .lt 21, 3) := by decide +kernel
theorem d11_37 : decode prog_20_method_3_code 37 = .ok (.iconst 0, 1) := by decide +kernel
theorem d11_38 : decode prog_20_method_3_code 38 = .ok (.ireturn, 1) := by decide +kernel
abbrev N21 : MethodName := ⟨"com/example/autowire/autowire/beans/Placeholders", "holdsPlaceholder", "(Ljava/lang/String;)Z"⟩

abbrev rm_hpn : Room := { frames := 0, cells := 0, slots := 0, locals := 0 }
set_option maxRecDepth 65536 in
set_option maxHeartbeats 4000000 in
theorem ct_hpn (l : Launch) {Z : State} {n0 : Nat} {z : Int32} {f : Value} (W : Sx Z z f) (h : Heap) :
    Ctr l Z n0 N21 prog_20_method_3_code 2 (some .boolean) rm_hpn #[.null] h [] (fun v h' sn => v = some (.int 0) ∧ Ext h h' ∧ sn = []) := by
  refine Ctr.of_go (ls := #[.val .null, .unset]) W.1 (plainFor_of_name pn_N20) (fun m => by first | (simp [entryFrame, mkF, argsToLocals, Value.category]; done) | rfl) (fun K H => ?_)
  have KK : Keep h h [] := Keep.refl _ _
  refine Go.aloadN H d11_0 rfl rfl rfl ?_
  refine Go.ifnonnullN H d11_1 rfl ?_
  refine Go.iconst (-1 : Int32) H d11_4 rfl rfl ?_
  refine Go.goto (pc' := 14) H d11_5 (by decide) (by decide) ?_
  refine Go.istoreN (ls' := #[.val .null, .val (.int (-1 : Int32))]) H d11_14 rfl rfl ?_
  refine Go.iloadN H d11_15 rfl rfl ?_
  refine Go.ifY (pc' := 37) H d11_16 (by decide) (by decide) (by decide) ?_
  refine Go.iconst (0 : Int32) H d11_37 rfl rfl ?_
  exact Go.ireturn 0 [] H d11_38 (by simp) (by decide) ⟨rfl, own_ext KK, rfl⟩ all0 (by decide) (by decide)
theorem own_add2 (j : Nat) : j.toInt32 + ([(36 : Int32), (123 : Int32)]).length.toInt32 = (j + 2).toInt32 := by show j.toInt32 + 2 = _; rw [← own_s, ← own_s]; grind
theorem d11_8 : decode prog_20_method_3_code 8 = .ok (.aload_n 0, 1) := by decide +kernel
theorem d11_9 : decode prog_20_method_3_code 9 = .ok (.ldc 28, 2) := by decide +kernel
theorem lt_1 : (∀ c ∈ ("${" : String).toList, c.toNat < 256) ∧ ("${" : String).toList.map (fun c => Value.int (Jvm.Lit.byteI c.toNat.toUInt16)) = (([(36 : Int32), (123 : Int32)]).map (nar .byte)).map Value.int := by decide +kernel
theorem lt_1_l : ∀ c ∈ [(36 : Int32), (123 : Int32)], isL c := own_ac (show isL (36 : Int32) from ⟨by decide, by decide⟩) (own_ac (show isL (123 : Int32) from ⟨by decide, by decide⟩) (own_an))
theorem cm_1 : ("com/example/autowire/autowire/beans/Placeholders", 28) ∈ consts_1 := by decide
theorem w48 : Jvm.Cond.stringLink "com/example/autowire/autowire/beans/Placeholders" (28 : Nat) "${" ∈ tables_1 := List.mem_of_getElem? (i := 48) rfl
theorem d11_11 : decode prog_20_method_3_code 11 = .ok (.invokevirtual 30, 3) := by decide +kernel
theorem w55 : Jvm.Cond.code N19 jdk_42_method_84_code (3 : Nat) (Option.some Jvm.ClassFile.FieldType.int) ∈ tables_1 := List.mem_of_getElem? (i := 55) rfl
theorem pd_N19 : parseMethodDescriptor N19.desc = some ⟨[(.object "java/lang/String")], (some .int)⟩ := by decide +kernel
theorem w51 : Jvm.Cond.methodLink "com/example/autowire/autowire/beans/Placeholders" (30 : Nat) N19 ∈ tables_1 := List.mem_of_getElem? (i := 51) rfl
theorem w52 : Jvm.Cond.declares N19 ∈ tables_1 := List.mem_of_getElem? (i := 52) rfl
theorem w54 : Jvm.Cond.selects "java/lang/String" N19 N19 ∈ tables_1 := List.mem_of_getElem? (i := 54) rfl
theorem w53 : Jvm.Cond.instanceMethod N19 ∈ tables_1 := List.mem_of_getElem? (i := 53) rfl
theorem d11_19 : decode prog_20_method_3_code 19 = .ok (.aload_n 0, 1) := by decide +kernel
theorem d11_20 : decode prog_20_method_3_code 20 = .ok (.iload_n 1, 1) := by decide +kernel
theorem d11_21 : decode prog_20_method_3_code 21 = .ok (.ldc 28, 2) := by decide +kernel
theorem d11_23 : decode prog_20_method_3_code 23 = .ok (.invokevirtual 36, 3) := by decide +kernel
theorem d11_26 : decode prog_20_method_3_code 26 = .ok (.iadd, 1) := by decide +kernel
theorem d11_27 : decode prog_20_method_3_code 27 = .ok (.invokestatic 40, 3) := by decide +kernel
theorem w81 : Jvm.Cond.code N20 prog_20_method_7_code (5 : Nat) (Option.some Jvm.ClassFile.FieldType.int) ∈ tables_1 := List.mem_of_getElem? (i := 81) rfl
theorem w46 : Jvm.Cond.initialized "com/example/autowire/autowire/beans/Placeholders" ∈ tables_1 := List.mem_of_getElem? (i := 46) rfl
theorem pd_N20 : parseMethodDescriptor N20.desc = some ⟨[(.object "java/lang/String"), .int], (some .int)⟩ := by decide +kernel
theorem nh_N20 : N20.cls ≠ "java/lang/invoke/MethodHandle" ∧ N20.cls ≠ "java/lang/invoke/VarHandle" := by decide
theorem w79 : Jvm.Cond.methodLink "com/example/autowire/autowire/beans/Placeholders" (40 : Nat) N20 ∈ tables_1 := List.mem_of_getElem? (i := 79) rfl
theorem w80 : Jvm.Cond.static N20 ∈ tables_1 := List.mem_of_getElem? (i := 80) rfl
theorem d11_30 : decode prog_20_method_3_code 30 = .ok (.ifCond .lt 7, 3) := by decide +kernel
theorem d11_33 : decode prog_20_method_3_code 33 = .ok (.iconst 1, 1) := by decide +kernel
theorem d11_34 : decode prog_20_method_3_code 34 = .ok (.goto 4, 3) := by decide +kernel

abbrev rm_hp : Room := { frames := 5, cells := 4, slots := 24, locals := 69 }
set_option maxRecDepth 65536 in
set_option maxHeartbeats 4000000 in
theorem ct_hp (l : Launch) {Z : State} {n0 : Nat} {z : Int32} {f : Value} (W : Sx Z z f) (x b : Addr) (cs : List Int32) (h : Heap) (S : Str Z h x b cs) (hm : cs.length < 2 ^ 30) :
    Ctr l Z n0 N21 prog_20_method_3_code 2 (some .boolean) rm_hp #[(.ref x)] h [] (fun v h' sn => v = some (.int (if holdsL cs = true then 1 else 0)) ∧ Ext h h' ∧ sn = []) := by
  refine Ctr.of_go (ls := #[.val (.ref x), .unset]) W.1 (plainFor_of_name pn_N20) (fun m => by first | (simp [entryFrame, mkF, argsToLocals, Value.category]; done) | rfl) (fun K H => ?_)
  have KK : Keep h h [] := Keep.refl _ _
  refine Go.aloadN H d11_0 rfl rfl rfl ?_
  refine Go.ifnonnullY (pc' := 8) H d11_1 (by decide) (by decide) ?_
  refine Go.aloadN H d11_8 rfl rfl rfl ?_
  refine Go.ldcS [(36 : Int32), (123 : Int32)] (2 : Int32) 8 H d11_9 rfl w48 cm_1 lt_1 lt_1_l (by decide) (by decide) (by decide) (by decide) (by decide) (by decide) ?_
  intro a1 b2 h3 E4 S5 q6
  replace S := S.ext E4
  replace KK := KK.ext E4
  show Go _ _ _ _ _ _ h3 [] 2 12 11 #[.val (.ref x), .unset] [(.ref a1), (.ref x)]
  refine Go.callV (rest := []) 0 [(.ref a1)] H d11_11 rfl S.1 w51 w52 w54 w53 w10 w55 pd_N19 (ct_ix l W x b a1 b2 cs h3 S S5 hm) all0 rfl rfl rfl (Nat.le_of_eq rfl) (by decide) (by decide) (by decide) (by decide) nh_N4 ?_
  rintro _ _ _ ⟨r7, rfl, q8, rfl, rfl⟩
  show Go _ _ _ _ _ _ h3 [] 2 12 14 #[.val (.ref x), .unset] [(.int r7)]
  rcases q8 with ⟨hsc, hr⟩ | ⟨j, rfl, hj, hsc⟩
  ·
    refine Go.istoreN (ls' := #[.val (.ref x), .val (.int r7)]) H d11_14 rfl rfl ?_
    refine Go.iloadN H d11_15 rfl rfl ?_
    refine Go.ifY (pc' := 37) H d11_16 (tlt hr).1 (by decide) (by decide) ?_
    refine Go.iconst (0 : Int32) H d11_37 rfl rfl ?_
    exact Go.ireturn (0 : Int32) [] H d11_38 (by simp) (by decide) ⟨by rw [if_neg (by simp [holdsL, hsc])], own_ext KK, rfl⟩ all0 (by decide) (by decide)
  ·
    refine Go.istoreN (ls' := #[.val (.ref x), .val (.int j.toInt32)]) H d11_14 rfl rfl ?_
    refine Go.iloadN H d11_15 rfl rfl ?_
    refine Go.ifN H d11_16 (flt (own_n0 (by omega))).1 rfl ?_
    refine Go.aloadN H d11_19 rfl rfl rfl ?_
    refine Go.iloadN H d11_20 rfl rfl ?_
    refine Go.ldcS [(36 : Int32), (123 : Int32)] (2 : Int32) 8 H d11_21 rfl w48 cm_1 lt_1 lt_1_l (by decide) (by decide) (by decide) (by decide) (by decide) (by decide) ?_
    intro a9 b10 h11 E12 S13 q14
    replace S := S.ext E12
    replace S5 := S5.ext E12
    replace KK := KK.ext E12
    show Go _ _ _ _ _ _ h11 [] 4 24 23 #[.val (.ref x), .val (.int j.toInt32)] [(.ref a9), (.int j.toInt32), (.ref x)]
    refine Go.callV (rest := [(.int j.toInt32), (.ref x)]) 2 [] H d11_23 rfl S13.1 w74 w75 w77 w76 w10 w78 pd_N12 (ct_len l W a9 b10 [(36 : Int32), (123 : Int32)] h11 S13) all0 rfl rfl rfl (Nat.le_of_eq rfl) (by decide) (by decide) (by decide) (by decide) nh_N4 ?_
    rintro _ _ _ ⟨rfl, rfl, rfl⟩
    show Go _ _ _ _ _ _ h11 [] 4 24 26 #[.val (.ref x), .val (.int j.toInt32)] [(.int [(36 : Int32), (123 : Int32)].length.toInt32), (.int j.toInt32), (.ref x)]
    refine Go.iadd H d11_26 rfl ?_
    rw [own_add2 j]
    refine Go.callS (rest := []) 0 [(.ref x), (.int (j + 2).toInt32)] H d11_27 rfl w79 w80 w46 w81 pd_N20 (ct_clo l W x b cs (j + 2) h11 S hm (by omega)) all0 rfl rfl rfl (Nat.le_of_eq rfl) (by decide) (by decide) (by decide) (by decide) nh_N20 ?_
    rintro _ _ _ ⟨r15, rfl, q16, rfl, rfl⟩
    show Go _ _ _ _ _ _ h11 [] 4 24 30 #[.val (.ref x), .val (.int j.toInt32)] [(.int r15)]
    by_cases c17 : closeL 0 (cs.drop (j + 2)) = false
    ·
      refine Go.ifY (pc' := 37) H d11_30 (tlt (q16.mpr c17)).1 (by decide) (by decide) ?_
      refine Go.iconst (0 : Int32) H d11_37 rfl rfl ?_
      exact Go.ireturn (0 : Int32) [] H d11_38 (by simp) (by decide) ⟨by rw [if_neg (by simp [holdsL, hsc, c17])], own_ext KK, rfl⟩ all0 (by decide) (by decide)
    ·
      refine Go.ifN H d11_30 (flt (fun e => c17 (q16.mp e))).1 rfl ?_
      refine Go.iconst (1 : Int32) H d11_33 rfl rfl ?_
      refine Go.goto (pc' := 38) H d11_34 (by decide) (by decide) ?_
      exact Go.ireturn (1 : Int32) [] H d11_38 (by simp) (by decide) ⟨by rw [if_pos (by simpa [holdsL, hsc] using c17)], own_ext KK, rfl⟩ all0 (by decide) (by decide)
theorem own_and7 (x : Int32) : ∃ n : Int32, x &&& 7 = n ∧ (n = 0 ∨ n = 1 ∨ n = 2 ∨ n = 3 ∨ n = 4 ∨ n = 5 ∨ n = 6 ∨ n = 7) := by
  have m1 := c_mask x 7 3 (by decide) (by decide)
  have k : ∀ (y : Int32) (v : Int), y.toInt = v → v = 0 ∨ v = 1 ∨ v = 2 ∨ v = 3 ∨ v = 4 ∨ v = 5 ∨ v = 6 ∨ v = 7 → y = Int32.ofInt v := fun y v e h => by
    apply Int32.toInt_inj.mp; rcases h with rfl | rfl | rfl | rfl | rfl | rfl | rfl | rfl <;> rw [e] <;> decide
  have h : (x &&& 7).toInt = 0 ∨ (x &&& 7).toInt = 1 ∨ (x &&& 7).toInt = 2 ∨ (x &&& 7).toInt = 3 ∨ (x &&& 7).toInt = 4 ∨ (x &&& 7).toInt = 5 ∨ (x &&& 7).toInt = 6 ∨ (x &&& 7).toInt = 7 := by omega
  refine ⟨_, rfl, ?_⟩
  rcases h with h | h | h | h | h | h | h | h
  · exact Or.inl (k _ _ h (by omega))
  · exact Or.inr (Or.inl (k _ _ h (by omega)))
  · exact Or.inr (Or.inr (Or.inl (k _ _ h (by omega))))
  · exact Or.inr (Or.inr (Or.inr (Or.inl (k _ _ h (by omega)))))
  · exact Or.inr (Or.inr (Or.inr (Or.inr (Or.inl (k _ _ h (by omega))))))
  · exact Or.inr (Or.inr (Or.inr (Or.inr (Or.inr (Or.inl (k _ _ h (by omega)))))))
  · exact Or.inr (Or.inr (Or.inr (Or.inr (Or.inr (Or.inr (Or.inl (k _ _ h (by omega))))))))
  · exact Or.inr (Or.inr (Or.inr (Or.inr (Or.inr (Or.inr (Or.inr ((k _ _ h (by omega)))))))))
theorem w3 : Jvm.Cond.code N13 method_3_code (5 : Nat) (Option.some Jvm.ClassFile.FieldType.char) ∈ tables_1 := List.mem_of_getElem? (i := 3) rfl
theorem pd_N13 : parseMethodDescriptor N13.desc = some ⟨[.long, .int], (some .char)⟩ := by decide +kernel
theorem w0 : Jvm.Cond.methodLink "com/example/autowire/autowire/beans/PlaceholdersHoldsPlaceholderPinLaw" (7 : Nat) N13 ∈ tables_1 := List.mem_of_getElem? (i := 0) rfl
theorem w1 : Jvm.Cond.static N13 ∈ tables_1 := List.mem_of_getElem? (i := 1) rfl
theorem w47 : Jvm.Cond.code N21 prog_20_method_3_code (2 : Nat) (Option.some Jvm.ClassFile.FieldType.boolean) ∈ tables_1 := List.mem_of_getElem? (i := 47) rfl
theorem pd_N21 : parseMethodDescriptor N21.desc = some ⟨[(.object "java/lang/String")], (some .boolean)⟩ := by decide +kernel
theorem w44 : Jvm.Cond.methodLink "com/example/autowire/autowire/beans/PlaceholdersHoldsPlaceholderPinLaw" (21 : Nat) N21 ∈ tables_1 := List.mem_of_getElem? (i := 44) rfl
theorem w45 : Jvm.Cond.static N21 ∈ tables_1 := List.mem_of_getElem? (i := 45) rfl
theorem w7 : Jvm.Cond.code N14 method_4_code (8 : Nat) (Option.some (Jvm.ClassFile.FieldType.object "java/lang/String")) ∈ tables_1 := List.mem_of_getElem? (i := 7) rfl
theorem pd_N14 : parseMethodDescriptor N14.desc = some ⟨[.int, .char, .char, .char, .char, .char, .char, .char], (some (.object "java/lang/String"))⟩ := by decide +kernel
theorem w5 : Jvm.Cond.methodLink "com/example/autowire/autowire/beans/PlaceholdersHoldsPlaceholderPinLaw" (13 : Nat) N14 ∈ tables_1 := List.mem_of_getElem? (i := 5) rfl
theorem w6 : Jvm.Cond.static N14 ∈ tables_1 := List.mem_of_getElem? (i := 6) rfl
theorem w40 : Jvm.Cond.code N16 method_5_code (4 : Nat) (Option.some Jvm.ClassFile.FieldType.int) ∈ tables_1 := List.mem_of_getElem? (i := 40) rfl
theorem pd_N16 : parseMethodDescriptor N16.desc = some ⟨[.int, .char, .int, .int], (some .int)⟩ := by decide +kernel
theorem w38 : Jvm.Cond.methodLink "com/example/autowire/autowire/beans/PlaceholdersHoldsPlaceholderPinLaw" (17 : Nat) N16 ∈ tables_1 := List.mem_of_getElem? (i := 38) rfl
theorem w39 : Jvm.Cond.static N16 ∈ tables_1 := List.mem_of_getElem? (i := 39) rfl
abbrev N22 : MethodName := ⟨"com/example/autowire/autowire/beans/PlaceholdersHoldsPlaceholderPinLaw", "law", "(JI)Z"⟩
set_option maxRecDepth 65536 in
set_option maxHeartbeats 40000000 in
theorem ct_law (l : Launch) {Z : State} {n0 : Nat} {z : Int32} {f : Value} (W : Sx Z z f) (u : Int64) (sh : Int32) (h : Heap) : Ctr l Z n0 x code maxLocals ret room_1 #[(.long u), (.int sh)] h [] (fun v h' sn => v = some (.int 1) ∧ True) := by
  refine Ctr.of_go (ls := #[.val (.long u), .second, .val (.int sh), .unset, .unset, .unset, .unset, .unset, .unset, .unset, .unset, .unset, .unset, .unset, .unset]) W.1 (plainFor_of_name pn_N13) (fun m => by simp [entryFrame, mkF, argsToLocals, Value.category, maxLocals]) (fun K H0 => ?_)
  have H : Ok Z K "com/example/autowire/autowire/beans/PlaceholdersHoldsPlaceholderPinLaw" code 15 (some .boolean) "law" := H0
  obtain ⟨n, hn, hn8⟩ := own_and7 sh
  refine Go.iloadN H at_0 rfl rfl ?_
  refine Go.bipush (7 : Int32) H at_1 rfl rfl ?_
  refine Go.iand H at_3 rfl ?_
  rw [hn]
  refine Go.istoreN (ls' := #[.val (.long u), .second, .val (.int sh), .val (.int n), .unset, .unset, .unset, .unset, .unset, .unset, .unset, .unset, .unset, .unset, .unset]) H at_4 rfl rfl ?_
  refine Go.iloadN H at_5 rfl rfl ?_
  refine Go.iconst (3 : Int32) H at_6 rfl rfl ?_
  refine Go.iushr H at_7 rfl ?_
  refine Go.bipush (7 : Int32) H at_8 rfl rfl ?_
  refine Go.iand H at_10 rfl ?_
  refine Go.bipush (7 : Int32) H at_11 rfl rfl ?_
  by_cases c1 : (((sh.toUInt32 >>> ((3 : Int32) &&& 31).toUInt32).toInt32) &&& (7 : Int32)) = (7 : Int32)
  ·
    refine Go.icmpN H at_13 (teq c1).2 rfl ?_
    refine Go.iconst (1 : Int32) H at_16 rfl rfl ?_
    refine Go.goto (pc' := 21) H at_17 (by decide) (by decide) ?_
    refine Go.istore (ls' := #[.val (.long u), .second, .val (.int sh), .val (.int n), .val (.int (1 : Int32)), .unset, .unset, .unset, .unset, .unset, .unset, .unset, .unset, .unset, .unset]) H at_21 rfl rfl ?_
    refine Go.lloadN H at_23 rfl rfl ?_
    refine Go.iconst (0 : Int32) H at_24 rfl rfl ?_
    refine Go.callS (rest := []) 0 [(.long u), (.int (0 : Int32))] H at_25 rfl w0 w1 w2 w3 pd_N13 (ct_ch0 l W u h) all0 rfl rfl rfl (Nat.le_of_eq rfl) (by decide) (by decide) (by decide) (by decide) nh_N15 ?_
    rintro _ h2 _ ⟨rfl, E3, rfl⟩
    show Go _ _ _ _ _ _ h2 [] 0 0 28 #[.val (.long u), .second, .val (.int sh), .val (.int n), .val (.int (1 : Int32)), .unset, .unset, .unset, .unset, .unset, .unset, .unset, .unset, .unset, .unset] [(.int (chF0 u))]
    refine Go.istore (ls' := #[.val (.long u), .second, .val (.int sh), .val (.int n), .val (.int (1 : Int32)), .val (.int (chF0 u)), .unset, .unset, .unset, .unset, .unset, .unset, .unset, .unset, .unset]) H at_28 rfl rfl ?_
    refine Go.lloadN H at_30 rfl rfl ?_
    refine Go.iconst (1 : Int32) H at_31 rfl rfl ?_
    refine Go.callS (rest := []) 0 [(.long u), (.int (1 : Int32))] H at_32 rfl w0 w1 w2 w3 pd_N13 (ct_ch1 l W u h2) all0 rfl rfl rfl (Nat.le_of_eq rfl) (by decide) (by decide) (by decide) (by decide) nh_N15 ?_
    rintro _ h4 _ ⟨rfl, E5, rfl⟩
    show Go _ _ _ _ _ _ h4 [] 0 0 35 #[.val (.long u), .second, .val (.int sh), .val (.int n), .val (.int (1 : Int32)), .val (.int (chF0 u)), .unset, .unset, .unset, .unset, .unset, .unset, .unset, .unset, .unset] [(.int (chF1 u))]
    refine Go.istore (ls' := #[.val (.long u), .second, .val (.int sh), .val (.int n), .val (.int (1 : Int32)), .val (.int (chF0 u)), .val (.int (chF1 u)), .unset, .unset, .unset, .unset, .unset, .unset, .unset, .unset]) H at_35 rfl rfl ?_
    refine Go.lloadN H at_37 rfl rfl ?_
    refine Go.iconst (2 : Int32) H at_38 rfl rfl ?_
    refine Go.callS (rest := []) 0 [(.long u), (.int (2 : Int32))] H at_39 rfl w0 w1 w2 w3 pd_N13 (ct_ch2 l W u h4) all0 rfl rfl rfl (Nat.le_of_eq rfl) (by decide) (by decide) (by decide) (by decide) nh_N15 ?_
    rintro _ h6 _ ⟨rfl, E7, rfl⟩
    show Go _ _ _ _ _ _ h6 [] 0 0 42 #[.val (.long u), .second, .val (.int sh), .val (.int n), .val (.int (1 : Int32)), .val (.int (chF0 u)), .val (.int (chF1 u)), .unset, .unset, .unset, .unset, .unset, .unset, .unset, .unset] [(.int (chF2 u))]
    refine Go.istore (ls' := #[.val (.long u), .second, .val (.int sh), .val (.int n), .val (.int (1 : Int32)), .val (.int (chF0 u)), .val (.int (chF1 u)), .val (.int (chF2 u)), .unset, .unset, .unset, .unset, .unset, .unset, .unset]) H at_42 rfl rfl ?_
    refine Go.lloadN H at_44 rfl rfl ?_
    refine Go.iconst (3 : Int32) H at_45 rfl rfl ?_
    refine Go.callS (rest := []) 0 [(.long u), (.int (3 : Int32))] H at_46 rfl w0 w1 w2 w3 pd_N13 (ct_ch3 l W u h6) all0 rfl rfl rfl (Nat.le_of_eq rfl) (by decide) (by decide) (by decide) (by decide) nh_N15 ?_
    rintro _ h8 _ ⟨rfl, E9, rfl⟩
    show Go _ _ _ _ _ _ h8 [] 0 0 49 #[.val (.long u), .second, .val (.int sh), .val (.int n), .val (.int (1 : Int32)), .val (.int (chF0 u)), .val (.int (chF1 u)), .val (.int (chF2 u)), .unset, .unset, .unset, .unset, .unset, .unset, .unset] [(.int (chF3 u))]
    refine Go.istore (ls' := #[.val (.long u), .second, .val (.int sh), .val (.int n), .val (.int (1 : Int32)), .val (.int (chF0 u)), .val (.int (chF1 u)), .val (.int (chF2 u)), .val (.int (chF3 u)), .unset, .unset, .unset, .unset, .unset, .unset]) H at_49 rfl rfl ?_
    refine Go.lloadN H at_51 rfl rfl ?_
    refine Go.iconst (4 : Int32) H at_52 rfl rfl ?_
    refine Go.callS (rest := []) 0 [(.long u), (.int (4 : Int32))] H at_53 rfl w0 w1 w2 w3 pd_N13 (ct_ch4 l W u h8) all0 rfl rfl rfl (Nat.le_of_eq rfl) (by decide) (by decide) (by decide) (by decide) nh_N15 ?_
    rintro _ h10 _ ⟨rfl, E11, rfl⟩
    show Go _ _ _ _ _ _ h10 [] 0 0 56 #[.val (.long u), .second, .val (.int sh), .val (.int n), .val (.int (1 : Int32)), .val (.int (chF0 u)), .val (.int (chF1 u)), .val (.int (chF2 u)), .val (.int (chF3 u)), .unset, .unset, .unset, .unset, .unset, .unset] [(.int (chF4 u))]
    refine Go.istore (ls' := #[.val (.long u), .second, .val (.int sh), .val (.int n), .val (.int (1 : Int32)), .val (.int (chF0 u)), .val (.int (chF1 u)), .val (.int (chF2 u)), .val (.int (chF3 u)), .val (.int (chF4 u)), .unset, .unset, .unset, .unset, .unset]) H at_56 rfl rfl ?_
    refine Go.lloadN H at_58 rfl rfl ?_
    refine Go.iconst (5 : Int32) H at_59 rfl rfl ?_
    refine Go.callS (rest := []) 0 [(.long u), (.int (5 : Int32))] H at_60 rfl w0 w1 w2 w3 pd_N13 (ct_ch5 l W u h10) all0 rfl rfl rfl (Nat.le_of_eq rfl) (by decide) (by decide) (by decide) (by decide) nh_N15 ?_
    rintro _ h12 _ ⟨rfl, E13, rfl⟩
    show Go _ _ _ _ _ _ h12 [] 0 0 63 #[.val (.long u), .second, .val (.int sh), .val (.int n), .val (.int (1 : Int32)), .val (.int (chF0 u)), .val (.int (chF1 u)), .val (.int (chF2 u)), .val (.int (chF3 u)), .val (.int (chF4 u)), .unset, .unset, .unset, .unset, .unset] [(.int (chF5 u))]
    refine Go.istore (ls' := #[.val (.long u), .second, .val (.int sh), .val (.int n), .val (.int (1 : Int32)), .val (.int (chF0 u)), .val (.int (chF1 u)), .val (.int (chF2 u)), .val (.int (chF3 u)), .val (.int (chF4 u)), .val (.int (chF5 u)), .unset, .unset, .unset, .unset]) H at_63 rfl rfl ?_
    refine Go.lloadN H at_65 rfl rfl ?_
    refine Go.bipush (6 : Int32) H at_66 rfl rfl ?_
    refine Go.callS (rest := []) 0 [(.long u), (.int (6 : Int32))] H at_68 rfl w0 w1 w2 w3 pd_N13 (ct_ch6 l W u h12) all0 rfl rfl rfl (Nat.le_of_eq rfl) (by decide) (by decide) (by decide) (by decide) nh_N15 ?_
    rintro _ h14 _ ⟨rfl, E15, rfl⟩
    show Go _ _ _ _ _ _ h14 [] 0 0 71 #[.val (.long u), .second, .val (.int sh), .val (.int n), .val (.int (1 : Int32)), .val (.int (chF0 u)), .val (.int (chF1 u)), .val (.int (chF2 u)), .val (.int (chF3 u)), .val (.int (chF4 u)), .val (.int (chF5 u)), .unset, .unset, .unset, .unset] [(.int (chF6 u))]
    refine Go.istore (ls' := #[.val (.long u), .second, .val (.int sh), .val (.int n), .val (.int (1 : Int32)), .val (.int (chF0 u)), .val (.int (chF1 u)), .val (.int (chF2 u)), .val (.int (chF3 u)), .val (.int (chF4 u)), .val (.int (chF5 u)), .val (.int (chF6 u)), .unset, .unset, .unset]) H at_71 rfl rfl ?_
    refine Go.iload H at_73 rfl rfl ?_
    refine Go.ifN H at_75 (by decide) rfl ?_
    refine Go.aconstNull H at_78 rfl ?_
    refine Go.goto (pc' := 100) H at_79 (by decide) (by decide) ?_
    refine Go.astore (ls' := #[.val (.long u), .second, .val (.int sh), .val (.int n), .val (.int (1 : Int32)), .val (.int (chF0 u)), .val (.int (chF1 u)), .val (.int (chF2 u)), .val (.int (chF3 u)), .val (.int (chF4 u)), .val (.int (chF5 u)), .val (.int (chF6 u)), .val .null, .unset, .unset]) H at_100 rfl rfl rfl ?_
    refine Go.iload H at_102 rfl rfl ?_
    refine Go.ifN H at_104 (by decide) rfl ?_
    refine Go.iconst (0 : Int32) H at_107 rfl rfl ?_
    refine Go.istore (ls' := #[.val (.long u), .second, .val (.int sh), .val (.int n), .val (.int (1 : Int32)), .val (.int (chF0 u)), .val (.int (chF1 u)), .val (.int (chF2 u)), .val (.int (chF3 u)), .val (.int (chF4 u)), .val (.int (chF5 u)), .val (.int (chF6 u)), .val .null, .val (.int (0 : Int32)), .unset]) H at_108 rfl rfl ?_
    refine Go.goto (pc' := 207) H at_110 (by decide) (by decide) ?_
    refine Go.aload H at_207 rfl rfl rfl ?_
    refine Go.callS (rest := []) 0 [.null] H at_209 rfl w44 w45 w46 w47 pd_N21 (ct_hpn l W h14) all0 rfl rfl rfl (Nat.le_of_eq rfl) (by decide) (by decide) (by decide) (by decide) nh_N20 ?_
    rintro _ h16 _ ⟨rfl, E17, rfl⟩
    show Go _ _ _ _ _ _ h16 [] 0 0 212 #[.val (.long u), .second, .val (.int sh), .val (.int n), .val (.int (1 : Int32)), .val (.int (chF0 u)), .val (.int (chF1 u)), .val (.int (chF2 u)), .val (.int (chF3 u)), .val (.int (chF4 u)), .val (.int (chF5 u)), .val (.int (chF6 u)), .val .null, .val (.int (0 : Int32)), .unset] [(.int (0 : Int32))]
    refine Go.iload H at_212 rfl rfl ?_
    refine Go.icmpN H at_214 (by decide) rfl ?_
    refine Go.iconst (1 : Int32) H at_217 rfl rfl ?_
    refine Go.goto (pc' := 222) H at_218 (by decide) (by decide) ?_
    exact Go.ireturn 1 [] H at_222 (by simp) (by decide) ⟨rfl, trivial⟩ all0 (by decide) (by decide)
  ·
    refine Go.icmpY (pc' := 20) H at_13 (feq c1).2 (by decide) (by decide) ?_
    refine Go.iconst (0 : Int32) H at_20 rfl rfl ?_
    refine Go.istore (ls' := #[.val (.long u), .second, .val (.int sh), .val (.int n), .val (.int (0 : Int32)), .unset, .unset, .unset, .unset, .unset, .unset, .unset, .unset, .unset, .unset]) H at_21 rfl rfl ?_
    refine Go.lloadN H at_23 rfl rfl ?_
    refine Go.iconst (0 : Int32) H at_24 rfl rfl ?_
    refine Go.callS (rest := []) 0 [(.long u), (.int (0 : Int32))] H at_25 rfl w0 w1 w2 w3 pd_N13 (ct_ch0 l W u h) all0 rfl rfl rfl (Nat.le_of_eq rfl) (by decide) (by decide) (by decide) (by decide) nh_N15 ?_
    rintro _ h18 _ ⟨rfl, E19, rfl⟩
    show Go _ _ _ _ _ _ h18 [] 0 0 28 #[.val (.long u), .second, .val (.int sh), .val (.int n), .val (.int (0 : Int32)), .unset, .unset, .unset, .unset, .unset, .unset, .unset, .unset, .unset, .unset] [(.int (chF0 u))]
    refine Go.istore (ls' := #[.val (.long u), .second, .val (.int sh), .val (.int n), .val (.int (0 : Int32)), .val (.int (chF0 u)), .unset, .unset, .unset, .unset, .unset, .unset, .unset, .unset, .unset]) H at_28 rfl rfl ?_
    refine Go.lloadN H at_30 rfl rfl ?_
    refine Go.iconst (1 : Int32) H at_31 rfl rfl ?_
    refine Go.callS (rest := []) 0 [(.long u), (.int (1 : Int32))] H at_32 rfl w0 w1 w2 w3 pd_N13 (ct_ch1 l W u h18) all0 rfl rfl rfl (Nat.le_of_eq rfl) (by decide) (by decide) (by decide) (by decide) nh_N15 ?_
    rintro _ h20 _ ⟨rfl, E21, rfl⟩
    show Go _ _ _ _ _ _ h20 [] 0 0 35 #[.val (.long u), .second, .val (.int sh), .val (.int n), .val (.int (0 : Int32)), .val (.int (chF0 u)), .unset, .unset, .unset, .unset, .unset, .unset, .unset, .unset, .unset] [(.int (chF1 u))]
    refine Go.istore (ls' := #[.val (.long u), .second, .val (.int sh), .val (.int n), .val (.int (0 : Int32)), .val (.int (chF0 u)), .val (.int (chF1 u)), .unset, .unset, .unset, .unset, .unset, .unset, .unset, .unset]) H at_35 rfl rfl ?_
    refine Go.lloadN H at_37 rfl rfl ?_
    refine Go.iconst (2 : Int32) H at_38 rfl rfl ?_
    refine Go.callS (rest := []) 0 [(.long u), (.int (2 : Int32))] H at_39 rfl w0 w1 w2 w3 pd_N13 (ct_ch2 l W u h20) all0 rfl rfl rfl (Nat.le_of_eq rfl) (by decide) (by decide) (by decide) (by decide) nh_N15 ?_
    rintro _ h22 _ ⟨rfl, E23, rfl⟩
    show Go _ _ _ _ _ _ h22 [] 0 0 42 #[.val (.long u), .second, .val (.int sh), .val (.int n), .val (.int (0 : Int32)), .val (.int (chF0 u)), .val (.int (chF1 u)), .unset, .unset, .unset, .unset, .unset, .unset, .unset, .unset] [(.int (chF2 u))]
    refine Go.istore (ls' := #[.val (.long u), .second, .val (.int sh), .val (.int n), .val (.int (0 : Int32)), .val (.int (chF0 u)), .val (.int (chF1 u)), .val (.int (chF2 u)), .unset, .unset, .unset, .unset, .unset, .unset, .unset]) H at_42 rfl rfl ?_
    refine Go.lloadN H at_44 rfl rfl ?_
    refine Go.iconst (3 : Int32) H at_45 rfl rfl ?_
    refine Go.callS (rest := []) 0 [(.long u), (.int (3 : Int32))] H at_46 rfl w0 w1 w2 w3 pd_N13 (ct_ch3 l W u h22) all0 rfl rfl rfl (Nat.le_of_eq rfl) (by decide) (by decide) (by decide) (by decide) nh_N15 ?_
    rintro _ h24 _ ⟨rfl, E25, rfl⟩
    show Go _ _ _ _ _ _ h24 [] 0 0 49 #[.val (.long u), .second, .val (.int sh), .val (.int n), .val (.int (0 : Int32)), .val (.int (chF0 u)), .val (.int (chF1 u)), .val (.int (chF2 u)), .unset, .unset, .unset, .unset, .unset, .unset, .unset] [(.int (chF3 u))]
    refine Go.istore (ls' := #[.val (.long u), .second, .val (.int sh), .val (.int n), .val (.int (0 : Int32)), .val (.int (chF0 u)), .val (.int (chF1 u)), .val (.int (chF2 u)), .val (.int (chF3 u)), .unset, .unset, .unset, .unset, .unset, .unset]) H at_49 rfl rfl ?_
    refine Go.lloadN H at_51 rfl rfl ?_
    refine Go.iconst (4 : Int32) H at_52 rfl rfl ?_
    refine Go.callS (rest := []) 0 [(.long u), (.int (4 : Int32))] H at_53 rfl w0 w1 w2 w3 pd_N13 (ct_ch4 l W u h24) all0 rfl rfl rfl (Nat.le_of_eq rfl) (by decide) (by decide) (by decide) (by decide) nh_N15 ?_
    rintro _ h26 _ ⟨rfl, E27, rfl⟩
    show Go _ _ _ _ _ _ h26 [] 0 0 56 #[.val (.long u), .second, .val (.int sh), .val (.int n), .val (.int (0 : Int32)), .val (.int (chF0 u)), .val (.int (chF1 u)), .val (.int (chF2 u)), .val (.int (chF3 u)), .unset, .unset, .unset, .unset, .unset, .unset] [(.int (chF4 u))]
    refine Go.istore (ls' := #[.val (.long u), .second, .val (.int sh), .val (.int n), .val (.int (0 : Int32)), .val (.int (chF0 u)), .val (.int (chF1 u)), .val (.int (chF2 u)), .val (.int (chF3 u)), .val (.int (chF4 u)), .unset, .unset, .unset, .unset, .unset]) H at_56 rfl rfl ?_
    refine Go.lloadN H at_58 rfl rfl ?_
    refine Go.iconst (5 : Int32) H at_59 rfl rfl ?_
    refine Go.callS (rest := []) 0 [(.long u), (.int (5 : Int32))] H at_60 rfl w0 w1 w2 w3 pd_N13 (ct_ch5 l W u h26) all0 rfl rfl rfl (Nat.le_of_eq rfl) (by decide) (by decide) (by decide) (by decide) nh_N15 ?_
    rintro _ h28 _ ⟨rfl, E29, rfl⟩
    show Go _ _ _ _ _ _ h28 [] 0 0 63 #[.val (.long u), .second, .val (.int sh), .val (.int n), .val (.int (0 : Int32)), .val (.int (chF0 u)), .val (.int (chF1 u)), .val (.int (chF2 u)), .val (.int (chF3 u)), .val (.int (chF4 u)), .unset, .unset, .unset, .unset, .unset] [(.int (chF5 u))]
    refine Go.istore (ls' := #[.val (.long u), .second, .val (.int sh), .val (.int n), .val (.int (0 : Int32)), .val (.int (chF0 u)), .val (.int (chF1 u)), .val (.int (chF2 u)), .val (.int (chF3 u)), .val (.int (chF4 u)), .val (.int (chF5 u)), .unset, .unset, .unset, .unset]) H at_63 rfl rfl ?_
    refine Go.lloadN H at_65 rfl rfl ?_
    refine Go.bipush (6 : Int32) H at_66 rfl rfl ?_
    refine Go.callS (rest := []) 0 [(.long u), (.int (6 : Int32))] H at_68 rfl w0 w1 w2 w3 pd_N13 (ct_ch6 l W u h28) all0 rfl rfl rfl (Nat.le_of_eq rfl) (by decide) (by decide) (by decide) (by decide) nh_N15 ?_
    rintro _ h30 _ ⟨rfl, E31, rfl⟩
    show Go _ _ _ _ _ _ h30 [] 0 0 71 #[.val (.long u), .second, .val (.int sh), .val (.int n), .val (.int (0 : Int32)), .val (.int (chF0 u)), .val (.int (chF1 u)), .val (.int (chF2 u)), .val (.int (chF3 u)), .val (.int (chF4 u)), .val (.int (chF5 u)), .unset, .unset, .unset, .unset] [(.int (chF6 u))]
    refine Go.istore (ls' := #[.val (.long u), .second, .val (.int sh), .val (.int n), .val (.int (0 : Int32)), .val (.int (chF0 u)), .val (.int (chF1 u)), .val (.int (chF2 u)), .val (.int (chF3 u)), .val (.int (chF4 u)), .val (.int (chF5 u)), .val (.int (chF6 u)), .unset, .unset, .unset]) H at_71 rfl rfl ?_
    refine Go.iload H at_73 rfl rfl ?_
    refine Go.ifY (pc' := 82) H at_75 (by decide) (by decide) (by decide) ?_
    rcases hn8 with rfl | rfl | rfl | rfl | rfl | rfl | rfl | rfl
    ·
      show Go _ _ _ _ _ _ h30 [] 0 0 82 #[.val (.long u), .second, .val (.int sh), .val (.int (0 : Int32)), .val (.int (0 : Int32)), .val (.int (chF0 u)), .val (.int (chF1 u)), .val (.int (chF2 u)), .val (.int (chF3 u)), .val (.int (chF4 u)), .val (.int (chF5 u)), .val (.int (chF6 u)), .unset, .unset, .unset] []
      refine Go.iloadN H at_82 rfl rfl ?_
      refine Go.iload H at_83 rfl rfl ?_
      refine Go.iload H at_85 rfl rfl ?_
      refine Go.iload H at_87 rfl rfl ?_
      refine Go.iload H at_89 rfl rfl ?_
      refine Go.iload H at_91 rfl rfl ?_
      refine Go.iload H at_93 rfl rfl ?_
      refine Go.iload H at_95 rfl rfl ?_
      refine Go.callS (rest := []) 0 [(.int (0 : Int32)), (.int (chF0 u)), (.int (chF1 u)), (.int (chF2 u)), (.int (chF3 u)), (.int (chF4 u)), (.int (chF5 u)), (.int (chF6 u))] H at_97 rfl w5 w6 w2 w7 pd_N14 (ct_make0 l W (chF0 u) (chF1 u) (chF2 u) (chF3 u) (chF4 u) (chF5 u) (chF6 u) h30 (chF0_l _) (chF1_l _) (chF2_l _) (chF3_l _) (chF4_l _) (chF5_l _) (chF6_l _)) all0 rfl rfl rfl (Nat.le_of_eq rfl) (by decide) (by decide) (by decide) (by decide) nh_N15 ?_
      rintro _ h34 _ ⟨a32, b33, rfl, E35, g36, S37, rfl⟩
      show Go _ _ _ _ _ _ h34 [] 6 12 100 #[.val (.long u), .second, .val (.int sh), .val (.int (0 : Int32)), .val (.int (0 : Int32)), .val (.int (chF0 u)), .val (.int (chF1 u)), .val (.int (chF2 u)), .val (.int (chF3 u)), .val (.int (chF4 u)), .val (.int (chF5 u)), .val (.int (chF6 u)), .unset, .unset, .unset] [(.ref a32)]
      refine Go.astore (ls' := #[.val (.long u), .second, .val (.int sh), .val (.int (0 : Int32)), .val (.int (0 : Int32)), .val (.int (chF0 u)), .val (.int (chF1 u)), .val (.int (chF2 u)), .val (.int (chF3 u)), .val (.int (chF4 u)), .val (.int (chF5 u)), .val (.int (chF6 u)), .val (.ref a32), .unset, .unset]) H at_100 rfl rfl rfl ?_
      refine Go.iload H at_102 rfl rfl ?_
      refine Go.ifY (pc' := 113) H at_104 (by decide) (by decide) (by decide) ?_
      refine Go.iconst (0 : Int32) H at_113 rfl rfl ?_
      refine Go.istore (ls' := #[.val (.long u), .second, .val (.int sh), .val (.int (0 : Int32)), .val (.int (0 : Int32)), .val (.int (chF0 u)), .val (.int (chF1 u)), .val (.int (chF2 u)), .val (.int (chF3 u)), .val (.int (chF4 u)), .val (.int (chF5 u)), .val (.int (chF6 u)), .val (.ref a32), .unset, .val (.int (0 : Int32))]) H at_114 rfl rfl ?_
      refine Go.iload H at_116 rfl rfl ?_
      refine Go.iload H at_118 rfl rfl ?_
      refine Go.iconst (0 : Int32) H at_120 rfl rfl ?_
      refine Go.iloadN H at_121 rfl rfl ?_
      refine Go.callS (rest := []) 0 [(.int (0 : Int32)), (.int (chF0 u)), (.int (0 : Int32)), (.int (0 : Int32))] H at_122 rfl w38 w39 w2 w40 pd_N16 (ct_sifF l W (0 : Int32) (chF0 u) (0 : Int32) (0 : Int32) h34 (by decide)) all0 rfl rfl rfl (Nat.le_of_eq rfl) (by decide) (by decide) (by decide) (by decide) nh_N15 ?_
      rintro _ _ _ ⟨rfl, rfl, rfl⟩
      show Go _ _ _ _ _ _ h34 [] 6 12 125 #[.val (.long u), .second, .val (.int sh), .val (.int (0 : Int32)), .val (.int (0 : Int32)), .val (.int (chF0 u)), .val (.int (chF1 u)), .val (.int (chF2 u)), .val (.int (chF3 u)), .val (.int (chF4 u)), .val (.int (chF5 u)), .val (.int (chF6 u)), .val (.ref a32), .unset, .val (.int (0 : Int32))] [(.int (0 : Int32))]
      refine Go.istore (ls' := #[.val (.long u), .second, .val (.int sh), .val (.int (0 : Int32)), .val (.int (0 : Int32)), .val (.int (chF0 u)), .val (.int (chF1 u)), .val (.int (chF2 u)), .val (.int (chF3 u)), .val (.int (chF4 u)), .val (.int (chF5 u)), .val (.int (chF6 u)), .val (.ref a32), .unset, .val (.int (0 : Int32))]) H at_125 rfl rfl ?_
      refine Go.iload H at_127 rfl rfl ?_
      refine Go.iload H at_129 rfl rfl ?_
      refine Go.iconst (1 : Int32) H at_131 rfl rfl ?_
      refine Go.iloadN H at_132 rfl rfl ?_
      refine Go.callS (rest := []) 0 [(.int (0 : Int32)), (.int (chF1 u)), (.int (1 : Int32)), (.int (0 : Int32))] H at_133 rfl w38 w39 w2 w40 pd_N16 (ct_sifF l W (0 : Int32) (chF1 u) (1 : Int32) (0 : Int32) h34 (by decide)) all0 rfl rfl rfl (Nat.le_of_eq rfl) (by decide) (by decide) (by decide) (by decide) nh_N15 ?_
      rintro _ _ _ ⟨rfl, rfl, rfl⟩
      show Go _ _ _ _ _ _ h34 [] 6 12 136 #[.val (.long u), .second, .val (.int sh), .val (.int (0 : Int32)), .val (.int (0 : Int32)), .val (.int (chF0 u)), .val (.int (chF1 u)), .val (.int (chF2 u)), .val (.int (chF3 u)), .val (.int (chF4 u)), .val (.int (chF5 u)), .val (.int (chF6 u)), .val (.ref a32), .unset, .val (.int (0 : Int32))] [(.int (0 : Int32))]
      refine Go.istore (ls' := #[.val (.long u), .second, .val (.int sh), .val (.int (0 : Int32)), .val (.int (0 : Int32)), .val (.int (chF0 u)), .val (.int (chF1 u)), .val (.int (chF2 u)), .val (.int (chF3 u)), .val (.int (chF4 u)), .val (.int (chF5 u)), .val (.int (chF6 u)), .val (.ref a32), .unset, .val (.int (0 : Int32))]) H at_136 rfl rfl ?_
      refine Go.iload H at_138 rfl rfl ?_
      refine Go.iload H at_140 rfl rfl ?_
      refine Go.iconst (2 : Int32) H at_142 rfl rfl ?_
      refine Go.iloadN H at_143 rfl rfl ?_
      refine Go.callS (rest := []) 0 [(.int (0 : Int32)), (.int (chF2 u)), (.int (2 : Int32)), (.int (0 : Int32))] H at_144 rfl w38 w39 w2 w40 pd_N16 (ct_sifF l W (0 : Int32) (chF2 u) (2 : Int32) (0 : Int32) h34 (by decide)) all0 rfl rfl rfl (Nat.le_of_eq rfl) (by decide) (by decide) (by decide) (by decide) nh_N15 ?_
      rintro _ _ _ ⟨rfl, rfl, rfl⟩
      show Go _ _ _ _ _ _ h34 [] 6 12 147 #[.val (.long u), .second, .val (.int sh), .val (.int (0 : Int32)), .val (.int (0 : Int32)), .val (.int (chF0 u)), .val (.int (chF1 u)), .val (.int (chF2 u)), .val (.int (chF3 u)), .val (.int (chF4 u)), .val (.int (chF5 u)), .val (.int (chF6 u)), .val (.ref a32), .unset, .val (.int (0 : Int32))] [(.int (0 : Int32))]
      refine Go.istore (ls' := #[.val (.long u), .second, .val (.int sh), .val (.int (0 : Int32)), .val (.int (0 : Int32)), .val (.int (chF0 u)), .val (.int (chF1 u)), .val (.int (chF2 u)), .val (.int (chF3 u)), .val (.int (chF4 u)), .val (.int (chF5 u)), .val (.int (chF6 u)), .val (.ref a32), .unset, .val (.int (0 : Int32))]) H at_147 rfl rfl ?_
      refine Go.iload H at_149 rfl rfl ?_
      refine Go.iload H at_151 rfl rfl ?_
      refine Go.iconst (3 : Int32) H at_153 rfl rfl ?_
      refine Go.iloadN H at_154 rfl rfl ?_
      refine Go.callS (rest := []) 0 [(.int (0 : Int32)), (.int (chF3 u)), (.int (3 : Int32)), (.int (0 : Int32))] H at_155 rfl w38 w39 w2 w40 pd_N16 (ct_sifF l W (0 : Int32) (chF3 u) (3 : Int32) (0 : Int32) h34 (by decide)) all0 rfl rfl rfl (Nat.le_of_eq rfl) (by decide) (by decide) (by decide) (by decide) nh_N15 ?_
      rintro _ _ _ ⟨rfl, rfl, rfl⟩
      show Go _ _ _ _ _ _ h34 [] 6 12 158 #[.val (.long u), .second, .val (.int sh), .val (.int (0 : Int32)), .val (.int (0 : Int32)), .val (.int (chF0 u)), .val (.int (chF1 u)), .val (.int (chF2 u)), .val (.int (chF3 u)), .val (.int (chF4 u)), .val (.int (chF5 u)), .val (.int (chF6 u)), .val (.ref a32), .unset, .val (.int (0 : Int32))] [(.int (0 : Int32))]
      refine Go.istore (ls' := #[.val (.long u), .second, .val (.int sh), .val (.int (0 : Int32)), .val (.int (0 : Int32)), .val (.int (chF0 u)), .val (.int (chF1 u)), .val (.int (chF2 u)), .val (.int (chF3 u)), .val (.int (chF4 u)), .val (.int (chF5 u)), .val (.int (chF6 u)), .val (.ref a32), .unset, .val (.int (0 : Int32))]) H at_158 rfl rfl ?_
      refine Go.iload H at_160 rfl rfl ?_
      refine Go.iload H at_162 rfl rfl ?_
      refine Go.iconst (4 : Int32) H at_164 rfl rfl ?_
      refine Go.iloadN H at_165 rfl rfl ?_
      refine Go.callS (rest := []) 0 [(.int (0 : Int32)), (.int (chF4 u)), (.int (4 : Int32)), (.int (0 : Int32))] H at_166 rfl w38 w39 w2 w40 pd_N16 (ct_sifF l W (0 : Int32) (chF4 u) (4 : Int32) (0 : Int32) h34 (by decide)) all0 rfl rfl rfl (Nat.le_of_eq rfl) (by decide) (by decide) (by decide) (by decide) nh_N15 ?_
      rintro _ _ _ ⟨rfl, rfl, rfl⟩
      show Go _ _ _ _ _ _ h34 [] 6 12 169 #[.val (.long u), .second, .val (.int sh), .val (.int (0 : Int32)), .val (.int (0 : Int32)), .val (.int (chF0 u)), .val (.int (chF1 u)), .val (.int (chF2 u)), .val (.int (chF3 u)), .val (.int (chF4 u)), .val (.int (chF5 u)), .val (.int (chF6 u)), .val (.ref a32), .unset, .val (.int (0 : Int32))] [(.int (0 : Int32))]
      refine Go.istore (ls' := #[.val (.long u), .second, .val (.int sh), .val (.int (0 : Int32)), .val (.int (0 : Int32)), .val (.int (chF0 u)), .val (.int (chF1 u)), .val (.int (chF2 u)), .val (.int (chF3 u)), .val (.int (chF4 u)), .val (.int (chF5 u)), .val (.int (chF6 u)), .val (.ref a32), .unset, .val (.int (0 : Int32))]) H at_169 rfl rfl ?_
      refine Go.iload H at_171 rfl rfl ?_
      refine Go.iload H at_173 rfl rfl ?_
      refine Go.iconst (5 : Int32) H at_175 rfl rfl ?_
      refine Go.iloadN H at_176 rfl rfl ?_
      refine Go.callS (rest := []) 0 [(.int (0 : Int32)), (.int (chF5 u)), (.int (5 : Int32)), (.int (0 : Int32))] H at_177 rfl w38 w39 w2 w40 pd_N16 (ct_sifF l W (0 : Int32) (chF5 u) (5 : Int32) (0 : Int32) h34 (by decide)) all0 rfl rfl rfl (Nat.le_of_eq rfl) (by decide) (by decide) (by decide) (by decide) nh_N15 ?_
      rintro _ _ _ ⟨rfl, rfl, rfl⟩
      show Go _ _ _ _ _ _ h34 [] 6 12 180 #[.val (.long u), .second, .val (.int sh), .val (.int (0 : Int32)), .val (.int (0 : Int32)), .val (.int (chF0 u)), .val (.int (chF1 u)), .val (.int (chF2 u)), .val (.int (chF3 u)), .val (.int (chF4 u)), .val (.int (chF5 u)), .val (.int (chF6 u)), .val (.ref a32), .unset, .val (.int (0 : Int32))] [(.int (0 : Int32))]
      refine Go.istore (ls' := #[.val (.long u), .second, .val (.int sh), .val (.int (0 : Int32)), .val (.int (0 : Int32)), .val (.int (chF0 u)), .val (.int (chF1 u)), .val (.int (chF2 u)), .val (.int (chF3 u)), .val (.int (chF4 u)), .val (.int (chF5 u)), .val (.int (chF6 u)), .val (.ref a32), .unset, .val (.int (0 : Int32))]) H at_180 rfl rfl ?_
      refine Go.iload H at_182 rfl rfl ?_
      refine Go.iload H at_184 rfl rfl ?_
      refine Go.bipush (6 : Int32) H at_186 rfl rfl ?_
      refine Go.iloadN H at_188 rfl rfl ?_
      refine Go.callS (rest := []) 0 [(.int (0 : Int32)), (.int (chF6 u)), (.int (6 : Int32)), (.int (0 : Int32))] H at_189 rfl w38 w39 w2 w40 pd_N16 (ct_sifF l W (0 : Int32) (chF6 u) (6 : Int32) (0 : Int32) h34 (by decide)) all0 rfl rfl rfl (Nat.le_of_eq rfl) (by decide) (by decide) (by decide) (by decide) nh_N15 ?_
      rintro _ _ _ ⟨rfl, rfl, rfl⟩
      show Go _ _ _ _ _ _ h34 [] 6 12 192 #[.val (.long u), .second, .val (.int sh), .val (.int (0 : Int32)), .val (.int (0 : Int32)), .val (.int (chF0 u)), .val (.int (chF1 u)), .val (.int (chF2 u)), .val (.int (chF3 u)), .val (.int (chF4 u)), .val (.int (chF5 u)), .val (.int (chF6 u)), .val (.ref a32), .unset, .val (.int (0 : Int32))] [(.int (0 : Int32))]
      refine Go.istore (ls' := #[.val (.long u), .second, .val (.int sh), .val (.int (0 : Int32)), .val (.int (0 : Int32)), .val (.int (chF0 u)), .val (.int (chF1 u)), .val (.int (chF2 u)), .val (.int (chF3 u)), .val (.int (chF4 u)), .val (.int (chF5 u)), .val (.int (chF6 u)), .val (.ref a32), .unset, .val (.int (0 : Int32))]) H at_192 rfl rfl ?_
      refine Go.iload H at_194 rfl rfl ?_
      refine Go.iconst (-1 : Int32) H at_196 rfl rfl ?_
      refine Go.icmpY (pc' := 204) H at_197 (by decide) (by decide) (by decide) ?_
      refine Go.iconst (0 : Int32) H at_204 rfl rfl ?_
      refine Go.istore (ls' := #[.val (.long u), .second, .val (.int sh), .val (.int (0 : Int32)), .val (.int (0 : Int32)), .val (.int (chF0 u)), .val (.int (chF1 u)), .val (.int (chF2 u)), .val (.int (chF3 u)), .val (.int (chF4 u)), .val (.int (chF5 u)), .val (.int (chF6 u)), .val (.ref a32), .val (.int (0 : Int32)), .val (.int (0 : Int32))]) H at_205 rfl rfl ?_
      refine Go.aload H at_207 rfl rfl rfl ?_
      refine Go.callS (rest := []) 0 [(.ref a32)] H at_209 rfl w44 w45 w46 w47 pd_N21 (ct_hp l W a32 b33 ([] : List Int32) h34 S37 (Nat.le_of_ble_eq_true rfl)) all0 rfl rfl rfl (Nat.le_of_eq rfl) (by decide) (by decide) (by decide) (by decide) nh_N20 ?_
      rintro _ h38 _ ⟨rfl, E39, rfl⟩
      replace S37 := S37.ext E39
      show Go _ _ _ _ _ _ h38 [] 10 36 212 #[.val (.long u), .second, .val (.int sh), .val (.int (0 : Int32)), .val (.int (0 : Int32)), .val (.int (chF0 u)), .val (.int (chF1 u)), .val (.int (chF2 u)), .val (.int (chF3 u)), .val (.int (chF4 u)), .val (.int (chF5 u)), .val (.int (chF6 u)), .val (.ref a32), .val (.int (0 : Int32)), .val (.int (0 : Int32))] [(.int (if holdsL ([] : List Int32) = true then (1 : Int32) else 0))]
      refine Go.iload H at_212 rfl rfl ?_
      refine Go.icmpN H at_214 (teq (by rw [if_neg (by decide)])).2 rfl ?_
      refine Go.iconst (1 : Int32) H at_217 rfl rfl ?_
      refine Go.goto (pc' := 222) H at_218 (by decide) (by decide) ?_
      exact Go.ireturn 1 [] H at_222 (by simp) (by decide) ⟨rfl, trivial⟩ all0 (by decide) (by decide)
    ·
      show Go _ _ _ _ _ _ h30 [] 0 0 82 #[.val (.long u), .second, .val (.int sh), .val (.int (1 : Int32)), .val (.int (0 : Int32)), .val (.int (chF0 u)), .val (.int (chF1 u)), .val (.int (chF2 u)), .val (.int (chF3 u)), .val (.int (chF4 u)), .val (.int (chF5 u)), .val (.int (chF6 u)), .unset, .unset, .unset] []
      refine Go.iloadN H at_82 rfl rfl ?_
      refine Go.iload H at_83 rfl rfl ?_
      refine Go.iload H at_85 rfl rfl ?_
      refine Go.iload H at_87 rfl rfl ?_
      refine Go.iload H at_89 rfl rfl ?_
      refine Go.iload H at_91 rfl rfl ?_
      refine Go.iload H at_93 rfl rfl ?_
      refine Go.iload H at_95 rfl rfl ?_
      refine Go.callS (rest := []) 0 [(.int (1 : Int32)), (.int (chF0 u)), (.int (chF1 u)), (.int (chF2 u)), (.int (chF3 u)), (.int (chF4 u)), (.int (chF5 u)), (.int (chF6 u))] H at_97 rfl w5 w6 w2 w7 pd_N14 (ct_make1 l W (chF0 u) (chF1 u) (chF2 u) (chF3 u) (chF4 u) (chF5 u) (chF6 u) h30 (chF0_l _) (chF1_l _) (chF2_l _) (chF3_l _) (chF4_l _) (chF5_l _) (chF6_l _)) all0 rfl rfl rfl (Nat.le_of_eq rfl) (by decide) (by decide) (by decide) (by decide) nh_N15 ?_
      rintro _ h42 _ ⟨a40, b41, rfl, E43, g44, S45, rfl⟩
      show Go _ _ _ _ _ _ h42 [] 6 13 100 #[.val (.long u), .second, .val (.int sh), .val (.int (1 : Int32)), .val (.int (0 : Int32)), .val (.int (chF0 u)), .val (.int (chF1 u)), .val (.int (chF2 u)), .val (.int (chF3 u)), .val (.int (chF4 u)), .val (.int (chF5 u)), .val (.int (chF6 u)), .unset, .unset, .unset] [(.ref a40)]
      refine Go.astore (ls' := #[.val (.long u), .second, .val (.int sh), .val (.int (1 : Int32)), .val (.int (0 : Int32)), .val (.int (chF0 u)), .val (.int (chF1 u)), .val (.int (chF2 u)), .val (.int (chF3 u)), .val (.int (chF4 u)), .val (.int (chF5 u)), .val (.int (chF6 u)), .val (.ref a40), .unset, .unset]) H at_100 rfl rfl rfl ?_
      refine Go.iload H at_102 rfl rfl ?_
      refine Go.ifY (pc' := 113) H at_104 (by decide) (by decide) (by decide) ?_
      refine Go.iconst (0 : Int32) H at_113 rfl rfl ?_
      refine Go.istore (ls' := #[.val (.long u), .second, .val (.int sh), .val (.int (1 : Int32)), .val (.int (0 : Int32)), .val (.int (chF0 u)), .val (.int (chF1 u)), .val (.int (chF2 u)), .val (.int (chF3 u)), .val (.int (chF4 u)), .val (.int (chF5 u)), .val (.int (chF6 u)), .val (.ref a40), .unset, .val (.int (0 : Int32))]) H at_114 rfl rfl ?_
      refine Go.iload H at_116 rfl rfl ?_
      refine Go.iload H at_118 rfl rfl ?_
      refine Go.iconst (0 : Int32) H at_120 rfl rfl ?_
      refine Go.iloadN H at_121 rfl rfl ?_
      refine Go.callS (rest := []) 0 [(.int (0 : Int32)), (.int (chF0 u)), (.int (0 : Int32)), (.int (1 : Int32))] H at_122 rfl w38 w39 w2 w40 pd_N16 (ct_sifT l W (0 : Int32) (chF0 u) (0 : Int32) (1 : Int32) h42 (by decide)) all0 rfl rfl rfl (Nat.le_of_eq rfl) (by decide) (by decide) (by decide) (by decide) nh_N15 ?_
      rintro _ _ _ ⟨rfl, rfl, rfl⟩
      show Go _ _ _ _ _ _ h42 [] 6 13 125 #[.val (.long u), .second, .val (.int sh), .val (.int (1 : Int32)), .val (.int (0 : Int32)), .val (.int (chF0 u)), .val (.int (chF1 u)), .val (.int (chF2 u)), .val (.int (chF3 u)), .val (.int (chF4 u)), .val (.int (chF5 u)), .val (.int (chF6 u)), .val (.ref a40), .unset, .val (.int (0 : Int32))] [(.int (stepF (0 : Int32) (chF0 u)))]
      refine Go.istore (ls' := #[.val (.long u), .second, .val (.int sh), .val (.int (1 : Int32)), .val (.int (0 : Int32)), .val (.int (chF0 u)), .val (.int (chF1 u)), .val (.int (chF2 u)), .val (.int (chF3 u)), .val (.int (chF4 u)), .val (.int (chF5 u)), .val (.int (chF6 u)), .val (.ref a40), .unset, .val (.int (stepF (0 : Int32) (chF0 u)))]) H at_125 rfl rfl ?_
      refine Go.iload H at_127 rfl rfl ?_
      refine Go.iload H at_129 rfl rfl ?_
      refine Go.iconst (1 : Int32) H at_131 rfl rfl ?_
      refine Go.iloadN H at_132 rfl rfl ?_
      refine Go.callS (rest := []) 0 [(.int (stepF (0 : Int32) (chF0 u))), (.int (chF1 u)), (.int (1 : Int32)), (.int (1 : Int32))] H at_133 rfl w38 w39 w2 w40 pd_N16 (ct_sifF l W (stepF (0 : Int32) (chF0 u)) (chF1 u) (1 : Int32) (1 : Int32) h42 (by decide)) all0 rfl rfl rfl (Nat.le_of_eq rfl) (by decide) (by decide) (by decide) (by decide) nh_N15 ?_
      rintro _ _ _ ⟨rfl, rfl, rfl⟩
      show Go _ _ _ _ _ _ h42 [] 6 13 136 #[.val (.long u), .second, .val (.int sh), .val (.int (1 : Int32)), .val (.int (0 : Int32)), .val (.int (chF0 u)), .val (.int (chF1 u)), .val (.int (chF2 u)), .val (.int (chF3 u)), .val (.int (chF4 u)), .val (.int (chF5 u)), .val (.int (chF6 u)), .val (.ref a40), .unset, .val (.int (stepF (0 : Int32) (chF0 u)))] [(.int (stepF (0 : Int32) (chF0 u)))]
      refine Go.istore (ls' := #[.val (.long u), .second, .val (.int sh), .val (.int (1 : Int32)), .val (.int (0 : Int32)), .val (.int (chF0 u)), .val (.int (chF1 u)), .val (.int (chF2 u)), .val (.int (chF3 u)), .val (.int (chF4 u)), .val (.int (chF5 u)), .val (.int (chF6 u)), .val (.ref a40), .unset, .val (.int (stepF (0 : Int32) (chF0 u)))]) H at_136 rfl rfl ?_
      refine Go.iload H at_138 rfl rfl ?_
      refine Go.iload H at_140 rfl rfl ?_
      refine Go.iconst (2 : Int32) H at_142 rfl rfl ?_
      refine Go.iloadN H at_143 rfl rfl ?_
      refine Go.callS (rest := []) 0 [(.int (stepF (0 : Int32) (chF0 u))), (.int (chF2 u)), (.int (2 : Int32)), (.int (1 : Int32))] H at_144 rfl w38 w39 w2 w40 pd_N16 (ct_sifF l W (stepF (0 : Int32) (chF0 u)) (chF2 u) (2 : Int32) (1 : Int32) h42 (by decide)) all0 rfl rfl rfl (Nat.le_of_eq rfl) (by decide) (by decide) (by decide) (by decide) nh_N15 ?_
      rintro _ _ _ ⟨rfl, rfl, rfl⟩
      show Go _ _ _ _ _ _ h42 [] 6 13 147 #[.val (.long u), .second, .val (.int sh), .val (.int (1 : Int32)), .val (.int (0 : Int32)), .val (.int (chF0 u)), .val (.int (chF1 u)), .val (.int (chF2 u)), .val (.int (chF3 u)), .val (.int (chF4 u)), .val (.int (chF5 u)), .val (.int (chF6 u)), .val (.ref a40), .unset, .val (.int (stepF (0 : Int32) (chF0 u)))] [(.int (stepF (0 : Int32) (chF0 u)))]
      refine Go.istore (ls' := #[.val (.long u), .second, .val (.int sh), .val (.int (1 : Int32)), .val (.int (0 : Int32)), .val (.int (chF0 u)), .val (.int (chF1 u)), .val (.int (chF2 u)), .val (.int (chF3 u)), .val (.int (chF4 u)), .val (.int (chF5 u)), .val (.int (chF6 u)), .val (.ref a40), .unset, .val (.int (stepF (0 : Int32) (chF0 u)))]) H at_147 rfl rfl ?_
      refine Go.iload H at_149 rfl rfl ?_
      refine Go.iload H at_151 rfl rfl ?_
      refine Go.iconst (3 : Int32) H at_153 rfl rfl ?_
      refine Go.iloadN H at_154 rfl rfl ?_
      refine Go.callS (rest := []) 0 [(.int (stepF (0 : Int32) (chF0 u))), (.int (chF3 u)), (.int (3 : Int32)), (.int (1 : Int32))] H at_155 rfl w38 w39 w2 w40 pd_N16 (ct_sifF l W (stepF (0 : Int32) (chF0 u)) (chF3 u) (3 : Int32) (1 : Int32) h42 (by decide)) all0 rfl rfl rfl (Nat.le_of_eq rfl) (by decide) (by decide) (by decide) (by decide) nh_N15 ?_
      rintro _ _ _ ⟨rfl, rfl, rfl⟩
      show Go _ _ _ _ _ _ h42 [] 6 13 158 #[.val (.long u), .second, .val (.int sh), .val (.int (1 : Int32)), .val (.int (0 : Int32)), .val (.int (chF0 u)), .val (.int (chF1 u)), .val (.int (chF2 u)), .val (.int (chF3 u)), .val (.int (chF4 u)), .val (.int (chF5 u)), .val (.int (chF6 u)), .val (.ref a40), .unset, .val (.int (stepF (0 : Int32) (chF0 u)))] [(.int (stepF (0 : Int32) (chF0 u)))]
      refine Go.istore (ls' := #[.val (.long u), .second, .val (.int sh), .val (.int (1 : Int32)), .val (.int (0 : Int32)), .val (.int (chF0 u)), .val (.int (chF1 u)), .val (.int (chF2 u)), .val (.int (chF3 u)), .val (.int (chF4 u)), .val (.int (chF5 u)), .val (.int (chF6 u)), .val (.ref a40), .unset, .val (.int (stepF (0 : Int32) (chF0 u)))]) H at_158 rfl rfl ?_
      refine Go.iload H at_160 rfl rfl ?_
      refine Go.iload H at_162 rfl rfl ?_
      refine Go.iconst (4 : Int32) H at_164 rfl rfl ?_
      refine Go.iloadN H at_165 rfl rfl ?_
      refine Go.callS (rest := []) 0 [(.int (stepF (0 : Int32) (chF0 u))), (.int (chF4 u)), (.int (4 : Int32)), (.int (1 : Int32))] H at_166 rfl w38 w39 w2 w40 pd_N16 (ct_sifF l W (stepF (0 : Int32) (chF0 u)) (chF4 u) (4 : Int32) (1 : Int32) h42 (by decide)) all0 rfl rfl rfl (Nat.le_of_eq rfl) (by decide) (by decide) (by decide) (by decide) nh_N15 ?_
      rintro _ _ _ ⟨rfl, rfl, rfl⟩
      show Go _ _ _ _ _ _ h42 [] 6 13 169 #[.val (.long u), .second, .val (.int sh), .val (.int (1 : Int32)), .val (.int (0 : Int32)), .val (.int (chF0 u)), .val (.int (chF1 u)), .val (.int (chF2 u)), .val (.int (chF3 u)), .val (.int (chF4 u)), .val (.int (chF5 u)), .val (.int (chF6 u)), .val (.ref a40), .unset, .val (.int (stepF (0 : Int32) (chF0 u)))] [(.int (stepF (0 : Int32) (chF0 u)))]
      refine Go.istore (ls' := #[.val (.long u), .second, .val (.int sh), .val (.int (1 : Int32)), .val (.int (0 : Int32)), .val (.int (chF0 u)), .val (.int (chF1 u)), .val (.int (chF2 u)), .val (.int (chF3 u)), .val (.int (chF4 u)), .val (.int (chF5 u)), .val (.int (chF6 u)), .val (.ref a40), .unset, .val (.int (stepF (0 : Int32) (chF0 u)))]) H at_169 rfl rfl ?_
      refine Go.iload H at_171 rfl rfl ?_
      refine Go.iload H at_173 rfl rfl ?_
      refine Go.iconst (5 : Int32) H at_175 rfl rfl ?_
      refine Go.iloadN H at_176 rfl rfl ?_
      refine Go.callS (rest := []) 0 [(.int (stepF (0 : Int32) (chF0 u))), (.int (chF5 u)), (.int (5 : Int32)), (.int (1 : Int32))] H at_177 rfl w38 w39 w2 w40 pd_N16 (ct_sifF l W (stepF (0 : Int32) (chF0 u)) (chF5 u) (5 : Int32) (1 : Int32) h42 (by decide)) all0 rfl rfl rfl (Nat.le_of_eq rfl) (by decide) (by decide) (by decide) (by decide) nh_N15 ?_
      rintro _ _ _ ⟨rfl, rfl, rfl⟩
      show Go _ _ _ _ _ _ h42 [] 6 13 180 #[.val (.long u), .second, .val (.int sh), .val (.int (1 : Int32)), .val (.int (0 : Int32)), .val (.int (chF0 u)), .val (.int (chF1 u)), .val (.int (chF2 u)), .val (.int (chF3 u)), .val (.int (chF4 u)), .val (.int (chF5 u)), .val (.int (chF6 u)), .val (.ref a40), .unset, .val (.int (stepF (0 : Int32) (chF0 u)))] [(.int (stepF (0 : Int32) (chF0 u)))]
      refine Go.istore (ls' := #[.val (.long u), .second, .val (.int sh), .val (.int (1 : Int32)), .val (.int (0 : Int32)), .val (.int (chF0 u)), .val (.int (chF1 u)), .val (.int (chF2 u)), .val (.int (chF3 u)), .val (.int (chF4 u)), .val (.int (chF5 u)), .val (.int (chF6 u)), .val (.ref a40), .unset, .val (.int (stepF (0 : Int32) (chF0 u)))]) H at_180 rfl rfl ?_
      refine Go.iload H at_182 rfl rfl ?_
      refine Go.iload H at_184 rfl rfl ?_
      refine Go.bipush (6 : Int32) H at_186 rfl rfl ?_
      refine Go.iloadN H at_188 rfl rfl ?_
      refine Go.callS (rest := []) 0 [(.int (stepF (0 : Int32) (chF0 u))), (.int (chF6 u)), (.int (6 : Int32)), (.int (1 : Int32))] H at_189 rfl w38 w39 w2 w40 pd_N16 (ct_sifF l W (stepF (0 : Int32) (chF0 u)) (chF6 u) (6 : Int32) (1 : Int32) h42 (by decide)) all0 rfl rfl rfl (Nat.le_of_eq rfl) (by decide) (by decide) (by decide) (by decide) nh_N15 ?_
      rintro _ _ _ ⟨rfl, rfl, rfl⟩
      show Go _ _ _ _ _ _ h42 [] 6 13 192 #[.val (.long u), .second, .val (.int sh), .val (.int (1 : Int32)), .val (.int (0 : Int32)), .val (.int (chF0 u)), .val (.int (chF1 u)), .val (.int (chF2 u)), .val (.int (chF3 u)), .val (.int (chF4 u)), .val (.int (chF5 u)), .val (.int (chF6 u)), .val (.ref a40), .unset, .val (.int (stepF (0 : Int32) (chF0 u)))] [(.int (stepF (0 : Int32) (chF0 u)))]
      refine Go.istore (ls' := #[.val (.long u), .second, .val (.int sh), .val (.int (1 : Int32)), .val (.int (0 : Int32)), .val (.int (chF0 u)), .val (.int (chF1 u)), .val (.int (chF2 u)), .val (.int (chF3 u)), .val (.int (chF4 u)), .val (.int (chF5 u)), .val (.int (chF6 u)), .val (.ref a40), .unset, .val (.int (stepF (0 : Int32) (chF0 u)))]) H at_192 rfl rfl ?_
      refine Go.iload H at_194 rfl rfl ?_
      refine Go.iconst (-1 : Int32) H at_196 rfl rfl ?_
      by_cases c46 : (stepF (0 : Int32) (chF0 u)) = (-1 : Int32)
      ·
        refine Go.icmpN H at_197 (teq c46).2 rfl ?_
        refine Go.iconst (1 : Int32) H at_200 rfl rfl ?_
        refine Go.goto (pc' := 205) H at_201 (by decide) (by decide) ?_
        refine Go.istore (ls' := #[.val (.long u), .second, .val (.int sh), .val (.int (1 : Int32)), .val (.int (0 : Int32)), .val (.int (chF0 u)), .val (.int (chF1 u)), .val (.int (chF2 u)), .val (.int (chF3 u)), .val (.int (chF4 u)), .val (.int (chF5 u)), .val (.int (chF6 u)), .val (.ref a40), .val (.int (1 : Int32)), .val (.int (stepF (0 : Int32) (chF0 u)))]) H at_205 rfl rfl ?_
        refine Go.aload H at_207 rfl rfl rfl ?_
        refine Go.callS (rest := []) 0 [(.ref a40)] H at_209 rfl w44 w45 w46 w47 pd_N21 (ct_hp l W a40 b41 [(chF0 u)] h42 S45 (Nat.le_of_ble_eq_true rfl)) all0 rfl rfl rfl (Nat.le_of_eq rfl) (by decide) (by decide) (by decide) (by decide) nh_N20 ?_
        rintro _ h47 _ ⟨rfl, E48, rfl⟩
        replace S45 := S45.ext E48
        show Go _ _ _ _ _ _ h47 [] 10 37 212 #[.val (.long u), .second, .val (.int sh), .val (.int (1 : Int32)), .val (.int (0 : Int32)), .val (.int (chF0 u)), .val (.int (chF1 u)), .val (.int (chF2 u)), .val (.int (chF3 u)), .val (.int (chF4 u)), .val (.int (chF5 u)), .val (.int (chF6 u)), .val (.ref a40), .val (.int (1 : Int32)), .val (.int (stepF (0 : Int32) (chF0 u)))] [(.int (if holdsL [(chF0 u)] = true then (1 : Int32) else 0))]
        refine Go.iload H at_212 rfl rfl ?_
        refine Go.icmpN H at_214 (teq (by rw [if_pos ((run_01 [(chF0 u)] (Nat.le_of_ble_eq_true rfl)).1.mp (show runF 0 [(chF0 u)] = -1 from c46))])).2 rfl ?_
        refine Go.iconst (1 : Int32) H at_217 rfl rfl ?_
        refine Go.goto (pc' := 222) H at_218 (by decide) (by decide) ?_
        exact Go.ireturn 1 [] H at_222 (by simp) (by decide) ⟨rfl, trivial⟩ all0 (by decide) (by decide)
      ·
        refine Go.icmpY (pc' := 204) H at_197 (feq c46).2 (by decide) (by decide) ?_
        refine Go.iconst (0 : Int32) H at_204 rfl rfl ?_
        refine Go.istore (ls' := #[.val (.long u), .second, .val (.int sh), .val (.int (1 : Int32)), .val (.int (0 : Int32)), .val (.int (chF0 u)), .val (.int (chF1 u)), .val (.int (chF2 u)), .val (.int (chF3 u)), .val (.int (chF4 u)), .val (.int (chF5 u)), .val (.int (chF6 u)), .val (.ref a40), .val (.int (0 : Int32)), .val (.int (stepF (0 : Int32) (chF0 u)))]) H at_205 rfl rfl ?_
        refine Go.aload H at_207 rfl rfl rfl ?_
        refine Go.callS (rest := []) 0 [(.ref a40)] H at_209 rfl w44 w45 w46 w47 pd_N21 (ct_hp l W a40 b41 [(chF0 u)] h42 S45 (Nat.le_of_ble_eq_true rfl)) all0 rfl rfl rfl (Nat.le_of_eq rfl) (by decide) (by decide) (by decide) (by decide) nh_N20 ?_
        rintro _ h49 _ ⟨rfl, E50, rfl⟩
        replace S45 := S45.ext E50
        show Go _ _ _ _ _ _ h49 [] 10 37 212 #[.val (.long u), .second, .val (.int sh), .val (.int (1 : Int32)), .val (.int (0 : Int32)), .val (.int (chF0 u)), .val (.int (chF1 u)), .val (.int (chF2 u)), .val (.int (chF3 u)), .val (.int (chF4 u)), .val (.int (chF5 u)), .val (.int (chF6 u)), .val (.ref a40), .val (.int (0 : Int32)), .val (.int (stepF (0 : Int32) (chF0 u)))] [(.int (if holdsL [(chF0 u)] = true then (1 : Int32) else 0))]
        refine Go.iload H at_212 rfl rfl ?_
        refine Go.icmpN H at_214 (teq (by rw [if_neg (fun e => c46 (show runF 0 [(chF0 u)] = -1 from (run_01 [(chF0 u)] (Nat.le_of_ble_eq_true rfl)).1.mpr e))])).2 rfl ?_
        refine Go.iconst (1 : Int32) H at_217 rfl rfl ?_
        refine Go.goto (pc' := 222) H at_218 (by decide) (by decide) ?_
        exact Go.ireturn 1 [] H at_222 (by simp) (by decide) ⟨rfl, trivial⟩ all0 (by decide) (by decide)
    ·
      show Go _ _ _ _ _ _ h30 [] 0 0 82 #[.val (.long u), .second, .val (.int sh), .val (.int (2 : Int32)), .val (.int (0 : Int32)), .val (.int (chF0 u)), .val (.int (chF1 u)), .val (.int (chF2 u)), .val (.int (chF3 u)), .val (.int (chF4 u)), .val (.int (chF5 u)), .val (.int (chF6 u)), .unset, .unset, .unset] []
      refine Go.iloadN H at_82 rfl rfl ?_
      refine Go.iload H at_83 rfl rfl ?_
      refine Go.iload H at_85 rfl rfl ?_
      refine Go.iload H at_87 rfl rfl ?_
      refine Go.iload H at_89 rfl rfl ?_
      refine Go.iload H at_91 rfl rfl ?_
      refine Go.iload H at_93 rfl rfl ?_
      refine Go.iload H at_95 rfl rfl ?_
      refine Go.callS (rest := []) 0 [(.int (2 : Int32)), (.int (chF0 u)), (.int (chF1 u)), (.int (chF2 u)), (.int (chF3 u)), (.int (chF4 u)), (.int (chF5 u)), (.int (chF6 u))] H at_97 rfl w5 w6 w2 w7 pd_N14 (ct_make2 l W (chF0 u) (chF1 u) (chF2 u) (chF3 u) (chF4 u) (chF5 u) (chF6 u) h30 (chF0_l _) (chF1_l _) (chF2_l _) (chF3_l _) (chF4_l _) (chF5_l _) (chF6_l _)) all0 rfl rfl rfl (Nat.le_of_eq rfl) (by decide) (by decide) (by decide) (by decide) nh_N15 ?_
      rintro _ h53 _ ⟨a51, b52, rfl, E54, g55, S56, rfl⟩
      show Go _ _ _ _ _ _ h53 [] 6 14 100 #[.val (.long u), .second, .val (.int sh), .val (.int (2 : Int32)), .val (.int (0 : Int32)), .val (.int (chF0 u)), .val (.int (chF1 u)), .val (.int (chF2 u)), .val (.int (chF3 u)), .val (.int (chF4 u)), .val (.int (chF5 u)), .val (.int (chF6 u)), .unset, .unset, .unset] [(.ref a51)]
      refine Go.astore (ls' := #[.val (.long u), .second, .val (.int sh), .val (.int (2 : Int32)), .val (.int (0 : Int32)), .val (.int (chF0 u)), .val (.int (chF1 u)), .val (.int (chF2 u)), .val (.int (chF3 u)), .val (.int (chF4 u)), .val (.int (chF5 u)), .val (.int (chF6 u)), .val (.ref a51), .unset, .unset]) H at_100 rfl rfl rfl ?_
      refine Go.iload H at_102 rfl rfl ?_
      refine Go.ifY (pc' := 113) H at_104 (by decide) (by decide) (by decide) ?_
      refine Go.iconst (0 : Int32) H at_113 rfl rfl ?_
      refine Go.istore (ls' := #[.val (.long u), .second, .val (.int sh), .val (.int (2 : Int32)), .val (.int (0 : Int32)), .val (.int (chF0 u)), .val (.int (chF1 u)), .val (.int (chF2 u)), .val (.int (chF3 u)), .val (.int (chF4 u)), .val (.int (chF5 u)), .val (.int (chF6 u)), .val (.ref a51), .unset, .val (.int (0 : Int32))]) H at_114 rfl rfl ?_
      refine Go.iload H at_116 rfl rfl ?_
      refine Go.iload H at_118 rfl rfl ?_
      refine Go.iconst (0 : Int32) H at_120 rfl rfl ?_
      refine Go.iloadN H at_121 rfl rfl ?_
      refine Go.callS (rest := []) 0 [(.int (0 : Int32)), (.int (chF0 u)), (.int (0 : Int32)), (.int (2 : Int32))] H at_122 rfl w38 w39 w2 w40 pd_N16 (ct_sifT l W (0 : Int32) (chF0 u) (0 : Int32) (2 : Int32) h53 (by decide)) all0 rfl rfl rfl (Nat.le_of_eq rfl) (by decide) (by decide) (by decide) (by decide) nh_N15 ?_
      rintro _ _ _ ⟨rfl, rfl, rfl⟩
      show Go _ _ _ _ _ _ h53 [] 6 14 125 #[.val (.long u), .second, .val (.int sh), .val (.int (2 : Int32)), .val (.int (0 : Int32)), .val (.int (chF0 u)), .val (.int (chF1 u)), .val (.int (chF2 u)), .val (.int (chF3 u)), .val (.int (chF4 u)), .val (.int (chF5 u)), .val (.int (chF6 u)), .val (.ref a51), .unset, .val (.int (0 : Int32))] [(.int (stepF (0 : Int32) (chF0 u)))]
      refine Go.istore (ls' := #[.val (.long u), .second, .val (.int sh), .val (.int (2 : Int32)), .val (.int (0 : Int32)), .val (.int (chF0 u)), .val (.int (chF1 u)), .val (.int (chF2 u)), .val (.int (chF3 u)), .val (.int (chF4 u)), .val (.int (chF5 u)), .val (.int (chF6 u)), .val (.ref a51), .unset, .val (.int (stepF (0 : Int32) (chF0 u)))]) H at_125 rfl rfl ?_
      refine Go.iload H at_127 rfl rfl ?_
      refine Go.iload H at_129 rfl rfl ?_
      refine Go.iconst (1 : Int32) H at_131 rfl rfl ?_
      refine Go.iloadN H at_132 rfl rfl ?_
      refine Go.callS (rest := []) 0 [(.int (stepF (0 : Int32) (chF0 u))), (.int (chF1 u)), (.int (1 : Int32)), (.int (2 : Int32))] H at_133 rfl w38 w39 w2 w40 pd_N16 (ct_sifT l W (stepF (0 : Int32) (chF0 u)) (chF1 u) (1 : Int32) (2 : Int32) h53 (by decide)) all0 rfl rfl rfl (Nat.le_of_eq rfl) (by decide) (by decide) (by decide) (by decide) nh_N15 ?_
      rintro _ _ _ ⟨rfl, rfl, rfl⟩
      show Go _ _ _ _ _ _ h53 [] 6 14 136 #[.val (.long u), .second, .val (.int sh), .val (.int (2 : Int32)), .val (.int (0 : Int32)), .val (.int (chF0 u)), .val (.int (chF1 u)), .val (.int (chF2 u)), .val (.int (chF3 u)), .val (.int (chF4 u)), .val (.int (chF5 u)), .val (.int (chF6 u)), .val (.ref a51), .unset, .val (.int (stepF (0 : Int32) (chF0 u)))] [(.int (stepF (stepF (0 : Int32) (chF0 u)) (chF1 u)))]
      refine Go.istore (ls' := #[.val (.long u), .second, .val (.int sh), .val (.int (2 : Int32)), .val (.int (0 : Int32)), .val (.int (chF0 u)), .val (.int (chF1 u)), .val (.int (chF2 u)), .val (.int (chF3 u)), .val (.int (chF4 u)), .val (.int (chF5 u)), .val (.int (chF6 u)), .val (.ref a51), .unset, .val (.int (stepF (stepF (0 : Int32) (chF0 u)) (chF1 u)))]) H at_136 rfl rfl ?_
      refine Go.iload H at_138 rfl rfl ?_
      refine Go.iload H at_140 rfl rfl ?_
      refine Go.iconst (2 : Int32) H at_142 rfl rfl ?_
      refine Go.iloadN H at_143 rfl rfl ?_
      refine Go.callS (rest := []) 0 [(.int (stepF (stepF (0 : Int32) (chF0 u)) (chF1 u))), (.int (chF2 u)), (.int (2 : Int32)), (.int (2 : Int32))] H at_144 rfl w38 w39 w2 w40 pd_N16 (ct_sifF l W (stepF (stepF (0 : Int32) (chF0 u)) (chF1 u)) (chF2 u) (2 : Int32) (2 : Int32) h53 (by decide)) all0 rfl rfl rfl (Nat.le_of_eq rfl) (by decide) (by decide) (by decide) (by decide) nh_N15 ?_
      rintro _ _ _ ⟨rfl, rfl, rfl⟩
      show Go _ _ _ _ _ _ h53 [] 6 14 147 #[.val (.long u), .second, .val (.int sh), .val (.int (2 : Int32)), .val (.int (0 : Int32)), .val (.int (chF0 u)), .val (.int (chF1 u)), .val (.int (chF2 u)), .val (.int (chF3 u)), .val (.int (chF4 u)), .val (.int (chF5 u)), .val (.int (chF6 u)), .val (.ref a51), .unset, .val (.int (stepF (stepF (0 : Int32) (chF0 u)) (chF1 u)))] [(.int (stepF (stepF (0 : Int32) (chF0 u)) (chF1 u)))]
      refine Go.istore (ls' := #[.val (.long u), .second, .val (.int sh), .val (.int (2 : Int32)), .val (.int (0 : Int32)), .val (.int (chF0 u)), .val (.int (chF1 u)), .val (.int (chF2 u)), .val (.int (chF3 u)), .val (.int (chF4 u)), .val (.int (chF5 u)), .val (.int (chF6 u)), .val (.ref a51), .unset, .val (.int (stepF (stepF (0 : Int32) (chF0 u)) (chF1 u)))]) H at_147 rfl rfl ?_
      refine Go.iload H at_149 rfl rfl ?_
      refine Go.iload H at_151 rfl rfl ?_
      refine Go.iconst (3 : Int32) H at_153 rfl rfl ?_
      refine Go.iloadN H at_154 rfl rfl ?_
      refine Go.callS (rest := []) 0 [(.int (stepF (stepF (0 : Int32) (chF0 u)) (chF1 u))), (.int (chF3 u)), (.int (3 : Int32)), (.int (2 : Int32))] H at_155 rfl w38 w39 w2 w40 pd_N16 (ct_sifF l W (stepF (stepF (0 : Int32) (chF0 u)) (chF1 u)) (chF3 u) (3 : Int32) (2 : Int32) h53 (by decide)) all0 rfl rfl rfl (Nat.le_of_eq rfl) (by decide) (by decide) (by decide) (by decide) nh_N15 ?_
      rintro _ _ _ ⟨rfl, rfl, rfl⟩
      show Go _ _ _ _ _ _ h53 [] 6 14 158 #[.val (.long u), .second, .val (.int sh), .val (.int (2 : Int32)), .val (.int (0 : Int32)), .val (.int (chF0 u)), .val (.int (chF1 u)), .val (.int (chF2 u)), .val (.int (chF3 u)), .val (.int (chF4 u)), .val (.int (chF5 u)), .val (.int (chF6 u)), .val (.ref a51), .unset, .val (.int (stepF (stepF (0 : Int32) (chF0 u)) (chF1 u)))] [(.int (stepF (stepF (0 : Int32) (chF0 u)) (chF1 u)))]
      refine Go.istore (ls' := #[.val (.long u), .second, .val (.int sh), .val (.int (2 : Int32)), .val (.int (0 : Int32)), .val (.int (chF0 u)), .val (.int (chF1 u)), .val (.int (chF2 u)), .val (.int (chF3 u)), .val (.int (chF4 u)), .val (.int (chF5 u)), .val (.int (chF6 u)), .val (.ref a51), .unset, .val (.int (stepF (stepF (0 : Int32) (chF0 u)) (chF1 u)))]) H at_158 rfl rfl ?_
      refine Go.iload H at_160 rfl rfl ?_
      refine Go.iload H at_162 rfl rfl ?_
      refine Go.iconst (4 : Int32) H at_164 rfl rfl ?_
      refine Go.iloadN H at_165 rfl rfl ?_
      refine Go.callS (rest := []) 0 [(.int (stepF (stepF (0 : Int32) (chF0 u)) (chF1 u))), (.int (chF4 u)), (.int (4 : Int32)), (.int (2 : Int32))] H at_166 rfl w38 w39 w2 w40 pd_N16 (ct_sifF l W (stepF (stepF (0 : Int32) (chF0 u)) (chF1 u)) (chF4 u) (4 : Int32) (2 : Int32) h53 (by decide)) all0 rfl rfl rfl (Nat.le_of_eq rfl) (by decide) (by decide) (by decide) (by decide) nh_N15 ?_
      rintro _ _ _ ⟨rfl, rfl, rfl⟩
      show Go _ _ _ _ _ _ h53 [] 6 14 169 #[.val (.long u), .second, .val (.int sh), .val (.int (2 : Int32)), .val (.int (0 : Int32)), .val (.int (chF0 u)), .val (.int (chF1 u)), .val (.int (chF2 u)), .val (.int (chF3 u)), .val (.int (chF4 u)), .val (.int (chF5 u)), .val (.int (chF6 u)), .val (.ref a51), .unset, .val (.int (stepF (stepF (0 : Int32) (chF0 u)) (chF1 u)))] [(.int (stepF (stepF (0 : Int32) (chF0 u)) (chF1 u)))]
      refine Go.istore (ls' := #[.val (.long u), .second, .val (.int sh), .val (.int (2 : Int32)), .val (.int (0 : Int32)), .val (.int (chF0 u)), .val (.int (chF1 u)), .val (.int (chF2 u)), .val (.int (chF3 u)), .val (.int (chF4 u)), .val (.int (chF5 u)), .val (.int (chF6 u)), .val (.ref a51), .unset, .val (.int (stepF (stepF (0 : Int32) (chF0 u)) (chF1 u)))]) H at_169 rfl rfl ?_
      refine Go.iload H at_171 rfl rfl ?_
      refine Go.iload H at_173 rfl rfl ?_
      refine Go.iconst (5 : Int32) H at_175 rfl rfl ?_
      refine Go.iloadN H at_176 rfl rfl ?_
      refine Go.callS (rest := []) 0 [(.int (stepF (stepF (0 : Int32) (chF0 u)) (chF1 u))), (.int (chF5 u)), (.int (5 : Int32)), (.int (2 : Int32))] H at_177 rfl w38 w39 w2 w40 pd_N16 (ct_sifF l W (stepF (stepF (0 : Int32) (chF0 u)) (chF1 u)) (chF5 u) (5 : Int32) (2 : Int32) h53 (by decide)) all0 rfl rfl rfl (Nat.le_of_eq rfl) (by decide) (by decide) (by decide) (by decide) nh_N15 ?_
      rintro _ _ _ ⟨rfl, rfl, rfl⟩
      show Go _ _ _ _ _ _ h53 [] 6 14 180 #[.val (.long u), .second, .val (.int sh), .val (.int (2 : Int32)), .val (.int (0 : Int32)), .val (.int (chF0 u)), .val (.int (chF1 u)), .val (.int (chF2 u)), .val (.int (chF3 u)), .val (.int (chF4 u)), .val (.int (chF5 u)), .val (.int (chF6 u)), .val (.ref a51), .unset, .val (.int (stepF (stepF (0 : Int32) (chF0 u)) (chF1 u)))] [(.int (stepF (stepF (0 : Int32) (chF0 u)) (chF1 u)))]
      refine Go.istore (ls' := #[.val (.long u), .second, .val (.int sh), .val (.int (2 : Int32)), .val (.int (0 : Int32)), .val (.int (chF0 u)), .val (.int (chF1 u)), .val (.int (chF2 u)), .val (.int (chF3 u)), .val (.int (chF4 u)), .val (.int (chF5 u)), .val (.int (chF6 u)), .val (.ref a51), .unset, .val (.int (stepF (stepF (0 : Int32) (chF0 u)) (chF1 u)))]) H at_180 rfl rfl ?_
      refine Go.iload H at_182 rfl rfl ?_
      refine Go.iload H at_184 rfl rfl ?_
      refine Go.bipush (6 : Int32) H at_186 rfl rfl ?_
      refine Go.iloadN H at_188 rfl rfl ?_
      refine Go.callS (rest := []) 0 [(.int (stepF (stepF (0 : Int32) (chF0 u)) (chF1 u))), (.int (chF6 u)), (.int (6 : Int32)), (.int (2 : Int32))] H at_189 rfl w38 w39 w2 w40 pd_N16 (ct_sifF l W (stepF (stepF (0 : Int32) (chF0 u)) (chF1 u)) (chF6 u) (6 : Int32) (2 : Int32) h53 (by decide)) all0 rfl rfl rfl (Nat.le_of_eq rfl) (by decide) (by decide) (by decide) (by decide) nh_N15 ?_
      rintro _ _ _ ⟨rfl, rfl, rfl⟩
      show Go _ _ _ _ _ _ h53 [] 6 14 192 #[.val (.long u), .second, .val (.int sh), .val (.int (2 : Int32)), .val (.int (0 : Int32)), .val (.int (chF0 u)), .val (.int (chF1 u)), .val (.int (chF2 u)), .val (.int (chF3 u)), .val (.int (chF4 u)), .val (.int (chF5 u)), .val (.int (chF6 u)), .val (.ref a51), .unset, .val (.int (stepF (stepF (0 : Int32) (chF0 u)) (chF1 u)))] [(.int (stepF (stepF (0 : Int32) (chF0 u)) (chF1 u)))]
      refine Go.istore (ls' := #[.val (.long u), .second, .val (.int sh), .val (.int (2 : Int32)), .val (.int (0 : Int32)), .val (.int (chF0 u)), .val (.int (chF1 u)), .val (.int (chF2 u)), .val (.int (chF3 u)), .val (.int (chF4 u)), .val (.int (chF5 u)), .val (.int (chF6 u)), .val (.ref a51), .unset, .val (.int (stepF (stepF (0 : Int32) (chF0 u)) (chF1 u)))]) H at_192 rfl rfl ?_
      refine Go.iload H at_194 rfl rfl ?_
      refine Go.iconst (-1 : Int32) H at_196 rfl rfl ?_
      by_cases c57 : (stepF (stepF (0 : Int32) (chF0 u)) (chF1 u)) = (-1 : Int32)
      ·
        refine Go.icmpN H at_197 (teq c57).2 rfl ?_
        refine Go.iconst (1 : Int32) H at_200 rfl rfl ?_
        refine Go.goto (pc' := 205) H at_201 (by decide) (by decide) ?_
        refine Go.istore (ls' := #[.val (.long u), .second, .val (.int sh), .val (.int (2 : Int32)), .val (.int (0 : Int32)), .val (.int (chF0 u)), .val (.int (chF1 u)), .val (.int (chF2 u)), .val (.int (chF3 u)), .val (.int (chF4 u)), .val (.int (chF5 u)), .val (.int (chF6 u)), .val (.ref a51), .val (.int (1 : Int32)), .val (.int (stepF (stepF (0 : Int32) (chF0 u)) (chF1 u)))]) H at_205 rfl rfl ?_
        refine Go.aload H at_207 rfl rfl rfl ?_
        refine Go.callS (rest := []) 0 [(.ref a51)] H at_209 rfl w44 w45 w46 w47 pd_N21 (ct_hp l W a51 b52 [(chF0 u), (chF1 u)] h53 S56 (Nat.le_of_ble_eq_true rfl)) all0 rfl rfl rfl (Nat.le_of_eq rfl) (by decide) (by decide) (by decide) (by decide) nh_N20 ?_
        rintro _ h58 _ ⟨rfl, E59, rfl⟩
        replace S56 := S56.ext E59
        show Go _ _ _ _ _ _ h58 [] 10 38 212 #[.val (.long u), .second, .val (.int sh), .val (.int (2 : Int32)), .val (.int (0 : Int32)), .val (.int (chF0 u)), .val (.int (chF1 u)), .val (.int (chF2 u)), .val (.int (chF3 u)), .val (.int (chF4 u)), .val (.int (chF5 u)), .val (.int (chF6 u)), .val (.ref a51), .val (.int (1 : Int32)), .val (.int (stepF (stepF (0 : Int32) (chF0 u)) (chF1 u)))] [(.int (if holdsL [(chF0 u), (chF1 u)] = true then (1 : Int32) else 0))]
        refine Go.iload H at_212 rfl rfl ?_
        refine Go.icmpN H at_214 (teq (by rw [if_pos ((run_01 [(chF0 u), (chF1 u)] (Nat.le_of_ble_eq_true rfl)).1.mp (show runF 0 [(chF0 u), (chF1 u)] = -1 from c57))])).2 rfl ?_
        refine Go.iconst (1 : Int32) H at_217 rfl rfl ?_
        refine Go.goto (pc' := 222) H at_218 (by decide) (by decide) ?_
        exact Go.ireturn 1 [] H at_222 (by simp) (by decide) ⟨rfl, trivial⟩ all0 (by decide) (by decide)
      ·
        refine Go.icmpY (pc' := 204) H at_197 (feq c57).2 (by decide) (by decide) ?_
        refine Go.iconst (0 : Int32) H at_204 rfl rfl ?_
        refine Go.istore (ls' := #[.val (.long u), .second, .val (.int sh), .val (.int (2 : Int32)), .val (.int (0 : Int32)), .val (.int (chF0 u)), .val (.int (chF1 u)), .val (.int (chF2 u)), .val (.int (chF3 u)), .val (.int (chF4 u)), .val (.int (chF5 u)), .val (.int (chF6 u)), .val (.ref a51), .val (.int (0 : Int32)), .val (.int (stepF (stepF (0 : Int32) (chF0 u)) (chF1 u)))]) H at_205 rfl rfl ?_
        refine Go.aload H at_207 rfl rfl rfl ?_
        refine Go.callS (rest := []) 0 [(.ref a51)] H at_209 rfl w44 w45 w46 w47 pd_N21 (ct_hp l W a51 b52 [(chF0 u), (chF1 u)] h53 S56 (Nat.le_of_ble_eq_true rfl)) all0 rfl rfl rfl (Nat.le_of_eq rfl) (by decide) (by decide) (by decide) (by decide) nh_N20 ?_
        rintro _ h60 _ ⟨rfl, E61, rfl⟩
        replace S56 := S56.ext E61
        show Go _ _ _ _ _ _ h60 [] 10 38 212 #[.val (.long u), .second, .val (.int sh), .val (.int (2 : Int32)), .val (.int (0 : Int32)), .val (.int (chF0 u)), .val (.int (chF1 u)), .val (.int (chF2 u)), .val (.int (chF3 u)), .val (.int (chF4 u)), .val (.int (chF5 u)), .val (.int (chF6 u)), .val (.ref a51), .val (.int (0 : Int32)), .val (.int (stepF (stepF (0 : Int32) (chF0 u)) (chF1 u)))] [(.int (if holdsL [(chF0 u), (chF1 u)] = true then (1 : Int32) else 0))]
        refine Go.iload H at_212 rfl rfl ?_
        refine Go.icmpN H at_214 (teq (by rw [if_neg (fun e => c57 (show runF 0 [(chF0 u), (chF1 u)] = -1 from (run_01 [(chF0 u), (chF1 u)] (Nat.le_of_ble_eq_true rfl)).1.mpr e))])).2 rfl ?_
        refine Go.iconst (1 : Int32) H at_217 rfl rfl ?_
        refine Go.goto (pc' := 222) H at_218 (by decide) (by decide) ?_
        exact Go.ireturn 1 [] H at_222 (by simp) (by decide) ⟨rfl, trivial⟩ all0 (by decide) (by decide)
    ·
      show Go _ _ _ _ _ _ h30 [] 0 0 82 #[.val (.long u), .second, .val (.int sh), .val (.int (3 : Int32)), .val (.int (0 : Int32)), .val (.int (chF0 u)), .val (.int (chF1 u)), .val (.int (chF2 u)), .val (.int (chF3 u)), .val (.int (chF4 u)), .val (.int (chF5 u)), .val (.int (chF6 u)), .unset, .unset, .unset] []
      refine Go.iloadN H at_82 rfl rfl ?_
      refine Go.iload H at_83 rfl rfl ?_
      refine Go.iload H at_85 rfl rfl ?_
      refine Go.iload H at_87 rfl rfl ?_
      refine Go.iload H at_89 rfl rfl ?_
      refine Go.iload H at_91 rfl rfl ?_
      refine Go.iload H at_93 rfl rfl ?_
      refine Go.iload H at_95 rfl rfl ?_
      refine Go.callS (rest := []) 0 [(.int (3 : Int32)), (.int (chF0 u)), (.int (chF1 u)), (.int (chF2 u)), (.int (chF3 u)), (.int (chF4 u)), (.int (chF5 u)), (.int (chF6 u))] H at_97 rfl w5 w6 w2 w7 pd_N14 (ct_make3 l W (chF0 u) (chF1 u) (chF2 u) (chF3 u) (chF4 u) (chF5 u) (chF6 u) h30 (chF0_l _) (chF1_l _) (chF2_l _) (chF3_l _) (chF4_l _) (chF5_l _) (chF6_l _)) all0 rfl rfl rfl (Nat.le_of_eq rfl) (by decide) (by decide) (by decide) (by decide) nh_N15 ?_
      rintro _ h64 _ ⟨a62, b63, rfl, E65, g66, S67, rfl⟩
      show Go _ _ _ _ _ _ h64 [] 6 15 100 #[.val (.long u), .second, .val (.int sh), .val (.int (3 : Int32)), .val (.int (0 : Int32)), .val (.int (chF0 u)), .val (.int (chF1 u)), .val (.int (chF2 u)), .val (.int (chF3 u)), .val (.int (chF4 u)), .val (.int (chF5 u)), .val (.int (chF6 u)), .unset, .unset, .unset] [(.ref a62)]
      refine Go.astore (ls' := #[.val (.long u), .second, .val (.int sh), .val (.int (3 : Int32)), .val (.int (0 : Int32)), .val (.int (chF0 u)), .val (.int (chF1 u)), .val (.int (chF2 u)), .val (.int (chF3 u)), .val (.int (chF4 u)), .val (.int (chF5 u)), .val (.int (chF6 u)), .val (.ref a62), .unset, .unset]) H at_100 rfl rfl rfl ?_
      refine Go.iload H at_102 rfl rfl ?_
      refine Go.ifY (pc' := 113) H at_104 (by decide) (by decide) (by decide) ?_
      refine Go.iconst (0 : Int32) H at_113 rfl rfl ?_
      refine Go.istore (ls' := #[.val (.long u), .second, .val (.int sh), .val (.int (3 : Int32)), .val (.int (0 : Int32)), .val (.int (chF0 u)), .val (.int (chF1 u)), .val (.int (chF2 u)), .val (.int (chF3 u)), .val (.int (chF4 u)), .val (.int (chF5 u)), .val (.int (chF6 u)), .val (.ref a62), .unset, .val (.int (0 : Int32))]) H at_114 rfl rfl ?_
      refine Go.iload H at_116 rfl rfl ?_
      refine Go.iload H at_118 rfl rfl ?_
      refine Go.iconst (0 : Int32) H at_120 rfl rfl ?_
      refine Go.iloadN H at_121 rfl rfl ?_
      refine Go.callS (rest := []) 0 [(.int (0 : Int32)), (.int (chF0 u)), (.int (0 : Int32)), (.int (3 : Int32))] H at_122 rfl w38 w39 w2 w40 pd_N16 (ct_sifT l W (0 : Int32) (chF0 u) (0 : Int32) (3 : Int32) h64 (by decide)) all0 rfl rfl rfl (Nat.le_of_eq rfl) (by decide) (by decide) (by decide) (by decide) nh_N15 ?_
      rintro _ _ _ ⟨rfl, rfl, rfl⟩
      show Go _ _ _ _ _ _ h64 [] 6 15 125 #[.val (.long u), .second, .val (.int sh), .val (.int (3 : Int32)), .val (.int (0 : Int32)), .val (.int (chF0 u)), .val (.int (chF1 u)), .val (.int (chF2 u)), .val (.int (chF3 u)), .val (.int (chF4 u)), .val (.int (chF5 u)), .val (.int (chF6 u)), .val (.ref a62), .unset, .val (.int (0 : Int32))] [(.int (stepF (0 : Int32) (chF0 u)))]
      refine Go.istore (ls' := #[.val (.long u), .second, .val (.int sh), .val (.int (3 : Int32)), .val (.int (0 : Int32)), .val (.int (chF0 u)), .val (.int (chF1 u)), .val (.int (chF2 u)), .val (.int (chF3 u)), .val (.int (chF4 u)), .val (.int (chF5 u)), .val (.int (chF6 u)), .val (.ref a62), .unset, .val (.int (stepF (0 : Int32) (chF0 u)))]) H at_125 rfl rfl ?_
      refine Go.iload H at_127 rfl rfl ?_
      refine Go.iload H at_129 rfl rfl ?_
      refine Go.iconst (1 : Int32) H at_131 rfl rfl ?_
      refine Go.iloadN H at_132 rfl rfl ?_
      refine Go.callS (rest := []) 0 [(.int (stepF (0 : Int32) (chF0 u))), (.int (chF1 u)), (.int (1 : Int32)), (.int (3 : Int32))] H at_133 rfl w38 w39 w2 w40 pd_N16 (ct_sifT l W (stepF (0 : Int32) (chF0 u)) (chF1 u) (1 : Int32) (3 : Int32) h64 (by decide)) all0 rfl rfl rfl (Nat.le_of_eq rfl) (by decide) (by decide) (by decide) (by decide) nh_N15 ?_
      rintro _ _ _ ⟨rfl, rfl, rfl⟩
      show Go _ _ _ _ _ _ h64 [] 6 15 136 #[.val (.long u), .second, .val (.int sh), .val (.int (3 : Int32)), .val (.int (0 : Int32)), .val (.int (chF0 u)), .val (.int (chF1 u)), .val (.int (chF2 u)), .val (.int (chF3 u)), .val (.int (chF4 u)), .val (.int (chF5 u)), .val (.int (chF6 u)), .val (.ref a62), .unset, .val (.int (stepF (0 : Int32) (chF0 u)))] [(.int (stepF (stepF (0 : Int32) (chF0 u)) (chF1 u)))]
      refine Go.istore (ls' := #[.val (.long u), .second, .val (.int sh), .val (.int (3 : Int32)), .val (.int (0 : Int32)), .val (.int (chF0 u)), .val (.int (chF1 u)), .val (.int (chF2 u)), .val (.int (chF3 u)), .val (.int (chF4 u)), .val (.int (chF5 u)), .val (.int (chF6 u)), .val (.ref a62), .unset, .val (.int (stepF (stepF (0 : Int32) (chF0 u)) (chF1 u)))]) H at_136 rfl rfl ?_
      refine Go.iload H at_138 rfl rfl ?_
      refine Go.iload H at_140 rfl rfl ?_
      refine Go.iconst (2 : Int32) H at_142 rfl rfl ?_
      refine Go.iloadN H at_143 rfl rfl ?_
      refine Go.callS (rest := []) 0 [(.int (stepF (stepF (0 : Int32) (chF0 u)) (chF1 u))), (.int (chF2 u)), (.int (2 : Int32)), (.int (3 : Int32))] H at_144 rfl w38 w39 w2 w40 pd_N16 (ct_sifT l W (stepF (stepF (0 : Int32) (chF0 u)) (chF1 u)) (chF2 u) (2 : Int32) (3 : Int32) h64 (by decide)) all0 rfl rfl rfl (Nat.le_of_eq rfl) (by decide) (by decide) (by decide) (by decide) nh_N15 ?_
      rintro _ _ _ ⟨rfl, rfl, rfl⟩
      show Go _ _ _ _ _ _ h64 [] 6 15 147 #[.val (.long u), .second, .val (.int sh), .val (.int (3 : Int32)), .val (.int (0 : Int32)), .val (.int (chF0 u)), .val (.int (chF1 u)), .val (.int (chF2 u)), .val (.int (chF3 u)), .val (.int (chF4 u)), .val (.int (chF5 u)), .val (.int (chF6 u)), .val (.ref a62), .unset, .val (.int (stepF (stepF (0 : Int32) (chF0 u)) (chF1 u)))] [(.int (stepF (stepF (stepF (0 : Int32) (chF0 u)) (chF1 u)) (chF2 u)))]
      refine Go.istore (ls' := #[.val (.long u), .second, .val (.int sh), .val (.int (3 : Int32)), .val (.int (0 : Int32)), .val (.int (chF0 u)), .val (.int (chF1 u)), .val (.int (chF2 u)), .val (.int (chF3 u)), .val (.int (chF4 u)), .val (.int (chF5 u)), .val (.int (chF6 u)), .val (.ref a62), .unset, .val (.int (stepF (stepF (stepF (0 : Int32) (chF0 u)) (chF1 u)) (chF2 u)))]) H at_147 rfl rfl ?_
      refine Go.iload H at_149 rfl rfl ?_
      refine Go.iload H at_151 rfl rfl ?_
      refine Go.iconst (3 : Int32) H at_153 rfl rfl ?_
      refine Go.iloadN H at_154 rfl rfl ?_
      refine Go.callS (rest := []) 0 [(.int (stepF (stepF (stepF (0 : Int32) (chF0 u)) (chF1 u)) (chF2 u))), (.int (chF3 u)), (.int (3 : Int32)), (.int (3 : Int32))] H at_155 rfl w38 w39 w2 w40 pd_N16 (ct_sifF l W (stepF (stepF (stepF (0 : Int32) (chF0 u)) (chF1 u)) (chF2 u)) (chF3 u) (3 : Int32) (3 : Int32) h64 (by decide)) all0 rfl rfl rfl (Nat.le_of_eq rfl) (by decide) (by decide) (by decide) (by decide) nh_N15 ?_
      rintro _ _ _ ⟨rfl, rfl, rfl⟩
      show Go _ _ _ _ _ _ h64 [] 6 15 158 #[.val (.long u), .second, .val (.int sh), .val (.int (3 : Int32)), .val (.int (0 : Int32)), .val (.int (chF0 u)), .val (.int (chF1 u)), .val (.int (chF2 u)), .val (.int (chF3 u)), .val (.int (chF4 u)), .val (.int (chF5 u)), .val (.int (chF6 u)), .val (.ref a62), .unset, .val (.int (stepF (stepF (stepF (0 : Int32) (chF0 u)) (chF1 u)) (chF2 u)))] [(.int (stepF (stepF (stepF (0 : Int32) (chF0 u)) (chF1 u)) (chF2 u)))]
      refine Go.istore (ls' := #[.val (.long u), .second, .val (.int sh), .val (.int (3 : Int32)), .val (.int (0 : Int32)), .val (.int (chF0 u)), .val (.int (chF1 u)), .val (.int (chF2 u)), .val (.int (chF3 u)), .val (.int (chF4 u)), .val (.int (chF5 u)), .val (.int (chF6 u)), .val (.ref a62), .unset, .val (.int (stepF (stepF (stepF (0 : Int32) (chF0 u)) (chF1 u)) (chF2 u)))]) H at_158 rfl rfl ?_
      refine Go.iload H at_160 rfl rfl ?_
      refine Go.iload H at_162 rfl rfl ?_
      refine Go.iconst (4 : Int32) H at_164 rfl rfl ?_
      refine Go.iloadN H at_165 rfl rfl ?_
      refine Go.callS (rest := []) 0 [(.int (stepF (stepF (stepF (0 : Int32) (chF0 u)) (chF1 u)) (chF2 u))), (.int (chF4 u)), (.int (4 : Int32)), (.int (3 : Int32))] H at_166 rfl w38 w39 w2 w40 pd_N16 (ct_sifF l W (stepF (stepF (stepF (0 : Int32) (chF0 u)) (chF1 u)) (chF2 u)) (chF4 u) (4 : Int32) (3 : Int32) h64 (by decide)) all0 rfl rfl rfl (Nat.le_of_eq rfl) (by decide) (by decide) (by decide) (by decide) nh_N15 ?_
      rintro _ _ _ ⟨rfl, rfl, rfl⟩
      show Go _ _ _ _ _ _ h64 [] 6 15 169 #[.val (.long u), .second, .val (.int sh), .val (.int (3 : Int32)), .val (.int (0 : Int32)), .val (.int (chF0 u)), .val (.int (chF1 u)), .val (.int (chF2 u)), .val (.int (chF3 u)), .val (.int (chF4 u)), .val (.int (chF5 u)), .val (.int (chF6 u)), .val (.ref a62), .unset, .val (.int (stepF (stepF (stepF (0 : Int32) (chF0 u)) (chF1 u)) (chF2 u)))] [(.int (stepF (stepF (stepF (0 : Int32) (chF0 u)) (chF1 u)) (chF2 u)))]
      refine Go.istore (ls' := #[.val (.long u), .second, .val (.int sh), .val (.int (3 : Int32)), .val (.int (0 : Int32)), .val (.int (chF0 u)), .val (.int (chF1 u)), .val (.int (chF2 u)), .val (.int (chF3 u)), .val (.int (chF4 u)), .val (.int (chF5 u)), .val (.int (chF6 u)), .val (.ref a62), .unset, .val (.int (stepF (stepF (stepF (0 : Int32) (chF0 u)) (chF1 u)) (chF2 u)))]) H at_169 rfl rfl ?_
      refine Go.iload H at_171 rfl rfl ?_
      refine Go.iload H at_173 rfl rfl ?_
      refine Go.iconst (5 : Int32) H at_175 rfl rfl ?_
      refine Go.iloadN H at_176 rfl rfl ?_
      refine Go.callS (rest := []) 0 [(.int (stepF (stepF (stepF (0 : Int32) (chF0 u)) (chF1 u)) (chF2 u))), (.int (chF5 u)), (.int (5 : Int32)), (.int (3 : Int32))] H at_177 rfl w38 w39 w2 w40 pd_N16 (ct_sifF l W (stepF (stepF (stepF (0 : Int32) (chF0 u)) (chF1 u)) (chF2 u)) (chF5 u) (5 : Int32) (3 : Int32) h64 (by decide)) all0 rfl rfl rfl (Nat.le_of_eq rfl) (by decide) (by decide) (by decide) (by decide) nh_N15 ?_
      rintro _ _ _ ⟨rfl, rfl, rfl⟩
      show Go _ _ _ _ _ _ h64 [] 6 15 180 #[.val (.long u), .second, .val (.int sh), .val (.int (3 : Int32)), .val (.int (0 : Int32)), .val (.int (chF0 u)), .val (.int (chF1 u)), .val (.int (chF2 u)), .val (.int (chF3 u)), .val (.int (chF4 u)), .val (.int (chF5 u)), .val (.int (chF6 u)), .val (.ref a62), .unset, .val (.int (stepF (stepF (stepF (0 : Int32) (chF0 u)) (chF1 u)) (chF2 u)))] [(.int (stepF (stepF (stepF (0 : Int32) (chF0 u)) (chF1 u)) (chF2 u)))]
      refine Go.istore (ls' := #[.val (.long u), .second, .val (.int sh), .val (.int (3 : Int32)), .val (.int (0 : Int32)), .val (.int (chF0 u)), .val (.int (chF1 u)), .val (.int (chF2 u)), .val (.int (chF3 u)), .val (.int (chF4 u)), .val (.int (chF5 u)), .val (.int (chF6 u)), .val (.ref a62), .unset, .val (.int (stepF (stepF (stepF (0 : Int32) (chF0 u)) (chF1 u)) (chF2 u)))]) H at_180 rfl rfl ?_
      refine Go.iload H at_182 rfl rfl ?_
      refine Go.iload H at_184 rfl rfl ?_
      refine Go.bipush (6 : Int32) H at_186 rfl rfl ?_
      refine Go.iloadN H at_188 rfl rfl ?_
      refine Go.callS (rest := []) 0 [(.int (stepF (stepF (stepF (0 : Int32) (chF0 u)) (chF1 u)) (chF2 u))), (.int (chF6 u)), (.int (6 : Int32)), (.int (3 : Int32))] H at_189 rfl w38 w39 w2 w40 pd_N16 (ct_sifF l W (stepF (stepF (stepF (0 : Int32) (chF0 u)) (chF1 u)) (chF2 u)) (chF6 u) (6 : Int32) (3 : Int32) h64 (by decide)) all0 rfl rfl rfl (Nat.le_of_eq rfl) (by decide) (by decide) (by decide) (by decide) nh_N15 ?_
      rintro _ _ _ ⟨rfl, rfl, rfl⟩
      show Go _ _ _ _ _ _ h64 [] 6 15 192 #[.val (.long u), .second, .val (.int sh), .val (.int (3 : Int32)), .val (.int (0 : Int32)), .val (.int (chF0 u)), .val (.int (chF1 u)), .val (.int (chF2 u)), .val (.int (chF3 u)), .val (.int (chF4 u)), .val (.int (chF5 u)), .val (.int (chF6 u)), .val (.ref a62), .unset, .val (.int (stepF (stepF (stepF (0 : Int32) (chF0 u)) (chF1 u)) (chF2 u)))] [(.int (stepF (stepF (stepF (0 : Int32) (chF0 u)) (chF1 u)) (chF2 u)))]
      refine Go.istore (ls' := #[.val (.long u), .second, .val (.int sh), .val (.int (3 : Int32)), .val (.int (0 : Int32)), .val (.int (chF0 u)), .val (.int (chF1 u)), .val (.int (chF2 u)), .val (.int (chF3 u)), .val (.int (chF4 u)), .val (.int (chF5 u)), .val (.int (chF6 u)), .val (.ref a62), .unset, .val (.int (stepF (stepF (stepF (0 : Int32) (chF0 u)) (chF1 u)) (chF2 u)))]) H at_192 rfl rfl ?_
      refine Go.iload H at_194 rfl rfl ?_
      refine Go.iconst (-1 : Int32) H at_196 rfl rfl ?_
      by_cases c68 : (stepF (stepF (stepF (0 : Int32) (chF0 u)) (chF1 u)) (chF2 u)) = (-1 : Int32)
      ·
        refine Go.icmpN H at_197 (teq c68).2 rfl ?_
        refine Go.iconst (1 : Int32) H at_200 rfl rfl ?_
        refine Go.goto (pc' := 205) H at_201 (by decide) (by decide) ?_
        refine Go.istore (ls' := #[.val (.long u), .second, .val (.int sh), .val (.int (3 : Int32)), .val (.int (0 : Int32)), .val (.int (chF0 u)), .val (.int (chF1 u)), .val (.int (chF2 u)), .val (.int (chF3 u)), .val (.int (chF4 u)), .val (.int (chF5 u)), .val (.int (chF6 u)), .val (.ref a62), .val (.int (1 : Int32)), .val (.int (stepF (stepF (stepF (0 : Int32) (chF0 u)) (chF1 u)) (chF2 u)))]) H at_205 rfl rfl ?_
        refine Go.aload H at_207 rfl rfl rfl ?_
        refine Go.callS (rest := []) 0 [(.ref a62)] H at_209 rfl w44 w45 w46 w47 pd_N21 (ct_hp l W a62 b63 [(chF0 u), (chF1 u), (chF2 u)] h64 S67 (Nat.le_of_ble_eq_true rfl)) all0 rfl rfl rfl (Nat.le_of_eq rfl) (by decide) (by decide) (by decide) (by decide) nh_N20 ?_
        rintro _ h69 _ ⟨rfl, E70, rfl⟩
        replace S67 := S67.ext E70
        show Go _ _ _ _ _ _ h69 [] 10 39 212 #[.val (.long u), .second, .val (.int sh), .val (.int (3 : Int32)), .val (.int (0 : Int32)), .val (.int (chF0 u)), .val (.int (chF1 u)), .val (.int (chF2 u)), .val (.int (chF3 u)), .val (.int (chF4 u)), .val (.int (chF5 u)), .val (.int (chF6 u)), .val (.ref a62), .val (.int (1 : Int32)), .val (.int (stepF (stepF (stepF (0 : Int32) (chF0 u)) (chF1 u)) (chF2 u)))] [(.int (if holdsL [(chF0 u), (chF1 u), (chF2 u)] = true then (1 : Int32) else 0))]
        refine Go.iload H at_212 rfl rfl ?_
        refine Go.icmpN H at_214 (teq (by rw [if_pos ((run_01 [(chF0 u), (chF1 u), (chF2 u)] (Nat.le_of_ble_eq_true rfl)).1.mp (show runF 0 [(chF0 u), (chF1 u), (chF2 u)] = -1 from c68))])).2 rfl ?_
        refine Go.iconst (1 : Int32) H at_217 rfl rfl ?_
        refine Go.goto (pc' := 222) H at_218 (by decide) (by decide) ?_
        exact Go.ireturn 1 [] H at_222 (by simp) (by decide) ⟨rfl, trivial⟩ all0 (by decide) (by decide)
      ·
        refine Go.icmpY (pc' := 204) H at_197 (feq c68).2 (by decide) (by decide) ?_
        refine Go.iconst (0 : Int32) H at_204 rfl rfl ?_
        refine Go.istore (ls' := #[.val (.long u), .second, .val (.int sh), .val (.int (3 : Int32)), .val (.int (0 : Int32)), .val (.int (chF0 u)), .val (.int (chF1 u)), .val (.int (chF2 u)), .val (.int (chF3 u)), .val (.int (chF4 u)), .val (.int (chF5 u)), .val (.int (chF6 u)), .val (.ref a62), .val (.int (0 : Int32)), .val (.int (stepF (stepF (stepF (0 : Int32) (chF0 u)) (chF1 u)) (chF2 u)))]) H at_205 rfl rfl ?_
        refine Go.aload H at_207 rfl rfl rfl ?_
        refine Go.callS (rest := []) 0 [(.ref a62)] H at_209 rfl w44 w45 w46 w47 pd_N21 (ct_hp l W a62 b63 [(chF0 u), (chF1 u), (chF2 u)] h64 S67 (Nat.le_of_ble_eq_true rfl)) all0 rfl rfl rfl (Nat.le_of_eq rfl) (by decide) (by decide) (by decide) (by decide) nh_N20 ?_
        rintro _ h71 _ ⟨rfl, E72, rfl⟩
        replace S67 := S67.ext E72
        show Go _ _ _ _ _ _ h71 [] 10 39 212 #[.val (.long u), .second, .val (.int sh), .val (.int (3 : Int32)), .val (.int (0 : Int32)), .val (.int (chF0 u)), .val (.int (chF1 u)), .val (.int (chF2 u)), .val (.int (chF3 u)), .val (.int (chF4 u)), .val (.int (chF5 u)), .val (.int (chF6 u)), .val (.ref a62), .val (.int (0 : Int32)), .val (.int (stepF (stepF (stepF (0 : Int32) (chF0 u)) (chF1 u)) (chF2 u)))] [(.int (if holdsL [(chF0 u), (chF1 u), (chF2 u)] = true then (1 : Int32) else 0))]
        refine Go.iload H at_212 rfl rfl ?_
        refine Go.icmpN H at_214 (teq (by rw [if_neg (fun e => c68 (show runF 0 [(chF0 u), (chF1 u), (chF2 u)] = -1 from (run_01 [(chF0 u), (chF1 u), (chF2 u)] (Nat.le_of_ble_eq_true rfl)).1.mpr e))])).2 rfl ?_
        refine Go.iconst (1 : Int32) H at_217 rfl rfl ?_
        refine Go.goto (pc' := 222) H at_218 (by decide) (by decide) ?_
        exact Go.ireturn 1 [] H at_222 (by simp) (by decide) ⟨rfl, trivial⟩ all0 (by decide) (by decide)
    ·
      show Go _ _ _ _ _ _ h30 [] 0 0 82 #[.val (.long u), .second, .val (.int sh), .val (.int (4 : Int32)), .val (.int (0 : Int32)), .val (.int (chF0 u)), .val (.int (chF1 u)), .val (.int (chF2 u)), .val (.int (chF3 u)), .val (.int (chF4 u)), .val (.int (chF5 u)), .val (.int (chF6 u)), .unset, .unset, .unset] []
      refine Go.iloadN H at_82 rfl rfl ?_
      refine Go.iload H at_83 rfl rfl ?_
      refine Go.iload H at_85 rfl rfl ?_
      refine Go.iload H at_87 rfl rfl ?_
      refine Go.iload H at_89 rfl rfl ?_
      refine Go.iload H at_91 rfl rfl ?_
      refine Go.iload H at_93 rfl rfl ?_
      refine Go.iload H at_95 rfl rfl ?_
      refine Go.callS (rest := []) 0 [(.int (4 : Int32)), (.int (chF0 u)), (.int (chF1 u)), (.int (chF2 u)), (.int (chF3 u)), (.int (chF4 u)), (.int (chF5 u)), (.int (chF6 u))] H at_97 rfl w5 w6 w2 w7 pd_N14 (ct_make4 l W (chF0 u) (chF1 u) (chF2 u) (chF3 u) (chF4 u) (chF5 u) (chF6 u) h30 (chF0_l _) (chF1_l _) (chF2_l _) (chF3_l _) (chF4_l _) (chF5_l _) (chF6_l _)) all0 rfl rfl rfl (Nat.le_of_eq rfl) (by decide) (by decide) (by decide) (by decide) nh_N15 ?_
      rintro _ h75 _ ⟨a73, b74, rfl, E76, g77, S78, rfl⟩
      show Go _ _ _ _ _ _ h75 [] 6 16 100 #[.val (.long u), .second, .val (.int sh), .val (.int (4 : Int32)), .val (.int (0 : Int32)), .val (.int (chF0 u)), .val (.int (chF1 u)), .val (.int (chF2 u)), .val (.int (chF3 u)), .val (.int (chF4 u)), .val (.int (chF5 u)), .val (.int (chF6 u)), .unset, .unset, .unset] [(.ref a73)]
      refine Go.astore (ls' := #[.val (.long u), .second, .val (.int sh), .val (.int (4 : Int32)), .val (.int (0 : Int32)), .val (.int (chF0 u)), .val (.int (chF1 u)), .val (.int (chF2 u)), .val (.int (chF3 u)), .val (.int (chF4 u)), .val (.int (chF5 u)), .val (.int (chF6 u)), .val (.ref a73), .unset, .unset]) H at_100 rfl rfl rfl ?_
      refine Go.iload H at_102 rfl rfl ?_
      refine Go.ifY (pc' := 113) H at_104 (by decide) (by decide) (by decide) ?_
      refine Go.iconst (0 : Int32) H at_113 rfl rfl ?_
      refine Go.istore (ls' := #[.val (.long u), .second, .val (.int sh), .val (.int (4 : Int32)), .val (.int (0 : Int32)), .val (.int (chF0 u)), .val (.int (chF1 u)), .val (.int (chF2 u)), .val (.int (chF3 u)), .val (.int (chF4 u)), .val (.int (chF5 u)), .val (.int (chF6 u)), .val (.ref a73), .unset, .val (.int (0 : Int32))]) H at_114 rfl rfl ?_
      refine Go.iload H at_116 rfl rfl ?_
      refine Go.iload H at_118 rfl rfl ?_
      refine Go.iconst (0 : Int32) H at_120 rfl rfl ?_
      refine Go.iloadN H at_121 rfl rfl ?_
      refine Go.callS (rest := []) 0 [(.int (0 : Int32)), (.int (chF0 u)), (.int (0 : Int32)), (.int (4 : Int32))] H at_122 rfl w38 w39 w2 w40 pd_N16 (ct_sifT l W (0 : Int32) (chF0 u) (0 : Int32) (4 : Int32) h75 (by decide)) all0 rfl rfl rfl (Nat.le_of_eq rfl) (by decide) (by decide) (by decide) (by decide) nh_N15 ?_
      rintro _ _ _ ⟨rfl, rfl, rfl⟩
      show Go _ _ _ _ _ _ h75 [] 6 16 125 #[.val (.long u), .second, .val (.int sh), .val (.int (4 : Int32)), .val (.int (0 : Int32)), .val (.int (chF0 u)), .val (.int (chF1 u)), .val (.int (chF2 u)), .val (.int (chF3 u)), .val (.int (chF4 u)), .val (.int (chF5 u)), .val (.int (chF6 u)), .val (.ref a73), .unset, .val (.int (0 : Int32))] [(.int (stepF (0 : Int32) (chF0 u)))]
      refine Go.istore (ls' := #[.val (.long u), .second, .val (.int sh), .val (.int (4 : Int32)), .val (.int (0 : Int32)), .val (.int (chF0 u)), .val (.int (chF1 u)), .val (.int (chF2 u)), .val (.int (chF3 u)), .val (.int (chF4 u)), .val (.int (chF5 u)), .val (.int (chF6 u)), .val (.ref a73), .unset, .val (.int (stepF (0 : Int32) (chF0 u)))]) H at_125 rfl rfl ?_
      refine Go.iload H at_127 rfl rfl ?_
      refine Go.iload H at_129 rfl rfl ?_
      refine Go.iconst (1 : Int32) H at_131 rfl rfl ?_
      refine Go.iloadN H at_132 rfl rfl ?_
      refine Go.callS (rest := []) 0 [(.int (stepF (0 : Int32) (chF0 u))), (.int (chF1 u)), (.int (1 : Int32)), (.int (4 : Int32))] H at_133 rfl w38 w39 w2 w40 pd_N16 (ct_sifT l W (stepF (0 : Int32) (chF0 u)) (chF1 u) (1 : Int32) (4 : Int32) h75 (by decide)) all0 rfl rfl rfl (Nat.le_of_eq rfl) (by decide) (by decide) (by decide) (by decide) nh_N15 ?_
      rintro _ _ _ ⟨rfl, rfl, rfl⟩
      show Go _ _ _ _ _ _ h75 [] 6 16 136 #[.val (.long u), .second, .val (.int sh), .val (.int (4 : Int32)), .val (.int (0 : Int32)), .val (.int (chF0 u)), .val (.int (chF1 u)), .val (.int (chF2 u)), .val (.int (chF3 u)), .val (.int (chF4 u)), .val (.int (chF5 u)), .val (.int (chF6 u)), .val (.ref a73), .unset, .val (.int (stepF (0 : Int32) (chF0 u)))] [(.int (stepF (stepF (0 : Int32) (chF0 u)) (chF1 u)))]
      refine Go.istore (ls' := #[.val (.long u), .second, .val (.int sh), .val (.int (4 : Int32)), .val (.int (0 : Int32)), .val (.int (chF0 u)), .val (.int (chF1 u)), .val (.int (chF2 u)), .val (.int (chF3 u)), .val (.int (chF4 u)), .val (.int (chF5 u)), .val (.int (chF6 u)), .val (.ref a73), .unset, .val (.int (stepF (stepF (0 : Int32) (chF0 u)) (chF1 u)))]) H at_136 rfl rfl ?_
      refine Go.iload H at_138 rfl rfl ?_
      refine Go.iload H at_140 rfl rfl ?_
      refine Go.iconst (2 : Int32) H at_142 rfl rfl ?_
      refine Go.iloadN H at_143 rfl rfl ?_
      refine Go.callS (rest := []) 0 [(.int (stepF (stepF (0 : Int32) (chF0 u)) (chF1 u))), (.int (chF2 u)), (.int (2 : Int32)), (.int (4 : Int32))] H at_144 rfl w38 w39 w2 w40 pd_N16 (ct_sifT l W (stepF (stepF (0 : Int32) (chF0 u)) (chF1 u)) (chF2 u) (2 : Int32) (4 : Int32) h75 (by decide)) all0 rfl rfl rfl (Nat.le_of_eq rfl) (by decide) (by decide) (by decide) (by decide) nh_N15 ?_
      rintro _ _ _ ⟨rfl, rfl, rfl⟩
      show Go _ _ _ _ _ _ h75 [] 6 16 147 #[.val (.long u), .second, .val (.int sh), .val (.int (4 : Int32)), .val (.int (0 : Int32)), .val (.int (chF0 u)), .val (.int (chF1 u)), .val (.int (chF2 u)), .val (.int (chF3 u)), .val (.int (chF4 u)), .val (.int (chF5 u)), .val (.int (chF6 u)), .val (.ref a73), .unset, .val (.int (stepF (stepF (0 : Int32) (chF0 u)) (chF1 u)))] [(.int (stepF (stepF (stepF (0 : Int32) (chF0 u)) (chF1 u)) (chF2 u)))]
      refine Go.istore (ls' := #[.val (.long u), .second, .val (.int sh), .val (.int (4 : Int32)), .val (.int (0 : Int32)), .val (.int (chF0 u)), .val (.int (chF1 u)), .val (.int (chF2 u)), .val (.int (chF3 u)), .val (.int (chF4 u)), .val (.int (chF5 u)), .val (.int (chF6 u)), .val (.ref a73), .unset, .val (.int (stepF (stepF (stepF (0 : Int32) (chF0 u)) (chF1 u)) (chF2 u)))]) H at_147 rfl rfl ?_
      refine Go.iload H at_149 rfl rfl ?_
      refine Go.iload H at_151 rfl rfl ?_
      refine Go.iconst (3 : Int32) H at_153 rfl rfl ?_
      refine Go.iloadN H at_154 rfl rfl ?_
      refine Go.callS (rest := []) 0 [(.int (stepF (stepF (stepF (0 : Int32) (chF0 u)) (chF1 u)) (chF2 u))), (.int (chF3 u)), (.int (3 : Int32)), (.int (4 : Int32))] H at_155 rfl w38 w39 w2 w40 pd_N16 (ct_sifT l W (stepF (stepF (stepF (0 : Int32) (chF0 u)) (chF1 u)) (chF2 u)) (chF3 u) (3 : Int32) (4 : Int32) h75 (by decide)) all0 rfl rfl rfl (Nat.le_of_eq rfl) (by decide) (by decide) (by decide) (by decide) nh_N15 ?_
      rintro _ _ _ ⟨rfl, rfl, rfl⟩
      show Go _ _ _ _ _ _ h75 [] 6 16 158 #[.val (.long u), .second, .val (.int sh), .val (.int (4 : Int32)), .val (.int (0 : Int32)), .val (.int (chF0 u)), .val (.int (chF1 u)), .val (.int (chF2 u)), .val (.int (chF3 u)), .val (.int (chF4 u)), .val (.int (chF5 u)), .val (.int (chF6 u)), .val (.ref a73), .unset, .val (.int (stepF (stepF (stepF (0 : Int32) (chF0 u)) (chF1 u)) (chF2 u)))] [(.int (stepF (stepF (stepF (stepF (0 : Int32) (chF0 u)) (chF1 u)) (chF2 u)) (chF3 u)))]
      refine Go.istore (ls' := #[.val (.long u), .second, .val (.int sh), .val (.int (4 : Int32)), .val (.int (0 : Int32)), .val (.int (chF0 u)), .val (.int (chF1 u)), .val (.int (chF2 u)), .val (.int (chF3 u)), .val (.int (chF4 u)), .val (.int (chF5 u)), .val (.int (chF6 u)), .val (.ref a73), .unset, .val (.int (stepF (stepF (stepF (stepF (0 : Int32) (chF0 u)) (chF1 u)) (chF2 u)) (chF3 u)))]) H at_158 rfl rfl ?_
      refine Go.iload H at_160 rfl rfl ?_
      refine Go.iload H at_162 rfl rfl ?_
      refine Go.iconst (4 : Int32) H at_164 rfl rfl ?_
      refine Go.iloadN H at_165 rfl rfl ?_
      refine Go.callS (rest := []) 0 [(.int (stepF (stepF (stepF (stepF (0 : Int32) (chF0 u)) (chF1 u)) (chF2 u)) (chF3 u))), (.int (chF4 u)), (.int (4 : Int32)), (.int (4 : Int32))] H at_166 rfl w38 w39 w2 w40 pd_N16 (ct_sifF l W (stepF (stepF (stepF (stepF (0 : Int32) (chF0 u)) (chF1 u)) (chF2 u)) (chF3 u)) (chF4 u) (4 : Int32) (4 : Int32) h75 (by decide)) all0 rfl rfl rfl (Nat.le_of_eq rfl) (by decide) (by decide) (by decide) (by decide) nh_N15 ?_
      rintro _ _ _ ⟨rfl, rfl, rfl⟩
      show Go _ _ _ _ _ _ h75 [] 6 16 169 #[.val (.long u), .second, .val (.int sh), .val (.int (4 : Int32)), .val (.int (0 : Int32)), .val (.int (chF0 u)), .val (.int (chF1 u)), .val (.int (chF2 u)), .val (.int (chF3 u)), .val (.int (chF4 u)), .val (.int (chF5 u)), .val (.int (chF6 u)), .val (.ref a73), .unset, .val (.int (stepF (stepF (stepF (stepF (0 : Int32) (chF0 u)) (chF1 u)) (chF2 u)) (chF3 u)))] [(.int (stepF (stepF (stepF (stepF (0 : Int32) (chF0 u)) (chF1 u)) (chF2 u)) (chF3 u)))]
      refine Go.istore (ls' := #[.val (.long u), .second, .val (.int sh), .val (.int (4 : Int32)), .val (.int (0 : Int32)), .val (.int (chF0 u)), .val (.int (chF1 u)), .val (.int (chF2 u)), .val (.int (chF3 u)), .val (.int (chF4 u)), .val (.int (chF5 u)), .val (.int (chF6 u)), .val (.ref a73), .unset, .val (.int (stepF (stepF (stepF (stepF (0 : Int32) (chF0 u)) (chF1 u)) (chF2 u)) (chF3 u)))]) H at_169 rfl rfl ?_
      refine Go.iload H at_171 rfl rfl ?_
      refine Go.iload H at_173 rfl rfl ?_
      refine Go.iconst (5 : Int32) H at_175 rfl rfl ?_
      refine Go.iloadN H at_176 rfl rfl ?_
      refine Go.callS (rest := []) 0 [(.int (stepF (stepF (stepF (stepF (0 : Int32) (chF0 u)) (chF1 u)) (chF2 u)) (chF3 u))), (.int (chF5 u)), (.int (5 : Int32)), (.int (4 : Int32))] H at_177 rfl w38 w39 w2 w40 pd_N16 (ct_sifF l W (stepF (stepF (stepF (stepF (0 : Int32) (chF0 u)) (chF1 u)) (chF2 u)) (chF3 u)) (chF5 u) (5 : Int32) (4 : Int32) h75 (by decide)) all0 rfl rfl rfl (Nat.le_of_eq rfl) (by decide) (by decide) (by decide) (by decide) nh_N15 ?_
      rintro _ _ _ ⟨rfl, rfl, rfl⟩
      show Go _ _ _ _ _ _ h75 [] 6 16 180 #[.val (.long u), .second, .val (.int sh), .val (.int (4 : Int32)), .val (.int (0 : Int32)), .val (.int (chF0 u)), .val (.int (chF1 u)), .val (.int (chF2 u)), .val (.int (chF3 u)), .val (.int (chF4 u)), .val (.int (chF5 u)), .val (.int (chF6 u)), .val (.ref a73), .unset, .val (.int (stepF (stepF (stepF (stepF (0 : Int32) (chF0 u)) (chF1 u)) (chF2 u)) (chF3 u)))] [(.int (stepF (stepF (stepF (stepF (0 : Int32) (chF0 u)) (chF1 u)) (chF2 u)) (chF3 u)))]
      refine Go.istore (ls' := #[.val (.long u), .second, .val (.int sh), .val (.int (4 : Int32)), .val (.int (0 : Int32)), .val (.int (chF0 u)), .val (.int (chF1 u)), .val (.int (chF2 u)), .val (.int (chF3 u)), .val (.int (chF4 u)), .val (.int (chF5 u)), .val (.int (chF6 u)), .val (.ref a73), .unset, .val (.int (stepF (stepF (stepF (stepF (0 : Int32) (chF0 u)) (chF1 u)) (chF2 u)) (chF3 u)))]) H at_180 rfl rfl ?_
      refine Go.iload H at_182 rfl rfl ?_
      refine Go.iload H at_184 rfl rfl ?_
      refine Go.bipush (6 : Int32) H at_186 rfl rfl ?_
      refine Go.iloadN H at_188 rfl rfl ?_
      refine Go.callS (rest := []) 0 [(.int (stepF (stepF (stepF (stepF (0 : Int32) (chF0 u)) (chF1 u)) (chF2 u)) (chF3 u))), (.int (chF6 u)), (.int (6 : Int32)), (.int (4 : Int32))] H at_189 rfl w38 w39 w2 w40 pd_N16 (ct_sifF l W (stepF (stepF (stepF (stepF (0 : Int32) (chF0 u)) (chF1 u)) (chF2 u)) (chF3 u)) (chF6 u) (6 : Int32) (4 : Int32) h75 (by decide)) all0 rfl rfl rfl (Nat.le_of_eq rfl) (by decide) (by decide) (by decide) (by decide) nh_N15 ?_
      rintro _ _ _ ⟨rfl, rfl, rfl⟩
      show Go _ _ _ _ _ _ h75 [] 6 16 192 #[.val (.long u), .second, .val (.int sh), .val (.int (4 : Int32)), .val (.int (0 : Int32)), .val (.int (chF0 u)), .val (.int (chF1 u)), .val (.int (chF2 u)), .val (.int (chF3 u)), .val (.int (chF4 u)), .val (.int (chF5 u)), .val (.int (chF6 u)), .val (.ref a73), .unset, .val (.int (stepF (stepF (stepF (stepF (0 : Int32) (chF0 u)) (chF1 u)) (chF2 u)) (chF3 u)))] [(.int (stepF (stepF (stepF (stepF (0 : Int32) (chF0 u)) (chF1 u)) (chF2 u)) (chF3 u)))]
      refine Go.istore (ls' := #[.val (.long u), .second, .val (.int sh), .val (.int (4 : Int32)), .val (.int (0 : Int32)), .val (.int (chF0 u)), .val (.int (chF1 u)), .val (.int (chF2 u)), .val (.int (chF3 u)), .val (.int (chF4 u)), .val (.int (chF5 u)), .val (.int (chF6 u)), .val (.ref a73), .unset, .val (.int (stepF (stepF (stepF (stepF (0 : Int32) (chF0 u)) (chF1 u)) (chF2 u)) (chF3 u)))]) H at_192 rfl rfl ?_
      refine Go.iload H at_194 rfl rfl ?_
      refine Go.iconst (-1 : Int32) H at_196 rfl rfl ?_
      by_cases c79 : (stepF (stepF (stepF (stepF (0 : Int32) (chF0 u)) (chF1 u)) (chF2 u)) (chF3 u)) = (-1 : Int32)
      ·
        refine Go.icmpN H at_197 (teq c79).2 rfl ?_
        refine Go.iconst (1 : Int32) H at_200 rfl rfl ?_
        refine Go.goto (pc' := 205) H at_201 (by decide) (by decide) ?_
        refine Go.istore (ls' := #[.val (.long u), .second, .val (.int sh), .val (.int (4 : Int32)), .val (.int (0 : Int32)), .val (.int (chF0 u)), .val (.int (chF1 u)), .val (.int (chF2 u)), .val (.int (chF3 u)), .val (.int (chF4 u)), .val (.int (chF5 u)), .val (.int (chF6 u)), .val (.ref a73), .val (.int (1 : Int32)), .val (.int (stepF (stepF (stepF (stepF (0 : Int32) (chF0 u)) (chF1 u)) (chF2 u)) (chF3 u)))]) H at_205 rfl rfl ?_
        refine Go.aload H at_207 rfl rfl rfl ?_
        refine Go.callS (rest := []) 0 [(.ref a73)] H at_209 rfl w44 w45 w46 w47 pd_N21 (ct_hp l W a73 b74 [(chF0 u), (chF1 u), (chF2 u), (chF3 u)] h75 S78 (Nat.le_of_ble_eq_true rfl)) all0 rfl rfl rfl (Nat.le_of_eq rfl) (by decide) (by decide) (by decide) (by decide) nh_N20 ?_
        rintro _ h80 _ ⟨rfl, E81, rfl⟩
        replace S78 := S78.ext E81
        show Go _ _ _ _ _ _ h80 [] 10 40 212 #[.val (.long u), .second, .val (.int sh), .val (.int (4 : Int32)), .val (.int (0 : Int32)), .val (.int (chF0 u)), .val (.int (chF1 u)), .val (.int (chF2 u)), .val (.int (chF3 u)), .val (.int (chF4 u)), .val (.int (chF5 u)), .val (.int (chF6 u)), .val (.ref a73), .val (.int (1 : Int32)), .val (.int (stepF (stepF (stepF (stepF (0 : Int32) (chF0 u)) (chF1 u)) (chF2 u)) (chF3 u)))] [(.int (if holdsL [(chF0 u), (chF1 u), (chF2 u), (chF3 u)] = true then (1 : Int32) else 0))]
        refine Go.iload H at_212 rfl rfl ?_
        refine Go.icmpN H at_214 (teq (by rw [if_pos ((run_01 [(chF0 u), (chF1 u), (chF2 u), (chF3 u)] (Nat.le_of_ble_eq_true rfl)).1.mp (show runF 0 [(chF0 u), (chF1 u), (chF2 u), (chF3 u)] = -1 from c79))])).2 rfl ?_
        refine Go.iconst (1 : Int32) H at_217 rfl rfl ?_
        refine Go.goto (pc' := 222) H at_218 (by decide) (by decide) ?_
        exact Go.ireturn 1 [] H at_222 (by simp) (by decide) ⟨rfl, trivial⟩ all0 (by decide) (by decide)
      ·
        refine Go.icmpY (pc' := 204) H at_197 (feq c79).2 (by decide) (by decide) ?_
        refine Go.iconst (0 : Int32) H at_204 rfl rfl ?_
        refine Go.istore (ls' := #[.val (.long u), .second, .val (.int sh), .val (.int (4 : Int32)), .val (.int (0 : Int32)), .val (.int (chF0 u)), .val (.int (chF1 u)), .val (.int (chF2 u)), .val (.int (chF3 u)), .val (.int (chF4 u)), .val (.int (chF5 u)), .val (.int (chF6 u)), .val (.ref a73), .val (.int (0 : Int32)), .val (.int (stepF (stepF (stepF (stepF (0 : Int32) (chF0 u)) (chF1 u)) (chF2 u)) (chF3 u)))]) H at_205 rfl rfl ?_
        refine Go.aload H at_207 rfl rfl rfl ?_
        refine Go.callS (rest := []) 0 [(.ref a73)] H at_209 rfl w44 w45 w46 w47 pd_N21 (ct_hp l W a73 b74 [(chF0 u), (chF1 u), (chF2 u), (chF3 u)] h75 S78 (Nat.le_of_ble_eq_true rfl)) all0 rfl rfl rfl (Nat.le_of_eq rfl) (by decide) (by decide) (by decide) (by decide) nh_N20 ?_
        rintro _ h82 _ ⟨rfl, E83, rfl⟩
        replace S78 := S78.ext E83
        show Go _ _ _ _ _ _ h82 [] 10 40 212 #[.val (.long u), .second, .val (.int sh), .val (.int (4 : Int32)), .val (.int (0 : Int32)), .val (.int (chF0 u)), .val (.int (chF1 u)), .val (.int (chF2 u)), .val (.int (chF3 u)), .val (.int (chF4 u)), .val (.int (chF5 u)), .val (.int (chF6 u)), .val (.ref a73), .val (.int (0 : Int32)), .val (.int (stepF (stepF (stepF (stepF (0 : Int32) (chF0 u)) (chF1 u)) (chF2 u)) (chF3 u)))] [(.int (if holdsL [(chF0 u), (chF1 u), (chF2 u), (chF3 u)] = true then (1 : Int32) else 0))]
        refine Go.iload H at_212 rfl rfl ?_
        refine Go.icmpN H at_214 (teq (by rw [if_neg (fun e => c79 (show runF 0 [(chF0 u), (chF1 u), (chF2 u), (chF3 u)] = -1 from (run_01 [(chF0 u), (chF1 u), (chF2 u), (chF3 u)] (Nat.le_of_ble_eq_true rfl)).1.mpr e))])).2 rfl ?_
        refine Go.iconst (1 : Int32) H at_217 rfl rfl ?_
        refine Go.goto (pc' := 222) H at_218 (by decide) (by decide) ?_
        exact Go.ireturn 1 [] H at_222 (by simp) (by decide) ⟨rfl, trivial⟩ all0 (by decide) (by decide)
    ·
      show Go _ _ _ _ _ _ h30 [] 0 0 82 #[.val (.long u), .second, .val (.int sh), .val (.int (5 : Int32)), .val (.int (0 : Int32)), .val (.int (chF0 u)), .val (.int (chF1 u)), .val (.int (chF2 u)), .val (.int (chF3 u)), .val (.int (chF4 u)), .val (.int (chF5 u)), .val (.int (chF6 u)), .unset, .unset, .unset] []
      refine Go.iloadN H at_82 rfl rfl ?_
      refine Go.iload H at_83 rfl rfl ?_
      refine Go.iload H at_85 rfl rfl ?_
      refine Go.iload H at_87 rfl rfl ?_
      refine Go.iload H at_89 rfl rfl ?_
      refine Go.iload H at_91 rfl rfl ?_
      refine Go.iload H at_93 rfl rfl ?_
      refine Go.iload H at_95 rfl rfl ?_
      refine Go.callS (rest := []) 0 [(.int (5 : Int32)), (.int (chF0 u)), (.int (chF1 u)), (.int (chF2 u)), (.int (chF3 u)), (.int (chF4 u)), (.int (chF5 u)), (.int (chF6 u))] H at_97 rfl w5 w6 w2 w7 pd_N14 (ct_make5 l W (chF0 u) (chF1 u) (chF2 u) (chF3 u) (chF4 u) (chF5 u) (chF6 u) h30 (chF0_l _) (chF1_l _) (chF2_l _) (chF3_l _) (chF4_l _) (chF5_l _) (chF6_l _)) all0 rfl rfl rfl (Nat.le_of_eq rfl) (by decide) (by decide) (by decide) (by decide) nh_N15 ?_
      rintro _ h86 _ ⟨a84, b85, rfl, E87, g88, S89, rfl⟩
      show Go _ _ _ _ _ _ h86 [] 6 17 100 #[.val (.long u), .second, .val (.int sh), .val (.int (5 : Int32)), .val (.int (0 : Int32)), .val (.int (chF0 u)), .val (.int (chF1 u)), .val (.int (chF2 u)), .val (.int (chF3 u)), .val (.int (chF4 u)), .val (.int (chF5 u)), .val (.int (chF6 u)), .unset, .unset, .unset] [(.ref a84)]
      refine Go.astore (ls' := #[.val (.long u), .second, .val (.int sh), .val (.int (5 : Int32)), .val (.int (0 : Int32)), .val (.int (chF0 u)), .val (.int (chF1 u)), .val (.int (chF2 u)), .val (.int (chF3 u)), .val (.int (chF4 u)), .val (.int (chF5 u)), .val (.int (chF6 u)), .val (.ref a84), .unset, .unset]) H at_100 rfl rfl rfl ?_
      refine Go.iload H at_102 rfl rfl ?_
      refine Go.ifY (pc' := 113) H at_104 (by decide) (by decide) (by decide) ?_
      refine Go.iconst (0 : Int32) H at_113 rfl rfl ?_
      refine Go.istore (ls' := #[.val (.long u), .second, .val (.int sh), .val (.int (5 : Int32)), .val (.int (0 : Int32)), .val (.int (chF0 u)), .val (.int (chF1 u)), .val (.int (chF2 u)), .val (.int (chF3 u)), .val (.int (chF4 u)), .val (.int (chF5 u)), .val (.int (chF6 u)), .val (.ref a84), .unset, .val (.int (0 : Int32))]) H at_114 rfl rfl ?_
      refine Go.iload H at_116 rfl rfl ?_
      refine Go.iload H at_118 rfl rfl ?_
      refine Go.iconst (0 : Int32) H at_120 rfl rfl ?_
      refine Go.iloadN H at_121 rfl rfl ?_
      refine Go.callS (rest := []) 0 [(.int (0 : Int32)), (.int (chF0 u)), (.int (0 : Int32)), (.int (5 : Int32))] H at_122 rfl w38 w39 w2 w40 pd_N16 (ct_sifT l W (0 : Int32) (chF0 u) (0 : Int32) (5 : Int32) h86 (by decide)) all0 rfl rfl rfl (Nat.le_of_eq rfl) (by decide) (by decide) (by decide) (by decide) nh_N15 ?_
      rintro _ _ _ ⟨rfl, rfl, rfl⟩
      show Go _ _ _ _ _ _ h86 [] 6 17 125 #[.val (.long u), .second, .val (.int sh), .val (.int (5 : Int32)), .val (.int (0 : Int32)), .val (.int (chF0 u)), .val (.int (chF1 u)), .val (.int (chF2 u)), .val (.int (chF3 u)), .val (.int (chF4 u)), .val (.int (chF5 u)), .val (.int (chF6 u)), .val (.ref a84), .unset, .val (.int (0 : Int32))] [(.int (stepF (0 : Int32) (chF0 u)))]
      refine Go.istore (ls' := #[.val (.long u), .second, .val (.int sh), .val (.int (5 : Int32)), .val (.int (0 : Int32)), .val (.int (chF0 u)), .val (.int (chF1 u)), .val (.int (chF2 u)), .val (.int (chF3 u)), .val (.int (chF4 u)), .val (.int (chF5 u)), .val (.int (chF6 u)), .val (.ref a84), .unset, .val (.int (stepF (0 : Int32) (chF0 u)))]) H at_125 rfl rfl ?_
      refine Go.iload H at_127 rfl rfl ?_
      refine Go.iload H at_129 rfl rfl ?_
      refine Go.iconst (1 : Int32) H at_131 rfl rfl ?_
      refine Go.iloadN H at_132 rfl rfl ?_
      refine Go.callS (rest := []) 0 [(.int (stepF (0 : Int32) (chF0 u))), (.int (chF1 u)), (.int (1 : Int32)), (.int (5 : Int32))] H at_133 rfl w38 w39 w2 w40 pd_N16 (ct_sifT l W (stepF (0 : Int32) (chF0 u)) (chF1 u) (1 : Int32) (5 : Int32) h86 (by decide)) all0 rfl rfl rfl (Nat.le_of_eq rfl) (by decide) (by decide) (by decide) (by decide) nh_N15 ?_
      rintro _ _ _ ⟨rfl, rfl, rfl⟩
      show Go _ _ _ _ _ _ h86 [] 6 17 136 #[.val (.long u), .second, .val (.int sh), .val (.int (5 : Int32)), .val (.int (0 : Int32)), .val (.int (chF0 u)), .val (.int (chF1 u)), .val (.int (chF2 u)), .val (.int (chF3 u)), .val (.int (chF4 u)), .val (.int (chF5 u)), .val (.int (chF6 u)), .val (.ref a84), .unset, .val (.int (stepF (0 : Int32) (chF0 u)))] [(.int (stepF (stepF (0 : Int32) (chF0 u)) (chF1 u)))]
      refine Go.istore (ls' := #[.val (.long u), .second, .val (.int sh), .val (.int (5 : Int32)), .val (.int (0 : Int32)), .val (.int (chF0 u)), .val (.int (chF1 u)), .val (.int (chF2 u)), .val (.int (chF3 u)), .val (.int (chF4 u)), .val (.int (chF5 u)), .val (.int (chF6 u)), .val (.ref a84), .unset, .val (.int (stepF (stepF (0 : Int32) (chF0 u)) (chF1 u)))]) H at_136 rfl rfl ?_
      refine Go.iload H at_138 rfl rfl ?_
      refine Go.iload H at_140 rfl rfl ?_
      refine Go.iconst (2 : Int32) H at_142 rfl rfl ?_
      refine Go.iloadN H at_143 rfl rfl ?_
      refine Go.callS (rest := []) 0 [(.int (stepF (stepF (0 : Int32) (chF0 u)) (chF1 u))), (.int (chF2 u)), (.int (2 : Int32)), (.int (5 : Int32))] H at_144 rfl w38 w39 w2 w40 pd_N16 (ct_sifT l W (stepF (stepF (0 : Int32) (chF0 u)) (chF1 u)) (chF2 u) (2 : Int32) (5 : Int32) h86 (by decide)) all0 rfl rfl rfl (Nat.le_of_eq rfl) (by decide) (by decide) (by decide) (by decide) nh_N15 ?_
      rintro _ _ _ ⟨rfl, rfl, rfl⟩
      show Go _ _ _ _ _ _ h86 [] 6 17 147 #[.val (.long u), .second, .val (.int sh), .val (.int (5 : Int32)), .val (.int (0 : Int32)), .val (.int (chF0 u)), .val (.int (chF1 u)), .val (.int (chF2 u)), .val (.int (chF3 u)), .val (.int (chF4 u)), .val (.int (chF5 u)), .val (.int (chF6 u)), .val (.ref a84), .unset, .val (.int (stepF (stepF (0 : Int32) (chF0 u)) (chF1 u)))] [(.int (stepF (stepF (stepF (0 : Int32) (chF0 u)) (chF1 u)) (chF2 u)))]
      refine Go.istore (ls' := #[.val (.long u), .second, .val (.int sh), .val (.int (5 : Int32)), .val (.int (0 : Int32)), .val (.int (chF0 u)), .val (.int (chF1 u)), .val (.int (chF2 u)), .val (.int (chF3 u)), .val (.int (chF4 u)), .val (.int (chF5 u)), .val (.int (chF6 u)), .val (.ref a84), .unset, .val (.int (stepF (stepF (stepF (0 : Int32) (chF0 u)) (chF1 u)) (chF2 u)))]) H at_147 rfl rfl ?_
      refine Go.iload H at_149 rfl rfl ?_
      refine Go.iload H at_151 rfl rfl ?_
      refine Go.iconst (3 : Int32) H at_153 rfl rfl ?_
      refine Go.iloadN H at_154 rfl rfl ?_
      refine Go.callS (rest := []) 0 [(.int (stepF (stepF (stepF (0 : Int32) (chF0 u)) (chF1 u)) (chF2 u))), (.int (chF3 u)), (.int (3 : Int32)), (.int (5 : Int32))] H at_155 rfl w38 w39 w2 w40 pd_N16 (ct_sifT l W (stepF (stepF (stepF (0 : Int32) (chF0 u)) (chF1 u)) (chF2 u)) (chF3 u) (3 : Int32) (5 : Int32) h86 (by decide)) all0 rfl rfl rfl (Nat.le_of_eq rfl) (by decide) (by decide) (by decide) (by decide) nh_N15 ?_
      rintro _ _ _ ⟨rfl, rfl, rfl⟩
      show Go _ _ _ _ _ _ h86 [] 6 17 158 #[.val (.long u), .second, .val (.int sh), .val (.int (5 : Int32)), .val (.int (0 : Int32)), .val (.int (chF0 u)), .val (.int (chF1 u)), .val (.int (chF2 u)), .val (.int (chF3 u)), .val (.int (chF4 u)), .val (.int (chF5 u)), .val (.int (chF6 u)), .val (.ref a84), .unset, .val (.int (stepF (stepF (stepF (0 : Int32) (chF0 u)) (chF1 u)) (chF2 u)))] [(.int (stepF (stepF (stepF (stepF (0 : Int32) (chF0 u)) (chF1 u)) (chF2 u)) (chF3 u)))]
      refine Go.istore (ls' := #[.val (.long u), .second, .val (.int sh), .val (.int (5 : Int32)), .val (.int (0 : Int32)), .val (.int (chF0 u)), .val (.int (chF1 u)), .val (.int (chF2 u)), .val (.int (chF3 u)), .val (.int (chF4 u)), .val (.int (chF5 u)), .val (.int (chF6 u)), .val (.ref a84), .unset, .val (.int (stepF (stepF (stepF (stepF (0 : Int32) (chF0 u)) (chF1 u)) (chF2 u)) (chF3 u)))]) H at_158 rfl rfl ?_
      refine Go.iload H at_160 rfl rfl ?_
      refine Go.iload H at_162 rfl rfl ?_
      refine Go.iconst (4 : Int32) H at_164 rfl rfl ?_
      refine Go.iloadN H at_165 rfl rfl ?_
      refine Go.callS (rest := []) 0 [(.int (stepF (stepF (stepF (stepF (0 : Int32) (chF0 u)) (chF1 u)) (chF2 u)) (chF3 u))), (.int (chF4 u)), (.int (4 : Int32)), (.int (5 : Int32))] H at_166 rfl w38 w39 w2 w40 pd_N16 (ct_sifT l W (stepF (stepF (stepF (stepF (0 : Int32) (chF0 u)) (chF1 u)) (chF2 u)) (chF3 u)) (chF4 u) (4 : Int32) (5 : Int32) h86 (by decide)) all0 rfl rfl rfl (Nat.le_of_eq rfl) (by decide) (by decide) (by decide) (by decide) nh_N15 ?_
      rintro _ _ _ ⟨rfl, rfl, rfl⟩
      show Go _ _ _ _ _ _ h86 [] 6 17 169 #[.val (.long u), .second, .val (.int sh), .val (.int (5 : Int32)), .val (.int (0 : Int32)), .val (.int (chF0 u)), .val (.int (chF1 u)), .val (.int (chF2 u)), .val (.int (chF3 u)), .val (.int (chF4 u)), .val (.int (chF5 u)), .val (.int (chF6 u)), .val (.ref a84), .unset, .val (.int (stepF (stepF (stepF (stepF (0 : Int32) (chF0 u)) (chF1 u)) (chF2 u)) (chF3 u)))] [(.int (stepF (stepF (stepF (stepF (stepF (0 : Int32) (chF0 u)) (chF1 u)) (chF2 u)) (chF3 u)) (chF4 u)))]
      refine Go.istore (ls' := #[.val (.long u), .second, .val (.int sh), .val (.int (5 : Int32)), .val (.int (0 : Int32)), .val (.int (chF0 u)), .val (.int (chF1 u)), .val (.int (chF2 u)), .val (.int (chF3 u)), .val (.int (chF4 u)), .val (.int (chF5 u)), .val (.int (chF6 u)), .val (.ref a84), .unset, .val (.int (stepF (stepF (stepF (stepF (stepF (0 : Int32) (chF0 u)) (chF1 u)) (chF2 u)) (chF3 u)) (chF4 u)))]) H at_169 rfl rfl ?_
      refine Go.iload H at_171 rfl rfl ?_
      refine Go.iload H at_173 rfl rfl ?_
      refine Go.iconst (5 : Int32) H at_175 rfl rfl ?_
      refine Go.iloadN H at_176 rfl rfl ?_
      refine Go.callS (rest := []) 0 [(.int (stepF (stepF (stepF (stepF (stepF (0 : Int32) (chF0 u)) (chF1 u)) (chF2 u)) (chF3 u)) (chF4 u))), (.int (chF5 u)), (.int (5 : Int32)), (.int (5 : Int32))] H at_177 rfl w38 w39 w2 w40 pd_N16 (ct_sifF l W (stepF (stepF (stepF (stepF (stepF (0 : Int32) (chF0 u)) (chF1 u)) (chF2 u)) (chF3 u)) (chF4 u)) (chF5 u) (5 : Int32) (5 : Int32) h86 (by decide)) all0 rfl rfl rfl (Nat.le_of_eq rfl) (by decide) (by decide) (by decide) (by decide) nh_N15 ?_
      rintro _ _ _ ⟨rfl, rfl, rfl⟩
      show Go _ _ _ _ _ _ h86 [] 6 17 180 #[.val (.long u), .second, .val (.int sh), .val (.int (5 : Int32)), .val (.int (0 : Int32)), .val (.int (chF0 u)), .val (.int (chF1 u)), .val (.int (chF2 u)), .val (.int (chF3 u)), .val (.int (chF4 u)), .val (.int (chF5 u)), .val (.int (chF6 u)), .val (.ref a84), .unset, .val (.int (stepF (stepF (stepF (stepF (stepF (0 : Int32) (chF0 u)) (chF1 u)) (chF2 u)) (chF3 u)) (chF4 u)))] [(.int (stepF (stepF (stepF (stepF (stepF (0 : Int32) (chF0 u)) (chF1 u)) (chF2 u)) (chF3 u)) (chF4 u)))]
      refine Go.istore (ls' := #[.val (.long u), .second, .val (.int sh), .val (.int (5 : Int32)), .val (.int (0 : Int32)), .val (.int (chF0 u)), .val (.int (chF1 u)), .val (.int (chF2 u)), .val (.int (chF3 u)), .val (.int (chF4 u)), .val (.int (chF5 u)), .val (.int (chF6 u)), .val (.ref a84), .unset, .val (.int (stepF (stepF (stepF (stepF (stepF (0 : Int32) (chF0 u)) (chF1 u)) (chF2 u)) (chF3 u)) (chF4 u)))]) H at_180 rfl rfl ?_
      refine Go.iload H at_182 rfl rfl ?_
      refine Go.iload H at_184 rfl rfl ?_
      refine Go.bipush (6 : Int32) H at_186 rfl rfl ?_
      refine Go.iloadN H at_188 rfl rfl ?_
      refine Go.callS (rest := []) 0 [(.int (stepF (stepF (stepF (stepF (stepF (0 : Int32) (chF0 u)) (chF1 u)) (chF2 u)) (chF3 u)) (chF4 u))), (.int (chF6 u)), (.int (6 : Int32)), (.int (5 : Int32))] H at_189 rfl w38 w39 w2 w40 pd_N16 (ct_sifF l W (stepF (stepF (stepF (stepF (stepF (0 : Int32) (chF0 u)) (chF1 u)) (chF2 u)) (chF3 u)) (chF4 u)) (chF6 u) (6 : Int32) (5 : Int32) h86 (by decide)) all0 rfl rfl rfl (Nat.le_of_eq rfl) (by decide) (by decide) (by decide) (by decide) nh_N15 ?_
      rintro _ _ _ ⟨rfl, rfl, rfl⟩
      show Go _ _ _ _ _ _ h86 [] 6 17 192 #[.val (.long u), .second, .val (.int sh), .val (.int (5 : Int32)), .val (.int (0 : Int32)), .val (.int (chF0 u)), .val (.int (chF1 u)), .val (.int (chF2 u)), .val (.int (chF3 u)), .val (.int (chF4 u)), .val (.int (chF5 u)), .val (.int (chF6 u)), .val (.ref a84), .unset, .val (.int (stepF (stepF (stepF (stepF (stepF (0 : Int32) (chF0 u)) (chF1 u)) (chF2 u)) (chF3 u)) (chF4 u)))] [(.int (stepF (stepF (stepF (stepF (stepF (0 : Int32) (chF0 u)) (chF1 u)) (chF2 u)) (chF3 u)) (chF4 u)))]
      refine Go.istore (ls' := #[.val (.long u), .second, .val (.int sh), .val (.int (5 : Int32)), .val (.int (0 : Int32)), .val (.int (chF0 u)), .val (.int (chF1 u)), .val (.int (chF2 u)), .val (.int (chF3 u)), .val (.int (chF4 u)), .val (.int (chF5 u)), .val (.int (chF6 u)), .val (.ref a84), .unset, .val (.int (stepF (stepF (stepF (stepF (stepF (0 : Int32) (chF0 u)) (chF1 u)) (chF2 u)) (chF3 u)) (chF4 u)))]) H at_192 rfl rfl ?_
      refine Go.iload H at_194 rfl rfl ?_
      refine Go.iconst (-1 : Int32) H at_196 rfl rfl ?_
      by_cases c90 : (stepF (stepF (stepF (stepF (stepF (0 : Int32) (chF0 u)) (chF1 u)) (chF2 u)) (chF3 u)) (chF4 u)) = (-1 : Int32)
      ·
        refine Go.icmpN H at_197 (teq c90).2 rfl ?_
        refine Go.iconst (1 : Int32) H at_200 rfl rfl ?_
        refine Go.goto (pc' := 205) H at_201 (by decide) (by decide) ?_
        refine Go.istore (ls' := #[.val (.long u), .second, .val (.int sh), .val (.int (5 : Int32)), .val (.int (0 : Int32)), .val (.int (chF0 u)), .val (.int (chF1 u)), .val (.int (chF2 u)), .val (.int (chF3 u)), .val (.int (chF4 u)), .val (.int (chF5 u)), .val (.int (chF6 u)), .val (.ref a84), .val (.int (1 : Int32)), .val (.int (stepF (stepF (stepF (stepF (stepF (0 : Int32) (chF0 u)) (chF1 u)) (chF2 u)) (chF3 u)) (chF4 u)))]) H at_205 rfl rfl ?_
        refine Go.aload H at_207 rfl rfl rfl ?_
        refine Go.callS (rest := []) 0 [(.ref a84)] H at_209 rfl w44 w45 w46 w47 pd_N21 (ct_hp l W a84 b85 [(chF0 u), (chF1 u), (chF2 u), (chF3 u), (chF4 u)] h86 S89 (Nat.le_of_ble_eq_true rfl)) all0 rfl rfl rfl (Nat.le_of_eq rfl) (by decide) (by decide) (by decide) (by decide) nh_N20 ?_
        rintro _ h91 _ ⟨rfl, E92, rfl⟩
        replace S89 := S89.ext E92
        show Go _ _ _ _ _ _ h91 [] 10 41 212 #[.val (.long u), .second, .val (.int sh), .val (.int (5 : Int32)), .val (.int (0 : Int32)), .val (.int (chF0 u)), .val (.int (chF1 u)), .val (.int (chF2 u)), .val (.int (chF3 u)), .val (.int (chF4 u)), .val (.int (chF5 u)), .val (.int (chF6 u)), .val (.ref a84), .val (.int (1 : Int32)), .val (.int (stepF (stepF (stepF (stepF (stepF (0 : Int32) (chF0 u)) (chF1 u)) (chF2 u)) (chF3 u)) (chF4 u)))] [(.int (if holdsL [(chF0 u), (chF1 u), (chF2 u), (chF3 u), (chF4 u)] = true then (1 : Int32) else 0))]
        refine Go.iload H at_212 rfl rfl ?_
        refine Go.icmpN H at_214 (teq (by rw [if_pos ((run_01 [(chF0 u), (chF1 u), (chF2 u), (chF3 u), (chF4 u)] (Nat.le_of_ble_eq_true rfl)).1.mp (show runF 0 [(chF0 u), (chF1 u), (chF2 u), (chF3 u), (chF4 u)] = -1 from c90))])).2 rfl ?_
        refine Go.iconst (1 : Int32) H at_217 rfl rfl ?_
        refine Go.goto (pc' := 222) H at_218 (by decide) (by decide) ?_
        exact Go.ireturn 1 [] H at_222 (by simp) (by decide) ⟨rfl, trivial⟩ all0 (by decide) (by decide)
      ·
        refine Go.icmpY (pc' := 204) H at_197 (feq c90).2 (by decide) (by decide) ?_
        refine Go.iconst (0 : Int32) H at_204 rfl rfl ?_
        refine Go.istore (ls' := #[.val (.long u), .second, .val (.int sh), .val (.int (5 : Int32)), .val (.int (0 : Int32)), .val (.int (chF0 u)), .val (.int (chF1 u)), .val (.int (chF2 u)), .val (.int (chF3 u)), .val (.int (chF4 u)), .val (.int (chF5 u)), .val (.int (chF6 u)), .val (.ref a84), .val (.int (0 : Int32)), .val (.int (stepF (stepF (stepF (stepF (stepF (0 : Int32) (chF0 u)) (chF1 u)) (chF2 u)) (chF3 u)) (chF4 u)))]) H at_205 rfl rfl ?_
        refine Go.aload H at_207 rfl rfl rfl ?_
        refine Go.callS (rest := []) 0 [(.ref a84)] H at_209 rfl w44 w45 w46 w47 pd_N21 (ct_hp l W a84 b85 [(chF0 u), (chF1 u), (chF2 u), (chF3 u), (chF4 u)] h86 S89 (Nat.le_of_ble_eq_true rfl)) all0 rfl rfl rfl (Nat.le_of_eq rfl) (by decide) (by decide) (by decide) (by decide) nh_N20 ?_
        rintro _ h93 _ ⟨rfl, E94, rfl⟩
        replace S89 := S89.ext E94
        show Go _ _ _ _ _ _ h93 [] 10 41 212 #[.val (.long u), .second, .val (.int sh), .val (.int (5 : Int32)), .val (.int (0 : Int32)), .val (.int (chF0 u)), .val (.int (chF1 u)), .val (.int (chF2 u)), .val (.int (chF3 u)), .val (.int (chF4 u)), .val (.int (chF5 u)), .val (.int (chF6 u)), .val (.ref a84), .val (.int (0 : Int32)), .val (.int (stepF (stepF (stepF (stepF (stepF (0 : Int32) (chF0 u)) (chF1 u)) (chF2 u)) (chF3 u)) (chF4 u)))] [(.int (if holdsL [(chF0 u), (chF1 u), (chF2 u), (chF3 u), (chF4 u)] = true then (1 : Int32) else 0))]
        refine Go.iload H at_212 rfl rfl ?_
        refine Go.icmpN H at_214 (teq (by rw [if_neg (fun e => c90 (show runF 0 [(chF0 u), (chF1 u), (chF2 u), (chF3 u), (chF4 u)] = -1 from (run_01 [(chF0 u), (chF1 u), (chF2 u), (chF3 u), (chF4 u)] (Nat.le_of_ble_eq_true rfl)).1.mpr e))])).2 rfl ?_
        refine Go.iconst (1 : Int32) H at_217 rfl rfl ?_
        refine Go.goto (pc' := 222) H at_218 (by decide) (by decide) ?_
        exact Go.ireturn 1 [] H at_222 (by simp) (by decide) ⟨rfl, trivial⟩ all0 (by decide) (by decide)
    ·
      show Go _ _ _ _ _ _ h30 [] 0 0 82 #[.val (.long u), .second, .val (.int sh), .val (.int (6 : Int32)), .val (.int (0 : Int32)), .val (.int (chF0 u)), .val (.int (chF1 u)), .val (.int (chF2 u)), .val (.int (chF3 u)), .val (.int (chF4 u)), .val (.int (chF5 u)), .val (.int (chF6 u)), .unset, .unset, .unset] []
      refine Go.iloadN H at_82 rfl rfl ?_
      refine Go.iload H at_83 rfl rfl ?_
      refine Go.iload H at_85 rfl rfl ?_
      refine Go.iload H at_87 rfl rfl ?_
      refine Go.iload H at_89 rfl rfl ?_
      refine Go.iload H at_91 rfl rfl ?_
      refine Go.iload H at_93 rfl rfl ?_
      refine Go.iload H at_95 rfl rfl ?_
      refine Go.callS (rest := []) 0 [(.int (6 : Int32)), (.int (chF0 u)), (.int (chF1 u)), (.int (chF2 u)), (.int (chF3 u)), (.int (chF4 u)), (.int (chF5 u)), (.int (chF6 u))] H at_97 rfl w5 w6 w2 w7 pd_N14 (ct_make6 l W (chF0 u) (chF1 u) (chF2 u) (chF3 u) (chF4 u) (chF5 u) (chF6 u) h30 (chF0_l _) (chF1_l _) (chF2_l _) (chF3_l _) (chF4_l _) (chF5_l _) (chF6_l _)) all0 rfl rfl rfl (Nat.le_of_eq rfl) (by decide) (by decide) (by decide) (by decide) nh_N15 ?_
      rintro _ h97 _ ⟨a95, b96, rfl, E98, g99, S100, rfl⟩
      show Go _ _ _ _ _ _ h97 [] 6 18 100 #[.val (.long u), .second, .val (.int sh), .val (.int (6 : Int32)), .val (.int (0 : Int32)), .val (.int (chF0 u)), .val (.int (chF1 u)), .val (.int (chF2 u)), .val (.int (chF3 u)), .val (.int (chF4 u)), .val (.int (chF5 u)), .val (.int (chF6 u)), .unset, .unset, .unset] [(.ref a95)]
      refine Go.astore (ls' := #[.val (.long u), .second, .val (.int sh), .val (.int (6 : Int32)), .val (.int (0 : Int32)), .val (.int (chF0 u)), .val (.int (chF1 u)), .val (.int (chF2 u)), .val (.int (chF3 u)), .val (.int (chF4 u)), .val (.int (chF5 u)), .val (.int (chF6 u)), .val (.ref a95), .unset, .unset]) H at_100 rfl rfl rfl ?_
      refine Go.iload H at_102 rfl rfl ?_
      refine Go.ifY (pc' := 113) H at_104 (by decide) (by decide) (by decide) ?_
      refine Go.iconst (0 : Int32) H at_113 rfl rfl ?_
      refine Go.istore (ls' := #[.val (.long u), .second, .val (.int sh), .val (.int (6 : Int32)), .val (.int (0 : Int32)), .val (.int (chF0 u)), .val (.int (chF1 u)), .val (.int (chF2 u)), .val (.int (chF3 u)), .val (.int (chF4 u)), .val (.int (chF5 u)), .val (.int (chF6 u)), .val (.ref a95), .unset, .val (.int (0 : Int32))]) H at_114 rfl rfl ?_
      refine Go.iload H at_116 rfl rfl ?_
      refine Go.iload H at_118 rfl rfl ?_
      refine Go.iconst (0 : Int32) H at_120 rfl rfl ?_
      refine Go.iloadN H at_121 rfl rfl ?_
      refine Go.callS (rest := []) 0 [(.int (0 : Int32)), (.int (chF0 u)), (.int (0 : Int32)), (.int (6 : Int32))] H at_122 rfl w38 w39 w2 w40 pd_N16 (ct_sifT l W (0 : Int32) (chF0 u) (0 : Int32) (6 : Int32) h97 (by decide)) all0 rfl rfl rfl (Nat.le_of_eq rfl) (by decide) (by decide) (by decide) (by decide) nh_N15 ?_
      rintro _ _ _ ⟨rfl, rfl, rfl⟩
      show Go _ _ _ _ _ _ h97 [] 6 18 125 #[.val (.long u), .second, .val (.int sh), .val (.int (6 : Int32)), .val (.int (0 : Int32)), .val (.int (chF0 u)), .val (.int (chF1 u)), .val (.int (chF2 u)), .val (.int (chF3 u)), .val (.int (chF4 u)), .val (.int (chF5 u)), .val (.int (chF6 u)), .val (.ref a95), .unset, .val (.int (0 : Int32))] [(.int (stepF (0 : Int32) (chF0 u)))]
      refine Go.istore (ls' := #[.val (.long u), .second, .val (.int sh), .val (.int (6 : Int32)), .val (.int (0 : Int32)), .val (.int (chF0 u)), .val (.int (chF1 u)), .val (.int (chF2 u)), .val (.int (chF3 u)), .val (.int (chF4 u)), .val (.int (chF5 u)), .val (.int (chF6 u)), .val (.ref a95), .unset, .val (.int (stepF (0 : Int32) (chF0 u)))]) H at_125 rfl rfl ?_
      refine Go.iload H at_127 rfl rfl ?_
      refine Go.iload H at_129 rfl rfl ?_
      refine Go.iconst (1 : Int32) H at_131 rfl rfl ?_
      refine Go.iloadN H at_132 rfl rfl ?_
      refine Go.callS (rest := []) 0 [(.int (stepF (0 : Int32) (chF0 u))), (.int (chF1 u)), (.int (1 : Int32)), (.int (6 : Int32))] H at_133 rfl w38 w39 w2 w40 pd_N16 (ct_sifT l W (stepF (0 : Int32) (chF0 u)) (chF1 u) (1 : Int32) (6 : Int32) h97 (by decide)) all0 rfl rfl rfl (Nat.le_of_eq rfl) (by decide) (by decide) (by decide) (by decide) nh_N15 ?_
      rintro _ _ _ ⟨rfl, rfl, rfl⟩
      show Go _ _ _ _ _ _ h97 [] 6 18 136 #[.val (.long u), .second, .val (.int sh), .val (.int (6 : Int32)), .val (.int (0 : Int32)), .val (.int (chF0 u)), .val (.int (chF1 u)), .val (.int (chF2 u)), .val (.int (chF3 u)), .val (.int (chF4 u)), .val (.int (chF5 u)), .val (.int (chF6 u)), .val (.ref a95), .unset, .val (.int (stepF (0 : Int32) (chF0 u)))] [(.int (stepF (stepF (0 : Int32) (chF0 u)) (chF1 u)))]
      refine Go.istore (ls' := #[.val (.long u), .second, .val (.int sh), .val (.int (6 : Int32)), .val (.int (0 : Int32)), .val (.int (chF0 u)), .val (.int (chF1 u)), .val (.int (chF2 u)), .val (.int (chF3 u)), .val (.int (chF4 u)), .val (.int (chF5 u)), .val (.int (chF6 u)), .val (.ref a95), .unset, .val (.int (stepF (stepF (0 : Int32) (chF0 u)) (chF1 u)))]) H at_136 rfl rfl ?_
      refine Go.iload H at_138 rfl rfl ?_
      refine Go.iload H at_140 rfl rfl ?_
      refine Go.iconst (2 : Int32) H at_142 rfl rfl ?_
      refine Go.iloadN H at_143 rfl rfl ?_
      refine Go.callS (rest := []) 0 [(.int (stepF (stepF (0 : Int32) (chF0 u)) (chF1 u))), (.int (chF2 u)), (.int (2 : Int32)), (.int (6 : Int32))] H at_144 rfl w38 w39 w2 w40 pd_N16 (ct_sifT l W (stepF (stepF (0 : Int32) (chF0 u)) (chF1 u)) (chF2 u) (2 : Int32) (6 : Int32) h97 (by decide)) all0 rfl rfl rfl (Nat.le_of_eq rfl) (by decide) (by decide) (by decide) (by decide) nh_N15 ?_
      rintro _ _ _ ⟨rfl, rfl, rfl⟩
      show Go _ _ _ _ _ _ h97 [] 6 18 147 #[.val (.long u), .second, .val (.int sh), .val (.int (6 : Int32)), .val (.int (0 : Int32)), .val (.int (chF0 u)), .val (.int (chF1 u)), .val (.int (chF2 u)), .val (.int (chF3 u)), .val (.int (chF4 u)), .val (.int (chF5 u)), .val (.int (chF6 u)), .val (.ref a95), .unset, .val (.int (stepF (stepF (0 : Int32) (chF0 u)) (chF1 u)))] [(.int (stepF (stepF (stepF (0 : Int32) (chF0 u)) (chF1 u)) (chF2 u)))]
      refine Go.istore (ls' := #[.val (.long u), .second, .val (.int sh), .val (.int (6 : Int32)), .val (.int (0 : Int32)), .val (.int (chF0 u)), .val (.int (chF1 u)), .val (.int (chF2 u)), .val (.int (chF3 u)), .val (.int (chF4 u)), .val (.int (chF5 u)), .val (.int (chF6 u)), .val (.ref a95), .unset, .val (.int (stepF (stepF (stepF (0 : Int32) (chF0 u)) (chF1 u)) (chF2 u)))]) H at_147 rfl rfl ?_
      refine Go.iload H at_149 rfl rfl ?_
      refine Go.iload H at_151 rfl rfl ?_
      refine Go.iconst (3 : Int32) H at_153 rfl rfl ?_
      refine Go.iloadN H at_154 rfl rfl ?_
      refine Go.callS (rest := []) 0 [(.int (stepF (stepF (stepF (0 : Int32) (chF0 u)) (chF1 u)) (chF2 u))), (.int (chF3 u)), (.int (3 : Int32)), (.int (6 : Int32))] H at_155 rfl w38 w39 w2 w40 pd_N16 (ct_sifT l W (stepF (stepF (stepF (0 : Int32) (chF0 u)) (chF1 u)) (chF2 u)) (chF3 u) (3 : Int32) (6 : Int32) h97 (by decide)) all0 rfl rfl rfl (Nat.le_of_eq rfl) (by decide) (by decide) (by decide) (by decide) nh_N15 ?_
      rintro _ _ _ ⟨rfl, rfl, rfl⟩
      show Go _ _ _ _ _ _ h97 [] 6 18 158 #[.val (.long u), .second, .val (.int sh), .val (.int (6 : Int32)), .val (.int (0 : Int32)), .val (.int (chF0 u)), .val (.int (chF1 u)), .val (.int (chF2 u)), .val (.int (chF3 u)), .val (.int (chF4 u)), .val (.int (chF5 u)), .val (.int (chF6 u)), .val (.ref a95), .unset, .val (.int (stepF (stepF (stepF (0 : Int32) (chF0 u)) (chF1 u)) (chF2 u)))] [(.int (stepF (stepF (stepF (stepF (0 : Int32) (chF0 u)) (chF1 u)) (chF2 u)) (chF3 u)))]
      refine Go.istore (ls' := #[.val (.long u), .second, .val (.int sh), .val (.int (6 : Int32)), .val (.int (0 : Int32)), .val (.int (chF0 u)), .val (.int (chF1 u)), .val (.int (chF2 u)), .val (.int (chF3 u)), .val (.int (chF4 u)), .val (.int (chF5 u)), .val (.int (chF6 u)), .val (.ref a95), .unset, .val (.int (stepF (stepF (stepF (stepF (0 : Int32) (chF0 u)) (chF1 u)) (chF2 u)) (chF3 u)))]) H at_158 rfl rfl ?_
      refine Go.iload H at_160 rfl rfl ?_
      refine Go.iload H at_162 rfl rfl ?_
      refine Go.iconst (4 : Int32) H at_164 rfl rfl ?_
      refine Go.iloadN H at_165 rfl rfl ?_
      refine Go.callS (rest := []) 0 [(.int (stepF (stepF (stepF (stepF (0 : Int32) (chF0 u)) (chF1 u)) (chF2 u)) (chF3 u))), (.int (chF4 u)), (.int (4 : Int32)), (.int (6 : Int32))] H at_166 rfl w38 w39 w2 w40 pd_N16 (ct_sifT l W (stepF (stepF (stepF (stepF (0 : Int32) (chF0 u)) (chF1 u)) (chF2 u)) (chF3 u)) (chF4 u) (4 : Int32) (6 : Int32) h97 (by decide)) all0 rfl rfl rfl (Nat.le_of_eq rfl) (by decide) (by decide) (by decide) (by decide) nh_N15 ?_
      rintro _ _ _ ⟨rfl, rfl, rfl⟩
      show Go _ _ _ _ _ _ h97 [] 6 18 169 #[.val (.long u), .second, .val (.int sh), .val (.int (6 : Int32)), .val (.int (0 : Int32)), .val (.int (chF0 u)), .val (.int (chF1 u)), .val (.int (chF2 u)), .val (.int (chF3 u)), .val (.int (chF4 u)), .val (.int (chF5 u)), .val (.int (chF6 u)), .val (.ref a95), .unset, .val (.int (stepF (stepF (stepF (stepF (0 : Int32) (chF0 u)) (chF1 u)) (chF2 u)) (chF3 u)))] [(.int (stepF (stepF (stepF (stepF (stepF (0 : Int32) (chF0 u)) (chF1 u)) (chF2 u)) (chF3 u)) (chF4 u)))]
      refine Go.istore (ls' := #[.val (.long u), .second, .val (.int sh), .val (.int (6 : Int32)), .val (.int (0 : Int32)), .val (.int (chF0 u)), .val (.int (chF1 u)), .val (.int (chF2 u)), .val (.int (chF3 u)), .val (.int (chF4 u)), .val (.int (chF5 u)), .val (.int (chF6 u)), .val (.ref a95), .unset, .val (.int (stepF (stepF (stepF (stepF (stepF (0 : Int32) (chF0 u)) (chF1 u)) (chF2 u)) (chF3 u)) (chF4 u)))]) H at_169 rfl rfl ?_
      refine Go.iload H at_171 rfl rfl ?_
      refine Go.iload H at_173 rfl rfl ?_
      refine Go.iconst (5 : Int32) H at_175 rfl rfl ?_
      refine Go.iloadN H at_176 rfl rfl ?_
      refine Go.callS (rest := []) 0 [(.int (stepF (stepF (stepF (stepF (stepF (0 : Int32) (chF0 u)) (chF1 u)) (chF2 u)) (chF3 u)) (chF4 u))), (.int (chF5 u)), (.int (5 : Int32)), (.int (6 : Int32))] H at_177 rfl w38 w39 w2 w40 pd_N16 (ct_sifT l W (stepF (stepF (stepF (stepF (stepF (0 : Int32) (chF0 u)) (chF1 u)) (chF2 u)) (chF3 u)) (chF4 u)) (chF5 u) (5 : Int32) (6 : Int32) h97 (by decide)) all0 rfl rfl rfl (Nat.le_of_eq rfl) (by decide) (by decide) (by decide) (by decide) nh_N15 ?_
      rintro _ _ _ ⟨rfl, rfl, rfl⟩
      show Go _ _ _ _ _ _ h97 [] 6 18 180 #[.val (.long u), .second, .val (.int sh), .val (.int (6 : Int32)), .val (.int (0 : Int32)), .val (.int (chF0 u)), .val (.int (chF1 u)), .val (.int (chF2 u)), .val (.int (chF3 u)), .val (.int (chF4 u)), .val (.int (chF5 u)), .val (.int (chF6 u)), .val (.ref a95), .unset, .val (.int (stepF (stepF (stepF (stepF (stepF (0 : Int32) (chF0 u)) (chF1 u)) (chF2 u)) (chF3 u)) (chF4 u)))] [(.int (stepF (stepF (stepF (stepF (stepF (stepF (0 : Int32) (chF0 u)) (chF1 u)) (chF2 u)) (chF3 u)) (chF4 u)) (chF5 u)))]
      refine Go.istore (ls' := #[.val (.long u), .second, .val (.int sh), .val (.int (6 : Int32)), .val (.int (0 : Int32)), .val (.int (chF0 u)), .val (.int (chF1 u)), .val (.int (chF2 u)), .val (.int (chF3 u)), .val (.int (chF4 u)), .val (.int (chF5 u)), .val (.int (chF6 u)), .val (.ref a95), .unset, .val (.int (stepF (stepF (stepF (stepF (stepF (stepF (0 : Int32) (chF0 u)) (chF1 u)) (chF2 u)) (chF3 u)) (chF4 u)) (chF5 u)))]) H at_180 rfl rfl ?_
      refine Go.iload H at_182 rfl rfl ?_
      refine Go.iload H at_184 rfl rfl ?_
      refine Go.bipush (6 : Int32) H at_186 rfl rfl ?_
      refine Go.iloadN H at_188 rfl rfl ?_
      refine Go.callS (rest := []) 0 [(.int (stepF (stepF (stepF (stepF (stepF (stepF (0 : Int32) (chF0 u)) (chF1 u)) (chF2 u)) (chF3 u)) (chF4 u)) (chF5 u))), (.int (chF6 u)), (.int (6 : Int32)), (.int (6 : Int32))] H at_189 rfl w38 w39 w2 w40 pd_N16 (ct_sifF l W (stepF (stepF (stepF (stepF (stepF (stepF (0 : Int32) (chF0 u)) (chF1 u)) (chF2 u)) (chF3 u)) (chF4 u)) (chF5 u)) (chF6 u) (6 : Int32) (6 : Int32) h97 (by decide)) all0 rfl rfl rfl (Nat.le_of_eq rfl) (by decide) (by decide) (by decide) (by decide) nh_N15 ?_
      rintro _ _ _ ⟨rfl, rfl, rfl⟩
      show Go _ _ _ _ _ _ h97 [] 6 18 192 #[.val (.long u), .second, .val (.int sh), .val (.int (6 : Int32)), .val (.int (0 : Int32)), .val (.int (chF0 u)), .val (.int (chF1 u)), .val (.int (chF2 u)), .val (.int (chF3 u)), .val (.int (chF4 u)), .val (.int (chF5 u)), .val (.int (chF6 u)), .val (.ref a95), .unset, .val (.int (stepF (stepF (stepF (stepF (stepF (stepF (0 : Int32) (chF0 u)) (chF1 u)) (chF2 u)) (chF3 u)) (chF4 u)) (chF5 u)))] [(.int (stepF (stepF (stepF (stepF (stepF (stepF (0 : Int32) (chF0 u)) (chF1 u)) (chF2 u)) (chF3 u)) (chF4 u)) (chF5 u)))]
      refine Go.istore (ls' := #[.val (.long u), .second, .val (.int sh), .val (.int (6 : Int32)), .val (.int (0 : Int32)), .val (.int (chF0 u)), .val (.int (chF1 u)), .val (.int (chF2 u)), .val (.int (chF3 u)), .val (.int (chF4 u)), .val (.int (chF5 u)), .val (.int (chF6 u)), .val (.ref a95), .unset, .val (.int (stepF (stepF (stepF (stepF (stepF (stepF (0 : Int32) (chF0 u)) (chF1 u)) (chF2 u)) (chF3 u)) (chF4 u)) (chF5 u)))]) H at_192 rfl rfl ?_
      refine Go.iload H at_194 rfl rfl ?_
      refine Go.iconst (-1 : Int32) H at_196 rfl rfl ?_
      by_cases c101 : (stepF (stepF (stepF (stepF (stepF (stepF (0 : Int32) (chF0 u)) (chF1 u)) (chF2 u)) (chF3 u)) (chF4 u)) (chF5 u)) = (-1 : Int32)
      ·
        refine Go.icmpN H at_197 (teq c101).2 rfl ?_
        refine Go.iconst (1 : Int32) H at_200 rfl rfl ?_
        refine Go.goto (pc' := 205) H at_201 (by decide) (by decide) ?_
        refine Go.istore (ls' := #[.val (.long u), .second, .val (.int sh), .val (.int (6 : Int32)), .val (.int (0 : Int32)), .val (.int (chF0 u)), .val (.int (chF1 u)), .val (.int (chF2 u)), .val (.int (chF3 u)), .val (.int (chF4 u)), .val (.int (chF5 u)), .val (.int (chF6 u)), .val (.ref a95), .val (.int (1 : Int32)), .val (.int (stepF (stepF (stepF (stepF (stepF (stepF (0 : Int32) (chF0 u)) (chF1 u)) (chF2 u)) (chF3 u)) (chF4 u)) (chF5 u)))]) H at_205 rfl rfl ?_
        refine Go.aload H at_207 rfl rfl rfl ?_
        refine Go.callS (rest := []) 0 [(.ref a95)] H at_209 rfl w44 w45 w46 w47 pd_N21 (ct_hp l W a95 b96 [(chF0 u), (chF1 u), (chF2 u), (chF3 u), (chF4 u), (chF5 u)] h97 S100 (Nat.le_of_ble_eq_true rfl)) all0 rfl rfl rfl (Nat.le_of_eq rfl) (by decide) (by decide) (by decide) (by decide) nh_N20 ?_
        rintro _ h102 _ ⟨rfl, E103, rfl⟩
        replace S100 := S100.ext E103
        show Go _ _ _ _ _ _ h102 [] 10 42 212 #[.val (.long u), .second, .val (.int sh), .val (.int (6 : Int32)), .val (.int (0 : Int32)), .val (.int (chF0 u)), .val (.int (chF1 u)), .val (.int (chF2 u)), .val (.int (chF3 u)), .val (.int (chF4 u)), .val (.int (chF5 u)), .val (.int (chF6 u)), .val (.ref a95), .val (.int (1 : Int32)), .val (.int (stepF (stepF (stepF (stepF (stepF (stepF (0 : Int32) (chF0 u)) (chF1 u)) (chF2 u)) (chF3 u)) (chF4 u)) (chF5 u)))] [(.int (if holdsL [(chF0 u), (chF1 u), (chF2 u), (chF3 u), (chF4 u), (chF5 u)] = true then (1 : Int32) else 0))]
        refine Go.iload H at_212 rfl rfl ?_
        refine Go.icmpN H at_214 (teq (by rw [if_pos ((run_01 [(chF0 u), (chF1 u), (chF2 u), (chF3 u), (chF4 u), (chF5 u)] (Nat.le_of_ble_eq_true rfl)).1.mp (show runF 0 [(chF0 u), (chF1 u), (chF2 u), (chF3 u), (chF4 u), (chF5 u)] = -1 from c101))])).2 rfl ?_
        refine Go.iconst (1 : Int32) H at_217 rfl rfl ?_
        refine Go.goto (pc' := 222) H at_218 (by decide) (by decide) ?_
        exact Go.ireturn 1 [] H at_222 (by simp) (by decide) ⟨rfl, trivial⟩ all0 (by decide) (by decide)
      ·
        refine Go.icmpY (pc' := 204) H at_197 (feq c101).2 (by decide) (by decide) ?_
        refine Go.iconst (0 : Int32) H at_204 rfl rfl ?_
        refine Go.istore (ls' := #[.val (.long u), .second, .val (.int sh), .val (.int (6 : Int32)), .val (.int (0 : Int32)), .val (.int (chF0 u)), .val (.int (chF1 u)), .val (.int (chF2 u)), .val (.int (chF3 u)), .val (.int (chF4 u)), .val (.int (chF5 u)), .val (.int (chF6 u)), .val (.ref a95), .val (.int (0 : Int32)), .val (.int (stepF (stepF (stepF (stepF (stepF (stepF (0 : Int32) (chF0 u)) (chF1 u)) (chF2 u)) (chF3 u)) (chF4 u)) (chF5 u)))]) H at_205 rfl rfl ?_
        refine Go.aload H at_207 rfl rfl rfl ?_
        refine Go.callS (rest := []) 0 [(.ref a95)] H at_209 rfl w44 w45 w46 w47 pd_N21 (ct_hp l W a95 b96 [(chF0 u), (chF1 u), (chF2 u), (chF3 u), (chF4 u), (chF5 u)] h97 S100 (Nat.le_of_ble_eq_true rfl)) all0 rfl rfl rfl (Nat.le_of_eq rfl) (by decide) (by decide) (by decide) (by decide) nh_N20 ?_
        rintro _ h104 _ ⟨rfl, E105, rfl⟩
        replace S100 := S100.ext E105
        show Go _ _ _ _ _ _ h104 [] 10 42 212 #[.val (.long u), .second, .val (.int sh), .val (.int (6 : Int32)), .val (.int (0 : Int32)), .val (.int (chF0 u)), .val (.int (chF1 u)), .val (.int (chF2 u)), .val (.int (chF3 u)), .val (.int (chF4 u)), .val (.int (chF5 u)), .val (.int (chF6 u)), .val (.ref a95), .val (.int (0 : Int32)), .val (.int (stepF (stepF (stepF (stepF (stepF (stepF (0 : Int32) (chF0 u)) (chF1 u)) (chF2 u)) (chF3 u)) (chF4 u)) (chF5 u)))] [(.int (if holdsL [(chF0 u), (chF1 u), (chF2 u), (chF3 u), (chF4 u), (chF5 u)] = true then (1 : Int32) else 0))]
        refine Go.iload H at_212 rfl rfl ?_
        refine Go.icmpN H at_214 (teq (by rw [if_neg (fun e => c101 (show runF 0 [(chF0 u), (chF1 u), (chF2 u), (chF3 u), (chF4 u), (chF5 u)] = -1 from (run_01 [(chF0 u), (chF1 u), (chF2 u), (chF3 u), (chF4 u), (chF5 u)] (Nat.le_of_ble_eq_true rfl)).1.mpr e))])).2 rfl ?_
        refine Go.iconst (1 : Int32) H at_217 rfl rfl ?_
        refine Go.goto (pc' := 222) H at_218 (by decide) (by decide) ?_
        exact Go.ireturn 1 [] H at_222 (by simp) (by decide) ⟨rfl, trivial⟩ all0 (by decide) (by decide)
    ·
      show Go _ _ _ _ _ _ h30 [] 0 0 82 #[.val (.long u), .second, .val (.int sh), .val (.int (7 : Int32)), .val (.int (0 : Int32)), .val (.int (chF0 u)), .val (.int (chF1 u)), .val (.int (chF2 u)), .val (.int (chF3 u)), .val (.int (chF4 u)), .val (.int (chF5 u)), .val (.int (chF6 u)), .unset, .unset, .unset] []
      refine Go.iloadN H at_82 rfl rfl ?_
      refine Go.iload H at_83 rfl rfl ?_
      refine Go.iload H at_85 rfl rfl ?_
      refine Go.iload H at_87 rfl rfl ?_
      refine Go.iload H at_89 rfl rfl ?_
      refine Go.iload H at_91 rfl rfl ?_
      refine Go.iload H at_93 rfl rfl ?_
      refine Go.iload H at_95 rfl rfl ?_
      refine Go.callS (rest := []) 0 [(.int (7 : Int32)), (.int (chF0 u)), (.int (chF1 u)), (.int (chF2 u)), (.int (chF3 u)), (.int (chF4 u)), (.int (chF5 u)), (.int (chF6 u))] H at_97 rfl w5 w6 w2 w7 pd_N14 (ct_make7 l W (chF0 u) (chF1 u) (chF2 u) (chF3 u) (chF4 u) (chF5 u) (chF6 u) h30 (chF0_l _) (chF1_l _) (chF2_l _) (chF3_l _) (chF4_l _) (chF5_l _) (chF6_l _)) all0 rfl rfl rfl (Nat.le_of_eq rfl) (by decide) (by decide) (by decide) (by decide) nh_N15 ?_
      rintro _ h108 _ ⟨a106, b107, rfl, E109, g110, S111, rfl⟩
      show Go _ _ _ _ _ _ h108 [] 6 19 100 #[.val (.long u), .second, .val (.int sh), .val (.int (7 : Int32)), .val (.int (0 : Int32)), .val (.int (chF0 u)), .val (.int (chF1 u)), .val (.int (chF2 u)), .val (.int (chF3 u)), .val (.int (chF4 u)), .val (.int (chF5 u)), .val (.int (chF6 u)), .unset, .unset, .unset] [(.ref a106)]
      refine Go.astore (ls' := #[.val (.long u), .second, .val (.int sh), .val (.int (7 : Int32)), .val (.int (0 : Int32)), .val (.int (chF0 u)), .val (.int (chF1 u)), .val (.int (chF2 u)), .val (.int (chF3 u)), .val (.int (chF4 u)), .val (.int (chF5 u)), .val (.int (chF6 u)), .val (.ref a106), .unset, .unset]) H at_100 rfl rfl rfl ?_
      refine Go.iload H at_102 rfl rfl ?_
      refine Go.ifY (pc' := 113) H at_104 (by decide) (by decide) (by decide) ?_
      refine Go.iconst (0 : Int32) H at_113 rfl rfl ?_
      refine Go.istore (ls' := #[.val (.long u), .second, .val (.int sh), .val (.int (7 : Int32)), .val (.int (0 : Int32)), .val (.int (chF0 u)), .val (.int (chF1 u)), .val (.int (chF2 u)), .val (.int (chF3 u)), .val (.int (chF4 u)), .val (.int (chF5 u)), .val (.int (chF6 u)), .val (.ref a106), .unset, .val (.int (0 : Int32))]) H at_114 rfl rfl ?_
      refine Go.iload H at_116 rfl rfl ?_
      refine Go.iload H at_118 rfl rfl ?_
      refine Go.iconst (0 : Int32) H at_120 rfl rfl ?_
      refine Go.iloadN H at_121 rfl rfl ?_
      refine Go.callS (rest := []) 0 [(.int (0 : Int32)), (.int (chF0 u)), (.int (0 : Int32)), (.int (7 : Int32))] H at_122 rfl w38 w39 w2 w40 pd_N16 (ct_sifT l W (0 : Int32) (chF0 u) (0 : Int32) (7 : Int32) h108 (by decide)) all0 rfl rfl rfl (Nat.le_of_eq rfl) (by decide) (by decide) (by decide) (by decide) nh_N15 ?_
      rintro _ _ _ ⟨rfl, rfl, rfl⟩
      show Go _ _ _ _ _ _ h108 [] 6 19 125 #[.val (.long u), .second, .val (.int sh), .val (.int (7 : Int32)), .val (.int (0 : Int32)), .val (.int (chF0 u)), .val (.int (chF1 u)), .val (.int (chF2 u)), .val (.int (chF3 u)), .val (.int (chF4 u)), .val (.int (chF5 u)), .val (.int (chF6 u)), .val (.ref a106), .unset, .val (.int (0 : Int32))] [(.int (stepF (0 : Int32) (chF0 u)))]
      refine Go.istore (ls' := #[.val (.long u), .second, .val (.int sh), .val (.int (7 : Int32)), .val (.int (0 : Int32)), .val (.int (chF0 u)), .val (.int (chF1 u)), .val (.int (chF2 u)), .val (.int (chF3 u)), .val (.int (chF4 u)), .val (.int (chF5 u)), .val (.int (chF6 u)), .val (.ref a106), .unset, .val (.int (stepF (0 : Int32) (chF0 u)))]) H at_125 rfl rfl ?_
      refine Go.iload H at_127 rfl rfl ?_
      refine Go.iload H at_129 rfl rfl ?_
      refine Go.iconst (1 : Int32) H at_131 rfl rfl ?_
      refine Go.iloadN H at_132 rfl rfl ?_
      refine Go.callS (rest := []) 0 [(.int (stepF (0 : Int32) (chF0 u))), (.int (chF1 u)), (.int (1 : Int32)), (.int (7 : Int32))] H at_133 rfl w38 w39 w2 w40 pd_N16 (ct_sifT l W (stepF (0 : Int32) (chF0 u)) (chF1 u) (1 : Int32) (7 : Int32) h108 (by decide)) all0 rfl rfl rfl (Nat.le_of_eq rfl) (by decide) (by decide) (by decide) (by decide) nh_N15 ?_
      rintro _ _ _ ⟨rfl, rfl, rfl⟩
      show Go _ _ _ _ _ _ h108 [] 6 19 136 #[.val (.long u), .second, .val (.int sh), .val (.int (7 : Int32)), .val (.int (0 : Int32)), .val (.int (chF0 u)), .val (.int (chF1 u)), .val (.int (chF2 u)), .val (.int (chF3 u)), .val (.int (chF4 u)), .val (.int (chF5 u)), .val (.int (chF6 u)), .val (.ref a106), .unset, .val (.int (stepF (0 : Int32) (chF0 u)))] [(.int (stepF (stepF (0 : Int32) (chF0 u)) (chF1 u)))]
      refine Go.istore (ls' := #[.val (.long u), .second, .val (.int sh), .val (.int (7 : Int32)), .val (.int (0 : Int32)), .val (.int (chF0 u)), .val (.int (chF1 u)), .val (.int (chF2 u)), .val (.int (chF3 u)), .val (.int (chF4 u)), .val (.int (chF5 u)), .val (.int (chF6 u)), .val (.ref a106), .unset, .val (.int (stepF (stepF (0 : Int32) (chF0 u)) (chF1 u)))]) H at_136 rfl rfl ?_
      refine Go.iload H at_138 rfl rfl ?_
      refine Go.iload H at_140 rfl rfl ?_
      refine Go.iconst (2 : Int32) H at_142 rfl rfl ?_
      refine Go.iloadN H at_143 rfl rfl ?_
      refine Go.callS (rest := []) 0 [(.int (stepF (stepF (0 : Int32) (chF0 u)) (chF1 u))), (.int (chF2 u)), (.int (2 : Int32)), (.int (7 : Int32))] H at_144 rfl w38 w39 w2 w40 pd_N16 (ct_sifT l W (stepF (stepF (0 : Int32) (chF0 u)) (chF1 u)) (chF2 u) (2 : Int32) (7 : Int32) h108 (by decide)) all0 rfl rfl rfl (Nat.le_of_eq rfl) (by decide) (by decide) (by decide) (by decide) nh_N15 ?_
      rintro _ _ _ ⟨rfl, rfl, rfl⟩
      show Go _ _ _ _ _ _ h108 [] 6 19 147 #[.val (.long u), .second, .val (.int sh), .val (.int (7 : Int32)), .val (.int (0 : Int32)), .val (.int (chF0 u)), .val (.int (chF1 u)), .val (.int (chF2 u)), .val (.int (chF3 u)), .val (.int (chF4 u)), .val (.int (chF5 u)), .val (.int (chF6 u)), .val (.ref a106), .unset, .val (.int (stepF (stepF (0 : Int32) (chF0 u)) (chF1 u)))] [(.int (stepF (stepF (stepF (0 : Int32) (chF0 u)) (chF1 u)) (chF2 u)))]
      refine Go.istore (ls' := #[.val (.long u), .second, .val (.int sh), .val (.int (7 : Int32)), .val (.int (0 : Int32)), .val (.int (chF0 u)), .val (.int (chF1 u)), .val (.int (chF2 u)), .val (.int (chF3 u)), .val (.int (chF4 u)), .val (.int (chF5 u)), .val (.int (chF6 u)), .val (.ref a106), .unset, .val (.int (stepF (stepF (stepF (0 : Int32) (chF0 u)) (chF1 u)) (chF2 u)))]) H at_147 rfl rfl ?_
      refine Go.iload H at_149 rfl rfl ?_
      refine Go.iload H at_151 rfl rfl ?_
      refine Go.iconst (3 : Int32) H at_153 rfl rfl ?_
      refine Go.iloadN H at_154 rfl rfl ?_
      refine Go.callS (rest := []) 0 [(.int (stepF (stepF (stepF (0 : Int32) (chF0 u)) (chF1 u)) (chF2 u))), (.int (chF3 u)), (.int (3 : Int32)), (.int (7 : Int32))] H at_155 rfl w38 w39 w2 w40 pd_N16 (ct_sifT l W (stepF (stepF (stepF (0 : Int32) (chF0 u)) (chF1 u)) (chF2 u)) (chF3 u) (3 : Int32) (7 : Int32) h108 (by decide)) all0 rfl rfl rfl (Nat.le_of_eq rfl) (by decide) (by decide) (by decide) (by decide) nh_N15 ?_
      rintro _ _ _ ⟨rfl, rfl, rfl⟩
      show Go _ _ _ _ _ _ h108 [] 6 19 158 #[.val (.long u), .second, .val (.int sh), .val (.int (7 : Int32)), .val (.int (0 : Int32)), .val (.int (chF0 u)), .val (.int (chF1 u)), .val (.int (chF2 u)), .val (.int (chF3 u)), .val (.int (chF4 u)), .val (.int (chF5 u)), .val (.int (chF6 u)), .val (.ref a106), .unset, .val (.int (stepF (stepF (stepF (0 : Int32) (chF0 u)) (chF1 u)) (chF2 u)))] [(.int (stepF (stepF (stepF (stepF (0 : Int32) (chF0 u)) (chF1 u)) (chF2 u)) (chF3 u)))]
      refine Go.istore (ls' := #[.val (.long u), .second, .val (.int sh), .val (.int (7 : Int32)), .val (.int (0 : Int32)), .val (.int (chF0 u)), .val (.int (chF1 u)), .val (.int (chF2 u)), .val (.int (chF3 u)), .val (.int (chF4 u)), .val (.int (chF5 u)), .val (.int (chF6 u)), .val (.ref a106), .unset, .val (.int (stepF (stepF (stepF (stepF (0 : Int32) (chF0 u)) (chF1 u)) (chF2 u)) (chF3 u)))]) H at_158 rfl rfl ?_
      refine Go.iload H at_160 rfl rfl ?_
      refine Go.iload H at_162 rfl rfl ?_
      refine Go.iconst (4 : Int32) H at_164 rfl rfl ?_
      refine Go.iloadN H at_165 rfl rfl ?_
      refine Go.callS (rest := []) 0 [(.int (stepF (stepF (stepF (stepF (0 : Int32) (chF0 u)) (chF1 u)) (chF2 u)) (chF3 u))), (.int (chF4 u)), (.int (4 : Int32)), (.int (7 : Int32))] H at_166 rfl w38 w39 w2 w40 pd_N16 (ct_sifT l W (stepF (stepF (stepF (stepF (0 : Int32) (chF0 u)) (chF1 u)) (chF2 u)) (chF3 u)) (chF4 u) (4 : Int32) (7 : Int32) h108 (by decide)) all0 rfl rfl rfl (Nat.le_of_eq rfl) (by decide) (by decide) (by decide) (by decide) nh_N15 ?_
      rintro _ _ _ ⟨rfl, rfl, rfl⟩
      show Go _ _ _ _ _ _ h108 [] 6 19 169 #[.val (.long u), .second, .val (.int sh), .val (.int (7 : Int32)), .val (.int (0 : Int32)), .val (.int (chF0 u)), .val (.int (chF1 u)), .val (.int (chF2 u)), .val (.int (chF3 u)), .val (.int (chF4 u)), .val (.int (chF5 u)), .val (.int (chF6 u)), .val (.ref a106), .unset, .val (.int (stepF (stepF (stepF (stepF (0 : Int32) (chF0 u)) (chF1 u)) (chF2 u)) (chF3 u)))] [(.int (stepF (stepF (stepF (stepF (stepF (0 : Int32) (chF0 u)) (chF1 u)) (chF2 u)) (chF3 u)) (chF4 u)))]
      refine Go.istore (ls' := #[.val (.long u), .second, .val (.int sh), .val (.int (7 : Int32)), .val (.int (0 : Int32)), .val (.int (chF0 u)), .val (.int (chF1 u)), .val (.int (chF2 u)), .val (.int (chF3 u)), .val (.int (chF4 u)), .val (.int (chF5 u)), .val (.int (chF6 u)), .val (.ref a106), .unset, .val (.int (stepF (stepF (stepF (stepF (stepF (0 : Int32) (chF0 u)) (chF1 u)) (chF2 u)) (chF3 u)) (chF4 u)))]) H at_169 rfl rfl ?_
      refine Go.iload H at_171 rfl rfl ?_
      refine Go.iload H at_173 rfl rfl ?_
      refine Go.iconst (5 : Int32) H at_175 rfl rfl ?_
      refine Go.iloadN H at_176 rfl rfl ?_
      refine Go.callS (rest := []) 0 [(.int (stepF (stepF (stepF (stepF (stepF (0 : Int32) (chF0 u)) (chF1 u)) (chF2 u)) (chF3 u)) (chF4 u))), (.int (chF5 u)), (.int (5 : Int32)), (.int (7 : Int32))] H at_177 rfl w38 w39 w2 w40 pd_N16 (ct_sifT l W (stepF (stepF (stepF (stepF (stepF (0 : Int32) (chF0 u)) (chF1 u)) (chF2 u)) (chF3 u)) (chF4 u)) (chF5 u) (5 : Int32) (7 : Int32) h108 (by decide)) all0 rfl rfl rfl (Nat.le_of_eq rfl) (by decide) (by decide) (by decide) (by decide) nh_N15 ?_
      rintro _ _ _ ⟨rfl, rfl, rfl⟩
      show Go _ _ _ _ _ _ h108 [] 6 19 180 #[.val (.long u), .second, .val (.int sh), .val (.int (7 : Int32)), .val (.int (0 : Int32)), .val (.int (chF0 u)), .val (.int (chF1 u)), .val (.int (chF2 u)), .val (.int (chF3 u)), .val (.int (chF4 u)), .val (.int (chF5 u)), .val (.int (chF6 u)), .val (.ref a106), .unset, .val (.int (stepF (stepF (stepF (stepF (stepF (0 : Int32) (chF0 u)) (chF1 u)) (chF2 u)) (chF3 u)) (chF4 u)))] [(.int (stepF (stepF (stepF (stepF (stepF (stepF (0 : Int32) (chF0 u)) (chF1 u)) (chF2 u)) (chF3 u)) (chF4 u)) (chF5 u)))]
      refine Go.istore (ls' := #[.val (.long u), .second, .val (.int sh), .val (.int (7 : Int32)), .val (.int (0 : Int32)), .val (.int (chF0 u)), .val (.int (chF1 u)), .val (.int (chF2 u)), .val (.int (chF3 u)), .val (.int (chF4 u)), .val (.int (chF5 u)), .val (.int (chF6 u)), .val (.ref a106), .unset, .val (.int (stepF (stepF (stepF (stepF (stepF (stepF (0 : Int32) (chF0 u)) (chF1 u)) (chF2 u)) (chF3 u)) (chF4 u)) (chF5 u)))]) H at_180 rfl rfl ?_
      refine Go.iload H at_182 rfl rfl ?_
      refine Go.iload H at_184 rfl rfl ?_
      refine Go.bipush (6 : Int32) H at_186 rfl rfl ?_
      refine Go.iloadN H at_188 rfl rfl ?_
      refine Go.callS (rest := []) 0 [(.int (stepF (stepF (stepF (stepF (stepF (stepF (0 : Int32) (chF0 u)) (chF1 u)) (chF2 u)) (chF3 u)) (chF4 u)) (chF5 u))), (.int (chF6 u)), (.int (6 : Int32)), (.int (7 : Int32))] H at_189 rfl w38 w39 w2 w40 pd_N16 (ct_sifT l W (stepF (stepF (stepF (stepF (stepF (stepF (0 : Int32) (chF0 u)) (chF1 u)) (chF2 u)) (chF3 u)) (chF4 u)) (chF5 u)) (chF6 u) (6 : Int32) (7 : Int32) h108 (by decide)) all0 rfl rfl rfl (Nat.le_of_eq rfl) (by decide) (by decide) (by decide) (by decide) nh_N15 ?_
      rintro _ _ _ ⟨rfl, rfl, rfl⟩
      show Go _ _ _ _ _ _ h108 [] 6 19 192 #[.val (.long u), .second, .val (.int sh), .val (.int (7 : Int32)), .val (.int (0 : Int32)), .val (.int (chF0 u)), .val (.int (chF1 u)), .val (.int (chF2 u)), .val (.int (chF3 u)), .val (.int (chF4 u)), .val (.int (chF5 u)), .val (.int (chF6 u)), .val (.ref a106), .unset, .val (.int (stepF (stepF (stepF (stepF (stepF (stepF (0 : Int32) (chF0 u)) (chF1 u)) (chF2 u)) (chF3 u)) (chF4 u)) (chF5 u)))] [(.int (stepF (stepF (stepF (stepF (stepF (stepF (stepF (0 : Int32) (chF0 u)) (chF1 u)) (chF2 u)) (chF3 u)) (chF4 u)) (chF5 u)) (chF6 u)))]
      refine Go.istore (ls' := #[.val (.long u), .second, .val (.int sh), .val (.int (7 : Int32)), .val (.int (0 : Int32)), .val (.int (chF0 u)), .val (.int (chF1 u)), .val (.int (chF2 u)), .val (.int (chF3 u)), .val (.int (chF4 u)), .val (.int (chF5 u)), .val (.int (chF6 u)), .val (.ref a106), .unset, .val (.int (stepF (stepF (stepF (stepF (stepF (stepF (stepF (0 : Int32) (chF0 u)) (chF1 u)) (chF2 u)) (chF3 u)) (chF4 u)) (chF5 u)) (chF6 u)))]) H at_192 rfl rfl ?_
      refine Go.iload H at_194 rfl rfl ?_
      refine Go.iconst (-1 : Int32) H at_196 rfl rfl ?_
      by_cases c112 : (stepF (stepF (stepF (stepF (stepF (stepF (stepF (0 : Int32) (chF0 u)) (chF1 u)) (chF2 u)) (chF3 u)) (chF4 u)) (chF5 u)) (chF6 u)) = (-1 : Int32)
      ·
        refine Go.icmpN H at_197 (teq c112).2 rfl ?_
        refine Go.iconst (1 : Int32) H at_200 rfl rfl ?_
        refine Go.goto (pc' := 205) H at_201 (by decide) (by decide) ?_
        refine Go.istore (ls' := #[.val (.long u), .second, .val (.int sh), .val (.int (7 : Int32)), .val (.int (0 : Int32)), .val (.int (chF0 u)), .val (.int (chF1 u)), .val (.int (chF2 u)), .val (.int (chF3 u)), .val (.int (chF4 u)), .val (.int (chF5 u)), .val (.int (chF6 u)), .val (.ref a106), .val (.int (1 : Int32)), .val (.int (stepF (stepF (stepF (stepF (stepF (stepF (stepF (0 : Int32) (chF0 u)) (chF1 u)) (chF2 u)) (chF3 u)) (chF4 u)) (chF5 u)) (chF6 u)))]) H at_205 rfl rfl ?_
        refine Go.aload H at_207 rfl rfl rfl ?_
        refine Go.callS (rest := []) 0 [(.ref a106)] H at_209 rfl w44 w45 w46 w47 pd_N21 (ct_hp l W a106 b107 [(chF0 u), (chF1 u), (chF2 u), (chF3 u), (chF4 u), (chF5 u), (chF6 u)] h108 S111 (Nat.le_of_ble_eq_true rfl)) all0 rfl rfl rfl (Nat.le_of_eq rfl) (by decide) (by decide) (by decide) (by decide) nh_N20 ?_
        rintro _ h113 _ ⟨rfl, E114, rfl⟩
        replace S111 := S111.ext E114
        show Go _ _ _ _ _ _ h113 [] 10 43 212 #[.val (.long u), .second, .val (.int sh), .val (.int (7 : Int32)), .val (.int (0 : Int32)), .val (.int (chF0 u)), .val (.int (chF1 u)), .val (.int (chF2 u)), .val (.int (chF3 u)), .val (.int (chF4 u)), .val (.int (chF5 u)), .val (.int (chF6 u)), .val (.ref a106), .val (.int (1 : Int32)), .val (.int (stepF (stepF (stepF (stepF (stepF (stepF (stepF (0 : Int32) (chF0 u)) (chF1 u)) (chF2 u)) (chF3 u)) (chF4 u)) (chF5 u)) (chF6 u)))] [(.int (if holdsL [(chF0 u), (chF1 u), (chF2 u), (chF3 u), (chF4 u), (chF5 u), (chF6 u)] = true then (1 : Int32) else 0))]
        refine Go.iload H at_212 rfl rfl ?_
        refine Go.icmpN H at_214 (teq (by rw [if_pos ((run_01 [(chF0 u), (chF1 u), (chF2 u), (chF3 u), (chF4 u), (chF5 u), (chF6 u)] (Nat.le_of_ble_eq_true rfl)).1.mp (show runF 0 [(chF0 u), (chF1 u), (chF2 u), (chF3 u), (chF4 u), (chF5 u), (chF6 u)] = -1 from c112))])).2 rfl ?_
        refine Go.iconst (1 : Int32) H at_217 rfl rfl ?_
        refine Go.goto (pc' := 222) H at_218 (by decide) (by decide) ?_
        exact Go.ireturn 1 [] H at_222 (by simp) (by decide) ⟨rfl, trivial⟩ all0 (by decide) (by decide)
      ·
        refine Go.icmpY (pc' := 204) H at_197 (feq c112).2 (by decide) (by decide) ?_
        refine Go.iconst (0 : Int32) H at_204 rfl rfl ?_
        refine Go.istore (ls' := #[.val (.long u), .second, .val (.int sh), .val (.int (7 : Int32)), .val (.int (0 : Int32)), .val (.int (chF0 u)), .val (.int (chF1 u)), .val (.int (chF2 u)), .val (.int (chF3 u)), .val (.int (chF4 u)), .val (.int (chF5 u)), .val (.int (chF6 u)), .val (.ref a106), .val (.int (0 : Int32)), .val (.int (stepF (stepF (stepF (stepF (stepF (stepF (stepF (0 : Int32) (chF0 u)) (chF1 u)) (chF2 u)) (chF3 u)) (chF4 u)) (chF5 u)) (chF6 u)))]) H at_205 rfl rfl ?_
        refine Go.aload H at_207 rfl rfl rfl ?_
        refine Go.callS (rest := []) 0 [(.ref a106)] H at_209 rfl w44 w45 w46 w47 pd_N21 (ct_hp l W a106 b107 [(chF0 u), (chF1 u), (chF2 u), (chF3 u), (chF4 u), (chF5 u), (chF6 u)] h108 S111 (Nat.le_of_ble_eq_true rfl)) all0 rfl rfl rfl (Nat.le_of_eq rfl) (by decide) (by decide) (by decide) (by decide) nh_N20 ?_
        rintro _ h115 _ ⟨rfl, E116, rfl⟩
        replace S111 := S111.ext E116
        show Go _ _ _ _ _ _ h115 [] 10 43 212 #[.val (.long u), .second, .val (.int sh), .val (.int (7 : Int32)), .val (.int (0 : Int32)), .val (.int (chF0 u)), .val (.int (chF1 u)), .val (.int (chF2 u)), .val (.int (chF3 u)), .val (.int (chF4 u)), .val (.int (chF5 u)), .val (.int (chF6 u)), .val (.ref a106), .val (.int (0 : Int32)), .val (.int (stepF (stepF (stepF (stepF (stepF (stepF (stepF (0 : Int32) (chF0 u)) (chF1 u)) (chF2 u)) (chF3 u)) (chF4 u)) (chF5 u)) (chF6 u)))] [(.int (if holdsL [(chF0 u), (chF1 u), (chF2 u), (chF3 u), (chF4 u), (chF5 u), (chF6 u)] = true then (1 : Int32) else 0))]
        refine Go.iload H at_212 rfl rfl ?_
        refine Go.icmpN H at_214 (teq (by rw [if_neg (fun e => c112 (show runF 0 [(chF0 u), (chF1 u), (chF2 u), (chF3 u), (chF4 u), (chF5 u), (chF6 u)] = -1 from (run_01 [(chF0 u), (chF1 u), (chF2 u), (chF3 u), (chF4 u), (chF5 u), (chF6 u)] (Nat.le_of_ble_eq_true rfl)).1.mpr e))])).2 rfl ?_
        refine Go.iconst (1 : Int32) H at_217 rfl rfl ?_
        refine Go.goto (pc' := 222) H at_218 (by decide) (by decide) ?_
        exact Go.ireturn 1 [] H at_222 (by simp) (by decide) ⟨rfl, trivial⟩ all0 (by decide) (by decide)
theorem w49 : Jvm.Cond.soleField "java/lang/String" "value" ∈ tables_1 := List.mem_of_getElem? (i := 49) rfl
theorem w50 : Jvm.Cond.soleField "java/lang/String" "coder" ∈ tables_1 := List.mem_of_getElem? (i := 50) rfl
set_option maxRecDepth 65536 in
set_option maxHeartbeats 4000000 in
theorem comes_1 {Post : Tables → Env → Array Value → State → Outcome → State → Prop} (hpost : ∀ tb e args s v u, (limb_1_1.after args s (.returned v) u = true ∧ limb_1_2.after args s (.returned v) u = true ∧ True) → ReturnedEndW s (.returned v) u (Jvm.fieldLocs frame_1_writes args s ++ Jvm.arrayLocs frame_1_arrays args s ++ Jvm.staticLocs frame_1_statics s) 24 2176 → Post tb e args s (.returned v) u) :
    ArmFor flags0 classFile x code maxLocals ret World_1 tables_1 room_1 Calls_1 rest_1 Pre_1 Post := by
  intro l hfl _ _ p e ha hc hk s m args below hf hA hF happ hP
  obtain ⟨hcalls, hrest, hpre⟩ := hP
  obtain ⟨-, -, -, hnamed, -, -, -, hat⟩ := (Spec.applies_iff hf).mp happ
  obtain ⟨hg, hn⟩ := and_e (Cond.before_iff.mp (show (Jvm.Cond.and given_1 narrow_1).before args s = true from hpre))
  obtain ⟨h1, h2⟩ := and_e hg
  obtain ⟨k0, r0⟩ := and_e h2
  obtain ⟨w0, w1, rfl⟩ : ∃ w0 w1 : Value, args = #[w0, w1] := by
    have hs : args.size = 2 := by simpa [Cond.value, given_1] using h1
    obtain ⟨L⟩ := args
    match L, hs with
    | [w0, w1], _ => exact ⟨w0, w1, rfl⟩
  have hw := fun d (hd : d ∈ tables_1) => atoms_spec (ws := Jvm.Cond.code x code maxLocals ret :: tables_1) hat d (List.mem_cons_of_mem _ hd)
  obtain ⟨hsets, hown0⟩ := atoms_of _ (rest_1_c_eq ▸ (show rest_1_c.before _ s = true from hrest))
  have hfit : Fit s := fun {y c} hc i hi => by
    obtain ⟨ha, rfl⟩ := Array.getElem?_eq_some_iff.mp hc
    have q := List.all_eq_true.mp ((Array.all_eq_true_iff_forall_mem.mp hF) _ (Array.getElem_mem ha)) i (List.mem_range.mpr hi)
    simpa [Array.getElem?_eq_getElem hi] using q
  obtain ⟨i0, e0⟩ := isL_v k0
  obtain rfl : w0 = (.long i0) := Option.some.inj e0
  obtain ⟨i1, e1⟩ := is_v r0
  obtain rfl : w1 = (.int i1) := Option.some.inj e1
  have n5 := not_v (Cond.before_iff.mp (hsets _ (List.mem_of_getElem? (i := 2) rfl)))
  obtain ⟨iz, ez⟩ := is_v (Cond.before_iff.mp (hsets _ (List.mem_of_getElem? (i := 1) rfl)))
  have Sz : Sta s s.heap "java/lang/String" "COMPACT_STRINGS" "Z" (.int iz) := Sta.start ez (Or.inl (hsets _ (List.mem_of_getElem? (i := 0) rfl)))
  obtain ⟨vf, ef, rf⟩ := isR_v (Cond.before_iff.mp (hsets _ (List.mem_of_getElem? (i := 8) rfl)))
  have Sf : Sta s s.heap "jdk/internal/util/Preconditions" "SIOOBE_FORMATTER" "Ljava/util/function/BiFunction;" vf := Sta.start ef (Or.inl (hsets _ (List.mem_of_getElem? (i := 7) rfl)))
  have cz : ¬ (iz = (0 : Int32)) := gotF (Cond.eq_ints ez (Term.int_eval (0))) n5
  have hEL : EW s _ consts_1 := (EW.cons (hw _ w48) (by decide) (EW.cons (hw _ w73) (by decide) EW.nil))
  have hat7 : ∀ a ∈ Bundle.stringAtoms, a.before _ s = true := fun a ha => by
    simp only [Bundle.stringAtoms, List.mem_cons, List.not_mem_nil, or_false] at ha
    rcases ha with rfl | rfl | rfl | rfl | rfl | rfl | rfl
    · exact hw _ w10
    · exact hw _ w9
    · exact hw _ w27
    · exact hw _ w37
    · exact hw _ w35
    · exact hw _ w49
    · exact hw _ w50
  have hCH : CHv s consts_1 s.vm s.heap := CHv.start hEL (fun p hp => hcalls.1 p hp) (hsets _ (List.mem_of_getElem? (i := 2) rfl)) (hw _ w27) (hw _ w9)
  obtain ⟨n, o, h1, h2, h3, _, L, rfl, ⟨⟨sn, ⟨rfl, -⟩, -⟩, N, -⟩, -, hq⟩ := ct_law l (Z := s) (n0 := s.heap.size) ⟨⟨_, hw, hEL, hat7⟩, cz, Sz, rf, Sf⟩ i0 i1 s.heap (Old.start s) tables_1 p e ha hc hk s m _ below hf ((Spec.applies_iff_loose hf).mp happ).1 ⟨rfl, State.Warmed39.refl s, rfl, hCH, fun x q => nomatch q⟩ trivial
  refine ⟨n, _, h1, h2, h3, hpost _ _ _ _ _ _ ⟨Cond.after_iff.mpr rfl, Cond.after_iff.mpr (eq_i res_at (Term.int_eval (1)) rfl), trivial⟩ ⟨hq.1, hq.2.1, hq.2.2.1, (hq.2.2.2.sift fun y hy => Or.inr (N y hy)).mono (by decide) (by decide)⟩⟩
theorem main_1_1 : Claimed_1_1 := comes_1 fun _ _ _ _ _ _ h hF => ⟨h.1, hF⟩
theorem main_1_2 : Claimed_1_2 := comes_1 fun _ _ _ _ _ _ h hF => ⟨h.2.1, hF⟩
end Jvm.Pilot.@@N@@
namespace Jvm.Pilot.@@N@@
open Jvm Jvm.ClassFile Sem Op Lib Jvm.Free Jvm.Stand Jvm.Pilot.@@N@@.Jvm.D
/-! MADE BY PROGRAM (witnessworld.py) out of the Statement's table words and the real class files: 18 classes; the members and pool entries that the words name. The judged class is class 1, her method 1. -/
namespace start1
open Jvm.ClassFile
def u (s : String) : CpInfo := .utf8 (stringToUtf16 s)
/-- a pool by its gaps: so many unusable entries, then the entry; so many at the end -/
def gap : Nat → List CpInfo → List CpInfo
  | 0, r => r
  | n + 1, r => .unusable :: gap n r
def poolList (es : List (Nat × CpInfo)) (last : Nat) : List CpInfo := es.foldr (fun e r => gap e.1 (e.2 :: r)) (gap last [])
def pool (es : List (Nat × CpInfo)) (last : Nat) : Array CpInfo := ⟨poolList es last⟩
def fileOf (pool : Array CpInfo) (this : Nat) (attrs : Array Attribute := #[]) (ms : Array MethodInfo := #[]) (fl : Nat := 33) (sup : Nat := 0) (ifs : Array Nat := #[]) (fds : Array FieldInfo := #[]) : ClassFile where
  minorVersion := 0
  majorVersion := 65
  constantPool := pool
  accessFlags := fl
  thisClass := this
  superClass := sup
  interfaces := ifs
  fields := fds
  methods := ms
  attributes := attrs
def plain (name : String) (sup : Option ClassId) : Class where
  name := name
  kind := .ordinary
  loader := none
  accessFlags := 33
  super := sup
  interfaces := #[]
  cf := none
  fields := #[]
  methods := #[]
  instanceTypes := #[]
  staticTypes := #[]
  resolved := #[]
  callSites := []
  init := .initialized
  statics := none
  mirror := none

def pool0 : Array CpInfo := pool [(5, u "<init>"), (0, u "()V"), (1, .class_ 10), (1, u "java/lang/Object")] 113

def k0c0 : Code := { maxStack := 0, maxLocals := 1, code := object_method_1_code, exceptionTable := #[], attributes := #[] }
def k0m0 : Method := { name := "<init>", desc := "()V", sig := { parameters := [], returnType := none }, accessFlags := 1, code := some k0c0 }
/-- java/lang/Object -/
def k0 : Class := { plain "java/lang/Object" none with
  accessFlags := 33
  interfaces := #[]
  cf := some (fileOf pool0 8 #[] #[{ accessFlags := 1, nameIndex := 5, descriptorIndex := 6, attributes := #[] }] 33 0 #[] #[])
  fields := #[]
  methods := #[k0m0]
  instanceTypes := #[]
  staticTypes := #[]
  resolved := Array.replicate 124 none
  statics := none }

def pool1 : Array CpInfo := pool [(2, .class_ 4), (1, u "java/lang/Object"), (0, u "<init>"), (0, u "()V"), (0, .methodref 8 9), (0, .class_ 10), (0, .nameAndType 11 12), (0, u "com/example/autowire/autowire/beans/PlaceholdersHoldsPlaceholderPinLaw"), (0, u "ch"), (0, u "(JI)C"), (0, .methodref 8 14), (0, .nameAndType 15 16), (0, u "make"), (0, u "(ICCCCCCC)Ljava/lang/String;"), (0, .methodref 8 18), (0, .nameAndType 19 20), (0, u "stepIf"), (0, u "(ICII)I"), (0, .methodref 22 23), (0, .class_ 24), (0, .nameAndType 25 26), (0, u "com/example/autowire/autowire/beans/Placeholders"), (0, u "holdsPlaceholder"), (0, u "(Ljava/lang/String;)Z"), (0, .long 511), (1, .class_ 30), (0, u "java/lang/String"), (0, .methodref 29 32), (0, .nameAndType 5 33), (0, u "([C)V"), (0, .methodref 8 35), (0, .nameAndType 36 37), (0, u "step"), (0, u "(IC)I"), (2, u "law"), (0, u "(JI)Z")] 3

def k1m0 : Method := { name := "<init>", desc := "()V", sig := { parameters := [], returnType := none }, accessFlags := 1, code := none }
def k1c1 : Code := { maxStack := 8, maxLocals := 15, code := code, exceptionTable := #[], attributes := #[] }
def k1m1 : Method := { name := "law", desc := "(JI)Z", sig := { parameters := [.long, .int], returnType := some .boolean }, accessFlags := 9, code := some k1c1 }
def k1c2 : Code := { maxStack := 4, maxLocals := 5, code := method_3_code, exceptionTable := #[], attributes := #[] }
def k1m2 : Method := { name := "ch", desc := "(JI)C", sig := { parameters := [.long, .int], returnType := some .char }, accessFlags := 10, code := some k1c2 }
def k1c3 : Code := { maxStack := 6, maxLocals := 8, code := method_4_code, exceptionTable := #[], attributes := #[] }
def k1m3 : Method := { name := "make", desc := "(ICCCCCCC)Ljava/lang/String;", sig := { parameters := [.int, .char, .char, .char, .char, .char, .char, .char], returnType := some (.object "java/lang/String") }, accessFlags := 10, code := some k1c3 }
def k1c4 : Code := { maxStack := 2, maxLocals := 4, code := method_5_code, exceptionTable := #[], attributes := #[] }
def k1m4 : Method := { name := "stepIf", desc := "(ICII)I", sig := { parameters := [.int, .char, .int, .int], returnType := some .int }, accessFlags := 10, code := some k1c4 }
def k1c5 : Code := { maxStack := 2, maxLocals := 2, code := method_6_code, exceptionTable := #[], attributes := #[] }
def k1m5 : Method := { name := "step", desc := "(IC)I", sig := { parameters := [.int, .char], returnType := some .int }, accessFlags := 10, code := some k1c5 }
/-- com/example/autowire/autowire/beans/PlaceholdersHoldsPlaceholderPinLaw -/
def k1 : Class := { plain "com/example/autowire/autowire/beans/PlaceholdersHoldsPlaceholderPinLaw" (some 0) with
  accessFlags := 49
  interfaces := #[]
  cf := some (fileOf pool1 8 #[] #[{ accessFlags := 1, nameIndex := 5, descriptorIndex := 6, attributes := #[] }, { accessFlags := 9, nameIndex := 40, descriptorIndex := 41, attributes := #[] }, { accessFlags := 10, nameIndex := 11, descriptorIndex := 12, attributes := #[] }, { accessFlags := 10, nameIndex := 15, descriptorIndex := 16, attributes := #[] }, { accessFlags := 10, nameIndex := 19, descriptorIndex := 20, attributes := #[] }, { accessFlags := 10, nameIndex := 36, descriptorIndex := 37, attributes := #[] }] 49 2 #[] #[])
  fields := #[]
  methods := #[k1m0, k1m1, k1m2, k1m3, k1m4, k1m5]
  instanceTypes := #[]
  staticTypes := #[]
  resolved := Array.replicate 45 none
  statics := none }

def pool2 : Array CpInfo := pool [(1, .class_ 2), (0, u "java/io/Serializable"), (0, .class_ 4), (0, u "java/lang/Object")] 2

/-- java/io/Serializable -/
def k2 : Class := { plain "java/io/Serializable" (some 0) with
  accessFlags := 1537
  interfaces := #[]
  cf := some (fileOf pool2 1 #[] #[] 1537 3 #[] #[])
  fields := #[]
  methods := #[]
  instanceTypes := #[]
  staticTypes := #[]
  resolved := Array.replicate 7 none
  statics := none }

def pool3 : Array CpInfo := pool [(1, .class_ 2), (0, u "java/lang/Comparable"), (0, .class_ 4), (0, u "java/lang/Object")] 7

/-- java/lang/Comparable -/
def k3 : Class := { plain "java/lang/Comparable" (some 0) with
  accessFlags := 1537
  interfaces := #[]
  cf := some (fileOf pool3 1 #[] #[] 1537 3 #[] #[])
  fields := #[]
  methods := #[]
  instanceTypes := #[]
  staticTypes := #[]
  resolved := Array.replicate 12 none
  statics := none }

def pool4 : Array CpInfo := pool [(2, .class_ 4), (1, u "java/lang/CharSequence"), (42, .class_ 48), (0, u "java/lang/CharSequence$1CodePointIterator"), (10, .class_ 60), (0, u "java/lang/CharSequence$1CharIterator"), (5, .class_ 67), (0, u "java/lang/Object")] 63

/-- java/lang/CharSequence -/
def k4 : Class := { plain "java/lang/CharSequence" (some 0) with
  accessFlags := 1537
  interfaces := #[]
  cf := some (fileOf pool4 2 #[.nestMembers #[47, 59]] #[] 1537 66 #[] #[])
  fields := #[]
  methods := #[]
  instanceTypes := #[]
  staticTypes := #[]
  resolved := Array.replicate 131 none
  statics := none }

def pool5 : Array CpInfo := pool [(1, .class_ 2), (0, u "java/lang/constant/Constable"), (0, .class_ 4), (0, u "java/lang/Object")] 6

/-- java/lang/constant/Constable -/
def k5 : Class := { plain "java/lang/constant/Constable" (some 0) with
  accessFlags := 1537
  interfaces := #[]
  cf := some (fileOf pool5 1 #[] #[] 1537 3 #[] #[])
  fields := #[]
  methods := #[]
  instanceTypes := #[]
  staticTypes := #[]
  resolved := Array.replicate 11 none
  statics := none }

def pool6 : Array CpInfo := pool [(1, .class_ 2), (0, u "java/lang/constant/ConstantDesc"), (0, .class_ 4), (0, u "java/lang/Object")] 32

/-- java/lang/constant/ConstantDesc -/
def k6 : Class := { plain "java/lang/constant/ConstantDesc" (some 0) with
  accessFlags := 1537
  interfaces := #[]
  cf := some (fileOf pool6 1 #[] #[] 1537 3 #[] #[])
  fields := #[]
  methods := #[]
  instanceTypes := #[]
  staticTypes := #[]
  resolved := Array.replicate 37 none
  statics := none }

def pool7 : Array CpInfo := pool [(1, .methodref 2 3), (0, .class_ 4), (0, .nameAndType 5 6), (0, u "java/lang/Object"), (0, u "<init>"), (0, u "()V"), (0, .string 8), (0, u ""), (0, .fieldref 10 11), (0, .class_ 12), (0, .nameAndType 13 14), (0, u "java/lang/String"), (0, u "value"), (0, u "[B"), (0, .fieldref 10 16), (0, .nameAndType 17 18), (0, u "coder"), (0, u "B"), (2, u "hash"), (0, u "I"), (2, u "hashIsZero"), (0, u "Z"), (0, .methodref 10 28), (0, .nameAndType 5 29), (0, u "([CIILjava/lang/Void;)V"), (8, .fieldref 10 39), (0, .nameAndType 40 26), (0, u "COMPACT_STRINGS"), (1, .class_ 44), (1, u "java/lang/StringUTF16"), (0, u "compress"), (1, .methodref 42 48), (0, .nameAndType 49 50), (0, u "coderFromArrayLen"), (0, u "([BI)B"), (56, .class_ 109), (1, u "java/lang/StringLatin1"), (32, u "()Z"), (34, .methodref 42 178), (0, .nameAndType 45 179), (0, u "([CII)[B"), (154, u "()I"), (0, .methodref 10 336), (0, .nameAndType 17 337), (0, u "()B"), (25, u "([BI)C"), (27, u "(II)V"), (35, u "(I)C"), (64, .methodref 10 493), (0, .nameAndType 494 142), (0, u "isLatin1"), (0, .methodref 107 496), (0, .nameAndType 497 363), (0, u "charAt"), (3, u "checkIndex"), (5, u "length"), (67, .class_ 576), (0, u "java/lang/CharSequence"), (12, u "([B[B)I"), (9, u "CASE_INSENSITIVE_ORDER"), (0, u "Ljava/util/Comparator;"), (34, u "indexOf"), (11, .methodref 107 648), (0, .nameAndType 635 589), (64, u "(Ljava/lang/String;)I"), (296, u "([C)V"), (42, .fieldref 1054 1055), (0, .class_ 1056), (0, .nameAndType 1057 1058), (0, u "jdk/internal/util/Preconditions"), (0, u "SIOOBE_FORMATTER"), (0, u "Ljava/util/function/BiFunction;"), (0, .methodref 1054 1060), (0, .nameAndType 501 1061), (0, u "(IILjava/util/function/BiFunction;)I"), (39, u "serialPersistentFields"), (0, u "[Ljava/io/ObjectStreamField;"), (0, .class_ 1104), (0, u "java/lang/String$CaseInsensitiveComparator"), (1, .class_ 1107), (0, u "java/io/Serializable"), (0, .class_ 1109), (0, u "java/lang/Comparable"), (0, .class_ 1111), (0, u "java/lang/constant/Constable"), (0, .class_ 1113), (0, u "java/lang/constant/ConstantDesc"), (2, u "serialVersionUID"), (0, u "J"), (3, u "REPL"), (0, u "C"), (2, u "LATIN1"), (1, u "UTF16")] 323

def k7m0 : Method := { name := "<init>", desc := "()V", sig := { parameters := [], returnType := none }, accessFlags := 1, code := none }
def k7c1 : Code := { maxStack := 5, maxLocals := 2, code := jdk_42_method_3_code, exceptionTable := #[], attributes := #[] }
def k7m1 : Method := { name := "<init>", desc := "([C)V", sig := { parameters := [(.array .char)], returnType := none }, accessFlags := 1, code := some k7c1 }
def k7c2 : Code := { maxStack := 2, maxLocals := 1, code := jdk_42_method_54_code, exceptionTable := #[], attributes := #[] }
def k7m2 : Method := { name := "length", desc := "()I", sig := { parameters := [], returnType := some .int }, accessFlags := 1, code := some k7c2 }
def k7c3 : Code := { maxStack := 2, maxLocals := 2, code := jdk_42_method_56_code, exceptionTable := #[], attributes := #[] }
def k7m3 : Method := { name := "charAt", desc := "(I)C", sig := { parameters := [.int], returnType := some .char }, accessFlags := 1, code := some k7c3 }
def k7c4 : Code := { maxStack := 2, maxLocals := 3, code := jdk_42_method_84_code, exceptionTable := #[], attributes := #[] }
def k7m4 : Method := { name := "indexOf", desc := "(Ljava/lang/String;)I", sig := { parameters := [(.object "java/lang/String")], returnType := some .int }, accessFlags := 1, code := some k7c4 }
def k7c5 : Code := { maxStack := 4, maxLocals := 6, code := jdk_42_method_149_code, exceptionTable := #[], attributes := #[] }
def k7m5 : Method := { name := "<init>", desc := "([CIILjava/lang/Void;)V", sig := { parameters := [(.array .char), .int, .int, (.object "java/lang/Void")], returnType := none }, accessFlags := 2, code := some k7c5 }
def k7c6 : Code := { maxStack := 1, maxLocals := 1, code := jdk_42_method_152_code, exceptionTable := #[], attributes := #[] }
def k7m6 : Method := { name := "coder", desc := "()B", sig := { parameters := [], returnType := some .byte }, accessFlags := 0, code := some k7c6 }
def k7c7 : Code := { maxStack := 1, maxLocals := 1, code := jdk_42_method_154_code, exceptionTable := #[], attributes := #[] }
def k7m7 : Method := { name := "isLatin1", desc := "()Z", sig := { parameters := [], returnType := some .boolean }, accessFlags := 0, code := some k7c7 }
def k7c8 : Code := { maxStack := 3, maxLocals := 2, code := jdk_42_method_155_code, exceptionTable := #[], attributes := #[] }
def k7m8 : Method := { name := "checkIndex", desc := "(II)V", sig := { parameters := [.int, .int], returnType := none }, accessFlags := 8, code := some k7c8 }
/-- java/lang/String -/
def k7 : Class := { plain "java/lang/String" (some 0) with
  accessFlags := 49
  interfaces := #[2, 3, 4, 5, 6]
  cf := some (fileOf pool7 10 #[.nestMembers #[1103]] #[{ accessFlags := 1, nameIndex := 5, descriptorIndex := 6, attributes := #[] }, { accessFlags := 1, nameIndex := 5, descriptorIndex := 1010, attributes := #[] }, { accessFlags := 1, nameIndex := 507, descriptorIndex := 334, attributes := #[] }, { accessFlags := 1, nameIndex := 497, descriptorIndex := 427, attributes := #[] }, { accessFlags := 1, nameIndex := 635, descriptorIndex := 713, attributes := #[] }, { accessFlags := 2, nameIndex := 5, descriptorIndex := 29, attributes := #[] }, { accessFlags := 0, nameIndex := 17, descriptorIndex := 337, attributes := #[] }, { accessFlags := 0, nameIndex := 494, descriptorIndex := 142, attributes := #[] }, { accessFlags := 8, nameIndex := 501, descriptorIndex := 391, attributes := #[] }] 49 2 #[1106, 1108, 575, 1110, 1112] #[{ accessFlags := 18, nameIndex := 13, descriptorIndex := 14, attributes := #[] }, { accessFlags := 18, nameIndex := 17, descriptorIndex := 18, attributes := #[] }, { accessFlags := 2, nameIndex := 21, descriptorIndex := 22, attributes := #[] }, { accessFlags := 2, nameIndex := 25, descriptorIndex := 26, attributes := #[] }, { accessFlags := 26, nameIndex := 1116, descriptorIndex := 1117, attributes := #[] }, { accessFlags := 24, nameIndex := 40, descriptorIndex := 26, attributes := #[] }, { accessFlags := 26, nameIndex := 1101, descriptorIndex := 1102, attributes := #[] }, { accessFlags := 26, nameIndex := 1121, descriptorIndex := 1122, attributes := #[] }, { accessFlags := 25, nameIndex := 599, descriptorIndex := 600, attributes := #[] }, { accessFlags := 24, nameIndex := 1125, descriptorIndex := 18, attributes := #[] }, { accessFlags := 24, nameIndex := 1127, descriptorIndex := 18, attributes := #[] }])
  fields := #[{ name := "value", type := (.array .byte), accessFlags := 18, slot := 0, constantValue := 0 }, { name := "coder", type := .byte, accessFlags := 18, slot := 1, constantValue := 0 }, { name := "hash", type := .int, accessFlags := 2, slot := 2, constantValue := 0 }, { name := "hashIsZero", type := .boolean, accessFlags := 2, slot := 3, constantValue := 0 }, { name := "serialVersionUID", type := .long, accessFlags := 26, slot := 0, constantValue := 0 }, { name := "COMPACT_STRINGS", type := .boolean, accessFlags := 24, slot := 1, constantValue := 0 }, { name := "serialPersistentFields", type := (.array (.object "java/io/ObjectStreamField")), accessFlags := 26, slot := 2, constantValue := 0 }, { name := "REPL", type := .char, accessFlags := 26, slot := 3, constantValue := 0 }, { name := "CASE_INSENSITIVE_ORDER", type := (.object "java/util/Comparator"), accessFlags := 25, slot := 4, constantValue := 0 }, { name := "LATIN1", type := .byte, accessFlags := 24, slot := 5, constantValue := 0 }, { name := "UTF16", type := .byte, accessFlags := 24, slot := 6, constantValue := 0 }]
  methods := #[k7m0, k7m1, k7m2, k7m3, k7m4, k7m5, k7m6, k7m7, k7m8]
  instanceTypes := #[(.array .byte), .byte, .int, .boolean]
  staticTypes := #[.long, .boolean, (.array (.object "java/io/ObjectStreamField")), .char, (.object "java/util/Comparator"), .byte, .byte]
  resolved := Array.replicate 1451 none
  statics := some 0 }

def pool8 : Array CpInfo := pool [(6, .class_ 8), (1, u "java/lang/Object"), (0, u "<init>"), (0, u "()V"), (1, .class_ 14), (1, u "java/lang/StringUTF16"), (31, u "$assertionsDisabled"), (0, u "Z"), (13, u "HI_BYTE_SHIFT"), (0, u "I"), (2, u "LO_BYTE_SHIFT"), (49, .methodref 12 116), (0, .nameAndType 117 118), (0, u "compress"), (0, u "([CI[BII)I"), (3, u "([CII)[B"), (138, u "coderFromArrayLen"), (0, u "([BI)B"), (106, .class_ 371), (1, u "java/lang/StringUTF16$LinesSpliterator"), (58, u "MAX_LENGTH"), (196, .class_ 628), (0, u "java/lang/StringUTF16$CodePointsSpliterator"), (0, .class_ 630), (0, u "java/lang/StringUTF16$CharsSpliterator")] 4

def k8m0 : Method := { name := "<init>", desc := "()V", sig := { parameters := [], returnType := none }, accessFlags := 0, code := none }
def k8c1 : Code := { maxStack := 2, maxLocals := 2, code := jdk_52_method_15_code, exceptionTable := #[], attributes := #[] }
def k8m1 : Method := { name := "coderFromArrayLen", desc := "([BI)B", sig := { parameters := [(.array .byte), .int], returnType := some .byte }, accessFlags := 8, code := some k8c1 }
def k8c2 : Code := { maxStack := 5, maxLocals := 6, code := jdk_52_method_16_code, exceptionTable := #[], attributes := #[] }
def k8m2 : Method := { name := "compress", desc := "([CII)[B", sig := { parameters := [(.array .char), .int, .int], returnType := some (.array .byte) }, accessFlags := 9, code := some k8c2 }
def k8c3 : Code := { maxStack := 3, maxLocals := 7, code := jdk_52_method_21_code, exceptionTable := #[], attributes := #[] }
def k8m3 : Method := { name := "compress", desc := "([CI[BII)I", sig := { parameters := [(.array .char), .int, (.array .byte), .int, .int], returnType := some .int }, accessFlags := 9, code := some k8c3 }
/-- java/lang/StringUTF16 -/
def k8 : Class := { plain "java/lang/StringUTF16" (some 0) with
  accessFlags := 48
  interfaces := #[]
  cf := some (fileOf pool8 12 #[.nestMembers #[627, 629, 369]] #[{ accessFlags := 0, nameIndex := 9, descriptorIndex := 10, attributes := #[] }, { accessFlags := 8, nameIndex := 261, descriptorIndex := 262, attributes := #[] }, { accessFlags := 9, nameIndex := 117, descriptorIndex := 122, attributes := #[] }, { accessFlags := 9, nameIndex := 117, descriptorIndex := 118, attributes := #[] }] 48 6 #[] #[{ accessFlags := 26, nameIndex := 61, descriptorIndex := 62, attributes := #[] }, { accessFlags := 26, nameIndex := 65, descriptorIndex := 62, attributes := #[] }, { accessFlags := 24, nameIndex := 430, descriptorIndex := 62, attributes := #[] }, { accessFlags := 4120, nameIndex := 46, descriptorIndex := 47, attributes := #[] }])
  fields := #[{ name := "HI_BYTE_SHIFT", type := .int, accessFlags := 26, slot := 0, constantValue := 0 }, { name := "LO_BYTE_SHIFT", type := .int, accessFlags := 26, slot := 1, constantValue := 0 }, { name := "MAX_LENGTH", type := .int, accessFlags := 24, slot := 2, constantValue := 0 }, { name := "$assertionsDisabled", type := .boolean, accessFlags := 4120, slot := 3, constantValue := 0 }]
  methods := #[k8m0, k8m1, k8m2, k8m3]
  instanceTypes := #[]
  staticTypes := #[.int, .int, .int, .boolean]
  resolved := Array.replicate 635 none
  statics := none }

def pool9 : Array CpInfo := pool [(2, .class_ 4), (1, u "java/lang/Object"), (6, .class_ 13), (1, u "com/example/autowire/autowire/beans/Placeholders"), (0, u "resolving"), (0, u "Ljava/util/List;"), (2, u "properties"), (0, u "Ljava/util/function/Function;"), (2, u "keepUnresolvable"), (0, u "Z"), (4, .string 29), (0, u "${"), (0, .methodref 31 32), (0, .class_ 33), (0, .nameAndType 34 35), (0, u "java/lang/String"), (0, u "indexOf"), (0, u "(Ljava/lang/String;)I"), (0, .methodref 31 37), (0, .nameAndType 38 39), (0, u "length"), (0, u "()I"), (0, .methodref 11 41), (0, .nameAndType 42 43), (0, u "closing"), (0, u "(Ljava/lang/String;I)I"), (88, .methodref 31 133), (0, .nameAndType 134 135), (0, u "charAt"), (0, u "(I)C"), (1, u "MOST_DEEP"), (0, u "I"), (2, u "PREFIX"), (0, u "Ljava/lang/String;"), (0, u "SHOWN"), (8, u "holdsPlaceholder"), (0, u "(Ljava/lang/String;)Z")] 28

def k9c0 : Code := { maxStack := 3, maxLocals := 2, code := prog_20_method_3_code, exceptionTable := #[], attributes := #[] }
def k9m0 : Method := { name := "holdsPlaceholder", desc := "(Ljava/lang/String;)Z", sig := { parameters := [(.object "java/lang/String")], returnType := some .boolean }, accessFlags := 8, code := some k9c0 }
def k9c1 : Code := { maxStack := 2, maxLocals := 5, code := prog_20_method_7_code, exceptionTable := #[], attributes := #[] }
def k9m1 : Method := { name := "closing", desc := "(Ljava/lang/String;I)I", sig := { parameters := [(.object "java/lang/String"), .int], returnType := some .int }, accessFlags := 10, code := some k9c1 }
/-- com/example/autowire/autowire/beans/Placeholders -/
def k9 : Class := { plain "com/example/autowire/autowire/beans/Placeholders" (some 0) with
  accessFlags := 48
  interfaces := #[]
  cf := some (fileOf pool9 11 #[] #[{ accessFlags := 8, nameIndex := 152, descriptorIndex := 153, attributes := #[] }, { accessFlags := 10, nameIndex := 42, descriptorIndex := 43, attributes := #[] }] 48 2 #[] #[{ accessFlags := 24, nameIndex := 137, descriptorIndex := 138, attributes := #[] }, { accessFlags := 26, nameIndex := 141, descriptorIndex := 142, attributes := #[] }, { accessFlags := 26, nameIndex := 143, descriptorIndex := 138, attributes := #[] }, { accessFlags := 18, nameIndex := 18, descriptorIndex := 19, attributes := #[] }, { accessFlags := 18, nameIndex := 22, descriptorIndex := 23, attributes := #[] }, { accessFlags := 18, nameIndex := 14, descriptorIndex := 15, attributes := #[] }])
  fields := #[{ name := "MOST_DEEP", type := .int, accessFlags := 24, slot := 0, constantValue := 0 }, { name := "PREFIX", type := (.object "java/lang/String"), accessFlags := 26, slot := 1, constantValue := 0 }, { name := "SHOWN", type := .int, accessFlags := 26, slot := 2, constantValue := 0 }, { name := "properties", type := (.object "java/util/function/Function"), accessFlags := 18, slot := 0, constantValue := 0 }, { name := "keepUnresolvable", type := .boolean, accessFlags := 18, slot := 1, constantValue := 0 }, { name := "resolving", type := (.object "java/util/List"), accessFlags := 18, slot := 2, constantValue := 0 }]
  methods := #[k9m0, k9m1]
  instanceTypes := #[(.object "java/util/function/Function"), .boolean, (.object "java/util/List")]
  staticTypes := #[.int, (.object "java/lang/String"), .int]
  resolved := Array.replicate 182 none
  statics := none }

def pool10 : Array CpInfo := pool [(1, .class_ 2), (0, u "java/lang/String"), (1, .class_ 6), (1, u "java/lang/Object"), (0, u "<init>"), (0, u "()V"), (0, .methodref 1 10), (0, .nameAndType 11 12), (0, u "checkIndex"), (0, u "(II)V"), (1, .class_ 16), (1, u "java/lang/StringLatin1"), (36, u "([BI)C"), (45, .methodref 14 100), (0, .nameAndType 101 102), (0, u "indexOf"), (0, u "([BI[BII)I"), (18, u "$assertionsDisabled"), (0, u "Z"), (98, .class_ 223), (1, u "java/lang/StringLatin1$LinesSpliterator"), (28, u "charAt"), (34, u "([B[B)I"), (102, .class_ 391), (0, u "java/lang/StringLatin1$CharsSpliterator")] 3

def k10m0 : Method := { name := "<init>", desc := "()V", sig := { parameters := [], returnType := none }, accessFlags := 0, code := none }
def k10c1 : Code := { maxStack := 2, maxLocals := 2, code := jdk_43_method_2_code, exceptionTable := #[], attributes := #[] }
def k10m1 : Method := { name := "charAt", desc := "([BI)C", sig := { parameters := [(.array .byte), .int], returnType := some .char }, accessFlags := 9, code := some k10c1 }
def k10c2 : Code := { maxStack := 5, maxLocals := 2, code := jdk_43_method_24_code, exceptionTable := #[], attributes := #[] }
def k10m2 : Method := { name := "indexOf", desc := "([B[B)I", sig := { parameters := [(.array .byte), (.array .byte)], returnType := some .int }, accessFlags := 9, code := some k10c2 }
def k10c3 : Code := { maxStack := 3, maxLocals := 11, code := jdk_43_method_25_code, exceptionTable := #[], attributes := #[] }
def k10m3 : Method := { name := "indexOf", desc := "([BI[BII)I", sig := { parameters := [(.array .byte), .int, (.array .byte), .int, .int], returnType := some .int }, accessFlags := 9, code := some k10c3 }
/-- java/lang/StringLatin1 -/
def k10 : Class := { plain "java/lang/StringLatin1" (some 0) with
  accessFlags := 48
  interfaces := #[]
  cf := some (fileOf pool10 14 #[.nestMembers #[390, 221]] #[{ accessFlags := 0, nameIndex := 7, descriptorIndex := 8, attributes := #[] }, { accessFlags := 9, nameIndex := 252, descriptorIndex := 53, attributes := #[] }, { accessFlags := 9, nameIndex := 101, descriptorIndex := 287, attributes := #[] }, { accessFlags := 9, nameIndex := 101, descriptorIndex := 102, attributes := #[] }] 48 4 #[] #[{ accessFlags := 4120, nameIndex := 121, descriptorIndex := 122, attributes := #[] }])
  fields := #[{ name := "$assertionsDisabled", type := .boolean, accessFlags := 4120, slot := 0, constantValue := 0 }]
  methods := #[k10m0, k10m1, k10m2, k10m3]
  instanceTypes := #[]
  staticTypes := #[.boolean]
  resolved := Array.replicate 395 none
  statics := none }

def pool11 : Array CpInfo := pool [(2, .class_ 4), (1, u "java/lang/Object"), (0, u "<init>"), (0, u "()V"), (17, .class_ 26), (1, u "jdk/internal/util/Preconditions"), (6, u "checkIndex"), (21, .class_ 56), (0, u "jdk/internal/util/Preconditions$4"), (57, .class_ 115), (0, u "jdk/internal/util/Preconditions$1"), (7, u "SIOOBE_FORMATTER"), (0, u "Ljava/util/function/BiFunction;"), (0, .class_ 126), (0, u "jdk/internal/util/Preconditions$2"), (3, u "AIOOBE_FORMATTER"), (0, .class_ 132), (0, u "jdk/internal/util/Preconditions$3"), (3, u "IOOBE_FORMATTER"), (41, u "(IILjava/util/function/BiFunction;)I")] 15

def k11m0 : Method := { name := "<init>", desc := "()V", sig := { parameters := [], returnType := none }, accessFlags := 1, code := none }
def k11c1 : Code := { maxStack := 3, maxLocals := 3, code := jdk_41_method_11_code, exceptionTable := #[], attributes := #[] }
def k11m1 : Method := { name := "checkIndex", desc := "(IILjava/util/function/BiFunction;)I", sig := { parameters := [.int, .int, (.object "java/util/function/BiFunction")], returnType := some .int }, accessFlags := 9, code := some k11c1 }
/-- jdk/internal/util/Preconditions -/
def k11 : Class := { plain "jdk/internal/util/Preconditions" (some 0) with
  accessFlags := 33
  interfaces := #[]
  cf := some (fileOf pool11 24 #[.nestMembers #[55, 131, 125, 114]] #[{ accessFlags := 1, nameIndex := 5, descriptorIndex := 6, attributes := #[] }, { accessFlags := 9, nameIndex := 33, descriptorIndex := 178, attributes := #[] }] 33 2 #[] #[{ accessFlags := 25, nameIndex := 123, descriptorIndex := 124, attributes := #[] }, { accessFlags := 25, nameIndex := 130, descriptorIndex := 124, attributes := #[] }, { accessFlags := 25, nameIndex := 136, descriptorIndex := 124, attributes := #[] }])
  fields := #[{ name := "SIOOBE_FORMATTER", type := (.object "java/util/function/BiFunction"), accessFlags := 25, slot := 0, constantValue := 0 }, { name := "AIOOBE_FORMATTER", type := (.object "java/util/function/BiFunction"), accessFlags := 25, slot := 1, constantValue := 0 }, { name := "IOOBE_FORMATTER", type := (.object "java/util/function/BiFunction"), accessFlags := 25, slot := 2, constantValue := 0 }]
  methods := #[k11m0, k11m1]
  instanceTypes := #[]
  staticTypes := #[(.object "java/util/function/BiFunction"), (.object "java/util/function/BiFunction"), (.object "java/util/function/BiFunction")]
  resolved := Array.replicate 194 none
  statics := some 1 }

def pool12 : Array CpInfo := pool [(9, u "<init>"), (6, .class_ 18), (1, u "java/lang/Object"), (0, u "()V"), (1, .class_ 23), (1, u "jdk/internal/util/ArraysSupport"), (0, u "LOG2_ARRAY_LONG_INDEX_SCALE"), (0, u "I"), (2, u "U"), (0, u "Ljdk/internal/misc/Unsafe;"), (8, u "BIG_ENDIAN"), (0, u "Z"), (8, u "LOG2_BYTE_BIT_SIZE"), (4, u "LOG2_ARRAY_INT_INDEX_SCALE"), (54, u "JLA"), (0, u "Ljdk/internal/access/JavaLangAccess;"), (11, u "LOG2_ARRAY_BOOLEAN_INDEX_SCALE"), (9, u "LOG2_ARRAY_BYTE_INDEX_SCALE"), (5, u "LOG2_ARRAY_CHAR_INDEX_SCALE"), (5, u "LOG2_ARRAY_SHORT_INDEX_SCALE"), (18, u "LOG2_ARRAY_FLOAT_INDEX_SCALE"), (24, u "LOG2_ARRAY_DOUBLE_INDEX_SCALE"), (89, u "T_BOOLEAN"), (2, u "T_CHAR"), (1, u "T_FLOAT"), (1, u "T_DOUBLE"), (1, u "T_BYTE"), (1, u "T_SHORT"), (1, u "T_INT"), (1, u "T_LONG"), (1, u "SOFT_MAX_ARRAY_LENGTH")] 83

def k12m0 : Method := { name := "<init>", desc := "()V", sig := { parameters := [], returnType := none }, accessFlags := 2, code := none }
/-- jdk/internal/util/ArraysSupport -/
def k12 : Class := { plain "jdk/internal/util/ArraysSupport" (some 0) with
  accessFlags := 33
  interfaces := #[]
  cf := some (fileOf pool12 21 #[] #[{ accessFlags := 2, nameIndex := 9, descriptorIndex := 19, attributes := #[] }] 33 16 #[] #[{ accessFlags := 24, nameIndex := 28, descriptorIndex := 29, attributes := #[] }, { accessFlags := 26, nameIndex := 38, descriptorIndex := 39, attributes := #[] }, { accessFlags := 25, nameIndex := 121, descriptorIndex := 25, attributes := #[] }, { accessFlags := 25, nameIndex := 131, descriptorIndex := 25, attributes := #[] }, { accessFlags := 25, nameIndex := 137, descriptorIndex := 25, attributes := #[] }, { accessFlags := 25, nameIndex := 143, descriptorIndex := 25, attributes := #[] }, { accessFlags := 25, nameIndex := 53, descriptorIndex := 25, attributes := #[] }, { accessFlags := 25, nameIndex := 24, descriptorIndex := 25, attributes := #[] }, { accessFlags := 25, nameIndex := 162, descriptorIndex := 25, attributes := #[] }, { accessFlags := 25, nameIndex := 187, descriptorIndex := 25, attributes := #[] }, { accessFlags := 26, nameIndex := 48, descriptorIndex := 25, attributes := #[] }, { accessFlags := 25, nameIndex := 277, descriptorIndex := 25, attributes := #[] }, { accessFlags := 25, nameIndex := 280, descriptorIndex := 25, attributes := #[] }, { accessFlags := 25, nameIndex := 282, descriptorIndex := 25, attributes := #[] }, { accessFlags := 25, nameIndex := 284, descriptorIndex := 25, attributes := #[] }, { accessFlags := 25, nameIndex := 286, descriptorIndex := 25, attributes := #[] }, { accessFlags := 25, nameIndex := 288, descriptorIndex := 25, attributes := #[] }, { accessFlags := 25, nameIndex := 290, descriptorIndex := 25, attributes := #[] }, { accessFlags := 25, nameIndex := 292, descriptorIndex := 25, attributes := #[] }, { accessFlags := 26, nameIndex := 108, descriptorIndex := 109, attributes := #[] }, { accessFlags := 25, nameIndex := 294, descriptorIndex := 25, attributes := #[] }])
  fields := #[{ name := "U", type := (.object "jdk/internal/misc/Unsafe"), accessFlags := 24, slot := 0, constantValue := 0 }, { name := "BIG_ENDIAN", type := .boolean, accessFlags := 26, slot := 1, constantValue := 0 }, { name := "LOG2_ARRAY_BOOLEAN_INDEX_SCALE", type := .int, accessFlags := 25, slot := 2, constantValue := 0 }, { name := "LOG2_ARRAY_BYTE_INDEX_SCALE", type := .int, accessFlags := 25, slot := 3, constantValue := 0 }, { name := "LOG2_ARRAY_CHAR_INDEX_SCALE", type := .int, accessFlags := 25, slot := 4, constantValue := 0 }, { name := "LOG2_ARRAY_SHORT_INDEX_SCALE", type := .int, accessFlags := 25, slot := 5, constantValue := 0 }, { name := "LOG2_ARRAY_INT_INDEX_SCALE", type := .int, accessFlags := 25, slot := 6, constantValue := 0 }, { name := "LOG2_ARRAY_LONG_INDEX_SCALE", type := .int, accessFlags := 25, slot := 7, constantValue := 0 }, { name := "LOG2_ARRAY_FLOAT_INDEX_SCALE", type := .int, accessFlags := 25, slot := 8, constantValue := 0 }, { name := "LOG2_ARRAY_DOUBLE_INDEX_SCALE", type := .int, accessFlags := 25, slot := 9, constantValue := 0 }, { name := "LOG2_BYTE_BIT_SIZE", type := .int, accessFlags := 26, slot := 10, constantValue := 0 }, { name := "T_BOOLEAN", type := .int, accessFlags := 25, slot := 11, constantValue := 0 }, { name := "T_CHAR", type := .int, accessFlags := 25, slot := 12, constantValue := 0 }, { name := "T_FLOAT", type := .int, accessFlags := 25, slot := 13, constantValue := 0 }, { name := "T_DOUBLE", type := .int, accessFlags := 25, slot := 14, constantValue := 0 }, { name := "T_BYTE", type := .int, accessFlags := 25, slot := 15, constantValue := 0 }, { name := "T_SHORT", type := .int, accessFlags := 25, slot := 16, constantValue := 0 }, { name := "T_INT", type := .int, accessFlags := 25, slot := 17, constantValue := 0 }, { name := "T_LONG", type := .int, accessFlags := 25, slot := 18, constantValue := 0 }, { name := "JLA", type := (.object "jdk/internal/access/JavaLangAccess"), accessFlags := 26, slot := 19, constantValue := 0 }, { name := "SOFT_MAX_ARRAY_LENGTH", type := .int, accessFlags := 25, slot := 20, constantValue := 0 }]
  methods := #[k12m0]
  instanceTypes := #[]
  staticTypes := #[(.object "jdk/internal/misc/Unsafe"), .boolean, .int, .int, .int, .int, .int, .int, .int, .int, .int, .int, .int, .int, .int, .int, .int, .int, .int, (.object "jdk/internal/access/JavaLangAccess"), .int]
  resolved := Array.replicate 378 none
  statics := none }

def pool13 : Array CpInfo := pool [(1, u "java/lang/Cloneable"), (0, .class_ 1), (0, u "java/lang/Object"), (0, .class_ 3)] 3

/-- java/lang/Cloneable -/
def k13 : Class := { plain "java/lang/Cloneable" (some 0) with
  accessFlags := 1537
  interfaces := #[]
  cf := some (fileOf pool13 2 #[] #[] 1537 4 #[] #[])
  fields := #[]
  methods := #[]
  instanceTypes := #[]
  staticTypes := #[]
  resolved := Array.replicate 8 none
  statics := none }

/-- the primitive byte -/
def k14 : Class := { plain "byte" none with kind := .primitive 'B', accessFlags := 0x411 }
/-- [B -/
def k15 : Class := { plain "[B" (some 0) with kind := .array 14 .byte, interfaces := #[13, 2], accessFlags := 1041 }

/-- the primitive char -/
def k16 : Class := { plain "char" none with kind := .primitive 'C', accessFlags := 0x411 }
/-- [C -/
def k17 : Class := { plain "[C" (some 0) with kind := .array 16 .char, interfaces := #[13, 2], accessFlags := 1041 }

def heap : Heap := #[{ cls := 7, slots := #[.long 0, .int 1, .null, .int 0, .null, .int 0, .int 0], vm := .statics 7 },
  { cls := 11, slots := #[.null, .null, .null], vm := .statics 11 }]
def classes : Array Class := #[k0, k1, k2, k3, k4, k5, k6, k7, k8, k9, k10, k11, k12, k13, k14, k15, k16, k17]
def interned : List (Array UInt16 × Addr) := []
def slotsUsed : Nat := 10
def theMethod : MethodId := ⟨1, 1⟩
def args0 : Array Value := #[.long 5, .int 6]
def aboutOver (below : List Frame) : State where
  vm := { classes := classes, interned := interned.toArray }
  heap := heap
  slotsUsed := slotsUsed
  threads := #[{ frames := .invoking theMethod args0 :: below }]
def below0 : List Frame := [.native { method := ⟨0, 0⟩, args := #[] }]
def about1 : State := aboutOver below0
def p0 : Program := .bare "" "" ""
def e0 : Env := launch0.env 0 0 0
theorem w_frames : about1.frames = Frame.invoking theMethod args0 :: below0 := rfl
set_option maxRecDepth 65536 in
theorem w_args : argsFit about1.vm theMethod args0 = true := by decide +kernel
set_option maxRecDepth 65536 in
theorem w_heap : heapFits about1 = true := by decide +kernel
set_option maxRecDepth 65536 in
theorem w_runnable : about1.curStatus? = some .runnable := by decide +kernel
set_option maxRecDepth 65536 in
theorem w_alone : about1.alone = true := by decide +kernel
set_option maxRecDepth 65536 in
theorem w_named : about1.methodNamed? x = some theMethod := by decide +kernel
set_option maxRecDepth 65536 in
theorem w_hears : about1.hears theMethod below0 = true := by decide +kernel
set_option maxRecDepth 65536 in
theorem w_ripe : about1.ripe theMethod args0 below0 = true := by decide +kernel
theorem w_running : about1.status = .running := rfl
set_option maxRecDepth 65536 in
theorem w_room : about1.hasRoom e0.platform room_1 = true :=
  launch0.hasRoom_least _ room_1 (by decide +kernel) (by decide +kernel) (by decide +kernel) (by decide +kernel) (by decide +kernel) (by decide +kernel)
theorem allAtoms_all (ts : List Jvm.Cond) (a : Array Jvm.Value) (st : Jvm.State) : (allAtoms ts).before a st = ts.all (fun c => c.before a st) := by
  induction ts with
  | nil => rfl
  | cons c t ih =>
    show (Jvm.Cond.and c (allAtoms t)).before a st = _
    rw [Jvm.Cond.before_and, ih, List.all_cons]
def words1 : List Jvm.Cond := Jvm.Cond.code x code maxLocals ret :: tables_1
/-- a 'code' word, met by the world's own term for the bytes: nothing is compared byte by byte -/
theorem code_word {y : MethodName} {bytes : ByteArray} {mx : Nat} {rt : Option FieldType} {a : Array Value} {s : State} {m : MethodId} {meth : Method} {c : Code} (h1 : s.methodNamed? y = some m) (h2 : s.vm.method? m = some meth) (h3 : meth.code = some c) (h4 : c.code = bytes)
    (h5 : (c.maxLocals == mx && c.exceptionTable.isEmpty && decide (c.maxStack ≤ mostOperands) && decide (meth.sig.returnType = rt) && !meth.locks && decide (parseMethodDescriptor y.desc = some meth.sig)) = true) : (Jvm.Cond.code y bytes mx rt).before a s = true := by
  simp only [Bool.and_eq_true, beq_iff_eq, Bool.not_eq_true', decide_eq_true_eq] at h5
  obtain ⟨⟨⟨⟨⟨g1, g2⟩, g3⟩, g4⟩, g5⟩, g6⟩ := h5
  simp [Cond.before, Cond.holds, Cond.value, h1, h2, h3, h4, g1, g2, g3, g4, g5, g6]
def isCode : Jvm.Cond → Bool
  | .code _ _ _ _ => true
  | _ => false
theorem all_split {L : List Jvm.Cond} {P : Jvm.Cond → Bool} (h1 : L.all (fun c => isCode c || P c) = true) (h2 : ∀ c ∈ L.filter isCode, P c = true) : L.all P = true := by
  refine List.all_eq_true.mpr fun c hc => ?_
  have h := List.all_eq_true.mp h1 c hc
  rcases Bool.eq_false_or_eq_true (isCode c) with hi | hi
  · exact h2 c (List.mem_filter.mpr ⟨hc, hi⟩)
  · simpa [hi] using h
set_option maxRecDepth 65536 in
theorem w_c0 : (Jvm.Cond.code x code maxLocals ret).before args0 about1 = true := code_word (m := ⟨1, 1⟩) (meth := k1m1) (c := k1c1) (by decide +kernel) rfl rfl rfl (by decide +kernel)
set_option maxRecDepth 65536 in
theorem w_c1 : (Jvm.Cond.code ({ cls := "com/example/autowire/autowire/beans/PlaceholdersHoldsPlaceholderPinLaw", name := "ch", desc := "(JI)C" } : Jvm.MethodName) method_3_code (5 : Nat) (Option.some Jvm.ClassFile.FieldType.char)).before args0 about1 = true := code_word (m := ⟨1, 2⟩) (meth := k1m2) (c := k1c2) (by decide +kernel) rfl rfl rfl (by decide +kernel)
set_option maxRecDepth 65536 in
theorem w_c2 : (Jvm.Cond.code ({ cls := "com/example/autowire/autowire/beans/PlaceholdersHoldsPlaceholderPinLaw", name := "make", desc := "(ICCCCCCC)Ljava/lang/String;" } : Jvm.MethodName) method_4_code (8 : Nat) (Option.some (Jvm.ClassFile.FieldType.object "java/lang/String"))).before args0 about1 = true := code_word (m := ⟨1, 3⟩) (meth := k1m3) (c := k1c3) (by decide +kernel) rfl rfl rfl (by decide +kernel)
set_option maxRecDepth 65536 in
theorem w_c3 : (Jvm.Cond.code ({ cls := "java/lang/String", name := "<init>", desc := "([C)V" } : Jvm.MethodName) jdk_42_method_3_code (2 : Nat) (Option.none : Option Jvm.ClassFile.FieldType)).before args0 about1 = true := code_word (m := ⟨7, 1⟩) (meth := k7m1) (c := k7c1) (by decide +kernel) rfl rfl rfl (by decide +kernel)
set_option maxRecDepth 65536 in
theorem w_c4 : (Jvm.Cond.code ({ cls := "java/lang/String", name := "<init>", desc := "([CIILjava/lang/Void;)V" } : Jvm.MethodName) jdk_42_method_149_code (6 : Nat) (Option.none : Option Jvm.ClassFile.FieldType)).before args0 about1 = true := code_word (m := ⟨7, 5⟩) (meth := k7m5) (c := k7c5) (by decide +kernel) rfl rfl rfl (by decide +kernel)
set_option maxRecDepth 65536 in
theorem w_c5 : (Jvm.Cond.code ({ cls := "java/lang/Object", name := "<init>", desc := "()V" } : Jvm.MethodName) object_method_1_code (1 : Nat) (Option.none : Option Jvm.ClassFile.FieldType)).before args0 about1 = true := code_word (m := ⟨0, 0⟩) (meth := k0m0) (c := k0c0) (by decide +kernel) rfl rfl rfl (by decide +kernel)
set_option maxRecDepth 65536 in
theorem w_c6 : (Jvm.Cond.code ({ cls := "java/lang/StringUTF16", name := "compress", desc := "([CII)[B" } : Jvm.MethodName) jdk_52_method_16_code (6 : Nat) (Option.some (Jvm.ClassFile.FieldType.array Jvm.ClassFile.FieldType.byte))).before args0 about1 = true := code_word (m := ⟨8, 2⟩) (meth := k8m2) (c := k8c2) (by decide +kernel) rfl rfl rfl (by decide +kernel)
set_option maxRecDepth 65536 in
theorem w_c7 : (Jvm.Cond.code ({ cls := "java/lang/StringUTF16", name := "compress", desc := "([CI[BII)I" } : Jvm.MethodName) jdk_52_method_21_code (7 : Nat) (Option.some Jvm.ClassFile.FieldType.int)).before args0 about1 = true := code_word (m := ⟨8, 3⟩) (meth := k8m3) (c := k8c3) (by decide +kernel) rfl rfl rfl (by decide +kernel)
set_option maxRecDepth 65536 in
theorem w_c8 : (Jvm.Cond.code ({ cls := "java/lang/StringUTF16", name := "coderFromArrayLen", desc := "([BI)B" } : Jvm.MethodName) jdk_52_method_15_code (2 : Nat) (Option.some Jvm.ClassFile.FieldType.byte)).before args0 about1 = true := code_word (m := ⟨8, 1⟩) (meth := k8m1) (c := k8c1) (by decide +kernel) rfl rfl rfl (by decide +kernel)
set_option maxRecDepth 65536 in
theorem w_c9 : (Jvm.Cond.code ({ cls := "com/example/autowire/autowire/beans/PlaceholdersHoldsPlaceholderPinLaw", name := "stepIf", desc := "(ICII)I" } : Jvm.MethodName) method_5_code (4 : Nat) (Option.some Jvm.ClassFile.FieldType.int)).before args0 about1 = true := code_word (m := ⟨1, 4⟩) (meth := k1m4) (c := k1c4) (by decide +kernel) rfl rfl rfl (by decide +kernel)
set_option maxRecDepth 65536 in
theorem w_c10 : (Jvm.Cond.code ({ cls := "com/example/autowire/autowire/beans/PlaceholdersHoldsPlaceholderPinLaw", name := "step", desc := "(IC)I" } : Jvm.MethodName) method_6_code (2 : Nat) (Option.some Jvm.ClassFile.FieldType.int)).before args0 about1 = true := code_word (m := ⟨1, 5⟩) (meth := k1m5) (c := k1c5) (by decide +kernel) rfl rfl rfl (by decide +kernel)
set_option maxRecDepth 65536 in
theorem w_c11 : (Jvm.Cond.code ({ cls := "com/example/autowire/autowire/beans/Placeholders", name := "holdsPlaceholder", desc := "(Ljava/lang/String;)Z" } : Jvm.MethodName) prog_20_method_3_code (2 : Nat) (Option.some Jvm.ClassFile.FieldType.boolean)).before args0 about1 = true := code_word (m := ⟨9, 0⟩) (meth := k9m0) (c := k9c0) (by decide +kernel) rfl rfl rfl (by decide +kernel)
set_option maxRecDepth 65536 in
theorem w_c12 : (Jvm.Cond.code ({ cls := "java/lang/String", name := "indexOf", desc := "(Ljava/lang/String;)I" } : Jvm.MethodName) jdk_42_method_84_code (3 : Nat) (Option.some Jvm.ClassFile.FieldType.int)).before args0 about1 = true := code_word (m := ⟨7, 4⟩) (meth := k7m4) (c := k7c4) (by decide +kernel) rfl rfl rfl (by decide +kernel)
set_option maxRecDepth 65536 in
theorem w_c13 : (Jvm.Cond.code ({ cls := "java/lang/String", name := "coder", desc := "()B" } : Jvm.MethodName) jdk_42_method_152_code (1 : Nat) (Option.some Jvm.ClassFile.FieldType.byte)).before args0 about1 = true := code_word (m := ⟨7, 6⟩) (meth := k7m6) (c := k7c6) (by decide +kernel) rfl rfl rfl (by decide +kernel)
set_option maxRecDepth 65536 in
theorem w_c14 : (Jvm.Cond.code ({ cls := "java/lang/String", name := "isLatin1", desc := "()Z" } : Jvm.MethodName) jdk_42_method_154_code (1 : Nat) (Option.some Jvm.ClassFile.FieldType.boolean)).before args0 about1 = true := code_word (m := ⟨7, 7⟩) (meth := k7m7) (c := k7c7) (by decide +kernel) rfl rfl rfl (by decide +kernel)
set_option maxRecDepth 65536 in
theorem w_c15 : (Jvm.Cond.code ({ cls := "java/lang/StringLatin1", name := "indexOf", desc := "([B[B)I" } : Jvm.MethodName) jdk_43_method_24_code (2 : Nat) (Option.some Jvm.ClassFile.FieldType.int)).before args0 about1 = true := code_word (m := ⟨10, 2⟩) (meth := k10m2) (c := k10c2) (by decide +kernel) rfl rfl rfl (by decide +kernel)
set_option maxRecDepth 65536 in
theorem w_c16 : (Jvm.Cond.code ({ cls := "java/lang/StringLatin1", name := "indexOf", desc := "([BI[BII)I" } : Jvm.MethodName) jdk_43_method_25_code (11 : Nat) (Option.some Jvm.ClassFile.FieldType.int)).before args0 about1 = true := code_word (m := ⟨10, 3⟩) (meth := k10m3) (c := k10c3) (by decide +kernel) rfl rfl rfl (by decide +kernel)
set_option maxRecDepth 65536 in
theorem w_c17 : (Jvm.Cond.code ({ cls := "java/lang/String", name := "length", desc := "()I" } : Jvm.MethodName) jdk_42_method_54_code (1 : Nat) (Option.some Jvm.ClassFile.FieldType.int)).before args0 about1 = true := code_word (m := ⟨7, 2⟩) (meth := k7m2) (c := k7c2) (by decide +kernel) rfl rfl rfl (by decide +kernel)
set_option maxRecDepth 65536 in
theorem w_c18 : (Jvm.Cond.code ({ cls := "com/example/autowire/autowire/beans/Placeholders", name := "closing", desc := "(Ljava/lang/String;I)I" } : Jvm.MethodName) prog_20_method_7_code (5 : Nat) (Option.some Jvm.ClassFile.FieldType.int)).before args0 about1 = true := code_word (m := ⟨9, 1⟩) (meth := k9m1) (c := k9c1) (by decide +kernel) rfl rfl rfl (by decide +kernel)
set_option maxRecDepth 65536 in
theorem w_c19 : (Jvm.Cond.code ({ cls := "java/lang/String", name := "charAt", desc := "(I)C" } : Jvm.MethodName) jdk_42_method_56_code (2 : Nat) (Option.some Jvm.ClassFile.FieldType.char)).before args0 about1 = true := code_word (m := ⟨7, 3⟩) (meth := k7m3) (c := k7c3) (by decide +kernel) rfl rfl rfl (by decide +kernel)
set_option maxRecDepth 65536 in
theorem w_c20 : (Jvm.Cond.code ({ cls := "java/lang/StringLatin1", name := "charAt", desc := "([BI)C" } : Jvm.MethodName) jdk_43_method_2_code (2 : Nat) (Option.some Jvm.ClassFile.FieldType.char)).before args0 about1 = true := code_word (m := ⟨10, 1⟩) (meth := k10m1) (c := k10c1) (by decide +kernel) rfl rfl rfl (by decide +kernel)
set_option maxRecDepth 65536 in
theorem w_c21 : (Jvm.Cond.code ({ cls := "java/lang/String", name := "checkIndex", desc := "(II)V" } : Jvm.MethodName) jdk_42_method_155_code (2 : Nat) (Option.none : Option Jvm.ClassFile.FieldType)).before args0 about1 = true := code_word (m := ⟨7, 8⟩) (meth := k7m8) (c := k7c8) (by decide +kernel) rfl rfl rfl (by decide +kernel)
set_option maxRecDepth 65536 in
theorem w_c22 : (Jvm.Cond.code ({ cls := "jdk/internal/util/Preconditions", name := "checkIndex", desc := "(IILjava/util/function/BiFunction;)I" } : Jvm.MethodName) jdk_41_method_11_code (3 : Nat) (Option.some Jvm.ClassFile.FieldType.int)).before args0 about1 = true := code_word (m := ⟨11, 1⟩) (meth := k11m1) (c := k11c1) (by decide +kernel) rfl rfl rfl (by decide +kernel)
def codes1 : List Jvm.Cond := [Jvm.Cond.code x code maxLocals ret, Jvm.Cond.code ({ cls := "com/example/autowire/autowire/beans/PlaceholdersHoldsPlaceholderPinLaw", name := "ch", desc := "(JI)C" } : Jvm.MethodName) method_3_code (5 : Nat) (Option.some Jvm.ClassFile.FieldType.char), Jvm.Cond.code ({ cls := "com/example/autowire/autowire/beans/PlaceholdersHoldsPlaceholderPinLaw", name := "make", desc := "(ICCCCCCC)Ljava/lang/String;" } : Jvm.MethodName) method_4_code (8 : Nat) (Option.some (Jvm.ClassFile.FieldType.object "java/lang/String")), Jvm.Cond.code ({ cls := "java/lang/String", name := "<init>", desc := "([C)V" } : Jvm.MethodName) jdk_42_method_3_code (2 : Nat) (Option.none : Option Jvm.ClassFile.FieldType), Jvm.Cond.code ({ cls := "java/lang/String", name := "<init>", desc := "([CIILjava/lang/Void;)V" } : Jvm.MethodName) jdk_42_method_149_code (6 : Nat) (Option.none : Option Jvm.ClassFile.FieldType), Jvm.Cond.code ({ cls := "java/lang/Object", name := "<init>", desc := "()V" } : Jvm.MethodName) object_method_1_code (1 : Nat) (Option.none : Option Jvm.ClassFile.FieldType), Jvm.Cond.code ({ cls := "java/lang/StringUTF16", name := "compress", desc := "([CII)[B" } : Jvm.MethodName) jdk_52_method_16_code (6 : Nat) (Option.some (Jvm.ClassFile.FieldType.array Jvm.ClassFile.FieldType.byte)), Jvm.Cond.code ({ cls := "java/lang/StringUTF16", name := "compress", desc := "([CI[BII)I" } : Jvm.MethodName) jdk_52_method_21_code (7 : Nat) (Option.some Jvm.ClassFile.FieldType.int), Jvm.Cond.code ({ cls := "java/lang/StringUTF16", name := "coderFromArrayLen", desc := "([BI)B" } : Jvm.MethodName) jdk_52_method_15_code (2 : Nat) (Option.some Jvm.ClassFile.FieldType.byte), Jvm.Cond.code ({ cls := "com/example/autowire/autowire/beans/PlaceholdersHoldsPlaceholderPinLaw", name := "stepIf", desc := "(ICII)I" } : Jvm.MethodName) method_5_code (4 : Nat) (Option.some Jvm.ClassFile.FieldType.int), Jvm.Cond.code ({ cls := "com/example/autowire/autowire/beans/PlaceholdersHoldsPlaceholderPinLaw", name := "step", desc := "(IC)I" } : Jvm.MethodName) method_6_code (2 : Nat) (Option.some Jvm.ClassFile.FieldType.int), Jvm.Cond.code ({ cls := "com/example/autowire/autowire/beans/Placeholders", name := "holdsPlaceholder", desc := "(Ljava/lang/String;)Z" } : Jvm.MethodName) prog_20_method_3_code (2 : Nat) (Option.some Jvm.ClassFile.FieldType.boolean), Jvm.Cond.code ({ cls := "java/lang/String", name := "indexOf", desc := "(Ljava/lang/String;)I" } : Jvm.MethodName) jdk_42_method_84_code (3 : Nat) (Option.some Jvm.ClassFile.FieldType.int), Jvm.Cond.code ({ cls := "java/lang/String", name := "coder", desc := "()B" } : Jvm.MethodName) jdk_42_method_152_code (1 : Nat) (Option.some Jvm.ClassFile.FieldType.byte), Jvm.Cond.code ({ cls := "java/lang/String", name := "isLatin1", desc := "()Z" } : Jvm.MethodName) jdk_42_method_154_code (1 : Nat) (Option.some Jvm.ClassFile.FieldType.boolean), Jvm.Cond.code ({ cls := "java/lang/StringLatin1", name := "indexOf", desc := "([B[B)I" } : Jvm.MethodName) jdk_43_method_24_code (2 : Nat) (Option.some Jvm.ClassFile.FieldType.int), Jvm.Cond.code ({ cls := "java/lang/StringLatin1", name := "indexOf", desc := "([BI[BII)I" } : Jvm.MethodName) jdk_43_method_25_code (11 : Nat) (Option.some Jvm.ClassFile.FieldType.int), Jvm.Cond.code ({ cls := "java/lang/String", name := "length", desc := "()I" } : Jvm.MethodName) jdk_42_method_54_code (1 : Nat) (Option.some Jvm.ClassFile.FieldType.int), Jvm.Cond.code ({ cls := "com/example/autowire/autowire/beans/Placeholders", name := "closing", desc := "(Ljava/lang/String;I)I" } : Jvm.MethodName) prog_20_method_7_code (5 : Nat) (Option.some Jvm.ClassFile.FieldType.int), Jvm.Cond.code ({ cls := "java/lang/String", name := "charAt", desc := "(I)C" } : Jvm.MethodName) jdk_42_method_56_code (2 : Nat) (Option.some Jvm.ClassFile.FieldType.char), Jvm.Cond.code ({ cls := "java/lang/StringLatin1", name := "charAt", desc := "([BI)C" } : Jvm.MethodName) jdk_43_method_2_code (2 : Nat) (Option.some Jvm.ClassFile.FieldType.char), Jvm.Cond.code ({ cls := "java/lang/String", name := "checkIndex", desc := "(II)V" } : Jvm.MethodName) jdk_42_method_155_code (2 : Nat) (Option.none : Option Jvm.ClassFile.FieldType), Jvm.Cond.code ({ cls := "jdk/internal/util/Preconditions", name := "checkIndex", desc := "(IILjava/util/function/BiFunction;)I" } : Jvm.MethodName) jdk_41_method_11_code (3 : Nat) (Option.some Jvm.ClassFile.FieldType.int)]
set_option maxRecDepth 65536 in
theorem codes_eq : words1.filter isCode = codes1 := rfl
theorem w_codes : ∀ c ∈ words1.filter isCode, c.before args0 about1 = true := by
  rw [codes_eq]
  intro c hc
  simp only [codes1, List.mem_cons, List.not_mem_nil, or_false] at hc
  rcases hc with rfl | rfl | rfl | rfl | rfl | rfl | rfl | rfl | rfl | rfl | rfl | rfl | rfl | rfl | rfl | rfl | rfl | rfl | rfl | rfl | rfl | rfl | rfl
  · exact w_c0
  · exact w_c1
  · exact w_c2
  · exact w_c3
  · exact w_c4
  · exact w_c5
  · exact w_c6
  · exact w_c7
  · exact w_c8
  · exact w_c9
  · exact w_c10
  · exact w_c11
  · exact w_c12
  · exact w_c13
  · exact w_c14
  · exact w_c15
  · exact w_c16
  · exact w_c17
  · exact w_c18
  · exact w_c19
  · exact w_c20
  · exact w_c21
  · exact w_c22
set_option maxRecDepth 65536 in
theorem w_t1 : (words1.take 24).all (fun c => isCode c || c.before args0 about1) = true := by decide +kernel
set_option maxRecDepth 65536 in
theorem w_t2 : ((words1.drop 24).take 24).all (fun c => isCode c || c.before args0 about1) = true := by decide +kernel
set_option maxRecDepth 65536 in
theorem w_t3 : (((words1.drop 24).drop 24).take 24).all (fun c => isCode c || c.before args0 about1) = true := by decide +kernel
set_option maxRecDepth 65536 in
theorem w_t4 : ((((words1.drop 24).drop 24).drop 24).take 24).all (fun c => isCode c || c.before args0 about1) = true := by decide +kernel
set_option maxRecDepth 65536 in
theorem w_t5 : ((((words1.drop 24).drop 24).drop 24).drop 24).all (fun c => isCode c || c.before args0 about1) = true := by decide +kernel
theorem w_tables : (allAtoms (Jvm.Cond.code x code maxLocals ret :: tables_1)).before args0 about1 = true := by
  rw [allAtoms_all]
  show words1.all (fun c => c.before args0 about1) = true
  refine all_split ?_ w_codes
  rw [← List.take_append_drop 24 words1, List.all_append, w_t1, ← List.take_append_drop 24 (words1.drop 24), List.all_append, w_t2, ← List.take_append_drop 24 ((words1.drop 24).drop 24), List.all_append, w_t3, ← List.take_append_drop 24 (((words1.drop 24).drop 24).drop 24), List.all_append, w_t4, w_t5]
  rfl
set_option maxRecDepth 65536 in
theorem w_rest : rest_1_c.before args0 about1 = true := by decide +kernel
set_option maxRecDepth 65536 in
theorem w_case : (Jvm.Cond.and given_1 narrow_1).before args0 about1 = true := by decide +kernel
set_option maxRecDepth 65536 in
theorem w_consts : constsHeld consts_1 about1 := Jvm.Lit.constsHeldB_iff.mp (by decide +kernel)
theorem w_applies : (headSpec (Jvm.Cond.code x code maxLocals ret :: tables_1) room_1).applies x e0.platform about1 = true :=
  (Spec.applies_iff w_frames).mpr ⟨w_running, w_runnable, w_alone, w_named, w_hears, w_ripe, w_room, w_tables⟩
theorem atStart : AtStart classFile x code maxLocals ret World_1 tables_1 room_1 Calls_1 rest_1 Pre_1 launch0 p0 e0 about1 theMethod args0 below0 :=
  ⟨lists_1, trivial, launch0.admits_env _ _ _, launch0.least_env, fairChoices_fair.cas, fairChoices_fair.clock, w_frames, w_args, w_heap, w_applies, ⟨w_consts, trivial⟩, w_rest, w_case⟩
end start1
theorem witness_1 : WitnessClaimed_1 := ⟨start1.p0, start1.e0, start1.about1, start1.theMethod, start1.args0, start1.below0, start1.atStart⟩
end Jvm.Pilot.@@N@@
