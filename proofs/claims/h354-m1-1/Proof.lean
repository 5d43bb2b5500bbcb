import JvmDerived
import JvmDerived.Pilot.@@N@@Statement
import JvmDerived.Pilot.@@N@@Code
set_option linter.unusedVariables false
set_option linter.unusedSimpArgs false
namespace Jvm.Pilot.@@N@@
open Jvm Jvm.ClassFile Sem Op Lib Jvm.Free Jvm.Stand Jvm.LawKit Jvm.RoadKit Bundle Jvm.Pilot.@@N@@.Jvm.D
/-! the walk's own layer (wide form): Go = "from here the body returns, and Q"; String constants may be loaded on the way -/
abbrev Cx : Type := Program × Env × State × MethodId × Array Value × List Frame × Method × Code
def Wds (Z : State) : Prop := ∃ a0 : Array Value, (∀ d ∈ tables_1, d.before a0 Z = true) ∧ EW Z a0 consts_1 ∧ ∀ a ∈ Bundle.stringAtoms, a.before a0 Z = true
theorem Wds.w {Z : State} (W : Wds Z) : ∃ a0 : Array Value, ∀ d ∈ tables_1, d.before a0 Z = true := by obtain ⟨a0, h, -⟩ := W; exact ⟨a0, h⟩
def Ok (Z : State) (K : Cx) (own : String) (bytes : ByteArray) (maxL : Nat) (ret : Option FieldType) (nm : String) : Prop :=
  match K with
  | (p, e, s, m, args, below, meth, c) => p.tables.exec = Jvm.exec ∧ c.code = bytes ∧ c.maxLocals = maxL ∧ meth.sig.returnType = ret ∧ s.vm.findClass own = some m.cls ∧ Z.Warmed39 s.vm ∧ meth.name = nm ∧ meth.locks = false ∧ Wds Z
abbrev Sfs (Z : State) (vm : Vm) (h : Heap) (sf : List Addr) : Prop := ∀ x ∈ sf, x < h.size ∧ Safe Z consts_1 vm h x
abbrev Fnl (Z : State) (n0 : Nat) (Q : Option Value → Heap → List Addr → Prop) (v : Option Value) (t : State) (L : List Loc) : Prop := (∃ sn, Q v t.heap sn ∧ Sfs Z t.vm t.heap sn) ∧ Fr n0 L ∧ Old Z n0 t.heap
def Go (l : Launch) (Z : State) (n0 : Nat) (R : Room) (K : Cx) (Q : Option Value → Heap → List Addr → Prop) (h : Heap) (sf : List Addr) (k j : Nat) (pc : Nat) (ls : Array Slot) (st : List Value) : Prop :=
  match K with
  | (p, e, s, m, args, below, meth, c) => ∀ (vm0 : Vm) (k0 : Nat) (T : State) (locs : List Loc), Stand p l e R (s.setVm vm0) m args below meth c T locs k j → T.heap = h → s.Since vm0 k0 → k0 ≤ h.size → CHr Z consts_1 s.vm s.heap vm0 h → Sfs Z vm0 h sf → Fr n0 locs → Old Z n0 h →
      ∃ (s₂ : State) (o : Outcome), Steps p.tables e below (T.setTop (mkF m pc ls st)) s₂ ∧ s₂.status = .running ∧ Ended s₂ below o ∧ ∃ (v : Option Value) (L : List Loc), o = .returned v ∧ Fnl Z n0 Q v s₂ L ∧ CHr Z consts_1 s.vm s.heap s₂.vm s₂.heap ∧ ReturnedEndW s o s₂ L R.cells R.slots
def Ctr (l : Launch) (Z : State) (n0 : Nat) (y : MethodName) (bytes : ByteArray) (maxL : Nat) (ret : Option FieldType) (rm : Room) (as : Array Value) (h : Heap) (sf : List Addr) (Q : Option Value → Heap → List Addr → Prop) : Prop :=
  Old Z n0 h → ∀ ws : List Jvm.Cond, MetFree l y (head1 (Jvm.Cond.code y bytes maxL ret :: ws) rm) (fun a U => a = as ∧ Z.Warmed39 U.vm ∧ U.heap = h ∧ CHv Z consts_1 U.vm h ∧ Sfs Z U.vm h sf) (fun _ _ _ _ _ => True) (fun _ U o U' => ∃ v L, o = .returned v ∧ Fnl Z n0 Q v U' L ∧ CHr Z consts_1 U.vm U.heap U'.vm U'.heap ∧ ReturnedEndW U o U' L rm.cells rm.slots)
section Kit
variable {l : Launch} {Z : State} {n0 : Nat} {R : Room} {K : Cx} {Q : Option Value → Heap → List Addr → Prop} {h : Heap} {sf : List Addr} {k j pc pc' : Nat} {ls : Array Slot} {st : List Value} {own : String} {bytes : ByteArray} {maxL : Nat} {ret : Option FieldType} {nm : String}
theorem Sfs.ext {vm : Vm} {h' : Heap} (E : Ext h h') (H : CHv Z consts_1 vm h) (S : Sfs Z vm h sf) : Sfs Z vm h' sf := fun x q => ⟨Nat.lt_of_lt_of_le (S x q).1 E.1, Safe.ext E H (S x q).2⟩
theorem Sfs.cons {vm : Vm} {a : Addr} (q : a < h.size) (Sa : Safe Z consts_1 vm h a) (S : Sfs Z vm h sf) : Sfs Z vm h (a :: sf) := fun x hx => by
  rcases List.mem_cons.mp hx with rfl | hx
  · exact ⟨q, Sa⟩
  · exact S x hx
theorem Sfs.chr {vm vm' : Vm} {h' : Heap} (A : CHr Z consts_1 vm h vm' h') (S : Sfs Z vm h sf) : Sfs Z vm' h' sf := fun x q => ⟨Nat.lt_of_lt_of_le (S x q).1 A.2.1, A.safe (S x q).1 (S x q).2⟩
theorem Sfs.app {vm : Vm} {sn : List Addr} (S : Sfs Z vm h sn) (S' : Sfs Z vm h sf) : Sfs Z vm h (sn ++ sf) := fun x q => (List.mem_append.mp q).elim (S x) (S' x)
theorem Ctr.of_go {y : MethodName} {rm : Room} {as : Array Value} (W : Wds Z) (hp : plainFor y = true) (hef : ∀ m, entryFrame m as maxL = mkF m 0 ls []) (hgo : ∀ K, Ok Z K y.cls bytes maxL ret y.name → Go l Z n0 rm K Q h sf 0 0 0 ls []) : Ctr l Z n0 y bytes maxL ret rm as h sf Q := fun hO ws => by
  refine MetFree.of_bodySF hp hisR ?_
  intro p e s m args below meth c s₁ Bd hml0 hP hK
  obtain ⟨rfl, hZ, hh, hC, hS⟩ := hP
  have X0 : Stand p l e rm (s.setVm s.vm) m args below meth c s₁ [] 0 0 := Stand.of_body Bd
  have e0 : s₁.heap = h := by rw [← hh, Bd.state]; rfl
  have hnm := (name_of_methodNamed Bd.named Bd.method).1
  have hlk : meth.locks = false := BodyLoose.notSynchronized Bd
  have hS0 : s.Since s.vm 0 := (State.WarmedH.refl s).since _
  obtain ⟨s₂, o, h1, h2⟩ := hgo (p, e, s, m, args, below, meth, c) ⟨Bd.exec, Bd.bytes, hml0, Bd.returns, findClass_of_methodNamed Bd.named, hZ, hnm, hlk, W⟩ s.vm 0 s₁ [] X0 e0 hS0 (Nat.zero_le _) (by rw [hh]; exact CHr.refl hC) hS (Fr.nil n0) hO
  exact ⟨s₂, o, castTop (hef m) h1, h2⟩
theorem Go.of {ls' : Array Slot} {st' : List Value} (H : Ok Z K own bytes maxL ret nm) (step : ∀ (p : Program) (e : Env) (below : List Frame) (T target : State) (m : MethodId) (c : Code), At T m c below → p.tables.exec = Jvm.exec → c.code = bytes → Steps p.tables e below (T.setTop (mkF m pc' ls' st')) target → Steps p.tables e below (T.setTop (mkF m pc ls st)) target) (r : Go l Z n0 R K Q h sf k j pc' ls' st') : Go l Z n0 R K Q h sf k j pc ls st := by
  obtain ⟨p, e, s, m, args, below, meth, c⟩ := K
  intro vm0 k0 T locs X eT hS hk hC hSf hF hO
  obtain ⟨s₂, o, h1, h2⟩ := r vm0 k0 T locs X eT hS hk hC hSf hF hO
  exact ⟨s₂, o, step p e below T s₂ m c X.here H.1 H.2.1 h1, h2⟩
/-- a step that keeps the heap and may warm the tables -/
theorem Go.of2 {st' : List Value} (H : Ok Z K own bytes maxL ret nm) (step : ∀ (p : Program) (e : Env) (s : State) (m : MethodId) (args : Array Value) (below : List Frame) (meth : Method) (c : Code) (T : State) (locs : List Loc) (a0 : Array Value), (∀ d ∈ tables_1, d.before a0 Z = true) → Stand p l e R s m args below meth c T locs k j → p.tables.exec = Jvm.exec → c.code = bytes → c.maxLocals = maxL → Z.Warmed39 s.vm → s.vm.findClass own = some m.cls → T.heap = h → Old Z n0 h →
      ∃ T', Stand p l e R s m args below meth c T' locs k j ∧ T'.heap = h ∧ ∀ target, Steps p.tables e below (T'.setTop (mkF m pc' ls st')) target → Steps p.tables e below (T.setTop (mkF m pc ls st)) target) (r : Go l Z n0 R K Q h sf k j pc' ls st') : Go l Z n0 R K Q h sf k j pc ls st := by
  obtain ⟨p, e, s, m, args, below, meth, c⟩ := K
  intro vm0 k0 T locs X eT hS hk hC hSf hF hO
  obtain ⟨H1, H2, H3, H4, H5, H6, H7, H8, a0, hw, hEL, hat⟩ := H
  obtain ⟨T', X', eT', st⟩ := step p e (s.setVm vm0) m args below meth c T locs a0 hw X H1 H2 H3 (State.Warmed39.trans H6 hS.1) ((hS.1.alike.findClass _ _).trans H5) eT hO
  obtain ⟨s₂, o, h1, h2⟩ := r vm0 k0 T' locs X' eT' hS hk hC hSf hF hO
  exact ⟨s₂, o, st _ h1, h2⟩
/-- a step that makes cells -/
theorem Go.ofNew {st' : List Value} {dk dj : Nat} {P : Addr → Heap → Prop} (H : Ok Z K own bytes maxL ret nm) (step : ∀ (p : Program) (e : Env) (s : State) (m : MethodId) (args : Array Value) (below : List Frame) (meth : Method) (c : Code) (T : State) (locs : List Loc) (a0 : Array Value), (∀ d ∈ tables_1, d.before a0 Z = true) → Stand p l e R s m args below meth c T locs k j → p.tables.exec = Jvm.exec → c.code = bytes → Z.Warmed39 s.vm → s.vm.findClass own = some m.cls → T.heap = h →
      ∃ T' h', Stand p l e R s m args below meth c T' locs (k + dk) (j + dj) ∧ T'.heap = h' ∧ Ext h h' ∧ P h.size h' ∧ ∀ target, Steps p.tables e below (T'.setTop (mkF m pc' ls (.ref h.size :: st'))) target → Steps p.tables e below (T.setTop (mkF m pc ls st)) target)
    (hnew : ∀ a h', P a h' → a < h'.size)
    (r : ∀ (a : Addr) (h' : Heap), a = h.size → n0 ≤ a → Ext h h' → P a h' → Go l Z n0 R K Q h' (a :: sf) (k + dk) (j + dj) pc' ls (.ref a :: st')) : Go l Z n0 R K Q h sf k j pc ls st := by
  obtain ⟨p, e, s, m, args, below, meth, c⟩ := K
  intro vm0 k0 T locs X eT hS hk hC hSf hF hO
  obtain ⟨H1, H2, H3, H4, H5, H6, H7, H8, a0, hw, hEL, hat⟩ := H
  obtain ⟨T', h', X', eT', E, hP, st⟩ := step p e (s.setVm vm0) m args below meth c T locs a0 hw X H1 H2 (State.Warmed39.trans H6 hS.1) ((hS.1.alike.findClass _ _).trans H5) eT
  obtain ⟨s₂, o, h1, h2⟩ := r h.size h' rfl (hO.1 ▸ hO.2.1) E hP vm0 k0 T' locs X' eT' hS (Nat.le_trans hk E.1) (hC.trans (CHr.ext E hC.1)) ((hSf.ext E hC.1).cons (hnew _ _ hP) (Safe.ext E hC.1 (Safe.new (Nat.le_refl _)))) hF (hO.ext E)
  exact ⟨s₂, o, st _ h1, h2⟩
/-- a step that writes one slot of a cell that is new since n0 -/
theorem Go.ofWr {st' : List Value} {a : Addr} {sl : Nat} {v : Value} (H : Ok Z K own bytes maxL ret nm) (ha : n0 ≤ a) (hs : a ∈ sf) (step : ∀ (p : Program) (e : Env) (s : State) (m : MethodId) (args : Array Value) (below : List Frame) (meth : Method) (c : Code) (T : State) (locs : List Loc) (a0 : Array Value), (∀ d ∈ tables_1, d.before a0 Z = true) → Stand p l e R s m args below meth c T locs k j → p.tables.exec = Jvm.exec → c.code = bytes → Z.Warmed39 s.vm → s.vm.findClass own = some m.cls → meth.name = nm → T.heap = h →
      ∃ T' h', Stand p l e R s m args below meth c T' (locs ++ [⟨a, sl⟩]) k j ∧ T'.heap = h' ∧ Wr h h' a sl v ∧ ∀ target, Steps p.tables e below (T'.setTop (mkF m pc' ls st')) target → Steps p.tables e below (T.setTop (mkF m pc ls st)) target)
    (r : ∀ (h' : Heap), Wr h h' a sl v → Go l Z n0 R K Q h' sf k j pc' ls st') : Go l Z n0 R K Q h sf k j pc ls st := by
  obtain ⟨p, e, s, m, args, below, meth, c⟩ := K
  intro vm0 k0 T locs X eT hS hk hC hSf hF hO
  obtain ⟨H1, H2, H3, H4, H5, H6, H7, H8, a0, hw, hEL, hat⟩ := H
  obtain ⟨T', h', X', eT', W, st⟩ := step p e (s.setVm vm0) m args below meth c T locs a0 hw X H1 H2 (State.Warmed39.trans H6 hS.1) ((hS.1.alike.findClass _ _).trans H5) H7 eT
  have hsz := W.size
  obtain ⟨s₂, o, h1, h2⟩ := r h' W vm0 k0 T' _ X' eT' hS (by rw [hsz]; exact hk) (hC.trans (CHr.wr W (hSf a hs).2 hC.1)) (fun x q => ⟨by rw [hsz]; exact (hSf x q).1, Safe.wr W (hSf a hs).2 hC.1 (hSf x q).2⟩) (Fr.snoc X' hF ha) (hO.wr W ha)
  exact ⟨s₂, o, st _ h1, h2⟩
/-- a step that may write any slots of one cell that is new since n0 -/
theorem Go.ofKeep {st' : List Value} {b : Addr} {P : Heap → Prop} (H : Ok Z K own bytes maxL ret nm) (ha : n0 ≤ b) (hs : b ∈ sf) (step : ∀ (p : Program) (e : Env) (s : State) (m : MethodId) (args : Array Value) (below : List Frame) (meth : Method) (c : Code) (T : State) (locs : List Loc) (a0 : Array Value), (∀ d ∈ tables_1, d.before a0 Z = true) → Stand p l e R s m args below meth c T locs k j → p.tables.exec = Jvm.exec → c.code = bytes → c.maxLocals = maxL → Z.Warmed39 s.vm → s.vm.findClass own = some m.cls → T.heap = h → Fr n0 locs →
      ∃ T' h' L, Stand p l e R s m args below meth c T' L k j ∧ T'.heap = h' ∧ Fr n0 L ∧ Keep h h' [b] ∧ P h' ∧ ∀ target, Steps p.tables e below (T'.setTop (mkF m pc' ls st')) target → Steps p.tables e below (T.setTop (mkF m pc ls st)) target)
    (r : ∀ (h' : Heap), Keep h h' [b] → P h' → Go l Z n0 R K Q h' sf k j pc' ls st') : Go l Z n0 R K Q h sf k j pc ls st := by
  obtain ⟨p, e, s, m, args, below, meth, c⟩ := K
  intro vm0 k0 T locs X eT hS hk hC hSf hF hO
  obtain ⟨H1, H2, H3, H4, H5, H6, H7, H8, a0, hw, hEL, hat⟩ := H
  obtain ⟨T', h', L, X', eT', hL, hK, hP, st⟩ := step p e (s.setVm vm0) m args below meth c T locs a0 hw X H1 H2 H3 (State.Warmed39.trans H6 hS.1) ((hS.1.alike.findClass _ _).trans H5) eT hF
  have hsafe : ∀ x ∈ [b], Safe Z consts_1 vm0 h x := allS (hSf b hs).2 all0
  obtain ⟨s₂, o, h1, h2⟩ := r h' hK hP vm0 k0 T' L X' eT' hS (Nat.le_trans hk hK.1) (hC.trans (CHr.keep hK hsafe hC.1)) (fun x q => ⟨Nat.lt_of_lt_of_le (hSf x q).1 hK.1, Safe.keep hK hsafe hC.1 (hSf x q).2⟩) hL (hO.keep hK (allS ha all0))
  exact ⟨s₂, o, st _ h1, h2⟩
theorem Ctr.backS {p : Program} {e : Env} {s : State} {args : Array Value} {below : List Frame} {vm0 : Vm} {a0 : Array Value} {y : MethodName} {ybytes : ByteArray} {ymaxL : Nat} {yret : Option FieldType} {rm : Room} {as : Array Value} {Qc : Option Value → Heap → List Addr → Prop} {sfc : List Addr} {W : Nat} (ct : Ctr l Z n0 y ybytes ymaxL yret rm as h sfc Qc) (hO : Old Z n0 h)
    (hZ : Z.Warmed39 vm0) (hEL : EW Z a0 consts_1) (hC : CHv Z consts_1 vm0 h) (hSf : Sfs Z vm0 h sfc) (wc : (Jvm.Cond.code y ybytes ymaxL yret).before a0 Z = true) (wz : (Jvm.Cond.initialized y.cls).before a0 Z = true) (hfr : rm.frames + 1 ≤ R.frames) (hlo : W + (ymaxL + 11) + rm.locals ≤ R.locals) :
    BackS l R p e below (s.setVm vm0) args y 3 W (fun A a => a = as ∧ A.U.heap = h ∧ A.cells + rm.cells ≤ R.cells ∧ A.slots + rm.slots ≤ R.slots)
      (fun A _ v B => ∃ L, Fnl Z n0 Qc v B.U L ∧ B.locs = A.locs ++ L ∧ B.cells = A.cells + rm.cells ∧ B.slots = A.slots + rm.slots ∧ CHr Z consts_1 vm0 h B.U.vm B.U.heap) := by
  refine BackS.of_freeW (bytes := ybytes) (maxL := ymaxL) (ret := yret) (E := fun _ U o t L k n => (k = rm.cells ∧ n = rm.slots) ∧ (∃ v, o = .returned v ∧ Fnl Z n0 Qc v t L) ∧ CHr Z consts_1 U.vm U.heap t.vm t.heap) (ct hO []) hfr hlo ?_ ?_ (fun _ _ _ _ _ _ _ _ _ => trivial) ?_ ?_
  · intro m meth c A a Y hp
    have hU : Z.Warmed39 A.U.vm := wtrans (s := s.setVm vm0) hZ Y.warmed
    exact ⟨by show (Jvm.Cond.and _ .tt).before a A.U = true; rw [Cond.before_and, mv hU wc]; rfl, mv hU wc, mv hU wz, hp.2.2.1, hp.2.2.2⟩
  · intro m meth c A a g mk Y hp
    have q := CHv.at Y hZ hEL hC
    exact ⟨hp.1, wtrans (s := s.setVm vm0) hZ Y.warmed, hp.2.1, q.1, hSf.chr q⟩
  · rintro a U o t ⟨v, L, h1, h2, h3, h4⟩
    exact ⟨L, _, _, h4, ⟨rfl, rfl⟩, ⟨v, h1, h2⟩, h3⟩
  · rintro m meth c A a g mk v t L k n Y hp - - ⟨⟨rfl, rfl⟩, ⟨v', e3, e4⟩, e5⟩
    cases e3
    refine ⟨L, e4, rfl, rfl, rfl, (CHv.at Y hZ hEL hC).trans ?_⟩
    rw [← hp.2.1]; exact e5
/-- a call, by whatever law of calls -/
theorem Go.ofCall {y : MethodName} {ybytes : ByteArray} {ymaxL : Nat} {yret : Option FieldType} {rm : Room} {as : Array Value} {Qc : Option Value → Heap → List Addr → Prop} {sfc : List Addr} {rest : List Value} {W : Nat} (H : Ok Z K own bytes maxL ret nm) (ct : Ctr l Z n0 y ybytes ymaxL yret rm as h sfc Qc) (hsf : ∀ x ∈ sfc, x ∈ sf)
    (hc : Jvm.Cond.code y ybytes ymaxL yret ∈ tables_1) (hi : Jvm.Cond.initialized y.cls ∈ tables_1) (hfr : rm.frames + 1 ≤ R.frames) (hlo : W + (ymaxL + 11) + rm.locals ≤ R.locals) (hce : k + rm.cells ≤ R.cells) (hsl : j + rm.slots ≤ R.slots)
    (law : ∀ (p : Program) (e : Env) (s : State) (m : MethodId) (args : Array Value) (below : List Frame) (meth : Method) (c : Code) (T : State) (locs : List Loc) (a0 : Array Value), (∀ d ∈ tables_1, d.before a0 Z = true) → Stand p l e R s m args below meth c T locs k j → p.tables.exec = Jvm.exec → c.code = bytes → c.maxLocals = maxL → Z.Warmed39 s.vm → s.vm.findClass own = some m.cls → T.heap = h →
      ∀ (Pre : Pt → Array Value → Prop) (Post : Pt → Array Value → Option Value → Pt → Prop), BackS l R p e below s args y 3 W Pre Post → (∀ vm₁, s.WarmedH vm₁ → Pre ⟨T.setVm vm₁, locs, k, j⟩ as) →
      ∃ (v : Option Value) (vm₁ : Vm) (B : Pt), Stand p l e R (s.setVm B.U.vm) m args below meth c B.U B.locs B.cells B.slots ∧ s.Since B.U.vm B.U.heap.size ∧ T.heap.size ≤ B.U.heap.size ∧ Post ⟨T.setVm vm₁, locs, k, j⟩ as v B ∧ ∀ target, Steps p.tables e below (B.U.setTop (mkF m pc' ls (v.toList ++ rest))) target → Steps p.tables e below (T.setTop (mkF m pc ls st)) target)
    (r : ∀ (v : Option Value) (h' : Heap) (sn : List Addr), Qc v h' sn → Go l Z n0 R K Q h' (sn ++ sf) (k + rm.cells) (j + rm.slots) pc' ls (v.toList ++ rest)) : Go l Z n0 R K Q h sf k j pc ls st := by
  obtain ⟨p, e, s, m, args, below, meth, c⟩ := K
  intro vm0 k0 T locs X eT hS hk hC hSf hF hO
  obtain ⟨H1, H2, H3, H4, H5, H6, H7, H8, a0, hw, hEL, hat⟩ := H
  have hZ0 : Z.Warmed39 (s.setVm vm0).vm := State.Warmed39.trans H6 hS.1
  have hown0 : (s.setVm vm0).vm.findClass own = some m.cls := (hS.1.alike.findClass _ _).trans H5
  have hB := Ctr.backS (p := p) (e := e) (s := s) (args := args) (below := below) (R := R) (W := W) (vm0 := vm0) ct hO hZ0 hEL hC.1 (fun x q => hSf x (hsf x q)) (hw _ hc) (hw _ hi) hfr hlo
  obtain ⟨v, vm₁, B, X', hS2, hgr, ⟨L, ⟨⟨sn, hq, hsn⟩, hFL, hO'⟩, e1, e2, e3, e4⟩, stp⟩ := law p e (s.setVm vm0) m args below meth c T locs a0 hw X H1 H2 H3 hZ0 hown0 eT _ _ hB (fun vm₁ _ => ⟨rfl, eT, hce, hsl⟩)
  obtain ⟨U, Lc, kc, jc⟩ := B
  dsimp only [Pt.U, Pt.locs, Pt.cells, Pt.slots] at X' hS2 hgr hq hsn hO' e1 e2 e3 e4 stp
  subst e1 e2 e3
  rw [eT] at hgr
  obtain ⟨X2, hS3, -, -⟩ := rebS hS hk X' hS2 hgr hZ0 hown0
  obtain ⟨s₂, o, h1, h2⟩ := r v _ sn hq U.vm _ U _ X2 rfl hS3 (Nat.le_refl _) (hC.trans e4) (hsn.app (hSf.chr e4)) (hF.app hFL) hO'
  exact ⟨s₂, o, stp _ h1, h2⟩
theorem Go.callS {y : MethodName} {ybytes : ByteArray} {ymaxL : Nat} {yret : Option FieldType} {rm : Room} {Qc : Option Value → Heap → List Addr → Prop} {sfc : List Addr} {rest : List Value} (W : Nat) {idx : Nat} (argsL : List Value) {ps : List FieldType} {rt : Option FieldType} (H : Ok Z K own bytes maxL ret nm) (d : decode bytes pc = .ok (.invokestatic idx, 3)) (hp : pc + 3 = pc')
    (hl : Jvm.Cond.methodLink own idx y ∈ tables_1) (hst : Jvm.Cond.static y ∈ tables_1) (hi : Jvm.Cond.initialized y.cls ∈ tables_1) (hc : Jvm.Cond.code y ybytes ymaxL yret ∈ tables_1) (hpd : parseMethodDescriptor y.desc = some ⟨ps, rt⟩)
    (ct : Ctr l Z n0 y ybytes ymaxL yret rm argsL.toArray h sfc Qc) (hsf : ∀ x ∈ sfc, x ∈ sf) (hlen : argsL.length = ps.length) (hsz : ls.size = maxL) (hstk : st = argsL.reverse ++ rest) (hW : (rest.map fun v => v.category).sum ≤ W)
    (hfr : rm.frames + 1 ≤ R.frames) (hlo : W + (ymaxL + 11) + rm.locals ≤ R.locals) (hce : k + rm.cells ≤ R.cells) (hsl : j + rm.slots ≤ R.slots) (hy : y.cls ≠ "java/lang/invoke/MethodHandle" ∧ y.cls ≠ "java/lang/invoke/VarHandle")
    (r : ∀ (v : Option Value) (h' : Heap) (sn : List Addr), Qc v h' sn → Go l Z n0 R K Q h' (sn ++ sf) (k + rm.cells) (j + rm.slots) pc' ls (v.toList ++ rest)) : Go l Z n0 R K Q h sf k j pc ls st := by
  subst hp
  refine Go.ofCall (W := W) (rest := rest) H ct hsf hc hi hfr hlo hce hsl ?_ r
  intro p e s m args below meth c T locs a0 hw X hx hby hml hZ hown eT Pre Post hB hpre
  obtain ⟨v, vm₁, B, -, X', hS2, hgr, hpost, stp⟩ := Jvm.RoadKit.callSS X hx (y := y) hown (mvT hZ (hw _ hl)) (mvT hZ (hw _ hst)) (mvT hZ (hw _ hi)) (mvT hZ (hw _ hc)) hy hB (g := mkF m pc ls st) rfl (by rw [hml]; exact hsz) (argsL := argsL) (rest := rest) (lenOf hpd hlen) hstk (by show 2 * 0 + _ ≤ _; simpa using hW) (hb hby d) hpre
  exact ⟨v, vm₁, B, X', hS2, hgr, hpost, fun t ht => stp.trans ht⟩
theorem Go.callI {y : MethodName} {ybytes : ByteArray} {ymaxL : Nat} {rm : Room} {Qc : Option Value → Heap → List Addr → Prop} {sfc : List Addr} {rest : List Value} (W : Nat) {idx : Nat} {a : Addr} (argsL : List Value) {ps : List FieldType} {rt : Option FieldType} (H : Ok Z K own bytes maxL ret nm) (d : decode bytes pc = .ok (.invokespecial idx, 3)) (hp : pc + 3 = pc') (hy1 : y.name = "<init>")
    (hl : Jvm.Cond.methodLink own idx y ∈ tables_1) (hst : Jvm.Cond.instanceMethod y ∈ tables_1) (hi : Jvm.Cond.initialized y.cls ∈ tables_1) (hc : Jvm.Cond.code y ybytes ymaxL none ∈ tables_1) (hpd : parseMethodDescriptor y.desc = some ⟨ps, rt⟩)
    (ct : Ctr l Z n0 y ybytes ymaxL none rm (.ref a :: argsL).toArray h sfc Qc) (hsf : ∀ x ∈ sfc, x ∈ sf) (hlen : argsL.length = ps.length) (hsz : ls.size = maxL) (hstk : st = argsL.reverse ++ .ref a :: rest) (hW : (rest.map fun v => v.category).sum ≤ W)
    (hfr : rm.frames + 1 ≤ R.frames) (hlo : W + (ymaxL + 11) + rm.locals ≤ R.locals) (hce : k + rm.cells ≤ R.cells) (hsl : j + rm.slots ≤ R.slots) (hy : y.cls ≠ "java/lang/invoke/MethodHandle" ∧ y.cls ≠ "java/lang/invoke/VarHandle")
    (r : ∀ (v : Option Value) (h' : Heap) (sn : List Addr), Qc v h' sn → Go l Z n0 R K Q h' (sn ++ sf) (k + rm.cells) (j + rm.slots) pc' ls (v.toList ++ rest)) : Go l Z n0 R K Q h sf k j pc ls st := by
  subst hp
  refine Go.ofCall (W := W) (rest := rest) H ct hsf hc hi hfr hlo hce hsl ?_ r
  intro p e s m args below meth c T locs a0 hw X hx hby hml hZ hown eT Pre Post hB hpre
  obtain ⟨v, vm₁, B, -, X', hS2, hgr, hpost, stp⟩ := X.specialBackS hx (y := y) hy1 hown (mvT hZ (hw _ hl)) (mvT hZ (hw _ hst)) (mvT hZ (hw _ hc)) hy hB (g := mkF m pc ls st) rfl (by rw [hml]; exact hsz) (Steps.refl _) (a := a) (argsL := argsL) (rest := rest) (lenOf hpd hlen) hstk (by show 2 * 0 + _ ≤ _; simpa using hW) (hb hby d) hpre
  exact ⟨v, vm₁, B, X', hS2, hgr, hpost, fun t ht => stp.trans ht⟩
theorem Go.callV {y : MethodName} {C : String} {ybytes : ByteArray} {ymaxL : Nat} {yret : Option FieldType} {rm : Room} {Qc : Option Value → Heap → List Addr → Prop} {sfc : List Addr} {rest : List Value} (W : Nat) {idx : Nat} {a : Addr} (argsL : List Value) {ps : List FieldType} {rt : Option FieldType} (H : Ok Z K own bytes maxL ret nm) (d : decode bytes pc = .ok (.invokevirtual idx, 3)) (hp : pc + 3 = pc') (E : Exa Z h a C)
    (hl : Jvm.Cond.methodLink own idx y ∈ tables_1) (hde : Jvm.Cond.declares y ∈ tables_1) (hse : Jvm.Cond.selects C y y ∈ tables_1) (hst : Jvm.Cond.instanceMethod y ∈ tables_1) (hi : Jvm.Cond.initialized y.cls ∈ tables_1) (hc : Jvm.Cond.code y ybytes ymaxL yret ∈ tables_1) (hpd : parseMethodDescriptor y.desc = some ⟨ps, rt⟩)
    (ct : Ctr l Z n0 y ybytes ymaxL yret rm (.ref a :: argsL).toArray h sfc Qc) (hsf : ∀ x ∈ sfc, x ∈ sf) (hlen : argsL.length = ps.length) (hsz : ls.size = maxL) (hstk : st = argsL.reverse ++ .ref a :: rest) (hW : (rest.map fun v => v.category).sum ≤ W)
    (hfr : rm.frames + 1 ≤ R.frames) (hlo : W + (ymaxL + 11) + rm.locals ≤ R.locals) (hce : k + rm.cells ≤ R.cells) (hsl : j + rm.slots ≤ R.slots) (hy : y.cls ≠ "java/lang/invoke/MethodHandle" ∧ y.cls ≠ "java/lang/invoke/VarHandle")
    (r : ∀ (v : Option Value) (h' : Heap) (sn : List Addr), Qc v h' sn → Go l Z n0 R K Q h' (sn ++ sf) (k + rm.cells) (j + rm.slots) pc' ls (v.toList ++ rest)) : Go l Z n0 R K Q h sf k j pc ls st := by
  subst hp
  refine Go.ofCall (W := W) (rest := rest) H ct hsf hc hi hfr hlo hce hsl ?_ r
  intro p e s m args below meth c T locs a0 hw X hx hby hml hZ hown eT Pre Post hB hpre
  obtain ⟨cq, kq, qa, qb, qc⟩ := isOf hZ eT E
  obtain ⟨v, vm₁, B, -, X', hS2, hgr, hpost, stp⟩ := X.virtualBackS hx (y := y) (z := y) hown (mvT hZ (hw _ hl)) (mvT hZ (hw _ hde)) (notFace_of_selects (args := #[]) (mvT hZ (hw _ hse))) (mvT hZ (hw _ hse)) (mvT hZ (hw _ hst)) hy hB qa qc (g := mkF m pc ls st) rfl (by rw [hml]; exact hsz) (Steps.refl _) (argsL := argsL) (rest := rest) (lenOf hpd hlen) hstk (by show 2 * 0 + _ ≤ _; simpa using hW) (hb hby d) hpre
  exact ⟨v, vm₁, B, X', hS2, hgr, hpost, fun t ht => stp.trans ht⟩
theorem Go.ret0 {sn : List Addr} {v : Option Value} (H : Ok Z K own bytes maxL ret nm) (hv : ret = none → v = none) (hq : Q v h sn) (hs : ∀ x ∈ sn, x ∈ sf) (hk : k ≤ R.cells) (hj : j ≤ R.slots)
    (step : ∀ (p : Program) (e : Env) (s : State) (m : MethodId) (args : Array Value) (below : List Frame) (meth : Method) (c : Code) (T : State) (locs : List Loc) (fs : List Frame), Stand p l e R s m args below meth c T locs k j → p.tables.exec = Jvm.exec → c.code = bytes → meth.sig.returnType = ret →
      (∀ (f : JFrame) (acts : List Action), f.method = m → f.locked = none → f.entered = [] → (doReturn e (T.setTop f) acts v).1 = T.setFrames fs) → Steps p.tables e below (T.setTop (mkF m pc ls st)) (T.setFrames fs)) : Go l Z n0 R K Q h sf k j pc ls st := by
  obtain ⟨p, e, s, m, args, below, meth, c⟩ := K
  intro vm0 k0 T locs X eT hS hk0 hC hSf hF hO
  obtain ⟨H1, H2, H3, H4, H5, H6, H7, H8, a0, hw, hEL, hat⟩ := H
  have hZ0 : Z.Warmed39 vm0 := State.Warmed39.trans H6 hS.1
  obtain ⟨fs, hr, hrun, hended, g1, g2, g3, g4⟩ := X.leaveW hS (by rw [eT]; exact hk0) (v := v) (fun q => hv (H4.symm.trans q)) H8
  have q := CHv.at X hZ0 hEL hC.1
  have hCe : CHr Z consts_1 s.vm s.heap T.vm T.heap := by rw [eT]; exact hC.trans q
  refine ⟨_, _, step p e (s.setVm vm0) m args below meth c T locs fs X H1 H2 H4 hr, hrun, hended, v, locs, rfl, ⟨⟨sn, ?_, ?_⟩, hF, ?_⟩, hCe, ⟨g1, g2, g3, g4.mono hk hj⟩⟩
  · show Q v T.heap sn
    rw [eT]; exact hq
  · show Sfs Z T.vm T.heap sn
    rw [eT]; exact Sfs.chr q (fun x hx => hSf x (hs x hx))
  · show Old Z n0 T.heap
    rw [eT]; exact hO
end Kit
section Steps1
variable {l : Launch} {Z : State} {n0 : Nat} {R : Room} {K : Cx} {Q : Option Value → Heap → List Addr → Prop} {h : Heap} {sf : List Addr} {k j pc pc' : Nat} {ls ls' : Array Slot} {st : List Value} {own : String} {bytes : ByteArray} {maxL : Nat} {ret : Option FieldType} {nm : String}
theorem Go.aload {i : Nat} {v : Value} (H : Ok Z K own bytes maxL ret nm) (d : decode bytes pc = .ok (.aload i, 2)) (hp : pc + 2 = pc') (hl : ls[i]? = some (.val v)) (hv : v.isRef = true) (r : Go l Z n0 R K Q h sf k j pc' ls (v :: st)) : Go l Z n0 R K Q h sf k j pc ls st := by
  subst hp
  exact Go.of H (fun p e below T t m c hA hx hby hr => XS.aload hA hx rfl (hb hby d) hl hv hr) r
theorem Go.aloadN {i : Fin 4} {v : Value} (H : Ok Z K own bytes maxL ret nm) (d : decode bytes pc = .ok (.aload_n i, 1)) (hp : pc + 1 = pc') (hl : ls[i.val]? = some (.val v)) (hv : v.isRef = true) (r : Go l Z n0 R K Q h sf k j pc' ls (v :: st)) : Go l Z n0 R K Q h sf k j pc ls st := by
  subst hp
  exact Go.of H (fun p e below T t m c hA hx hby hr => XS.aloadN hA hx rfl (hb hby d) hl hv hr) r
theorem Go.iload {i : Nat} {v : Int32} (H : Ok Z K own bytes maxL ret nm) (d : decode bytes pc = .ok (.iload i, 2)) (hp : pc + 2 = pc') (hl : ls[i]? = some (.val (.int v))) (r : Go l Z n0 R K Q h sf k j pc' ls (.int v :: st)) : Go l Z n0 R K Q h sf k j pc ls st := by
  subst hp
  exact Go.of H (fun p e below T t m c hA hx hby hr => XS.iload hA hx rfl (hb hby d) hl hr) r
theorem Go.iloadN {i : Fin 4} {v : Int32} (H : Ok Z K own bytes maxL ret nm) (d : decode bytes pc = .ok (.iload_n i, 1)) (hp : pc + 1 = pc') (hl : ls[i.val]? = some (.val (.int v))) (r : Go l Z n0 R K Q h sf k j pc' ls (.int v :: st)) : Go l Z n0 R K Q h sf k j pc ls st := by
  subst hp
  exact Go.of H (fun p e below T t m c hA hx hby hr => XS.iloadN hA hx rfl (hb hby d) hl hr) r
theorem Go.lload {i : Nat} {v : Int64} (H : Ok Z K own bytes maxL ret nm) (d : decode bytes pc = .ok (.lload i, 2)) (hp : pc + 2 = pc') (hl : ls[i]? = some (.val (.long v))) (r : Go l Z n0 R K Q h sf k j pc' ls (.long v :: st)) : Go l Z n0 R K Q h sf k j pc ls st := by
  subst hp
  exact Go.of H (fun p e below T t m c hA hx hby hr => XS.lload hA hx rfl (hb hby d) hl hr) r
theorem Go.lloadN {i : Fin 4} {v : Int64} (H : Ok Z K own bytes maxL ret nm) (d : decode bytes pc = .ok (.lload_n i, 1)) (hp : pc + 1 = pc') (hl : ls[i.val]? = some (.val (.long v))) (r : Go l Z n0 R K Q h sf k j pc' ls (.long v :: st)) : Go l Z n0 R K Q h sf k j pc ls st := by
  subst hp
  exact Go.of H (fun p e below T t m c hA hx hby hr => XS.lloadN hA hx rfl (hb hby d) hl hr) r
theorem Go.istore {i : Nat} {x : Int32} (H : Ok Z K own bytes maxL ret nm) (d : decode bytes pc = .ok (.istore i, 2)) (hp : pc + 2 = pc') (hl : storeLocals ls i (.int x) = some ls') (r : Go l Z n0 R K Q h sf k j pc' ls' st) : Go l Z n0 R K Q h sf k j pc ls (.int x :: st) := by
  subst hp
  exact Go.of H (fun p e below T t m c hA hx hby hr => XS.istore hA hx rfl (hb hby d) rfl hl hr) r
theorem Go.istoreN {i : Fin 4} {x : Int32} (H : Ok Z K own bytes maxL ret nm) (d : decode bytes pc = .ok (.istore_n i, 1)) (hp : pc + 1 = pc') (hl : storeLocals ls i.val (.int x) = some ls') (r : Go l Z n0 R K Q h sf k j pc' ls' st) : Go l Z n0 R K Q h sf k j pc ls (.int x :: st) := by
  subst hp
  exact Go.of H (fun p e below T t m c hA hx hby hr => XS.istoreN hA hx rfl (hb hby d) rfl hl hr) r
theorem Go.lstore {i : Nat} {x : Int64} (H : Ok Z K own bytes maxL ret nm) (d : decode bytes pc = .ok (.lstore i, 2)) (hp : pc + 2 = pc') (hl : storeLocals ls i (.long x) = some ls') (r : Go l Z n0 R K Q h sf k j pc' ls' st) : Go l Z n0 R K Q h sf k j pc ls (.long x :: st) := by
  subst hp
  exact Go.of H (fun p e below T t m c hA hx hby hr => XS.lstore hA hx rfl (hb hby d) rfl hl hr) r
theorem Go.lstoreN {i : Fin 4} {x : Int64} (H : Ok Z K own bytes maxL ret nm) (d : decode bytes pc = .ok (.lstore_n i, 1)) (hp : pc + 1 = pc') (hl : storeLocals ls i.val (.long x) = some ls') (r : Go l Z n0 R K Q h sf k j pc' ls' st) : Go l Z n0 R K Q h sf k j pc ls (.long x :: st) := by
  subst hp
  exact Go.of H (fun p e below T t m c hA hx hby hr => XS.lstoreN hA hx rfl (hb hby d) rfl hl hr) r
theorem Go.astore {i : Nat} {x : Value} (H : Ok Z K own bytes maxL ret nm) (d : decode bytes pc = .ok (.astore i, 2)) (hp : pc + 2 = pc') (hv : x.isRef = true) (hl : storeLocals ls i x = some ls') (r : Go l Z n0 R K Q h sf k j pc' ls' st) : Go l Z n0 R K Q h sf k j pc ls (x :: st) := by
  subst hp
  exact Go.of H (fun p e below T t m c hA hx hby hr => XS.astore hA hx rfl (hb hby d) rfl hv hl hr) r
theorem Go.astoreN {i : Fin 4} {x : Value} (H : Ok Z K own bytes maxL ret nm) (d : decode bytes pc = .ok (.astore_n i, 1)) (hp : pc + 1 = pc') (hv : x.isRef = true) (hl : storeLocals ls i.val x = some ls') (r : Go l Z n0 R K Q h sf k j pc' ls' st) : Go l Z n0 R K Q h sf k j pc ls (x :: st) := by
  subst hp
  exact Go.of H (fun p e below T t m c hA hx hby hr => XS.astoreN hA hx rfl (hb hby d) rfl hv hl hr) r
theorem Go.iconst {i : Int} (v : Int32) (H : Ok Z K own bytes maxL ret nm) (d : decode bytes pc = .ok (.iconst i, 1)) (hp : pc + 1 = pc') (hv : Int32.ofInt i = v) (r : Go l Z n0 R K Q h sf k j pc' ls (.int v :: st)) : Go l Z n0 R K Q h sf k j pc ls st := by
  subst hp
  exact Go.of H (fun p e below T t m c hA hx hby hr => XS.iconst hA hx rfl (hb hby d) (hv ▸ hr)) r
theorem Go.bipush {i : Int} (v : Int32) (H : Ok Z K own bytes maxL ret nm) (d : decode bytes pc = .ok (.bipush i, 2)) (hp : pc + 2 = pc') (hv : (Int8.ofInt i).toInt32 = v) (r : Go l Z n0 R K Q h sf k j pc' ls (.int v :: st)) : Go l Z n0 R K Q h sf k j pc ls st := by
  subst hp
  exact Go.of H (fun p e below T t m c hA hx hby hr => XS.bipush hA hx rfl (hb hby d) (hv ▸ hr)) r
theorem Go.sipush {i : Int} (v : Int32) (H : Ok Z K own bytes maxL ret nm) (d : decode bytes pc = .ok (.sipush i, 3)) (hp : pc + 3 = pc') (hv : (Int16.ofInt i).toInt32 = v) (r : Go l Z n0 R K Q h sf k j pc' ls (.int v :: st)) : Go l Z n0 R K Q h sf k j pc ls st := by
  subst hp
  exact Go.of H (fun p e below T t m c hA hx hby hr => XS.sipush hA hx rfl (hb hby d) (hv ▸ hr)) r
theorem Go.lconst {i : Fin 2} (v : Int64) (H : Ok Z K own bytes maxL ret nm) (d : decode bytes pc = .ok (.lconst i, 1)) (hp : pc + 1 = pc') (hv : Int64.ofNat i.val = v) (r : Go l Z n0 R K Q h sf k j pc' ls (.long v :: st)) : Go l Z n0 R K Q h sf k j pc ls st := by
  subst hp
  exact Go.of H (fun p e below T t m c hA hx hby hr => XS.lconst hA hx rfl (hb hby d) (hv ▸ hr)) r
theorem Go.aconstNull  (H : Ok Z K own bytes maxL ret nm) (d : decode bytes pc = .ok (.aconst_null, 1)) (hp : pc + 1 = pc')  (r : Go l Z n0 R K Q h sf k j pc' ls (.null :: st)) : Go l Z n0 R K Q h sf k j pc ls st := by
  subst hp
  exact Go.of H (fun p e below T t m c hA hx hby hr => XS.aconstNull hA hx rfl (hb hby d) hr) r
theorem Go.iadd {x y : Int32} (H : Ok Z K own bytes maxL ret nm) (d : decode bytes pc = .ok (.iadd, 1)) (hp : pc + 1 = pc')  (r : Go l Z n0 R K Q h sf k j pc' ls (.int (x + y) :: st)) : Go l Z n0 R K Q h sf k j pc ls (.int y :: .int x :: st) := by
  subst hp
  exact Go.of H (fun p e below T t m c hA hx hby hr => XS.iadd hA hx rfl (hb hby d) rfl hr) r
theorem Go.isub {x y : Int32} (H : Ok Z K own bytes maxL ret nm) (d : decode bytes pc = .ok (.isub, 1)) (hp : pc + 1 = pc')  (r : Go l Z n0 R K Q h sf k j pc' ls (.int (x - y) :: st)) : Go l Z n0 R K Q h sf k j pc ls (.int y :: .int x :: st) := by
  subst hp
  exact Go.of H (fun p e below T t m c hA hx hby hr => XS.isub hA hx rfl (hb hby d) rfl hr) r
theorem Go.imul {x y : Int32} (H : Ok Z K own bytes maxL ret nm) (d : decode bytes pc = .ok (.imul, 1)) (hp : pc + 1 = pc')  (r : Go l Z n0 R K Q h sf k j pc' ls (.int (x * y) :: st)) : Go l Z n0 R K Q h sf k j pc ls (.int y :: .int x :: st) := by
  subst hp
  exact Go.of H (fun p e below T t m c hA hx hby hr => XS.imul hA hx rfl (hb hby d) rfl hr) r
theorem Go.iand {x y : Int32} (H : Ok Z K own bytes maxL ret nm) (d : decode bytes pc = .ok (.iand, 1)) (hp : pc + 1 = pc')  (r : Go l Z n0 R K Q h sf k j pc' ls (.int (x &&& y) :: st)) : Go l Z n0 R K Q h sf k j pc ls (.int y :: .int x :: st) := by
  subst hp
  exact Go.of H (fun p e below T t m c hA hx hby hr => XS.iand hA hx rfl (hb hby d) rfl hr) r
theorem Go.ior {x y : Int32} (H : Ok Z K own bytes maxL ret nm) (d : decode bytes pc = .ok (.ior, 1)) (hp : pc + 1 = pc')  (r : Go l Z n0 R K Q h sf k j pc' ls (.int (x ||| y) :: st)) : Go l Z n0 R K Q h sf k j pc ls (.int y :: .int x :: st) := by
  subst hp
  exact Go.of H (fun p e below T t m c hA hx hby hr => XS.ior hA hx rfl (hb hby d) rfl hr) r
theorem Go.ixor {x y : Int32} (H : Ok Z K own bytes maxL ret nm) (d : decode bytes pc = .ok (.ixor, 1)) (hp : pc + 1 = pc')  (r : Go l Z n0 R K Q h sf k j pc' ls (.int (x ^^^ y) :: st)) : Go l Z n0 R K Q h sf k j pc ls (.int y :: .int x :: st) := by
  subst hp
  exact Go.of H (fun p e below T t m c hA hx hby hr => XS.ixor hA hx rfl (hb hby d) rfl hr) r
theorem Go.ladd {x y : Int64} (H : Ok Z K own bytes maxL ret nm) (d : decode bytes pc = .ok (.ladd, 1)) (hp : pc + 1 = pc')  (r : Go l Z n0 R K Q h sf k j pc' ls (.long (x + y) :: st)) : Go l Z n0 R K Q h sf k j pc ls (.long y :: .long x :: st) := by
  subst hp
  exact Go.of H (fun p e below T t m c hA hx hby hr => XS.ladd hA hx rfl (hb hby d) rfl hr) r
theorem Go.lsub {x y : Int64} (H : Ok Z K own bytes maxL ret nm) (d : decode bytes pc = .ok (.lsub, 1)) (hp : pc + 1 = pc')  (r : Go l Z n0 R K Q h sf k j pc' ls (.long (x - y) :: st)) : Go l Z n0 R K Q h sf k j pc ls (.long y :: .long x :: st) := by
  subst hp
  exact Go.of H (fun p e below T t m c hA hx hby hr => XS.lsub hA hx rfl (hb hby d) rfl hr) r
theorem Go.lmul {x y : Int64} (H : Ok Z K own bytes maxL ret nm) (d : decode bytes pc = .ok (.lmul, 1)) (hp : pc + 1 = pc')  (r : Go l Z n0 R K Q h sf k j pc' ls (.long (x * y) :: st)) : Go l Z n0 R K Q h sf k j pc ls (.long y :: .long x :: st) := by
  subst hp
  exact Go.of H (fun p e below T t m c hA hx hby hr => XS.lmul hA hx rfl (hb hby d) rfl hr) r
theorem Go.land {x y : Int64} (H : Ok Z K own bytes maxL ret nm) (d : decode bytes pc = .ok (.land, 1)) (hp : pc + 1 = pc')  (r : Go l Z n0 R K Q h sf k j pc' ls (.long (x &&& y) :: st)) : Go l Z n0 R K Q h sf k j pc ls (.long y :: .long x :: st) := by
  subst hp
  exact Go.of H (fun p e below T t m c hA hx hby hr => XS.land hA hx rfl (hb hby d) rfl hr) r
theorem Go.lor {x y : Int64} (H : Ok Z K own bytes maxL ret nm) (d : decode bytes pc = .ok (.lor, 1)) (hp : pc + 1 = pc')  (r : Go l Z n0 R K Q h sf k j pc' ls (.long (x ||| y) :: st)) : Go l Z n0 R K Q h sf k j pc ls (.long y :: .long x :: st) := by
  subst hp
  exact Go.of H (fun p e below T t m c hA hx hby hr => XS.lor hA hx rfl (hb hby d) rfl hr) r
theorem Go.lxor {x y : Int64} (H : Ok Z K own bytes maxL ret nm) (d : decode bytes pc = .ok (.lxor, 1)) (hp : pc + 1 = pc')  (r : Go l Z n0 R K Q h sf k j pc' ls (.long (x ^^^ y) :: st)) : Go l Z n0 R K Q h sf k j pc ls (.long y :: .long x :: st) := by
  subst hp
  exact Go.of H (fun p e below T t m c hA hx hby hr => XS.lxor hA hx rfl (hb hby d) rfl hr) r
theorem Go.ishl {x y : Int32} (H : Ok Z K own bytes maxL ret nm) (d : decode bytes pc = .ok (.ishl, 1)) (hp : pc + 1 = pc')  (r : Go l Z n0 R K Q h sf k j pc' ls (.int (x <<< (y &&& 31)) :: st)) : Go l Z n0 R K Q h sf k j pc ls (.int y :: .int x :: st) := by
  subst hp
  exact Go.of H (fun p e below T t m c hA hx hby hr => XS.ishl hA hx rfl (hb hby d) rfl hr) r
theorem Go.ishr {x y : Int32} (H : Ok Z K own bytes maxL ret nm) (d : decode bytes pc = .ok (.ishr, 1)) (hp : pc + 1 = pc')  (r : Go l Z n0 R K Q h sf k j pc' ls (.int (x >>> (y &&& 31)) :: st)) : Go l Z n0 R K Q h sf k j pc ls (.int y :: .int x :: st) := by
  subst hp
  exact Go.of H (fun p e below T t m c hA hx hby hr => XS.ishr hA hx rfl (hb hby d) rfl hr) r
theorem Go.iushr {x y : Int32} (H : Ok Z K own bytes maxL ret nm) (d : decode bytes pc = .ok (.iushr, 1)) (hp : pc + 1 = pc')  (r : Go l Z n0 R K Q h sf k j pc' ls (.int ((x.toUInt32 >>> (y &&& 31).toUInt32).toInt32) :: st)) : Go l Z n0 R K Q h sf k j pc ls (.int y :: .int x :: st) := by
  subst hp
  exact Go.of H (fun p e below T t m c hA hx hby hr => XS.iushr hA hx rfl (hb hby d) rfl hr) r
theorem Go.lshl {x : Int64} {y : Int32} (H : Ok Z K own bytes maxL ret nm) (d : decode bytes pc = .ok (.lshl, 1)) (hp : pc + 1 = pc')  (r : Go l Z n0 R K Q h sf k j pc' ls (.long (x <<< (y &&& 0x3f).toInt64) :: st)) : Go l Z n0 R K Q h sf k j pc ls (.int y :: .long x :: st) := by
  subst hp
  exact Go.of H (fun p e below T t m c hA hx hby hr => XS.lshl hA hx rfl (hb hby d) rfl hr) r
theorem Go.lshr {x : Int64} {y : Int32} (H : Ok Z K own bytes maxL ret nm) (d : decode bytes pc = .ok (.lshr, 1)) (hp : pc + 1 = pc')  (r : Go l Z n0 R K Q h sf k j pc' ls (.long (x >>> (y &&& 0x3f).toInt64) :: st)) : Go l Z n0 R K Q h sf k j pc ls (.int y :: .long x :: st) := by
  subst hp
  exact Go.of H (fun p e below T t m c hA hx hby hr => XS.lshr hA hx rfl (hb hby d) rfl hr) r
theorem Go.lushr {x : Int64} {y : Int32} (H : Ok Z K own bytes maxL ret nm) (d : decode bytes pc = .ok (.lushr, 1)) (hp : pc + 1 = pc')  (r : Go l Z n0 R K Q h sf k j pc' ls (.long ((x.toUInt64 >>> (y &&& 0x3f).toInt64.toUInt64).toInt64) :: st)) : Go l Z n0 R K Q h sf k j pc ls (.int y :: .long x :: st) := by
  subst hp
  exact Go.of H (fun p e below T t m c hA hx hby hr => XS.lushr hA hx rfl (hb hby d) rfl hr) r
theorem Go.idiv {x y : Int32} (H : Ok Z K own bytes maxL ret nm) (d : decode bytes pc = .ok (.idiv, 1)) (hp : pc + 1 = pc') (hy : y ≠ 0) (r : Go l Z n0 R K Q h sf k j pc' ls (.int (x / y) :: st)) : Go l Z n0 R K Q h sf k j pc ls (.int y :: .int x :: st) := by
  subst hp
  exact Go.of H (fun p e below T t m c hA hx hby hr => XS.idiv hA hx rfl (hb hby d) rfl hy hr) r
theorem Go.irem {x y : Int32} (H : Ok Z K own bytes maxL ret nm) (d : decode bytes pc = .ok (.irem, 1)) (hp : pc + 1 = pc') (hy : y ≠ 0) (r : Go l Z n0 R K Q h sf k j pc' ls (.int (x % y) :: st)) : Go l Z n0 R K Q h sf k j pc ls (.int y :: .int x :: st) := by
  subst hp
  exact Go.of H (fun p e below T t m c hA hx hby hr => XS.irem hA hx rfl (hb hby d) rfl hy (by rw [irem_eq_mod x y]; exact hr)) r
theorem Go.ldiv {x y : Int64} (H : Ok Z K own bytes maxL ret nm) (d : decode bytes pc = .ok (.ldiv, 1)) (hp : pc + 1 = pc') (hy : y ≠ 0) (r : Go l Z n0 R K Q h sf k j pc' ls (.long (x / y) :: st)) : Go l Z n0 R K Q h sf k j pc ls (.long y :: .long x :: st) := by
  subst hp
  exact Go.of H (fun p e below T t m c hA hx hby hr => XS.ldiv hA hx rfl (hb hby d) rfl hy hr) r
theorem Go.lrem {x y : Int64} (H : Ok Z K own bytes maxL ret nm) (d : decode bytes pc = .ok (.lrem, 1)) (hp : pc + 1 = pc') (hy : y ≠ 0) (r : Go l Z n0 R K Q h sf k j pc' ls (.long (x % y) :: st)) : Go l Z n0 R K Q h sf k j pc ls (.long y :: .long x :: st) := by
  subst hp
  exact Go.of H (fun p e below T t m c hA hx hby hr => XS.lrem hA hx rfl (hb hby d) rfl hy (by rw [lrem_mod x y]; exact hr)) r
theorem Go.ineg {x : Int32} (H : Ok Z K own bytes maxL ret nm) (d : decode bytes pc = .ok (.ineg, 1)) (hp : pc + 1 = pc')  (r : Go l Z n0 R K Q h sf k j pc' ls (.int (-x) :: st)) : Go l Z n0 R K Q h sf k j pc ls (.int x :: st) := by
  subst hp
  exact Go.of H (fun p e below T t m c hA hx hby hr => XS.ineg hA hx rfl (hb hby d) rfl hr) r
theorem Go.lneg {x : Int64} (H : Ok Z K own bytes maxL ret nm) (d : decode bytes pc = .ok (.lneg, 1)) (hp : pc + 1 = pc')  (r : Go l Z n0 R K Q h sf k j pc' ls (.long (-x) :: st)) : Go l Z n0 R K Q h sf k j pc ls (.long x :: st) := by
  subst hp
  exact Go.of H (fun p e below T t m c hA hx hby hr => XS.lneg hA hx rfl (hb hby d) rfl hr) r
theorem Go.i2c {x : Int32} (H : Ok Z K own bytes maxL ret nm) (d : decode bytes pc = .ok (.i2c, 1)) (hp : pc + 1 = pc')  (r : Go l Z n0 R K Q h sf k j pc' ls (.int (nar .char x) :: st)) : Go l Z n0 R K Q h sf k j pc ls (.int x :: st) := by
  subst hp
  exact Go.of H (fun p e below T t m c hA hx hby hr => XS.i2c hA hx rfl (hb hby d) rfl hr) r
theorem Go.i2b {x : Int32} (H : Ok Z K own bytes maxL ret nm) (d : decode bytes pc = .ok (.i2b, 1)) (hp : pc + 1 = pc')  (r : Go l Z n0 R K Q h sf k j pc' ls (.int (nar .byte x) :: st)) : Go l Z n0 R K Q h sf k j pc ls (.int x :: st) := by
  subst hp
  exact Go.of H (fun p e below T t m c hA hx hby hr => XS.i2b hA hx rfl (hb hby d) rfl hr) r
theorem Go.i2s {x : Int32} (H : Ok Z K own bytes maxL ret nm) (d : decode bytes pc = .ok (.i2s, 1)) (hp : pc + 1 = pc')  (r : Go l Z n0 R K Q h sf k j pc' ls (.int (nar .short x) :: st)) : Go l Z n0 R K Q h sf k j pc ls (.int x :: st) := by
  subst hp
  exact Go.of H (fun p e below T t m c hA hx hby hr => XS.i2s hA hx rfl (hb hby d) rfl hr) r
theorem Go.i2l {x : Int32} (H : Ok Z K own bytes maxL ret nm) (d : decode bytes pc = .ok (.i2l, 1)) (hp : pc + 1 = pc')  (r : Go l Z n0 R K Q h sf k j pc' ls (.long x.toInt64 :: st)) : Go l Z n0 R K Q h sf k j pc ls (.int x :: st) := by
  subst hp
  exact Go.of H (fun p e below T t m c hA hx hby hr => XS.i2l hA hx rfl (hb hby d) rfl hr) r
theorem Go.l2i {x : Int64} (H : Ok Z K own bytes maxL ret nm) (d : decode bytes pc = .ok (.l2i, 1)) (hp : pc + 1 = pc')  (r : Go l Z n0 R K Q h sf k j pc' ls (.int x.toInt32 :: st)) : Go l Z n0 R K Q h sf k j pc ls (.long x :: st) := by
  subst hp
  exact Go.of H (fun p e below T t m c hA hx hby hr => XS.l2i hA hx rfl (hb hby d) rfl hr) r
theorem Go.lcmp {x y : Int64} (H : Ok Z K own bytes maxL ret nm) (d : decode bytes pc = .ok (.lcmp, 1)) (hp : pc + 1 = pc')  (r : Go l Z n0 R K Q h sf k j pc' ls (.int (lcmpW x y) :: st)) : Go l Z n0 R K Q h sf k j pc ls (.long y :: .long x :: st) := by
  subst hp
  exact Go.of H (fun p e below T t m c hA hx hby hr => XS.lcmp hA hx rfl (hb hby d) rfl hr) r
theorem Go.iinc {i : Nat} {cst : Int} {x : Int32} (v : Int32) (H : Ok Z K own bytes maxL ret nm) (d : decode bytes pc = .ok (.iinc i cst, 3)) (hp : pc + 3 = pc') (hl : ls[i]? = some (.val (.int x))) (hv : Int32.ofInt cst = v) (hl' : storeLocals ls i (.int (x + v)) = some ls') (r : Go l Z n0 R K Q h sf k j pc' ls' st) : Go l Z n0 R K Q h sf k j pc ls st := by
  subst hp
  exact Go.of H (fun p e below T t m c hA hx hby hr => XS.iinc hA hx rfl (hb hby d) hl (by rw [hv]; exact hl') hr) r
theorem Go.dup {x : Value} (H : Ok Z K own bytes maxL ret nm) (d : decode bytes pc = .ok (.dup, 1)) (hp : pc + 1 = pc') (hc : x.category = 1) (r : Go l Z n0 R K Q h sf k j pc' ls (x :: x :: st)) : Go l Z n0 R K Q h sf k j pc ls (x :: st) := by
  subst hp
  exact Go.of H (fun p e below T t m c hA hx hby hr => XS.dup hA hx rfl (hb hby d) rfl hc hr) r
theorem Go.pop {x : Value} (H : Ok Z K own bytes maxL ret nm) (d : decode bytes pc = .ok (.pop, 1)) (hp : pc + 1 = pc') (hc : x.category = 1) (r : Go l Z n0 R K Q h sf k j pc' ls st) : Go l Z n0 R K Q h sf k j pc ls (x :: st) := by
  subst hp
  exact Go.of H (fun p e below T t m c hA hx hby hr => XS.pop hA hx rfl (hb hby d) rfl hc hr) r
theorem Go.dupX1 {x y : Value} (H : Ok Z K own bytes maxL ret nm) (d : decode bytes pc = .ok (.dup_x1, 1)) (hp : pc + 1 = pc') (hc : x.category = 1) (hc' : y.category = 1) (r : Go l Z n0 R K Q h sf k j pc' ls (x :: y :: x :: st)) : Go l Z n0 R K Q h sf k j pc ls (x :: y :: st) := by
  subst hp
  exact Go.of H (fun p e below T t m c hA hx hby hr => XT.dupX1 hA hx rfl (hb hby d) rfl hc hc' hr) r
theorem Go.dup2 {x y : Value} (H : Ok Z K own bytes maxL ret nm) (d : decode bytes pc = .ok (.dup2, 1)) (hp : pc + 1 = pc') (hc : x.category = 1) (hc' : y.category = 1) (r : Go l Z n0 R K Q h sf k j pc' ls (x :: y :: x :: y :: st)) : Go l Z n0 R K Q h sf k j pc ls (x :: y :: st) := by
  subst hp
  exact Go.of H (fun p e below T t m c hA hx hby hr => XT.dup2 hA hx rfl (hb hby d) rfl hc hc' hr) r
theorem Go.goto {o : Int} (H : Ok Z K own bytes maxL ret nm) (d : decode bytes pc = .ok (.goto o, 3)) (ho : 0 ≤ (pc : Int) + o) (hp : ((pc : Int) + o).toNat = pc') (r : Go l Z n0 R K Q h sf k j pc' ls st) : Go l Z n0 R K Q h sf k j pc ls st := Go.of H (fun p e below T t m c hA hx hby hr => XS.goto hA hx rfl (pc0 := pc) (pc' := pc') rfl (hb hby d) ho hp hr) r
theorem Go.icmpY {cd : ClassFile.Cond} {x y : Int32} {o : Int} (H : Ok Z K own bytes maxL ret nm) (d : decode bytes pc = .ok (.if_icmp cd o, 3)) (hc : if_icmp.holds cd x y = true) (ho : 0 ≤ (pc : Int) + o) (hp : ((pc : Int) + o).toNat = pc') (r : Go l Z n0 R K Q h sf k j pc' ls st) : Go l Z n0 R K Q h sf k j pc ls (.int y :: .int x :: st) := Go.of H (fun p e below T t m c hA hx hby hr => XS.icmpYes hA hx rfl (pc0 := pc) (pc' := pc') rfl (hb hby d) rfl hc ho hp hr) r
theorem Go.icmpN {cd : ClassFile.Cond} {x y : Int32} {o : Int} (H : Ok Z K own bytes maxL ret nm) (d : decode bytes pc = .ok (.if_icmp cd o, 3)) (hc : if_icmp.holds cd x y = false) (hp : pc + 3 = pc') (r : Go l Z n0 R K Q h sf k j pc' ls st) : Go l Z n0 R K Q h sf k j pc ls (.int y :: .int x :: st) := by
  subst hp
  exact Go.of H (fun p e below T t m c hA hx hby hr => XS.icmpNo hA hx rfl (hb hby d) rfl hc hr) r
theorem Go.ifY {cd : ClassFile.Cond} {x : Int32} {o : Int} (H : Ok Z K own bytes maxL ret nm) (d : decode bytes pc = .ok (.ifCond cd o, 3)) (hc : if_icmp.holds cd x 0 = true) (ho : 0 ≤ (pc : Int) + o) (hp : ((pc : Int) + o).toNat = pc') (r : Go l Z n0 R K Q h sf k j pc' ls st) : Go l Z n0 R K Q h sf k j pc ls (.int x :: st) := Go.of H (fun p e below T t m c hA hx hby hr => XS.ifYes hA hx rfl (pc0 := pc) (pc' := pc') rfl (hb hby d) rfl ((if0 _ _).trans hc) ho hp hr) r
theorem Go.ifN {cd : ClassFile.Cond} {x : Int32} {o : Int} (H : Ok Z K own bytes maxL ret nm) (d : decode bytes pc = .ok (.ifCond cd o, 3)) (hc : if_icmp.holds cd x 0 = false) (hp : pc + 3 = pc') (r : Go l Z n0 R K Q h sf k j pc' ls st) : Go l Z n0 R K Q h sf k j pc ls (.int x :: st) := by
  subst hp
  exact Go.of H (fun p e below T t m c hA hx hby hr => XS.ifNo hA hx rfl (hb hby d) rfl ((if0 _ _).trans hc) hr) r
theorem Go.ifnullY {o : Int} (H : Ok Z K own bytes maxL ret nm) (d : decode bytes pc = .ok (.ifnull o, 3)) (ho : 0 ≤ (pc : Int) + o) (hp : ((pc : Int) + o).toNat = pc') (r : Go l Z n0 R K Q h sf k j pc' ls st) : Go l Z n0 R K Q h sf k j pc ls (.null :: st) := Go.of H (fun p e below T t m c hA hx hby hr => XS.ifnullYes hA hx rfl (pc0 := pc) (pc' := pc') rfl (hb hby d) rfl ho hp hr) r
theorem Go.ifnullN {b : Addr} {o : Int} (H : Ok Z K own bytes maxL ret nm) (d : decode bytes pc = .ok (.ifnull o, 3)) (hp : pc + 3 = pc') (r : Go l Z n0 R K Q h sf k j pc' ls st) : Go l Z n0 R K Q h sf k j pc ls (.ref b :: st) := by
  subst hp
  exact Go.of H (fun p e below T t m c hA hx hby hr => XS.ifnullNo hA hx rfl (hb hby d) rfl hr) r
theorem Go.ifnonnullY {b : Addr} {o : Int} (H : Ok Z K own bytes maxL ret nm) (d : decode bytes pc = .ok (.ifnonnull o, 3)) (ho : 0 ≤ (pc : Int) + o) (hp : ((pc : Int) + o).toNat = pc') (r : Go l Z n0 R K Q h sf k j pc' ls st) : Go l Z n0 R K Q h sf k j pc ls (.ref b :: st) := Go.of H (fun p e below T t m c hA hx hby hr => XS.ifnonnullYes hA hx rfl (pc0 := pc) (pc' := pc') rfl (hb hby d) rfl ho hp hr) r
theorem Go.ifnonnullN {o : Int} (H : Ok Z K own bytes maxL ret nm) (d : decode bytes pc = .ok (.ifnonnull o, 3)) (hp : pc + 3 = pc') (r : Go l Z n0 R K Q h sf k j pc' ls st) : Go l Z n0 R K Q h sf k j pc ls (.null :: st) := by
  subst hp
  exact Go.of H (fun p e below T t m c hA hx hby hr => XS.ifnonnullNo hA hx rfl (hb hby d) rfl hr) r
theorem Go.acmpY {cd : ClassFile.ACond} {x y : Value} {o : Int} (H : Ok Z K own bytes maxL ret nm) (d : decode bytes pc = .ok (.if_acmp cd o, 3)) (h1 : x.isRef = true) (h2 : y.isRef = true) (hc : XT.acmp cd x y = true) (ho : 0 ≤ (pc : Int) + o) (hp : ((pc : Int) + o).toNat = pc') (r : Go l Z n0 R K Q h sf k j pc' ls st) : Go l Z n0 R K Q h sf k j pc ls (y :: x :: st) := Go.of H (fun p e below T t m c hA hx hby hr => XT.acmpYes hA hx rfl (pc0 := pc) (pc' := pc') rfl (hb hby d) rfl h1 h2 hc ho hp hr) r
theorem Go.acmpN {cd : ClassFile.ACond} {x y : Value} {o : Int} (H : Ok Z K own bytes maxL ret nm) (d : decode bytes pc = .ok (.if_acmp cd o, 3)) (h1 : x.isRef = true) (h2 : y.isRef = true) (hc : XT.acmp cd x y = false) (hp : pc + 3 = pc') (r : Go l Z n0 R K Q h sf k j pc' ls st) : Go l Z n0 R K Q h sf k j pc ls (y :: x :: st) := by
  subst hp
  exact Go.of H (fun p e below T t m c hA hx hby hr => XT.acmpNo hA hx rfl (hb hby d) rfl h1 h2 hc hr) r
theorem Go.ldcInt {idx : Nat} {v : Int32} (H : Ok Z K own bytes maxL ret nm) (d : decode bytes pc = .ok (.ldc idx, 2)) (hp : pc + 2 = pc') (w : Jvm.Cond.constant own idx v ∈ tables_1) (r : Go l Z n0 R K Q h sf k j pc' ls (.int v :: st)) : Go l Z n0 R K Q h sf k j pc ls st := by
  subst hp
  refine Go.of2 H ?_ r
  intro p e s m args below meth c T locs a0 hw X hx hby hml hZ hown eT hO
  exact ⟨T, X, eT, fun t hr => X.ldcInt hx hown (mvT hZ (hw _ w)) (g := mkF m pc ls st) rfl (hb hby d) t hr⟩
theorem Go.ldcWInt {idx : Nat} {v : Int32} (H : Ok Z K own bytes maxL ret nm) (d : decode bytes pc = .ok (.ldc_w idx, 3)) (hp : pc + 3 = pc') (w : Jvm.Cond.constant own idx v ∈ tables_1) (r : Go l Z n0 R K Q h sf k j pc' ls (.int v :: st)) : Go l Z n0 R K Q h sf k j pc ls st := by
  subst hp
  refine Go.of2 H ?_ r
  intro p e s m args below meth c T locs a0 hw X hx hby hml hZ hown eT hO
  exact ⟨T, X, eT, fun t hr => X.ldcwInt hx hown (mvT hZ (hw _ w)) (g := mkF m pc ls st) rfl (hb hby d) t hr⟩
theorem Go.ldc2 {idx : Nat} {v : Int64} (H : Ok Z K own bytes maxL ret nm) (d : decode bytes pc = .ok (.ldc2_w idx, 3)) (hp : pc + 3 = pc') (w : Jvm.Cond.constantLong own idx v ∈ tables_1) (r : Go l Z n0 R K Q h sf k j pc' ls (.long v :: st)) : Go l Z n0 R K Q h sf k j pc ls st := by
  subst hp
  refine Go.of2 H ?_ r
  intro p e s m args below meth c T locs a0 hw X hx hby hml hZ hown eT hO
  exact ⟨T, X, eT, fun t hr => X.ldc2Long hx hown (mvT hZ (hw _ w)) (g := mkF m pc ls st) rfl (hb hby d) t hr⟩
theorem Go.getfield {idx : Nat} {O n d' : String} {a : Addr} {v : Value} (H : Ok Z K own bytes maxL ret nm) (d : decode bytes pc = .ok (.getfield idx, 3)) (hp : pc + 3 = pc') (w : Jvm.Cond.fieldLink own idx O n d' ∈ tables_1) (F : Fld Z h a O n d' v) (r : Go l Z n0 R K Q h sf k j pc' ls (v :: st)) : Go l Z n0 R K Q h sf k j pc ls (.ref a :: st) := by
  subst hp
  refine Go.of2 H ?_ r
  intro p e s m args below meth c T locs a0 hw X hx hby hml hZ hown eT hO
  exact getF X hx hZ hown (host := "") (Or.inl (hw _ w)) Via.refl eT F (g := mkF m pc ls (.ref a :: st)) rfl rfl (hb hby d)
theorem Go.getstatic {idx : Nat} {O n d' : String} {v : Value} (H : Ok Z K own bytes maxL ret nm) (d : decode bytes pc = .ok (.getstatic idx, 3)) (hp : pc + 3 = pc') (w : Jvm.Cond.fieldLink own idx O n d' ∈ tables_1) (F : Sta Z Z.heap O n d' v) (r : Go l Z n0 R K Q h sf k j pc' ls (v :: st)) : Go l Z n0 R K Q h sf k j pc ls st := by
  subst hp
  refine Go.of2 H ?_ r
  intro p e s m args below meth c T locs a0 hw X hx hby hml hZ hown eT hO
  exact getS (host := "") X hx hZ hown (hw _ w) Via.refl eT (F.ext hO.2) (g := mkF m pc ls st) rfl (hb hby d)
theorem Go.checkcast {idx : Nat} {C : String} {a : Addr} (H : Ok Z K own bytes maxL ret nm) (d : decode bytes pc = .ok (.checkcast idx, 3)) (hp : pc + 3 = pc') (w : Jvm.Cond.classLink own idx C ∈ tables_1) (F : Ins Z h a C true) (r : Go l Z n0 R K Q h sf k j pc' ls (.ref a :: st)) : Go l Z n0 R K Q h sf k j pc ls (.ref a :: st) := by
  subst hp
  refine Go.of2 H ?_ r
  intro p e s m args below meth c T locs a0 hw X hx hby hml hZ hown eT hO
  exact castY X hx hZ hown (hw _ w) eT F (g := mkF m pc ls (.ref a :: st)) rfl rfl (hb hby d)
theorem Go.instanceofY {idx : Nat} {C : String} {a : Addr} (H : Ok Z K own bytes maxL ret nm) (d : decode bytes pc = .ok (.instanceof idx, 3)) (hp : pc + 3 = pc') (w : Jvm.Cond.classLink own idx C ∈ tables_1) (F : Ins Z h a C true) (r : Go l Z n0 R K Q h sf k j pc' ls (.int 1 :: st)) : Go l Z n0 R K Q h sf k j pc ls (.ref a :: st) := by
  subst hp
  refine Go.of2 H ?_ r
  intro p e s m args below meth c T locs a0 hw X hx hby hml hZ hown eT hO
  exact instY X hx hZ hown (hw _ w) eT F (g := mkF m pc ls (.ref a :: st)) rfl rfl (hb hby d)
theorem Go.initObj {idx : Nat} {a : Addr} (H : Ok Z K own bytes maxL ret nm) (d : decode bytes pc = .ok (.invokespecial idx, 3)) (hp : pc + 3 = pc') (w1 : Jvm.Cond.methodLink own idx Lib.objectInit ∈ tables_1) (w2 : Jvm.Cond.instanceMethod Lib.objectInit ∈ tables_1) (w3 : Jvm.Cond.code Lib.objectInit ⟨#[0xb1]⟩ 1 none ∈ tables_1) (W : Nat) (hsz : ls.size = maxL) (hW : (st.map fun v => v.category).sum ≤ W) (hf : 1 ≤ R.frames) (hlo : W + 12 ≤ R.locals) (r : Go l Z n0 R K Q h sf k j pc' ls st) : Go l Z n0 R K Q h sf k j pc ls (.ref a :: st) := by
  subst hp
  refine Go.of2 H ?_ r
  intro p e s m args below meth c T locs a0 hw X hx hby hml hZ hown eT hO
  exact initO X hx hZ hown (hw _ w1) (hw _ w2) (hw _ w3) eT (g := mkF m pc ls (.ref a :: st)) rfl (by rw [hml]; exact hsz) rfl (hb hby d) hf (W := W) (by show 2 * 0 + _ ≤ _; simpa using hW) hlo
end Steps1
/-- an array whose components are just these ints -/
def Vec (Z : State) (h : Heap) (a : Addr) (ty : FieldType) (vs : List Int32) : Prop := ∃ c : Cell, Arr Z h a c ty ∧ c.slots.toList = vs.map Value.int ∧ ∀ v ∈ vs, fits ty (.int v) = true
section Vecs
variable {Z : State} {h h' : Heap} {a b : Addr} {ty : FieldType} {vs : List Int32} {ws : List Addr}
theorem Vec.lt (F : Vec Z h a ty vs) : a < h.size := by obtain ⟨c, A, -⟩ := F; exact A.lt
theorem Vec.ext (F : Vec Z h a ty vs) (E : Ext h h') : Vec Z h' a ty vs := by obtain ⟨c, A, q⟩ := F; exact ⟨c, A.ext E, q⟩
theorem Vec.keep (F : Vec Z h a ty vs) (K : Keep h h' ws) (q : a ∉ ws) : Vec Z h' a ty vs := by obtain ⟨c, A, r⟩ := F; exact ⟨c, ⟨K.2.1 a c A.1 q, A.2⟩, r⟩
theorem Vec.size {c : Cell} (q : c.slots.toList = vs.map Value.int) : c.slots.size = vs.length := by rw [← Array.length_toList, q, List.length_map]
theorem Vec.get {c : Cell} (q : c.slots.toList = vs.map Value.int) {i : Nat} {v : Int32} (hv : vs[i]? = some v) : c.slots[i]? = some (.int v) := by
  rw [← Array.getElem?_toList, q, List.getElem?_map, hv]; rfl
theorem Vec.set {i : Nat} {v : Int32} (F : Vec Z h a ty vs) (W : Wr h h' a i (.int v)) (hv : fits ty (.int v) = true) : Vec Z h' a ty (vs.set i v) := by
  obtain ⟨c, A, q, hf⟩ := F
  refine ⟨_, A.same W, ?_, fun u hu => (List.mem_or_eq_of_mem_set hu).elim (hf u) (fun e => e ▸ hv)⟩
  rw [List.map_set, ← q]
  show (c.slots.setIfInBounds i _).toList = _
  rw [Array.toList_setIfInBounds]
theorem Vec.ne {ty' : FieldType} {vs' : List Int32} (F : Vec Z h a ty vs) (G : Vec Z h b ty' vs') (hn : ty ≠ ty') : a ≠ b := fun e => by
  subst e
  obtain ⟨c, ⟨h1, ⟨-, k, g1, comp, g2⟩, -⟩, -, -⟩ := F
  obtain ⟨c', ⟨h1', ⟨-, k', g1', comp', g2'⟩, -⟩, -, -⟩ := G
  cases h1.symm.trans h1'
  cases g1.symm.trans g1'
  rw [g2] at g2'
  cases g2'
  exact hn rfl
theorem Vec.neExa {C : String} {x : Addr} {n : Nat} (F : Vec Z h a ty vs) (G : Exa Z h x C) (w : Wds Z) (hi : Jvm.Cond.instantiable C n ∈ tables_1) : a ≠ x := by
  obtain ⟨c, A, -⟩ := F
  obtain ⟨a0, hw⟩ := w.w
  exact (ne_arr G (hw _ hi) A).symm
end Vecs
section Steps2
variable {l : Launch} {Z : State} {n0 : Nat} {R : Room} {K : Cx} {Q : Option Value → Heap → List Addr → Prop} {h : Heap} {sf : List Addr} {k j pc pc' : Nat} {ls ls' : Array Slot} {st : List Value} {own : String} {bytes : ByteArray} {maxL : Nat} {ret : Option FieldType} {nm : String}
theorem Go.caload {a : Addr} {i : Int32} {v : Int32} {vs : List Int32} (H : Ok Z K own bytes maxL ret nm) (d : decode bytes pc = .ok (.caload, 1)) (hp : pc + 1 = pc') (F : Vec Z h a .char vs) (n : Nat) (hi : i.toNatClampNeg = n) (h0 : ¬ i < 0) (hv : vs[n]? = some v) (r : Go l Z n0 R K Q h sf k j pc' ls (.int v :: st)) : Go l Z n0 R K Q h sf k j pc ls (.int i :: .ref a :: st) := by
  subst hp
  refine Go.of2 H ?_ r
  intro p e s m args below meth c T locs a0 hw X hx hby hml hZ hown eT hO
  obtain ⟨c', A, q, -⟩ := F
  refine ⟨T, X, eT, fun t hr => X.caload hx (j := i) (v := .int v) (by rw [eT]; exact A.1) (State.isArrayOf_alike hZ.alike A.2.1) A.2.2 ?_ (by rw [hi]; exact Vec.get q hv) (g := mkF m pc ls (.int i :: .ref a :: st)) rfl rfl (hb hby d) t hr⟩
  rw [Vec.size q, hi]
  have := (List.getElem?_eq_some_iff.mp hv).1
  rintro (q | q)
  · exact h0 q
  · omega
theorem Go.baload {a : Addr} {i : Int32} {v : Int32} {vs : List Int32} (H : Ok Z K own bytes maxL ret nm) (d : decode bytes pc = .ok (.baload, 1)) (hp : pc + 1 = pc') (F : Vec Z h a .byte vs) (n : Nat) (hi : i.toNatClampNeg = n) (h0 : ¬ i < 0) (hv : vs[n]? = some v) (r : Go l Z n0 R K Q h sf k j pc' ls (.int v :: st)) : Go l Z n0 R K Q h sf k j pc ls (.int i :: .ref a :: st) := by
  subst hp
  refine Go.of2 H ?_ r
  intro p e s m args below meth c T locs a0 hw X hx hby hml hZ hown eT hO
  obtain ⟨c', A, q, -⟩ := F
  refine ⟨T, X, eT, fun t hr => X.baloadBytes hx (j := i) (v := .int v) (by rw [eT]; exact A.1) (State.isArrayOf_alike hZ.alike A.2.1) A.2.2 ?_ (by rw [hi]; exact Vec.get q hv) (g := mkF m pc ls (.int i :: .ref a :: st)) rfl rfl (hb hby d) t hr⟩
  rw [Vec.size q, hi]
  have := (List.getElem?_eq_some_iff.mp hv).1
  rintro (q | q)
  · exact h0 q
  · omega
theorem Go.iaload {a : Addr} {i : Int32} {v : Int32} {vs : List Int32} (H : Ok Z K own bytes maxL ret nm) (d : decode bytes pc = .ok (.iaload, 1)) (hp : pc + 1 = pc') (F : Vec Z h a .int vs) (n : Nat) (hi : i.toNatClampNeg = n) (h0 : ¬ i < 0) (hv : vs[n]? = some v) (r : Go l Z n0 R K Q h sf k j pc' ls (.int v :: st)) : Go l Z n0 R K Q h sf k j pc ls (.int i :: .ref a :: st) := by
  subst hp
  refine Go.of2 H ?_ r
  intro p e s m args below meth c T locs a0 hw X hx hby hml hZ hown eT hO
  obtain ⟨c', A, q, -⟩ := F
  refine ⟨T, X, eT, fun t hr => X.iaload hx (j := i) (v := .int v) (by rw [eT]; exact A.1) (State.isArrayOf_alike hZ.alike A.2.1) A.2.2 ?_ (by rw [hi]; exact Vec.get q hv) (g := mkF m pc ls (.int i :: .ref a :: st)) rfl rfl (hb hby d) t hr⟩
  rw [Vec.size q, hi]
  have := (List.getElem?_eq_some_iff.mp hv).1
  rintro (q | q)
  · exact h0 q
  · omega
theorem Go.arraylength {a : Addr} {ty : FieldType} {vs : List Int32} (v : Int32) (H : Ok Z K own bytes maxL ret nm) (d : decode bytes pc = .ok (.arraylength, 1)) (hp : pc + 1 = pc') (F : Vec Z h a ty vs) (hv : vs.length.toInt32 = v) (r : Go l Z n0 R K Q h sf k j pc' ls (.int v :: st)) : Go l Z n0 R K Q h sf k j pc ls (.ref a :: st) := by
  subst hp
  refine Go.of2 H ?_ r
  intro p e s m args below meth c T locs a0 hw X hx hby hml hZ hown eT hO
  obtain ⟨c', A, q, -⟩ := F
  refine ⟨T, X, eT, fun t hr => X.arraylength hx (by rw [eT]; exact A.1) (State.isArrayOf_alike hZ.alike A.2.1) (g := mkF m pc ls (.ref a :: st)) rfl rfl (hb hby d) t ?_⟩
  rw [Vec.size q, hv]; exact hr
theorem Go.castore {a : Addr} {i x : Int32} {vs : List Int32} (v : Int32) (H : Ok Z K own bytes maxL ret nm) (d : decode bytes pc = .ok (.castore, 1)) (hp : pc + 1 = pc') (F : Vec Z h a .char vs) (n : Nat) (hi : i.toNatClampNeg = n) (h0 : ¬ i < 0) (hn : n < vs.length) (hx : nar .char x = v) (ha : n0 ≤ a) (hs : a ∈ sf) (r : ∀ h', Keep h h' [a] → Vec Z h' a .char (vs.set n v) → Go l Z n0 R K Q h' sf k j pc' ls st) : Go l Z n0 R K Q h sf k j pc ls (.int x :: .int i :: .ref a :: st) := by
  subst hp hx
  refine Go.ofWr (a := a) (sl := i.toNatClampNeg) (v := .int (nar .char x)) H ha hs ?_ (fun h' W => r h' (Keep.of_wr W) (by rw [← hi]; exact F.set W (fits_nar_char _)))
  intro p e s m args below meth c T locs a0 hw X hx hby hZ hown hnm eT
  obtain ⟨c', A, q, -⟩ := F
  refine stC X hx hZ eT A (j := i) ?_ (g := mkF m pc ls (.int x :: .int i :: .ref a :: st)) rfl rfl (hb hby d)
  rw [Vec.size q, hi]
  rintro (q | q)
  · exact h0 q
  · omega
theorem Go.bastore {a : Addr} {i x : Int32} {vs : List Int32} (v : Int32) (H : Ok Z K own bytes maxL ret nm) (d : decode bytes pc = .ok (.bastore, 1)) (hp : pc + 1 = pc') (F : Vec Z h a .byte vs) (n : Nat) (hi : i.toNatClampNeg = n) (h0 : ¬ i < 0) (hn : n < vs.length) (hx : nar .byte x = v) (ha : n0 ≤ a) (hs : a ∈ sf) (r : ∀ h', Keep h h' [a] → Vec Z h' a .byte (vs.set n v) → Go l Z n0 R K Q h' sf k j pc' ls st) : Go l Z n0 R K Q h sf k j pc ls (.int x :: .int i :: .ref a :: st) := by
  subst hp hx
  refine Go.ofWr (a := a) (sl := i.toNatClampNeg) (v := .int (nar .byte x)) H ha hs ?_ (fun h' W => r h' (Keep.of_wr W) (by rw [← hi]; exact F.set W (fits_nar_byte _)))
  intro p e s m args below meth c T locs a0 hw X hx hby hZ hown hnm eT
  obtain ⟨c', A, q, -⟩ := F
  refine stB X hx hZ eT A (j := i) ?_ (g := mkF m pc ls (.int x :: .int i :: .ref a :: st)) rfl rfl (hb hby d)
  rw [Vec.size q, hi]
  rintro (q | q)
  · exact h0 q
  · omega
theorem Go.newarray {aty : ArrayType} {n : Int32} (N : Nat) (cap : Nat) (H : Ok Z K own bytes maxL ret nm) (d : decode bytes pc = .ok (.newarray aty, 2)) (hp : pc + 2 = pc') (w : Jvm.Cond.arrayClass (newarray.typeOf aty) ∈ tables_1) (hd : defaultValue (newarray.typeOf aty) = .int 0) (hft : fits (newarray.typeOf aty) (.int 0) = true) (hn : ¬ n < 0) (hN : n.toNatClampNeg = N) (hcap : N ≤ cap) (hb' : cap * 8 ≤ 536870912) (hce : k + 1 ≤ R.cells) (hsl : j + cap ≤ R.slots)
    (r : ∀ a h', a = h.size → n0 ≤ a → Ext h h' → Vec Z h' a (newarray.typeOf aty) (List.replicate N 0) → Go l Z n0 R K Q h' (a :: sf) (k + 1) (j + cap) pc' ls (.ref a :: st)) : Go l Z n0 R K Q h sf k j pc ls (.int n :: st) := by
  subst hp hN
  refine Go.ofNew (P := fun a h' => Vec Z h' a (newarray.typeOf aty) (List.replicate n.toNatClampNeg 0)) H ?_ (fun a h' F => F.lt) r
  intro p e s m args below meth c T locs a0 hw X hx hby hZ hown eT
  obtain ⟨T', h', cA, X', eT', E, A, stp⟩ := newP X hx hZ (hw _ w) eT (g := mkF m pc ls (.int n :: st)) rfl (hb hby d) rfl hn (cap := cap) hcap hb' hce hsl
  refine ⟨T', h', X', eT', E, ⟨_, A, ?_, fun v hv => by rw [List.eq_of_mem_replicate hv]; exact hft⟩, stp⟩
  simp [newA, hd]
theorem Go.new {C : String} {idx n : Nat} (H : Ok Z K own bytes maxL ret nm) (d : decode bytes pc = .ok (.new idx, 3)) (hp : pc + 3 = pc') (w : Jvm.Cond.classLink own idx C ∈ tables_1) (wi : Jvm.Cond.instantiable C n ∈ tables_1) (wz : Jvm.Cond.initialized C ∈ tables_1) (hce : k + 1 ≤ R.cells) (hsl : j + n ≤ R.slots)
    (r : ∀ a h', a = h.size → n0 ≤ a → Ext h h' → Exa Z h' a C → (∀ {O nm d : String} {ty : FieldType}, (Jvm.Cond.lays C O nm d ∈ tables_1 ∨ Jvm.Cond.laysFinal C O nm d ∈ tables_1) → parseFieldDescriptor d = some ty → Fld Z h' a O nm d (defaultValue ty)) → Go l Z n0 R K Q h' (a :: sf) (k + 1) (j + n) pc' ls (.ref a :: st)) : Go l Z n0 R K Q h sf k j pc ls st := by
  subst hp
  refine Go.ofNew (P := fun a h' => Exa Z h' a C ∧ (∀ {O nm d : String} {ty : FieldType}, (Jvm.Cond.lays C O nm d ∈ tables_1 ∨ Jvm.Cond.laysFinal C O nm d ∈ tables_1) → parseFieldDescriptor d = some ty → Fld Z h' a O nm d (defaultValue ty))) H ?_ (fun a h' F => F.1.lt) (fun a h' e1 e2 E hP => r a h' e1 e2 E hP.1 hP.2)
  intro p e s m args below meth c T locs a0 hw X hx hby hZ hown eT
  obtain ⟨T', h', X', eT', E, A, D, -, stp⟩ := newO X hx hZ hown (hw _ w) (hw _ wi) (hw _ wz) eT (g := mkF m pc ls st) rfl (hb hby d) hce hsl
  exact ⟨T', h', X', eT', E, ⟨A, fun L ht => D (L.imp (hw _) (hw _)) ht⟩, stp⟩
theorem Go.putfield {idx kk : Nat} {C O n d' : String} {ty : FieldType} {a : Addr} {x v old : Value} (H : Ok Z K own bytes maxL ret nm) (d : decode bytes pc = .ok (.putfield idx, 3)) (hp : pc + 3 = pc') (w : Jvm.Cond.fieldLink own idx O n d' ∈ tables_1) (F : Fld Z h a O n d' old) (E : Exa Z h a C) (L : Jvm.Cond.lays C O n d' ∈ tables_1 ∨ (Jvm.Cond.laysFinal C O n d' ∈ tables_1 ∧ own = O ∧ nm = "<init>")) (wi : Jvm.Cond.instantiable C kk ∈ tables_1) (hty : parseFieldDescriptor d' = some ty) (hn : narrow ty x = v) (hf : fits ty v = true) (ha : n0 ≤ a) (hs : a ∈ sf)
    (r : ∀ h', Wr h h' a (Jvm.RoadKit.slotOf Z O n d') v → Go l Z n0 R K Q h' sf k j pc' ls st) : Go l Z n0 R K Q h sf k j pc ls (x :: .ref a :: st) := by
  subst hp
  refine Go.ofWr (a := a) (sl := Jvm.RoadKit.slotOf Z O n d') (v := v) H ha hs ?_ r
  intro p e s m args below meth c T locs a0 hw X hx hby hZ hown hnm eT
  exact putFN X hx hZ hown (hw _ w) Via.refl eT F E (L.imp (hw _) (fun q => ⟨hw _ q.1, q.2.1, hnm.trans q.2.2⟩)) (hw _ wi) hty hn hf (g := mkF m pc ls (x :: .ref a :: st)) rfl rfl (hb hby d)
theorem Go.ireturn {x : Int32} {t : FieldType} (v : Int32) (sn : List Addr) (H : Ok Z K own bytes maxL (some t) nm) (d : decode bytes pc = .ok (.ireturn, 1)) (ht : t = .boolean ∨ t = .byte ∨ t = .char ∨ t = .short) (hv : nar t x = v) (hq : Q (some (.int v)) h sn) (hs : ∀ y ∈ sn, y ∈ sf) (hk : k ≤ R.cells) (hj : j ≤ R.slots) : Go l Z n0 R K Q h sf k j pc ls (.int x :: st) := by
  subst hv
  exact Go.ret0 H (v := some (.int (nar t x))) (fun q => nomatch q) hq hs hk hj (fun p e s m args below meth c T locs fs X hx hby hret hl => retN X hx hret ht (hb hby d) hl)
theorem Go.ireturnI {x : Int32} (sn : List Addr) (H : Ok Z K own bytes maxL (some .int) nm) (d : decode bytes pc = .ok (.ireturn, 1)) (hq : Q (some (.int x)) h sn) (hs : ∀ y ∈ sn, y ∈ sf) (hk : k ≤ R.cells) (hj : j ≤ R.slots) : Go l Z n0 R K Q h sf k j pc ls (.int x :: st) := by
  exact Go.ret0 H (v := some (.int x)) (fun q => nomatch q) hq hs hk hj (fun p e s m args below meth c T locs fs X hx hby hret hl => retOut X hx hret rfl (Or.inl ⟨rfl, Or.inl rfl, _, rfl⟩) (hb hby d) hl)
theorem Go.lreturn {x : Int64} (sn : List Addr) (H : Ok Z K own bytes maxL (some .long) nm) (d : decode bytes pc = .ok (.lreturn, 1)) (hq : Q (some (.long x)) h sn) (hs : ∀ y ∈ sn, y ∈ sf) (hk : k ≤ R.cells) (hj : j ≤ R.slots) : Go l Z n0 R K Q h sf k j pc ls (.long x :: st) := by
  exact Go.ret0 H (v := some (.long x)) (fun q => nomatch q) hq hs hk hj (fun p e s m args below meth c T locs fs X hx hby hret hl => retOut X hx hret rfl (Or.inr (Or.inl ⟨rfl, rfl, _, rfl⟩)) (hb hby d) hl)
theorem Go.areturn {x : Value} {t : FieldType} (sn : List Addr) (H : Ok Z K own bytes maxL (some t) nm) (d : decode bytes pc = .ok (.areturn, 1)) (ht : t.isReference = true) (hx : x.isRef = true) (hn : narrow t x = x) (hq : Q (some x) h sn) (hs : ∀ y ∈ sn, y ∈ sf) (hk : k ≤ R.cells) (hj : j ≤ R.slots) : Go l Z n0 R K Q h sf k j pc ls (x :: st) := by
  exact Go.ret0 H (v := some x) (fun q => nomatch q) hq hs hk hj (fun p e s m args below meth c T locs fs X hx' hby hret hl => retOut X hx' hret hn (Or.inr (Or.inr (Or.inr (Or.inr ⟨rfl, ht, hx⟩)))) (hb hby d) hl)
theorem Go.return_ (sn : List Addr) (H : Ok Z K own bytes maxL none nm) (d : decode bytes pc = .ok (.return_, 1)) (hq : Q none h sn) (hs : ∀ y ∈ sn, y ∈ sf) (hk : k ≤ R.cells) (hj : j ≤ R.slots) : Go l Z n0 R K Q h sf k j pc ls [] := by
  exact Go.ret0 H (v := none) (fun _ => rfl) hq hs hk hj (fun p e s m args below meth c T locs fs X hx hby hret hl => X.returnOut hx hret (hb hby d) hl)
theorem own_toarv {Z : State} {h : Heap} {a : Addr} {ty : FieldType} {vs : List Int32} (F : Vec Z h a ty vs) (hn : vs.length < 2 ^ 31) : ∃ kc, Arv Z h a kc ty vs.length.toInt32 (vs.map Value.int) (.int 0) := by
  obtain ⟨c, A, q, hf⟩ := F
  have hs := Vec.size q
  have e : vs.length.toInt32.toNatClampNeg = vs.length := by rw [Int32.toNatClampNeg, len_toInt hn]; simp
  have hg : ∀ i, i < vs.length → (vs.map Value.int).getD i (.int 0) = .int (vs.getD i 0) := fun i hi => by simp [List.getD, hi]
  refine ⟨c.cls, c, A, rfl, by rw [hs, e], by rw [Int32.lt_iff_toInt_lt, len_toInt hn]; simp, fun i hi => ?_, fun i hi => ?_⟩
  · rw [hg i (by omega)]
    exact Vec.get q (by simp [List.getD, show i < vs.length by omega])
  · rw [hg i (by omega)]
    exact hf _ (by have : i < vs.length := by omega
                   simp [List.getD, this])
theorem own_ofarv {Z : State} {h : Heap} {b : Addr} {k : ClassId} {ty : FieldType} {z : Int32} {bs : List Int32} (F : Arv Z h b k ty z (bs.map Value.int) (.int 0)) (hz : z.toNatClampNeg = bs.length) : Vec Z h b ty bs := by
  obtain ⟨c, A, -, S, -, H, G⟩ := F
  refine ⟨c, A, ?_, fun v hv => ?_⟩
  · apply List.ext_getElem?
    intro i
    rw [Array.getElem?_toList]
    by_cases hi : i < c.slots.size
    · have hb : i < bs.length := by omega
      rw [H i hi]; simp [List.getD, hb]
    · rw [Array.getElem?_eq_none (by omega), List.getElem?_eq_none (by simp; omega)]
  · obtain ⟨i, hi, rfl⟩ := List.mem_iff_getElem.mp hv
    have := G i (by omega)
    simpa [List.getD, hi] using this
/-- System.arraycopy between two arrays of one primitive kind; sp, dp, nn: the two places and how many -/
theorem Go.arraycopy {idx : Nat} {a b : Addr} {ty : FieldType} {us vs : List Int32} {sp dp nn : Int32} (S D N : Nat) (H : Ok Z K own bytes maxL ret nm) (d : decode bytes pc = .ok (.invokestatic idx, 3)) (hp : pc + 3 = pc') (w1 : Jvm.Cond.methodLink own idx Jvm.Stand.acN ∈ tables_1) (w2 : Jvm.Cond.native Jvm.Stand.acN ∈ tables_1) (w3 : Jvm.Cond.static Jvm.Stand.acN ∈ tables_1) (w4 : Jvm.Cond.initialized "java/lang/System" ∈ tables_1)
    (A : Vec Z h a ty us) (B : Vec Z h b ty vs) (hu : us.length < 2 ^ 31) (hv : vs.length < 2 ^ 31) (hty : refKind ty = false) (hS : sp.toNatClampNeg = S) (hD : dp.toNatClampNeg = D) (hN : nn.toNatClampNeg = N) (h1 : ¬ sp < 0) (h2 : ¬ dp < 0) (h3 : ¬ nn < 0) (h4 : S + N ≤ us.length) (h5 : D + N ≤ vs.length) (ha : n0 ≤ b) (hs : b ∈ sf) (W : Nat) (hsz : ls.size = maxL) (hW : (st.map fun v => v.category).sum ≤ W) (hf : 1 ≤ R.frames) (hlo : W + (nativeFrameWords "java/lang/System" "arraycopy" 5 + 11) ≤ R.locals)
    (r : ∀ h', Keep h h' [b] → Vec Z h' b ty (vs.take D ++ (us.drop S).take N ++ vs.drop (D + N)) → Go l Z n0 R K Q h' sf k j pc' ls st) : Go l Z n0 R K Q h sf k j pc ls (.int nn :: .int dp :: .ref b :: .int sp :: .ref a :: st) := by
  subst hp hS hD hN
  refine Go.ofKeep (b := b) (P := fun h' => Vec Z h' b ty (vs.take dp.toNatClampNeg ++ (us.drop sp.toNatClampNeg).take nn.toNatClampNeg ++ vs.drop (dp.toNatClampNeg + nn.toNatClampNeg))) H ha hs ?_ r
  intro p e s m args below meth c T locs a0 hw X hx hby hml hZ hown eT hF
  obtain ⟨ka, A'⟩ := own_toarv A hu
  obtain ⟨kb, B'⟩ := own_toarv B hv
  have eu : us.length.toInt32.toNatClampNeg = us.length := by rw [Int32.toNatClampNeg, len_toInt hu]; simp
  have ev : vs.length.toInt32.toNatClampNeg = vs.length := by rw [Int32.toNatClampNeg, len_toInt hv]; simp
  have hus : ((us.drop sp.toNatClampNeg).take nn.toNatClampNeg).map Value.int = (List.range nn.toNatClampNeg).map fun i => (us.map Value.int).getD (sp.toNatClampNeg + i) (.int 0) := by
    apply List.ext_getElem
    · simp; omega
    · intro i g1 g2
      simp only [List.length_map, List.length_take, List.length_drop] at g1
      have g3 : sp.toNatClampNeg + i < us.length := by omega
      simp [List.getD, g3]
  obtain ⟨T', h', L, X', eT', hL, hK, V, stp⟩ := cpA X hx hZ hown (hw _ w1) (hw _ w2) (hw _ w3) (hw _ w4) eT A' B' (Or.inl ⟨rfl, hty⟩) h1 h2 h3 (by rw [eu]; exact h4) (by rw [ev]; exact h5) hus (by simpa using h5) hF ha (g := mkF m pc ls (.int nn :: .int dp :: .ref b :: .int sp :: .ref a :: st)) rfl (by rw [hml]; exact hsz) rfl (hb hby d) hf (W := W) (by show 2 * 0 + _ ≤ _; simpa using hW) hlo
  refine ⟨T', h', L, X', eT', hL, hK, own_ofarv (by rw [List.map_append, List.map_append, List.map_take, List.map_drop]; exact V) ?_, stp⟩
  rw [ev]; simp; omega
end Steps2
/-! numbers and strings -/
theorem own_ins {Z : State} {h : Heap} {a : Addr} {C D : String} (W : Wds Z) (F : Exa Z h a C) (w : Jvm.Cond.castable C D ∈ tables_1) : Ins Z h a D true := by
  obtain ⟨a0, hw⟩ := W.w; exact Ins.of_exa F (hw _ w)
theorem own_sne {Z : State} {C O n d O' n' d' : String} {t t' : FieldType} (W : Wds Z) (L : Jvm.Cond.lays C O n d ∈ tables_1 ∨ Jvm.Cond.laysFinal C O n d ∈ tables_1) (L' : Jvm.Cond.lays C O' n' d' ∈ tables_1 ∨ Jvm.Cond.laysFinal C O' n' d' ∈ tables_1) (hn : n ≠ n') (ht : parseFieldDescriptor d = some t) (ht' : parseFieldDescriptor d' = some t') : Jvm.RoadKit.slotOf Z O n d ≠ Jvm.RoadKit.slotOf Z O' n' d' := by
  obtain ⟨a0, hw⟩ := W.w
  exact slot_ne (a0 := a0) (C := C) (L.imp (hw _) (hw _)) (L'.imp (hw _) (hw _)) hn ht ht'
theorem own_len {n : Nat} (h : n < 2 ^ 31) : n.toInt32.toInt = n := len_toInt h
theorem own_lt {i n : Nat} (hn : n < 2 ^ 31) (h : i < n) : i.toInt32 < n.toInt32 := by
  rw [Int32.lt_iff_toInt_lt, own_len hn, own_len (by omega)]; omega
theorem own_nlt {i n : Nat} (hi : i < 2 ^ 31) (h : n ≤ i) : ¬ i.toInt32 < n.toInt32 := by
  rw [Int32.lt_iff_toInt_lt, own_len hi, own_len (by omega)]; omega
theorem own_n0 {i : Nat} (h : i < 2 ^ 31) : ¬ i.toInt32 < 0 := by
  rw [Int32.lt_iff_toInt_lt, own_len h]; simp
theorem own_cl {i : Nat} (h : i < 2 ^ 31) : i.toInt32.toNatClampNeg = i := by
  rw [Int32.toNatClampNeg, own_len h]; simp
theorem own_s (i : Nat) : i.toInt32 + 1 = (i + 1).toInt32 := (Int32.ofNat_add i 1).symm
theorem own_ne0 {n : Nat} (hn : n < 2 ^ 31) (h : 0 < n) : ¬ n.toInt32 = 0 := fun e => by
  have := congrArg Int32.toInt e; rw [own_len hn] at this; simp at this; omega
def isL (c : Int32) : Prop := 0 ≤ c.toInt ∧ c.toInt ≤ 255
def isC (c : Int32) : Prop := 0 ≤ c.toInt ∧ c.toInt ≤ 65535
theorem isL.c {c : Int32} (h : isL c) : isC c := ⟨h.1, by have := h.2; omega⟩
theorem own_char {x : Int32} (h : isC x) : nar .char x = x := Int32.toInt_inj.mp (by have := c_i2c x; obtain ⟨h1, h2⟩ := h; simp only [nar]; omega)
theorem own_isC (x : Int32) : isC (nar .char x) := by have := c_i2c x; simp only [nar]; exact ⟨this.2.1, by omega⟩
theorem own_nn {x : Int32} : nar .char (nar .char x) = nar .char x := own_char (own_isC x)
theorem own_nb {x : Int32} : nar .byte (nar .byte x) = nar .byte x := by
  have h1 := c_i2b x
  have h2 := c_i2b (nar .byte x)
  simp only [nar] at *
  exact Int32.toInt_inj.mp (by omega)
theorem own_back {c : Int32} (h : isL c) : nar .char (nar .byte c &&& 255) = c := by
  have h1 := c_i2b c
  have h2 := c_mask (nar .byte c) 255 8 (by decide) (by decide)
  have h3 := c_i2c (nar .byte c &&& 255)
  obtain ⟨g1, g2⟩ := h
  simp only [nar] at *
  exact Int32.toInt_inj.mp (by omega)
theorem own_le255 {c : Int32} (h : isL c) : ¬ (255 : Int32) < c := by
  rw [Int32.lt_iff_toInt_lt]; have := h.2; simp only [Int32.reduceToInt]; omega
theorem own_cat {f : Value} (h : f.isRef = true) : f.category = 1 := by rcases ref_cases h with rfl | ⟨a, rfl⟩ <;> rfl
theorem own_ext {h h' : Heap} (K : Keep h h' []) : Ext h h' := ⟨K.1, fun a c q => K.2.1 a c q nin0⟩
theorem own_keep {h h' : Heap} {ws : List Addr} (E : Ext h h') : Keep h h' ws := (Keep.refl _ _).ext E
theorem Exa.ltb {Z : State} {h : Heap} {a : Addr} {C : String} (F : Exa Z h a C) : a < h.size := F.lt
/-- a Latin-1 String x whose bytes lie at b -/
def Str (Z : State) (h : Heap) (x b : Addr) (cs : List Int32) : Prop := Exa Z h x "java/lang/String" ∧ Fld Z h x "java/lang/String" "value" "[B" (.ref b) ∧ Fld Z h x "java/lang/String" "coder" "B" (.int 0) ∧ Vec Z h b .byte (cs.map (nar .byte)) ∧ (∀ c ∈ cs, isL c) ∧ cs.length < 2 ^ 31
section StrF
variable {Z : State} {h h' : Heap} {x b : Addr} {cs : List Int32} {ws : List Addr}
theorem Str.lt (F : Str Z h x b cs) : x < h.size := F.1.lt
theorem Str.ltb (F : Str Z h x b cs) : b < h.size := F.2.2.2.1.lt
theorem Str.ext (F : Str Z h x b cs) (E : Ext h h') : Str Z h' x b cs := ⟨F.1.ext E, F.2.1.ext E, F.2.2.1.ext E, F.2.2.2.1.ext E, F.2.2.2.2⟩
theorem Str.keep (F : Str Z h x b cs) (K : Keep h h' ws) (q : x ∉ ws) (q' : b ∉ ws) : Str Z h' x b cs := ⟨F.1.keep K, F.2.1.keep K q, F.2.2.1.keep K q, F.2.2.2.1.keep K q', F.2.2.2.2⟩
end StrF
theorem own_and255 (y : Int32) : isL (nar .char (y &&& 255)) := by
  have h1 := c_and y 255 (by decide)
  have h2 : (255 : Int32).toInt = 255 := by decide
  have h3 : nar .char (y &&& 255) = y &&& 255 := own_char ⟨h1.1, by omega⟩
  rw [h3]; exact ⟨h1.1, by omega⟩
theorem own_an {P : Int32 → Prop} : ∀ c ∈ ([] : List Int32), P c := fun _ q => nomatch q
theorem own_ac {P : Int32 → Prop} {a : Int32} {t : List Int32} (h : P a) (r : ∀ c ∈ t, P c) : ∀ c ∈ a :: t, P c := fun c q => by
  rcases List.mem_cons.mp q with rfl | q
  · exact h
  · exact r c q
theorem own_narR {t : FieldType} {v : Value} (h : v.isRef = true) : narrow t v = v := by rcases ref_cases h with rfl | ⟨a, rfl⟩ <;> cases t <;> rfl
theorem own_fitR {t : FieldType} {v : Value} (h : v.isRef = true) (ht : t.isReference = true) : fits t v = true := by rcases ref_cases h with rfl | ⟨a, rfl⟩ <;> cases t <;> first | rfl | (cases ht)
theorem Fld.det {Z : State} {h : Heap} {a : Addr} {C n d : String} {v w : Value} (F : Fld Z h a C n d v) (G : Fld Z h a C n d w) : v = w := Decidable.byContradiction fun q => (F.ne G q) rfl
theorem Vec.det {Z : State} {h : Heap} {a : Addr} {ty ty' : FieldType} {vs ws : List Int32} (F : Vec Z h a ty vs) (G : Vec Z h a ty' ws) : vs = ws := by
  obtain ⟨c, A, q, -⟩ := F
  obtain ⟨c', A', q', -⟩ := G
  cases A.1.symm.trans A'.1
  have e := q.symm.trans q'
  exact (List.map_inj_right (fun a b e => by cases e; rfl)).mp e
theorem own_inj {c d : Int32} (h : isL c) (g : isL d) (e : nar .byte c = nar .byte d) : c = d := by rw [← own_back h, ← own_back g, e]
theorem own_mapinj : ∀ {cs ds : List Int32}, (∀ c ∈ cs, isL c) → (∀ d ∈ ds, isL d) → cs.map (nar .byte) = ds.map (nar .byte) → cs = ds
  | [], [], _, _, _ => rfl
  | [], _ :: _, _, _, e => by cases e
  | _ :: _, [], _, _, e => by cases e
  | c :: cs, d :: ds, h, g, e => by
    simp only [List.map_cons, List.cons.injEq] at e
    rw [own_inj (h c (by simp)) (g d (by simp)) e.1, own_mapinj (fun c q => h c (by simp [q])) (fun c q => g c (by simp [q])) e.2]
theorem Str.det {Z : State} {h : Heap} {x b b' : Addr} {cs ds : List Int32} (F : Str Z h x b cs) (G : Str Z h x b' ds) : cs = ds := by
  have e := Fld.det F.2.1 G.2.1
  cases e
  exact own_mapinj F.2.2.2.2.1 G.2.2.2.2.1 (F.2.2.2.1.det G.2.2.2.1)
theorem own_ofinj {i n : Nat} (hi : i < 2 ^ 31) (hn : n < 2 ^ 31) (e : i.toInt32 = n.toInt32) : i = n := by
  have := congrArg Int32.toInt e; rw [own_len hi, own_len hn] at this; omega
theorem Go.ldcS {l : Launch} {Z : State} {n0 : Nat} {R : Room} {K : Cx} {Q : Option Value → Heap → List Addr → Prop} {h : Heap} {sf : List Addr} {k j pc pc' : Nat} {ls : Array Slot} {st : List Value} {own : String} {bytes : ByteArray} {maxL : Nat} {ret : Option FieldType} {nm : String} {idx : Nat} {text : String} (cs : List Int32) (zl : Int32) (n : Nat)
    (H : Ok Z K own bytes maxL ret nm) (d : decode bytes pc = .ok (.ldc idx, 2)) (hp : pc + 2 = pc') (w : Jvm.Cond.stringLink own idx text ∈ tables_1) (hm : (own, idx) ∈ consts_1) (ht : (∀ c ∈ text.toList, c.toNat < 256) ∧ text.toList.map (fun c => Value.int (Jvm.Lit.byteI c.toNat.toUInt16)) = (cs.map (nar .byte)).map Value.int) (hL : ∀ c ∈ cs, isL c) (hz : ¬ zl < 0) (hl : zl.toNatClampNeg = cs.length) (hn : 4 * text.toList.length ≤ n) (hbig : n ≤ 536870912) (hc : k + 2 ≤ R.cells) (hsl : j + (n + 4) ≤ R.slots)
    (r : ∀ a b h', Ext h h' → Str Z h' a b cs → (∀ x ∈ sf, x ≠ a ∧ x ≠ b) → Go l Z n0 R K Q h' sf (k + 2) (j + (n + 4)) pc' ls (.ref a :: st)) : Go l Z n0 R K Q h sf k j pc ls st := by
  subst hp
  obtain ⟨p, e, s, m, args, below, meth, c⟩ := K
  intro vm0 k0 T locs X eT hS hk hC hSf hF hO
  obtain ⟨H1, H2, H3, H4, H5, H6, H7, H8, a0, hw, hEL, hat⟩ := H
  have hZ0 : Z.Warmed39 vm0 := State.Warmed39.trans H6 hS.1
  have hown0 : vm0.findClass own = some m.cls := (hS.1.alike.findClass _ _).trans H5
  obtain ⟨a, T', h', k1, b, kc, X', eT', E, hS', hk', hZ', hown', A, Fc, Fv, V, la, lb, hC', -, hne, stp⟩ := ldcCH X H1 hZ0 hown0 (hw _ w) hat eT hS hk hEL hm hC.1 (vs := (cs.map (nar .byte)).map Value.int) (z := zl) ht hz (by simp [hl]) (g := mkF m pc ls st) rfl (hb H2 d) hn hbig hc hsl
  have hS2 := hSf.chr hC'
  have hlen := (back32 hz).2
  obtain ⟨s₂, o, h1, h2⟩ := r a b h' E ⟨A, Fv, Fc, own_ofarv V (by simp [hl]), hL, by omega⟩ (fun x hx => hne x (hS2 x hx).2) T'.vm k1 T' locs X' eT' hS' hk' (hC.trans hC') hS2 hF (hO.ext E)
  exact ⟨s₂, o, stp _ h1, h2⟩
def Sx0 (Z : State) (z : Int32) (f : Value) : Prop := Wds Z ∧ ¬ z = 0 ∧ Sta Z Z.heap "java/lang/String" "COMPACT_STRINGS" "Z" (.int z) ∧ f.isRef = true ∧ Sta Z Z.heap "jdk/internal/util/Preconditions" "SIOOBE_FORMATTER" "Ljava/util/function/BiFunction;" f
def Sx (Z : State) (z : Int32) (f : Value) : Prop := Sx0 Z z f ∧ Sta Z Z.heap "java/lang/StringUTF16" "$assertionsDisabled" "Z" (.int 1) ∧ Sta Z Z.heap "java/lang/StringUTF16" "HI_BYTE_SHIFT" "I" (.int 0) ∧ Sta Z Z.heap "java/lang/StringUTF16" "LO_BYTE_SHIFT" "I" (.int 8)
/-! UTF-16 strings -/
def enc16 : List Int32 → List Int32
  | [] => []
  | c :: t => nar .byte (c >>> ((0 : Int32) &&& 31)) :: nar .byte (c >>> ((8 : Int32) &&& 31)) :: enc16 t
theorem enc16_len : ∀ cs : List Int32, (enc16 cs).length = 2 * cs.length
  | [] => rfl
  | c :: t => by simp only [enc16, List.length_cons, enc16_len t]; omega
theorem enc16_app : ∀ a b : List Int32, enc16 (a ++ b) = enc16 a ++ enc16 b
  | [], b => rfl
  | c :: t, b => by simp only [enc16, List.cons_append, enc16_app t b]
theorem enc16_0 : ∀ {cs : List Int32} {i : Nat} {c : Int32}, cs[i]? = some c → (enc16 cs)[2 * i]? = some (nar .byte (c >>> ((0 : Int32) &&& 31)))
  | [], _, _, h => by simp at h
  | d :: t, 0, c, h => by cases h; rfl
  | d :: t, i + 1, c, h => by
    have q := enc16_0 (cs := t) (i := i) (c := c) (by simpa using h)
    rw [show 2 * (i + 1) = 2 * i + 1 + 1 from by omega]; simpa [enc16] using q
theorem enc16_1 : ∀ {cs : List Int32} {i : Nat} {c : Int32}, cs[i]? = some c → (enc16 cs)[2 * i + 1]? = some (nar .byte (c >>> ((8 : Int32) &&& 31)))
  | [], _, _, h => by simp at h
  | d :: t, 0, c, h => by cases h; rfl
  | d :: t, i + 1, c, h => by
    have q := enc16_1 (cs := t) (i := i) (c := c) (by simpa using h)
    rw [show 2 * (i + 1) + 1 = 2 * i + 1 + 1 + 1 from by omega]; simpa [enc16] using q
theorem own_fill16 {cs : List Int32} {i m : Nat} {c : Int32} (hc : cs[i]? = some c) : ((enc16 (cs.take i) ++ List.replicate (2 * (m + 1)) 0).set (2 * i) (nar .byte (c >>> ((0 : Int32) &&& 31)))).set (2 * i + 1) (nar .byte (c >>> ((8 : Int32) &&& 31))) = enc16 (cs.take (i + 1)) ++ List.replicate (2 * m) 0 := by
  have hl : i < cs.length := (List.getElem?_eq_some_iff.mp hc).1
  have h1 : (enc16 (cs.take i)).length = 2 * i := by rw [enc16_len, List.length_take]; omega
  rw [show 2 * (m + 1) = 2 * m + 1 + 1 from by omega, List.replicate_succ, List.replicate_succ, List.set_append_right _ _ (by omega), h1, Nat.sub_self, List.set_cons_zero, List.set_append_right _ _ (by omega), h1, show 2 * i + 1 - 2 * i = 1 from by omega, List.set_cons_succ, List.set_cons_zero, List.take_add_one, hc, enc16_app]
  simp [enc16]
theorem own_shl1 {n : Nat} (hn : n < 2 ^ 30) : n.toInt32 <<< ((1 : Int32) &&& 31) = (2 * n).toInt32 := by
  have h := c_ishl n.toInt32 1 1 (by decide)
  have h2 := rng32 (n.toInt32 <<< ((1 : Int32) &&& 31))
  apply Int32.toInt_inj.mp
  rw [own_len (by omega)]
  rw [own_len (by omega)] at h
  omega
theorem own_ul {n : Nat} (hn : n < 2 ^ 30) : (2 * n).toInt32 >>> ((1 : Int32) &&& 31) = n.toInt32 := by
  apply Int32.toInt_inj.mp
  rw [c_ishr (2 * n).toInt32 1 1 (by decide), own_len (by omega), own_len (by omega)]
  omega
theorem own_back16 {c : Int32} (h : isC c) : nar .char (((nar .byte (c >>> ((0 : Int32) &&& 31)) &&& (255 : Int32)) <<< ((0 : Int32) &&& 31)) ||| ((nar .byte (c >>> ((8 : Int32) &&& 31)) &&& (255 : Int32)) <<< ((8 : Int32) &&& 31))) = c := by
  have a1 := c_ishr c 0 0 (by decide)
  have a2 := c_ishr c 8 8 (by decide)
  have b1 := c_i2b (c >>> ((0 : Int32) &&& 31))
  have b2 := c_i2b (c >>> ((8 : Int32) &&& 31))
  simp only [nar]
  generalize (c >>> ((0 : Int32) &&& 31)).toInt8.toInt32 = p at *
  generalize (c >>> ((8 : Int32) &&& 31)).toInt8.toInt32 = q at *
  have m1 := c_mask p 255 8 (by decide) (by decide)
  have m2 := c_mask q 255 8 (by decide) (by decide)
  generalize p &&& (255 : Int32) = p' at *
  generalize q &&& (255 : Int32) = q' at *
  have s1 := c_ishl p' 0 0 (by decide)
  have s2 := c_ishl q' 8 8 (by decide)
  have r1 := rng32 (p' <<< ((0 : Int32) &&& 31))
  have r2 := rng32 (q' <<< ((8 : Int32) &&& 31))
  generalize p' <<< ((0 : Int32) &&& 31) = p2 at *
  generalize q' <<< ((8 : Int32) &&& 31) = q2 at *
  obtain ⟨h1, h2⟩ := h
  have o := c_or' p2 q2 8 (by decide) 256 (by decide) (by omega) (by omega) (by omega)
  have r3 := rng32 (p2 ||| q2)
  generalize p2 ||| q2 = w at *
  have f := c_i2c w
  exact Int32.toInt_inj.mp (by omega)
theorem own_ltk {n : Nat} (h : n < 1073741823) : n.toInt32 < (1073741823 : Int32) := by
  rw [Int32.lt_iff_toInt_lt, own_len (by omega)]; simp only [Int32.reduceToInt]; omega
theorem own_codU {n : Nat} (hp : 0 < n) (hn : n < 2 ^ 30) : nar .byte (((n.toInt32 - (2 * n).toInt32).toUInt32 >>> ((31 : Int32) &&& 31).toUInt32).toInt32) = 1 := by
  have h := c_iushr (n.toInt32 - (2 * n).toInt32) 31 31 (by decide) (by decide)
  rw [Int32.toInt_sub, own_len (by omega), own_len (by omega), Int.bmod_eq_of_le (by omega) (by omega)] at h
  have e : ((n.toInt32 - (2 * n).toInt32).toUInt32 >>> ((31 : Int32) &&& 31).toUInt32).toInt32 = 1 := Int32.toInt_inj.mp (by rw [h]; simp only [Int32.reduceToInt]; omega)
  rw [e]; decide
theorem own_gt255 {c : Int32} (h : (255 : Int32) < c) : ¬ isL c := fun q => by
  rw [Int32.lt_iff_toInt_lt] at h; have := q.2; simp only [Int32.reduceToInt] at h; omega
theorem own_isL {c : Int32} (hC : isC c) (h : ¬ (255 : Int32) < c) : isL c := by
  rw [Int32.lt_iff_toInt_lt] at h; simp only [Int32.reduceToInt] at h; exact ⟨hC.1, by omega⟩
theorem own_nL {c : Int32} (hC : isC c) (h : ¬ isL c) : (255 : Int32) < c := Decidable.byContradiction fun q => h (own_isL hC q)
theorem own_takeL {cs : List Int32} {i : Nat} {c : Int32} (hc : cs[i]? = some c) (h : ∀ c ∈ cs.take i, isL c) (g : isL c) : ∀ c ∈ cs.take (i + 1), isL c := by
  rw [List.take_add_one, hc]; intro d q; rcases List.mem_append.mp q with q | q
  · exact h d q
  · simp at q; exact q ▸ g
/-- a UTF-16 String x whose bytes lie at b -/
def StrU (Z : State) (h : Heap) (x b : Addr) (cs : List Int32) : Prop := Exa Z h x "java/lang/String" ∧ Fld Z h x "java/lang/String" "value" "[B" (.ref b) ∧ Fld Z h x "java/lang/String" "coder" "B" (.int 1) ∧ Vec Z h b .byte (enc16 cs) ∧ (∀ c ∈ cs, isC c) ∧ cs.length < 2 ^ 30 ∧ ∃ c ∈ cs, ¬ isL c
/-- a String x, by either coder -/
def Stg (Z : State) (h : Heap) (x b : Addr) (cs : List Int32) : Prop := Str Z h x b cs ∨ StrU Z h x b cs
section StrG
variable {Z : State} {h h' : Heap} {x b : Addr} {cs : List Int32} {ws : List Addr}
theorem StrU.lt (F : StrU Z h x b cs) : x < h.size := F.1.lt
theorem StrU.ltb (F : StrU Z h x b cs) : b < h.size := F.2.2.2.1.lt
theorem StrU.ext (F : StrU Z h x b cs) (E : Ext h h') : StrU Z h' x b cs := ⟨F.1.ext E, F.2.1.ext E, F.2.2.1.ext E, F.2.2.2.1.ext E, F.2.2.2.2⟩
theorem StrU.keep (F : StrU Z h x b cs) (K : Keep h h' ws) (q : x ∉ ws) (q' : b ∉ ws) : StrU Z h' x b cs := ⟨F.1.keep K, F.2.1.keep K q, F.2.2.1.keep K q, F.2.2.2.1.keep K q', F.2.2.2.2⟩
theorem Stg.exa (F : Stg Z h x b cs) : Exa Z h x "java/lang/String" := F.elim (fun q => q.1) (fun q => q.1)
theorem Stg.lt (F : Stg Z h x b cs) : x < h.size := F.exa.lt
theorem Stg.ltb (F : Stg Z h x b cs) : b < h.size := F.elim (fun q => q.ltb) (fun q => q.ltb)
theorem Stg.ext (F : Stg Z h x b cs) (E : Ext h h') : Stg Z h' x b cs := F.imp (fun q => q.ext E) (fun q => q.ext E)
theorem Stg.keep (F : Stg Z h x b cs) (K : Keep h h' ws) (q : x ∉ ws) (q' : b ∉ ws) : Stg Z h' x b cs := F.imp (fun w => w.keep K q q') (fun w => w.keep K q q')
theorem Stg.isC (F : Stg Z h x b cs) : ∀ c ∈ cs, isC c := F.elim (fun q c m => (q.2.2.2.2.1 c m).c) (fun q => q.2.2.2.2.1)
end StrG
def CmpQ (Z : State) (d : Addr) (cs : List Int32) (h : Heap) (v : Option Value) (h' : Heap) (sn : List Addr) : Prop := ∃ r : Int32, v = some (.int r) ∧ Keep h h' [d] ∧ ((r = cs.length.toInt32 ∧ (∀ c ∈ cs, isL c) ∧ Vec Z h' d .byte (cs.map (nar .byte))) ∨ ∃ (i : Nat) (c : Int32), r = i.toInt32 ∧ cs[i]? = some c ∧ ¬ isL c) ∧ sn = []
theorem own_full {Z : State} {h : Heap} {d : Addr} {cs : List Int32} {i : Nat} (e : i = cs.length) (F : Vec Z h d .byte ((cs.take i).map (nar .byte) ++ List.replicate 0 0)) : Vec Z h d .byte (cs.map (nar .byte)) := by
  subst e; simpa using F
theorem own_fill {cs : List Int32} {g : Int32 → Int32} {i m : Nat} {c : Int32} (hc : cs[i]? = some c) : ((cs.take i).map g ++ List.replicate (m + 1) 0).set i (g c) = (cs.take (i + 1)).map g ++ List.replicate m 0 := by
  have hl : i < cs.length := (List.getElem?_eq_some_iff.mp hc).1
  have h1 : ((cs.take i).map g).length = i := by simp; omega
  rw [List.set_append_right _ _ (by omega), h1, Nat.sub_self, List.replicate_succ, List.set_cons_zero, List.take_add_one, hc]; simp
theorem own_allT {cs : List Int32} {i : Nat} (e : i = cs.length) (h : ∀ c ∈ cs.take i, isL c) : ∀ c ∈ cs, isL c := by
  subst e; simpa using h
theorem own_full16 {Z : State} {h : Heap} {d : Addr} {cs : List Int32} {i : Nat} (e : i = cs.length) (F : Vec Z h d .byte (enc16 (cs.take i) ++ List.replicate (2 * 0) 0)) : Vec Z h d .byte (enc16 cs) := by
  subst e; simpa using F
theorem own_cod (x : Int32) : nar .byte (((x - x).toUInt32 >>> ((31 : Int32) &&& 31).toUInt32).toInt32) = 0 := by rw [Int32.sub_self]; decide
theorem own_shr0 (x : Int32) : x >>> ((0 : Int32) &&& 31) = x := Int32.toInt_inj.mp (by rw [c_ishr x 0 0 (by decide)]; simp)
theorem own_ltn {i : Int32} {n ni : Nat} (h0 : ¬ i < 0) (hi : i.toNatClampNeg = ni) (hn : n < 2 ^ 31) (h : ni < n) : i < n.toInt32 := by
  rw [Int32.lt_iff_toInt_lt] at h0 ⊢; rw [own_len hn]; simp only [Int32.toNatClampNeg] at hi; simp only [Int32.reduceToInt] at h0; omega
theorem own_oflt {i : Int32} {ni : Nat} (h0 : ¬ i < 0) (hi : i.toNatClampNeg = ni) : i = ni.toInt32 ∧ ni < 2 ^ 31 := by
  have r := rng32 i
  rw [Int32.lt_iff_toInt_lt] at h0; simp only [Int32.toNatClampNeg] at hi; simp only [Int32.reduceToInt] at h0
  have h2 : ni < 2 ^ 31 := by omega
  exact ⟨Int32.toInt_inj.mp (by rw [own_len h2]; omega), h2⟩
theorem own_getm {cs : List Int32} {ni : Nat} {c : Int32} (hc : cs[ni]? = some c) : (cs.map (nar .byte))[ni]? = some (nar .byte c) := by rw [List.getElem?_map, hc]; rfl
theorem own_lenlt {cs : List Int32} {i : Nat} {c : Int32} (hc : cs[i]? = some c) : i < cs.length := (List.getElem?_eq_some_iff.mp hc).1
theorem own_chpos {cs : List Int32} (h : ∃ c ∈ cs, ¬ isL c) : cs ≠ [] := fun e => by subst e; obtain ⟨c, q, -⟩ := h; cases q
theorem Stg.neO {Z : State} {h : Heap} {x b y : Addr} {kk : Nat} {cs : List Int32} {C : String} (S : Stg Z h x b cs) (A : Exa Z h y C) (W : Wds Z) (wi : Jvm.Cond.instantiable C kk ∈ tables_1) : b ≠ y := by
  rcases S with S | S <;> exact Vec.neExa S.2.2.2.1 A W wi

theorem w12 : Jvm.Cond.instantiable "java/lang/String" (4 : Nat) ∈ tables_1 := List.mem_of_getElem? (i := 12) rfl
theorem d11_3 : decode jdk_52_method_21_code 3 = .ok (.iload 5, 2) := by decide +kernel
theorem d11_5 : decode jdk_52_method_21_code 5 = .ok (.iload 4, 2) := by decide +kernel
theorem d11_7 : decode jdk_52_method_21_code 7 = .ok (.if_icmp .ge 37, 3) := by decide +kernel
theorem d11_44 : decode jdk_52_method_21_code 44 = .ok (.iload 4, 2) := by decide +kernel
theorem d11_46 : decode jdk_52_method_21_code 46 = .ok (.ireturn, 1) := by decide +kernel
theorem d11_10 : decode jdk_52_method_21_code 10 = .ok (.aload_n 0, 1) := by decide +kernel
theorem d11_11 : decode jdk_52_method_21_code 11 = .ok (.iload_n 1, 1) := by decide +kernel
theorem d11_12 : decode jdk_52_method_21_code 12 = .ok (.caload, 1) := by decide +kernel
theorem d11_13 : decode jdk_52_method_21_code 13 = .ok (.istore 6, 2) := by decide +kernel
theorem d11_15 : decode jdk_52_method_21_code 15 = .ok (.iload 6, 2) := by decide +kernel
theorem d11_17 : decode jdk_52_method_21_code 17 = .ok (.sipush 255, 3) := by decide +kernel
theorem d11_20 : decode jdk_52_method_21_code 20 = .ok (.if_icmp .le 6, 3) := by decide +kernel
theorem d11_23 : decode jdk_52_method_21_code 23 = .ok (.iload 5, 2) := by decide +kernel
theorem d11_25 : decode jdk_52_method_21_code 25 = .ok (.ireturn, 1) := by decide +kernel
theorem d11_26 : decode jdk_52_method_21_code 26 = .ok (.aload_n 2, 1) := by decide +kernel
theorem d11_27 : decode jdk_52_method_21_code 27 = .ok (.iload_n 3, 1) := by decide +kernel
theorem d11_28 : decode jdk_52_method_21_code 28 = .ok (.iload 6, 2) := by decide +kernel
theorem d11_30 : decode jdk_52_method_21_code 30 = .ok (.i2b, 1) := by decide +kernel
theorem d11_31 : decode jdk_52_method_21_code 31 = .ok (.bastore, 1) := by decide +kernel
theorem d11_32 : decode jdk_52_method_21_code 32 = .ok (.iinc 1 1, 3) := by decide +kernel
theorem d11_35 : decode jdk_52_method_21_code 35 = .ok (.iinc 3 1, 3) := by decide +kernel
theorem d11_38 : decode jdk_52_method_21_code 38 = .ok (.iinc 5 1, 3) := by decide +kernel
theorem d11_41 : decode jdk_52_method_21_code 41 = .ok (.goto (-38), 3) := by decide +kernel

set_option maxRecDepth 65536 in
theorem lp_cmp5 (l : Launch) {Z : State} {n0 : Nat} (a d : Addr) (cs : List Int32) (h0 : Heap) (hC : ∀ c ∈ cs, isC c) (hn : cs.length < 2 ^ 31) (zd : n0 ≤ d) (hne : a ≠ d) {R : Room} {K : Cx} (H : Ok Z K "java/lang/StringUTF16" jdk_52_method_21_code 7 (some .int) "compress") :
    ∀ (m i : Nat), i + m = cs.length → ∀ (h : Heap) (s6 : Slot), One s6 → Vec Z h a .char cs → Vec Z h d .byte ((cs.take i).map (nar .byte) ++ List.replicate m 0) → Keep h0 h [d] → (∀ c ∈ cs.take i, isL c) →
      Go l Z n0 R K (CmpQ Z d cs h0) h [d] 0 0 3 #[.val (.ref a), .val (.int i.toInt32), .val (.ref d), .val (.int i.toInt32), .val (.int cs.length.toInt32), .val (.int i.toInt32), s6] [] := by
  intro m
  induction m with
  | zero =>
    intro i hi h s6 h6 Fa Fd KK hT
    refine Go.iload H d11_3 rfl rfl ?_
    refine Go.iload H d11_5 rfl rfl ?_
    refine Go.icmpY (pc' := 44) H d11_7 (flt (own_nlt (by omega) (by omega))).2.1 (by decide) (by decide) ?_
    refine Go.iload H d11_44 rfl rfl ?_
    exact Go.ireturnI [] H d11_46 ⟨_, rfl, KK, Or.inl ⟨rfl, own_allT (by omega) hT, own_full (by omega) Fd⟩, rfl⟩ all0 (Nat.zero_le _) (Nat.zero_le _)
  | succ m ih =>
    intro i hi h s6 h6 Fa Fd KK hT
    have hlt : i < cs.length := by omega
    obtain ⟨c, hc⟩ : ∃ c, cs[i]? = some c := ⟨_, List.getElem?_eq_getElem hlt⟩
    have hCc : isC c := hC c (List.mem_of_getElem? hc)
    refine Go.iload H d11_3 rfl rfl ?_
    refine Go.iload H d11_5 rfl rfl ?_
    refine Go.icmpN H d11_7 (tlt (own_lt hn hlt)).2.1 rfl ?_
    refine Go.aloadN H d11_10 rfl rfl rfl ?_
    refine Go.iloadN H d11_11 rfl rfl ?_
    refine Go.caload (v := c) H d11_12 rfl Fa i (own_cl (by omega)) (own_n0 (by omega)) hc ?_
    refine Go.istore (ls' := #[.val (.ref a), .val (.int i.toInt32), .val (.ref d), .val (.int i.toInt32), .val (.int cs.length.toInt32), .val (.int i.toInt32), .val (.int c)]) H d11_13 rfl (XS.store1 rfl h6 rfl) ?_
    refine Go.iload H d11_15 rfl rfl ?_
    refine Go.sipush (255 : Int32) H d11_17 rfl rfl ?_
    by_cases c1 : (255 : Int32) < c
    ·
      refine Go.icmpN H d11_20 (tlt c1).2.2.2 rfl ?_
      refine Go.iload H d11_23 rfl rfl ?_
      exact Go.ireturnI [] H d11_25 ⟨_, rfl, KK, Or.inr ⟨i, c, rfl, hc, own_gt255 c1⟩, rfl⟩ all0 (Nat.zero_le _) (Nat.zero_le _)
    ·
      refine Go.icmpY (pc' := 26) H d11_20 (flt c1).2.2.2 (by decide) (by decide) ?_
      refine Go.aloadN H d11_26 rfl rfl rfl ?_
      refine Go.iloadN H d11_27 rfl rfl ?_
      refine Go.iload H d11_28 rfl rfl ?_
      refine Go.i2b H d11_30 rfl ?_
      refine Go.bastore (nar .byte c) H d11_31 rfl Fd i (own_cl (by omega)) (own_n0 (by omega)) (by simp; omega) own_nb zd (by simp) ?_
      intro h2 K3 F4
      replace Fa := Fa.keep K3 (ninS hne nin0)
      replace KK := KK.trans K3 (allS (Or.inl (by simp)) all0)
      refine Go.iinc (ls' := #[.val (.ref a), .val (.int (i.toInt32 + (1 : Int32))), .val (.ref d), .val (.int i.toInt32), .val (.int cs.length.toInt32), .val (.int i.toInt32), .val (.int c)]) (1 : Int32) H d11_32 rfl rfl rfl rfl ?_
      refine Go.iinc (ls' := #[.val (.ref a), .val (.int (i.toInt32 + (1 : Int32))), .val (.ref d), .val (.int (i.toInt32 + (1 : Int32))), .val (.int cs.length.toInt32), .val (.int i.toInt32), .val (.int c)]) (1 : Int32) H d11_35 rfl rfl rfl rfl ?_
      refine Go.iinc (ls' := #[.val (.ref a), .val (.int (i.toInt32 + (1 : Int32))), .val (.ref d), .val (.int (i.toInt32 + (1 : Int32))), .val (.int cs.length.toInt32), .val (.int (i.toInt32 + (1 : Int32))), .val (.int c)]) (1 : Int32) H d11_38 rfl rfl rfl rfl ?_
      refine Go.goto (pc' := 3) H d11_41 (by decide) (by decide) ?_
      rw [own_fill hc] at F4
      rw [own_s i]
      exact ih (i + 1) (by omega) _ _ (One.val rfl) Fa F4 KK (own_takeL hc hT (own_isL hCc c1))
theorem d11_0 : decode jdk_52_method_21_code 0 = .ok (.iconst 0, 1) := by decide +kernel
theorem d11_1 : decode jdk_52_method_21_code 1 = .ok (.istore 5, 2) := by decide +kernel
abbrev N0 : MethodName := ⟨"java/lang/StringUTF16", "compress", "([CI[BII)I"⟩
theorem pn_N0 : plainName N0.cls = true := by first | (simp [plainName, overriddenIn]; done) | decide +kernel

abbrev rm_cmp5 : Room := { frames := 0, cells := 0, slots := 0, locals := 0 }
set_option maxRecDepth 65536 in
set_option maxHeartbeats 4000000 in
theorem ct_cmp5 (l : Launch) {Z : State} {n0 : Nat} {z : Int32} {f : Value} (W : Sx Z z f) (a d : Addr) (cs : List Int32) (h : Heap) (Fa : Vec Z h a .char cs) (Fd : Vec Z h d .byte (List.replicate cs.length 0)) (hC : ∀ c ∈ cs, isC c) (hn : cs.length < 2 ^ 31) (zd : n0 ≤ d) (hne : a ≠ d) :
    Ctr l Z n0 N0 jdk_52_method_21_code 7 (some .int) rm_cmp5 #[(.ref a), (.int (0 : Int32)), (.ref d), (.int (0 : Int32)), (.int cs.length.toInt32)] h [d] (fun v h' sn => CmpQ Z d cs h v h' sn) := by
  refine Ctr.of_go (ls := #[.val (.ref a), .val (.int (0 : Int32)), .val (.ref d), .val (.int (0 : Int32)), .val (.int cs.length.toInt32), .unset, .unset]) W.1.1 (plainFor_of_name pn_N0) (fun m => by first | (simp [entryFrame, mkF, argsToLocals, Value.category]; done) | rfl) (fun K H => ?_)
  refine Go.iconst (0 : Int32) H d11_0 rfl rfl ?_
  refine Go.istore (ls' := #[.val (.ref a), .val (.int (0 : Int32)), .val (.ref d), .val (.int (0 : Int32)), .val (.int cs.length.toInt32), .val (.int (0 : Int32)), .unset]) H d11_1 rfl rfl ?_
  exact lp_cmp5 l a d cs h hC hn zd hne H cs.length 0 (by omega) h _ One.u Fa (by simpa using Fd) (Keep.refl _ _) (by simp)
theorem d15_0 : decode jdk_52_method_3_code 0 = .ok (.iload_n 0, 1) := by decide +kernel
theorem d15_1 : decode jdk_52_method_3_code 1 = .ok (.ifCond .ge 11, 3) := by decide +kernel
theorem d15_12 : decode jdk_52_method_3_code 12 = .ok (.iload_n 0, 1) := by decide +kernel
theorem d15_13 : decode jdk_52_method_3_code 13 = .ok (.ldc 20, 2) := by decide +kernel
theorem w67 : Jvm.Cond.constant "java/lang/StringUTF16" (20 : Nat) (1073741823 : Int32) ∈ tables_1 := List.mem_of_getElem? (i := 67) rfl
theorem d15_15 : decode jdk_52_method_3_code 15 = .ok (.if_icmp .lt 40, 3) := by decide +kernel
theorem d15_55 : decode jdk_52_method_3_code 55 = .ok (.iload_n 0, 1) := by decide +kernel
theorem d15_56 : decode jdk_52_method_3_code 56 = .ok (.iconst 1, 1) := by decide +kernel
theorem d15_57 : decode jdk_52_method_3_code 57 = .ok (.ishl, 1) := by decide +kernel
theorem d15_58 : decode jdk_52_method_3_code 58 = .ok (.ireturn, 1) := by decide +kernel
abbrev N1 : MethodName := ⟨"java/lang/StringUTF16", "newBytesLength", "(I)I"⟩

abbrev rm_nbl : Room := { frames := 0, cells := 0, slots := 0, locals := 0 }
set_option maxRecDepth 65536 in
set_option maxHeartbeats 4000000 in
theorem ct_nbl (l : Launch) {Z : State} {n0 : Nat} {z : Int32} {f : Value} (W : Sx Z z f) (n : Nat) (h : Heap) (hn : n < 1073741823) :
    Ctr l Z n0 N1 jdk_52_method_3_code 1 (some .int) rm_nbl #[(.int n.toInt32)] h [] (fun v h' sn => v = some (.int (2 * n).toInt32) ∧ h = h' ∧ sn = []) := by
  refine Ctr.of_go (ls := #[.val (.int n.toInt32)]) W.1.1 (plainFor_of_name pn_N0) (fun m => by first | (simp [entryFrame, mkF, argsToLocals, Value.category]; done) | rfl) (fun K H => ?_)
  refine Go.iloadN H d15_0 rfl rfl ?_
  refine Go.ifY (pc' := 12) H d15_1 (flt (own_n0 (by omega))).2.1 (by decide) (by decide) ?_
  refine Go.iloadN H d15_12 rfl rfl ?_
  refine Go.ldcInt H d15_13 rfl w67 ?_
  refine Go.icmpY (pc' := 55) H d15_15 (tlt (own_ltk hn)).1 (by decide) (by decide) ?_
  refine Go.iloadN H d15_55 rfl rfl ?_
  refine Go.iconst (1 : Int32) H d15_56 rfl rfl ?_
  refine Go.ishl H d15_57 rfl ?_
  exact Go.ireturnI [] H d15_58 ⟨by rw [own_shl1 (by omega)], rfl, rfl⟩ all0 (by decide) (by decide)
theorem d14_0 : decode jdk_52_method_2_code 0 = .ok (.iload_n 0, 1) := by decide +kernel
theorem d14_1 : decode jdk_52_method_2_code 1 = .ok (.invokestatic 11, 3) := by decide +kernel
theorem w66 : Jvm.Cond.code N1 jdk_52_method_3_code (1 : Nat) (Option.some Jvm.ClassFile.FieldType.int) ∈ tables_1 := List.mem_of_getElem? (i := 66) rfl
theorem w50 : Jvm.Cond.initialized "java/lang/StringUTF16" ∈ tables_1 := List.mem_of_getElem? (i := 50) rfl
theorem pd_N1 : parseMethodDescriptor N1.desc = some ⟨[.int], (some .int)⟩ := by decide +kernel
theorem nh_N1 : N1.cls ≠ "java/lang/invoke/MethodHandle" ∧ N1.cls ≠ "java/lang/invoke/VarHandle" := by decide
theorem w64 : Jvm.Cond.methodLink "java/lang/StringUTF16" (11 : Nat) N1 ∈ tables_1 := List.mem_of_getElem? (i := 64) rfl
theorem w65 : Jvm.Cond.static N1 ∈ tables_1 := List.mem_of_getElem? (i := 65) rfl
theorem d14_4 : decode jdk_52_method_2_code 4 = .ok (.newarray .byte, 2) := by decide +kernel
theorem w26 : Jvm.Cond.arrayClass Jvm.ClassFile.FieldType.byte ∈ tables_1 := List.mem_of_getElem? (i := 26) rfl
theorem d14_6 : decode jdk_52_method_2_code 6 = .ok (.areturn, 1) := by decide +kernel
abbrev N2 : MethodName := ⟨"java/lang/StringUTF16", "newBytesFor", "(I)[B"⟩

abbrev rm_nbf : Room := { frames := 1, cells := 1, slots := 6, locals := 12 }
set_option maxRecDepth 65536 in
set_option maxHeartbeats 4000000 in
theorem ct_nbf (l : Launch) {Z : State} {n0 : Nat} {z : Int32} {f : Value} (W : Sx Z z f) (n : Nat) (h : Heap) (hn : n ≤ 3) :
    Ctr l Z n0 N2 jdk_52_method_2_code 1 (some (.array .byte)) rm_nbf #[(.int n.toInt32)] h [] (fun v h' sn => ∃ b, v = some (.ref b) ∧ Ext h h' ∧ h.size ≤ b ∧ n0 ≤ b ∧ Vec Z h' b .byte (List.replicate (2 * n) 0) ∧ sn = [b]) := by
  refine Ctr.of_go (ls := #[.val (.int n.toInt32)]) W.1.1 (plainFor_of_name pn_N0) (fun m => by first | (simp [entryFrame, mkF, argsToLocals, Value.category]; done) | rfl) (fun K H => ?_)
  have KK : Keep h h [] := Keep.refl _ _
  refine Go.iloadN H d14_0 rfl rfl ?_
  refine Go.callS (rest := []) 0 [(.int n.toInt32)] H d14_1 rfl w64 w65 w50 w66 pd_N1 (ct_nbl l W n h (by omega)) all0 rfl rfl rfl (Nat.le_of_eq rfl) (by decide) (by decide) (by decide) (by decide) nh_N1 ?_
  rintro _ _ _ ⟨rfl, rfl, rfl⟩
  show Go _ _ _ _ _ _ h [] 0 0 4 #[.val (.int n.toInt32)] [(.int (2 * n).toInt32)]
  refine Go.newarray (2 * n) 6 H d14_4 rfl w26 rfl (by decide) (own_n0 (by omega)) (own_cl (by omega)) (by omega) (by decide) (by decide) (by decide) ?_
  intro a1 h2 g3 z4 E5 F6
  have sz7 := Nat.le_trans KK.1 (Nat.le_of_eq g3.symm)
  replace KK := KK.ext E5
  show Go _ _ _ _ _ _ h2 [a1] 1 6 6 #[.val (.int n.toInt32)] [(.ref a1)]
  exact Go.areturn [a1] H d14_6 rfl rfl (own_narR rfl) ⟨_, rfl, own_ext KK, Nat.le_of_eq g3.symm, z4, F6, rfl⟩ (by simp) (by decide) (by decide)
theorem d16_0 : decode jdk_52_method_4_code 0 = .ok (.getstatic 44, 3) := by decide +kernel
theorem w71 : Jvm.Cond.fieldLink "java/lang/StringUTF16" (44 : Nat) "java/lang/StringUTF16" "$assertionsDisabled" "Z" ∈ tables_1 := List.mem_of_getElem? (i := 71) rfl
theorem d16_3 : decode jdk_52_method_4_code 3 = .ok (.ifCond .ne 25, 3) := by decide +kernel
theorem d16_28 : decode jdk_52_method_4_code 28 = .ok (.iload_n 1, 1) := by decide +kernel
theorem d16_29 : decode jdk_52_method_4_code 29 = .ok (.iconst 1, 1) := by decide +kernel
theorem d16_30 : decode jdk_52_method_4_code 30 = .ok (.ishl, 1) := by decide +kernel
theorem d16_31 : decode jdk_52_method_4_code 31 = .ok (.istore_n 1, 1) := by decide +kernel
theorem d16_32 : decode jdk_52_method_4_code 32 = .ok (.aload_n 0, 1) := by decide +kernel
theorem d16_33 : decode jdk_52_method_4_code 33 = .ok (.iload_n 1, 1) := by decide +kernel
theorem d16_34 : decode jdk_52_method_4_code 34 = .ok (.iinc 1 1, 3) := by decide +kernel
theorem d16_37 : decode jdk_52_method_4_code 37 = .ok (.iload_n 2, 1) := by decide +kernel
theorem d16_38 : decode jdk_52_method_4_code 38 = .ok (.getstatic 59, 3) := by decide +kernel
theorem w72 : Jvm.Cond.fieldLink "java/lang/StringUTF16" (59 : Nat) "java/lang/StringUTF16" "HI_BYTE_SHIFT" "I" ∈ tables_1 := List.mem_of_getElem? (i := 72) rfl
theorem d16_41 : decode jdk_52_method_4_code 41 = .ok (.ishr, 1) := by decide +kernel
theorem d16_42 : decode jdk_52_method_4_code 42 = .ok (.i2b, 1) := by decide +kernel
theorem d16_43 : decode jdk_52_method_4_code 43 = .ok (.bastore, 1) := by decide +kernel
theorem d16_44 : decode jdk_52_method_4_code 44 = .ok (.aload_n 0, 1) := by decide +kernel
theorem d16_45 : decode jdk_52_method_4_code 45 = .ok (.iload_n 1, 1) := by decide +kernel
theorem d16_46 : decode jdk_52_method_4_code 46 = .ok (.iload_n 2, 1) := by decide +kernel
theorem d16_47 : decode jdk_52_method_4_code 47 = .ok (.getstatic 63, 3) := by decide +kernel
theorem w73 : Jvm.Cond.fieldLink "java/lang/StringUTF16" (63 : Nat) "java/lang/StringUTF16" "LO_BYTE_SHIFT" "I" ∈ tables_1 := List.mem_of_getElem? (i := 73) rfl
theorem d16_50 : decode jdk_52_method_4_code 50 = .ok (.ishr, 1) := by decide +kernel
theorem d16_51 : decode jdk_52_method_4_code 51 = .ok (.i2b, 1) := by decide +kernel
theorem d16_52 : decode jdk_52_method_4_code 52 = .ok (.bastore, 1) := by decide +kernel
theorem d16_53 : decode jdk_52_method_4_code 53 = .ok (.return_, 1) := by decide +kernel
abbrev N3 : MethodName := ⟨"java/lang/StringUTF16", "putChar", "([BII)V"⟩

abbrev rm_putc : Room := { frames := 0, cells := 0, slots := 0, locals := 0 }
set_option maxRecDepth 65536 in
set_option maxHeartbeats 4000000 in
theorem ct_putc (l : Launch) {Z : State} {n0 : Nat} {z : Int32} {f : Value} (W : Sx Z z f) (b : Addr) (bs : List Int32) (n : Nat) (c : Int32) (h : Heap) (Fb : Vec Z h b .byte bs) (hl : 2 * n + 1 < bs.length) (hn : n < 2 ^ 30) (zb : n0 ≤ b) :
    Ctr l Z n0 N3 jdk_52_method_4_code 3 none rm_putc #[(.ref b), (.int n.toInt32), (.int c)] h [b] (fun v h' sn => v = none ∧ Keep h h' [b] ∧ Vec Z h' b .byte ((bs.set (2 * n) (nar .byte (c >>> ((0 : Int32) &&& 31)))).set (2 * n + 1) (nar .byte (c >>> ((8 : Int32) &&& 31)))) ∧ sn = []) := by
  refine Ctr.of_go (ls := #[.val (.ref b), .val (.int n.toInt32), .val (.int c)]) W.1.1 (plainFor_of_name pn_N0) (fun m => by first | (simp [entryFrame, mkF, argsToLocals, Value.category]; done) | rfl) (fun K H => ?_)
  have KK : Keep h h [b] := Keep.refl _ _
  refine Go.getstatic H d16_0 rfl w71 W.2.1 ?_
  refine Go.ifY (pc' := 28) H d16_3 (by decide) (by decide) (by decide) ?_
  refine Go.iloadN H d16_28 rfl rfl ?_
  refine Go.iconst (1 : Int32) H d16_29 rfl rfl ?_
  refine Go.ishl H d16_30 rfl ?_
  rw [own_shl1 hn]
  refine Go.istoreN (ls' := #[.val (.ref b), .val (.int (2 * n).toInt32), .val (.int c)]) H d16_31 rfl rfl ?_
  refine Go.aloadN H d16_32 rfl rfl rfl ?_
  refine Go.iloadN H d16_33 rfl rfl ?_
  refine Go.iinc (ls' := #[.val (.ref b), .val (.int ((2 * n).toInt32 + (1 : Int32))), .val (.int c)]) (1 : Int32) H d16_34 rfl rfl rfl rfl ?_
  refine Go.iloadN H d16_37 rfl rfl ?_
  refine Go.getstatic H d16_38 rfl w72 W.2.2.1 ?_
  refine Go.ishr H d16_41 rfl ?_
  refine Go.i2b H d16_42 rfl ?_
  refine Go.bastore (nar .byte (c >>> ((0 : Int32) &&& 31))) H d16_43 rfl Fb (2 * n) (own_cl (by omega)) (own_n0 (by omega)) (by omega) own_nb zb (by simp) ?_
  intro h1 K2 F3
  replace KK := KK.trans K2 (allS (Or.inl (by simp)) all0)
  refine Go.aloadN H d16_44 rfl rfl rfl ?_
  refine Go.iloadN H d16_45 rfl rfl ?_
  refine Go.iloadN H d16_46 rfl rfl ?_
  refine Go.getstatic H d16_47 rfl w73 W.2.2.2 ?_
  refine Go.ishr H d16_50 rfl ?_
  refine Go.i2b H d16_51 rfl ?_
  refine Go.bastore (nar .byte (c >>> ((8 : Int32) &&& 31))) H d16_52 rfl F3 (2 * n + 1) (by rw [own_s]; exact own_cl (by omega)) (by rw [own_s]; exact own_n0 (by omega)) (by rw [List.length_set]; omega) own_nb zb (by simp) ?_
  intro h4 K5 F6
  replace KK := KK.trans K5 (allS (Or.inl (by simp)) all0)
  exact Go.return_ [] H d16_53 ⟨rfl, KK, F6, rfl⟩ all0 (by decide) (by decide)
theorem d17_0 : decode jdk_52_method_5_code 0 = .ok (.getstatic 44, 3) := by decide +kernel
theorem d17_3 : decode jdk_52_method_5_code 3 = .ok (.ifCond .ne 25, 3) := by decide +kernel
theorem d17_28 : decode jdk_52_method_5_code 28 = .ok (.iload_n 1, 1) := by decide +kernel
theorem d17_29 : decode jdk_52_method_5_code 29 = .ok (.iconst 1, 1) := by decide +kernel
theorem d17_30 : decode jdk_52_method_5_code 30 = .ok (.ishl, 1) := by decide +kernel
theorem d17_31 : decode jdk_52_method_5_code 31 = .ok (.istore_n 1, 1) := by decide +kernel
theorem d17_32 : decode jdk_52_method_5_code 32 = .ok (.aload_n 0, 1) := by decide +kernel
theorem d17_33 : decode jdk_52_method_5_code 33 = .ok (.iload_n 1, 1) := by decide +kernel
theorem d17_34 : decode jdk_52_method_5_code 34 = .ok (.iinc 1 1, 3) := by decide +kernel
theorem d17_37 : decode jdk_52_method_5_code 37 = .ok (.baload, 1) := by decide +kernel
theorem d17_38 : decode jdk_52_method_5_code 38 = .ok (.sipush 255, 3) := by decide +kernel
theorem d17_41 : decode jdk_52_method_5_code 41 = .ok (.iand, 1) := by decide +kernel
theorem d17_42 : decode jdk_52_method_5_code 42 = .ok (.getstatic 59, 3) := by decide +kernel
theorem d17_45 : decode jdk_52_method_5_code 45 = .ok (.ishl, 1) := by decide +kernel
theorem d17_46 : decode jdk_52_method_5_code 46 = .ok (.aload_n 0, 1) := by decide +kernel
theorem d17_47 : decode jdk_52_method_5_code 47 = .ok (.iload_n 1, 1) := by decide +kernel
theorem d17_48 : decode jdk_52_method_5_code 48 = .ok (.baload, 1) := by decide +kernel
theorem d17_49 : decode jdk_52_method_5_code 49 = .ok (.sipush 255, 3) := by decide +kernel
theorem d17_52 : decode jdk_52_method_5_code 52 = .ok (.iand, 1) := by decide +kernel
theorem d17_53 : decode jdk_52_method_5_code 53 = .ok (.getstatic 63, 3) := by decide +kernel
theorem d17_56 : decode jdk_52_method_5_code 56 = .ok (.ishl, 1) := by decide +kernel
theorem d17_57 : decode jdk_52_method_5_code 57 = .ok (.ior, 1) := by decide +kernel
theorem d17_58 : decode jdk_52_method_5_code 58 = .ok (.i2c, 1) := by decide +kernel
theorem d17_59 : decode jdk_52_method_5_code 59 = .ok (.ireturn, 1) := by decide +kernel
abbrev N4 : MethodName := ⟨"java/lang/StringUTF16", "getChar", "([BI)C"⟩

abbrev rm_getc : Room := { frames := 0, cells := 0, slots := 0, locals := 0 }
set_option maxRecDepth 65536 in
set_option maxHeartbeats 4000000 in
theorem ct_getc (l : Launch) {Z : State} {n0 : Nat} {z : Int32} {f : Value} (W : Sx Z z f) (b : Addr) (cs : List Int32) (n : Nat) (c : Int32) (h : Heap) (Fb : Vec Z h b .byte (enc16 cs)) (hc : cs[n]? = some c) (hC : isC c) (hn : n < 2 ^ 30) :
    Ctr l Z n0 N4 jdk_52_method_5_code 2 (some .char) rm_getc #[(.ref b), (.int n.toInt32)] h [] (fun v h' sn => v = some (.int c) ∧ h = h' ∧ sn = []) := by
  refine Ctr.of_go (ls := #[.val (.ref b), .val (.int n.toInt32)]) W.1.1 (plainFor_of_name pn_N0) (fun m => by first | (simp [entryFrame, mkF, argsToLocals, Value.category]; done) | rfl) (fun K H => ?_)
  refine Go.getstatic H d17_0 rfl w71 W.2.1 ?_
  refine Go.ifY (pc' := 28) H d17_3 (by decide) (by decide) (by decide) ?_
  refine Go.iloadN H d17_28 rfl rfl ?_
  refine Go.iconst (1 : Int32) H d17_29 rfl rfl ?_
  refine Go.ishl H d17_30 rfl ?_
  rw [own_shl1 hn]
  refine Go.istoreN (ls' := #[.val (.ref b), .val (.int (2 * n).toInt32)]) H d17_31 rfl rfl ?_
  refine Go.aloadN H d17_32 rfl rfl rfl ?_
  refine Go.iloadN H d17_33 rfl rfl ?_
  refine Go.iinc (ls' := #[.val (.ref b), .val (.int ((2 * n).toInt32 + (1 : Int32)))]) (1 : Int32) H d17_34 rfl rfl rfl rfl ?_
  refine Go.baload (v := (nar .byte (c >>> ((0 : Int32) &&& 31)))) H d17_37 rfl Fb (2 * n) (own_cl (by omega)) (own_n0 (by omega)) (enc16_0 hc) ?_
  refine Go.sipush (255 : Int32) H d17_38 rfl rfl ?_
  refine Go.iand H d17_41 rfl ?_
  refine Go.getstatic H d17_42 rfl w72 W.2.2.1 ?_
  refine Go.ishl H d17_45 rfl ?_
  refine Go.aloadN H d17_46 rfl rfl rfl ?_
  refine Go.iloadN H d17_47 rfl rfl ?_
  refine Go.baload (v := (nar .byte (c >>> ((8 : Int32) &&& 31)))) H d17_48 rfl Fb (2 * n + 1) (by rw [own_s]; exact own_cl (by omega)) (by rw [own_s]; exact own_n0 (by omega)) (enc16_1 hc) ?_
  refine Go.sipush (255 : Int32) H d17_49 rfl rfl ?_
  refine Go.iand H d17_52 rfl ?_
  refine Go.getstatic H d17_53 rfl w73 W.2.2.2 ?_
  refine Go.ishl H d17_56 rfl ?_
  refine Go.ior H d17_57 rfl ?_
  refine Go.i2c H d17_58 rfl ?_
  exact Go.ireturn c [] H d17_59 (by simp) (own_nn.trans (own_back16 hC)) ⟨rfl, rfl, rfl⟩ all0 (by decide) (by decide)
theorem d13_8 : decode jdk_52_method_14_code 8 = .ok (.iload 4, 2) := by decide +kernel
theorem d13_10 : decode jdk_52_method_14_code 10 = .ok (.iload_n 2, 1) := by decide +kernel
theorem d13_11 : decode jdk_52_method_14_code 11 = .ok (.if_icmp .ge 21, 3) := by decide +kernel
theorem d13_32 : decode jdk_52_method_14_code 32 = .ok (.aload_n 3, 1) := by decide +kernel
theorem d13_33 : decode jdk_52_method_14_code 33 = .ok (.areturn, 1) := by decide +kernel
theorem d13_14 : decode jdk_52_method_14_code 14 = .ok (.aload_n 3, 1) := by decide +kernel
theorem d13_15 : decode jdk_52_method_14_code 15 = .ok (.iload 4, 2) := by decide +kernel
theorem d13_17 : decode jdk_52_method_14_code 17 = .ok (.aload_n 0, 1) := by decide +kernel
theorem d13_18 : decode jdk_52_method_14_code 18 = .ok (.iload_n 1, 1) := by decide +kernel
theorem d13_19 : decode jdk_52_method_14_code 19 = .ok (.caload, 1) := by decide +kernel
theorem d13_20 : decode jdk_52_method_14_code 20 = .ok (.invokestatic 111, 3) := by decide +kernel
theorem w70 : Jvm.Cond.code N3 jdk_52_method_4_code (3 : Nat) (Option.none : Option Jvm.ClassFile.FieldType) ∈ tables_1 := List.mem_of_getElem? (i := 70) rfl
theorem pd_N3 : parseMethodDescriptor N3.desc = some ⟨[(.array .byte), .int, .int], none⟩ := by decide +kernel
theorem w68 : Jvm.Cond.methodLink "java/lang/StringUTF16" (111 : Nat) N3 ∈ tables_1 := List.mem_of_getElem? (i := 68) rfl
theorem w69 : Jvm.Cond.static N3 ∈ tables_1 := List.mem_of_getElem? (i := 69) rfl
theorem d13_23 : decode jdk_52_method_14_code 23 = .ok (.iinc 1 1, 3) := by decide +kernel
theorem d13_26 : decode jdk_52_method_14_code 26 = .ok (.iinc 4 1, 3) := by decide +kernel
theorem d13_29 : decode jdk_52_method_14_code 29 = .ok (.goto (-21), 3) := by decide +kernel
theorem d13_0 : decode jdk_52_method_14_code 0 = .ok (.iload_n 2, 1) := by decide +kernel
theorem d13_1 : decode jdk_52_method_14_code 1 = .ok (.invokestatic 107, 3) := by decide +kernel
theorem w63 : Jvm.Cond.code N2 jdk_52_method_2_code (1 : Nat) (Option.some (Jvm.ClassFile.FieldType.array Jvm.ClassFile.FieldType.byte)) ∈ tables_1 := List.mem_of_getElem? (i := 63) rfl
theorem pd_N2 : parseMethodDescriptor N2.desc = some ⟨[.int], (some (.array .byte))⟩ := by decide +kernel
theorem w61 : Jvm.Cond.methodLink "java/lang/StringUTF16" (107 : Nat) N2 ∈ tables_1 := List.mem_of_getElem? (i := 61) rfl
theorem w62 : Jvm.Cond.static N2 ∈ tables_1 := List.mem_of_getElem? (i := 62) rfl
theorem d13_4 : decode jdk_52_method_14_code 4 = .ok (.astore_n 3, 1) := by decide +kernel
theorem d13_5 : decode jdk_52_method_14_code 5 = .ok (.iconst 0, 1) := by decide +kernel
theorem d13_6 : decode jdk_52_method_14_code 6 = .ok (.istore 4, 2) := by decide +kernel

set_option maxRecDepth 65536 in
set_option maxHeartbeats 4000000 in
theorem lp_tob (l : Launch) {Z : State} {n0 : Nat} {z : Int32} {f : Value} (a d : Addr) (cs : List Int32) (hh : Heap) (hn : cs.length ≤ 3) (zd : n0 ≤ d) (hne : a ≠ d) (hsz : hh.size ≤ d) (W : Sx Z z f) {K : Cx} (H : Ok Z K "java/lang/StringUTF16" jdk_52_method_14_code 5 (some (.array .byte)) "toBytes") :
    ∀ (m i : Nat), i + m = cs.length → ∀ (h : Heap), Vec Z h a .char cs → Vec Z h d .byte (enc16 (cs.take i) ++ List.replicate (2 * m) 0) → Keep hh h [] →
      Go l Z n0 ({ frames := 2, cells := 1, slots := 6, locals := 24 } : Room) K (fun v h' sn => ∃ b, v = some (.ref b) ∧ Ext hh h' ∧ hh.size ≤ b ∧ Vec Z h' b .byte (enc16 cs) ∧ sn = []) h [d] 1 6 8 #[.val (.ref a), .val (.int i.toInt32), .val (.int cs.length.toInt32), .val (.ref d), .val (.int i.toInt32)] [] := by
  intro m
  induction m with
  | zero =>
    intro i hi h Fa Fd KK
    refine Go.iload H d13_8 rfl rfl ?_
    refine Go.iloadN H d13_10 rfl rfl ?_
    refine Go.icmpY (pc' := 32) H d13_11 (flt (own_nlt (by omega) (by omega))).2.1 (by decide) (by decide) ?_
    refine Go.aloadN H d13_32 rfl rfl rfl ?_
    exact Go.areturn [] H d13_33 rfl rfl (own_narR rfl) ⟨_, rfl, own_ext KK, hsz, own_full16 (by omega) Fd, rfl⟩ all0 (by decide) (by decide)
  | succ m ih =>
    intro i hi h Fa Fd KK
    have hlt : i < cs.length := by omega
    obtain ⟨c, hc⟩ : ∃ c, cs[i]? = some c := ⟨_, List.getElem?_eq_getElem hlt⟩
    refine Go.iload H d13_8 rfl rfl ?_
    refine Go.iloadN H d13_10 rfl rfl ?_
    refine Go.icmpN H d13_11 (tlt (own_lt (by omega) hlt)).2.1 rfl ?_
    refine Go.aloadN H d13_14 rfl rfl rfl ?_
    refine Go.iload H d13_15 rfl rfl ?_
    refine Go.aloadN H d13_17 rfl rfl rfl ?_
    refine Go.iloadN H d13_18 rfl rfl ?_
    refine Go.caload (v := c) H d13_19 rfl Fa i (own_cl (by omega)) (own_n0 (by omega)) hc ?_
    refine Go.callS (rest := []) 0 [(.ref d), (.int i.toInt32), (.int c)] H d13_20 rfl w68 w69 w50 w70 pd_N3 (ct_putc l W d _ i c h Fd (by rw [List.length_append, enc16_len, List.length_take, List.length_replicate]; omega) (by omega) zd) (by simp) rfl rfl rfl (Nat.le_of_eq rfl) (by decide) (by decide) (by decide) (by decide) nh_N1 ?_
    rintro _ h1 _ ⟨rfl, K2, F3, rfl⟩
    replace Fa := Fa.keep K2 (ninS hne nin0)
    replace KK := KK.trans K2 (allS (Or.inr hsz) all0)
    show Go _ _ _ _ _ _ h1 [d] 1 6 23 #[.val (.ref a), .val (.int i.toInt32), .val (.int cs.length.toInt32), .val (.ref d), .val (.int i.toInt32)] []
    refine Go.iinc (ls' := #[.val (.ref a), .val (.int (i.toInt32 + (1 : Int32))), .val (.int cs.length.toInt32), .val (.ref d), .val (.int i.toInt32)]) (1 : Int32) H d13_23 rfl rfl rfl rfl ?_
    refine Go.iinc (ls' := #[.val (.ref a), .val (.int (i.toInt32 + (1 : Int32))), .val (.int cs.length.toInt32), .val (.ref d), .val (.int (i.toInt32 + (1 : Int32)))]) (1 : Int32) H d13_26 rfl rfl rfl rfl ?_
    refine Go.goto (pc' := 8) H d13_29 (by decide) (by decide) ?_
    rw [own_fill16 hc] at F3
    rw [own_s i]
    exact ih (i + 1) (by omega) _ Fa F3 KK
abbrev N5 : MethodName := ⟨"java/lang/StringUTF16", "toBytes", "([CII)[B"⟩

abbrev rm_tob : Room := { frames := 2, cells := 1, slots := 6, locals := 24 }
set_option maxRecDepth 65536 in
set_option maxHeartbeats 4000000 in
theorem ct_tob (l : Launch) {Z : State} {n0 : Nat} {z : Int32} {f : Value} (W : Sx Z z f) (a : Addr) (cs : List Int32) (h : Heap) (Fa : Vec Z h a .char cs) (hn : cs.length ≤ 3) :
    Ctr l Z n0 N5 jdk_52_method_14_code 5 (some (.array .byte)) rm_tob #[(.ref a), (.int (0 : Int32)), (.int cs.length.toInt32)] h [] (fun v h' sn => ∃ b, v = some (.ref b) ∧ Ext h h' ∧ h.size ≤ b ∧ Vec Z h' b .byte (enc16 cs) ∧ sn = []) := by
  refine Ctr.of_go (ls := #[.val (.ref a), .val (.int (0 : Int32)), .val (.int cs.length.toInt32), .unset, .unset]) W.1.1 (plainFor_of_name pn_N0) (fun m => by first | (simp [entryFrame, mkF, argsToLocals, Value.category]; done) | rfl) (fun K H => ?_)
  refine Go.iloadN H d13_0 rfl rfl ?_
  refine Go.callS (rest := []) 0 [(.int cs.length.toInt32)] H d13_1 rfl w61 w62 w50 w63 pd_N2 (ct_nbf l W cs.length h hn) all0 rfl rfl rfl (Nat.le_of_eq rfl) (by decide) (by decide) (by decide) (by decide) nh_N1 ?_
  rintro _ h2 _ ⟨b1, rfl, E3, g4, z5, F6, rfl⟩
  have ne7 : a ≠ b1 := Nat.ne_of_lt (Nat.lt_of_lt_of_le Fa.lt g4)
  replace Fa := Fa.ext E3
  show Go _ _ _ _ _ _ h2 [b1] 1 6 4 #[.val (.ref a), .val (.int (0 : Int32)), .val (.int cs.length.toInt32), .unset, .unset] [(.ref b1)]
  refine Go.astoreN (ls' := #[.val (.ref a), .val (.int (0 : Int32)), .val (.int cs.length.toInt32), .val (.ref b1), .unset]) H d13_4 rfl rfl rfl ?_
  refine Go.iconst (0 : Int32) H d13_5 rfl rfl ?_
  refine Go.istore (ls' := #[.val (.ref a), .val (.int (0 : Int32)), .val (.int cs.length.toInt32), .val (.ref b1), .val (.int (0 : Int32))]) H d13_6 rfl rfl ?_
  exact lp_tob l a b1 cs h hn z5 ne7 g4 W H cs.length 0 (by omega) _ Fa (by simpa [enc16] using F6) (own_keep E3)
theorem d10_0 : decode jdk_52_method_16_code 0 = .ok (.iload_n 2, 1) := by decide +kernel
theorem d10_1 : decode jdk_52_method_16_code 1 = .ok (.newarray .byte, 2) := by decide +kernel
theorem d10_3 : decode jdk_52_method_16_code 3 = .ok (.astore_n 3, 1) := by decide +kernel
theorem d10_4 : decode jdk_52_method_16_code 4 = .ok (.aload_n 0, 1) := by decide +kernel
theorem d10_5 : decode jdk_52_method_16_code 5 = .ok (.iload_n 1, 1) := by decide +kernel
theorem d10_6 : decode jdk_52_method_16_code 6 = .ok (.aload_n 3, 1) := by decide +kernel
theorem d10_7 : decode jdk_52_method_16_code 7 = .ok (.iconst 0, 1) := by decide +kernel
theorem d10_8 : decode jdk_52_method_16_code 8 = .ok (.iload_n 2, 1) := by decide +kernel
theorem d10_9 : decode jdk_52_method_16_code 9 = .ok (.invokestatic 115, 3) := by decide +kernel
theorem w54 : Jvm.Cond.code N0 jdk_52_method_21_code (7 : Nat) (Option.some Jvm.ClassFile.FieldType.int) ∈ tables_1 := List.mem_of_getElem? (i := 54) rfl
theorem pd_N0 : parseMethodDescriptor N0.desc = some ⟨[(.array .char), .int, (.array .byte), .int, .int], (some .int)⟩ := by decide +kernel
theorem w52 : Jvm.Cond.methodLink "java/lang/StringUTF16" (115 : Nat) N0 ∈ tables_1 := List.mem_of_getElem? (i := 52) rfl
theorem w53 : Jvm.Cond.static N0 ∈ tables_1 := List.mem_of_getElem? (i := 53) rfl
theorem d10_12 : decode jdk_52_method_16_code 12 = .ok (.istore 4, 2) := by decide +kernel
theorem d10_14 : decode jdk_52_method_16_code 14 = .ok (.iload 4, 2) := by decide +kernel
theorem d10_16 : decode jdk_52_method_16_code 16 = .ok (.iload_n 2, 1) := by decide +kernel
theorem d10_17 : decode jdk_52_method_16_code 17 = .ok (.if_icmp .eq 40, 3) := by decide +kernel
theorem d10_57 : decode jdk_52_method_16_code 57 = .ok (.aload_n 3, 1) := by decide +kernel
theorem d10_58 : decode jdk_52_method_16_code 58 = .ok (.areturn, 1) := by decide +kernel
theorem d10_20 : decode jdk_52_method_16_code 20 = .ok (.aload_n 0, 1) := by decide +kernel
theorem d10_21 : decode jdk_52_method_16_code 21 = .ok (.iload_n 1, 1) := by decide +kernel
theorem d10_22 : decode jdk_52_method_16_code 22 = .ok (.iload_n 2, 1) := by decide +kernel
theorem d10_23 : decode jdk_52_method_16_code 23 = .ok (.invokestatic 119, 3) := by decide +kernel
theorem w60 : Jvm.Cond.code N5 jdk_52_method_14_code (5 : Nat) (Option.some (Jvm.ClassFile.FieldType.array Jvm.ClassFile.FieldType.byte)) ∈ tables_1 := List.mem_of_getElem? (i := 60) rfl
theorem pd_N5 : parseMethodDescriptor N5.desc = some ⟨[(.array .char), .int, .int], (some (.array .byte))⟩ := by decide +kernel
theorem w58 : Jvm.Cond.methodLink "java/lang/StringUTF16" (119 : Nat) N5 ∈ tables_1 := List.mem_of_getElem? (i := 58) rfl
theorem w59 : Jvm.Cond.static N5 ∈ tables_1 := List.mem_of_getElem? (i := 59) rfl
theorem d10_26 : decode jdk_52_method_16_code 26 = .ok (.astore 5, 2) := by decide +kernel
theorem d10_28 : decode jdk_52_method_16_code 28 = .ok (.aload 5, 2) := by decide +kernel
theorem d10_30 : decode jdk_52_method_16_code 30 = .ok (.iload 4, 2) := by decide +kernel
theorem d10_32 : decode jdk_52_method_16_code 32 = .ok (.invokestatic 71, 3) := by decide +kernel
theorem w76 : Jvm.Cond.code N4 jdk_52_method_5_code (2 : Nat) (Option.some Jvm.ClassFile.FieldType.char) ∈ tables_1 := List.mem_of_getElem? (i := 76) rfl
theorem pd_N4 : parseMethodDescriptor N4.desc = some ⟨[(.array .byte), .int], (some .char)⟩ := by decide +kernel
theorem w74 : Jvm.Cond.methodLink "java/lang/StringUTF16" (71 : Nat) N4 ∈ tables_1 := List.mem_of_getElem? (i := 74) rfl
theorem w75 : Jvm.Cond.static N4 ∈ tables_1 := List.mem_of_getElem? (i := 75) rfl
theorem d10_35 : decode jdk_52_method_16_code 35 = .ok (.sipush 255, 3) := by decide +kernel
theorem d10_38 : decode jdk_52_method_16_code 38 = .ok (.if_icmp .gt 16, 3) := by decide +kernel
theorem d10_54 : decode jdk_52_method_16_code 54 = .ok (.aload 5, 2) := by decide +kernel
theorem d10_56 : decode jdk_52_method_16_code 56 = .ok (.areturn, 1) := by decide +kernel
abbrev N6 : MethodName := ⟨"java/lang/StringUTF16", "compress", "([CII)[B"⟩

abbrev rm_cmp3 : Room := { frames := 3, cells := 2, slots := 9, locals := 40 }
set_option maxRecDepth 65536 in
set_option maxHeartbeats 4000000 in
theorem ct_cmp3 (l : Launch) {Z : State} {n0 : Nat} {z : Int32} {f : Value} (W : Sx Z z f) (a : Addr) (cs : List Int32) (h : Heap) (Fa : Vec Z h a .char cs) (hC : ∀ c ∈ cs, isC c) (hn : cs.length ≤ 3) :
    Ctr l Z n0 N6 jdk_52_method_16_code 6 (some (.array .byte)) rm_cmp3 #[(.ref a), (.int (0 : Int32)), (.int cs.length.toInt32)] h [] (fun v h' sn => ∃ b, v = some (.ref b) ∧ Ext h h' ∧ h.size ≤ b ∧ ((∀ c ∈ cs, isL c) ∧ Vec Z h' b .byte (cs.map (nar .byte)) ∨ (∃ c ∈ cs, ¬ isL c) ∧ Vec Z h' b .byte (enc16 cs)) ∧ sn = []) := by
  refine Ctr.of_go (ls := #[.val (.ref a), .val (.int (0 : Int32)), .val (.int cs.length.toInt32), .unset, .unset, .unset]) W.1.1 (plainFor_of_name pn_N0) (fun m => by first | (simp [entryFrame, mkF, argsToLocals, Value.category]; done) | rfl) (fun K H => ?_)
  have KK : Keep h h [] := Keep.refl _ _
  have hn1 : cs.length < 2 ^ 31 := by omega
  refine Go.iloadN H d10_0 rfl rfl ?_
  refine Go.newarray cs.length 3 H d10_1 rfl w26 rfl (by decide) (own_n0 (by omega)) (own_cl (by omega)) hn (by decide) (by decide) (by decide) ?_
  intro a1 h2 g3 z4 E5 F6
  have ne7 : a ≠ a1 := Nat.ne_of_lt (Nat.lt_of_lt_of_le Fa.lt (Nat.le_of_eq g3.symm))
  have sz8 := Nat.le_trans KK.1 (Nat.le_of_eq g3.symm)
  replace Fa := Fa.ext E5
  replace KK := KK.ext E5
  show Go _ _ _ _ _ _ h2 [a1] 1 3 3 #[.val (.ref a), .val (.int (0 : Int32)), .val (.int cs.length.toInt32), .unset, .unset, .unset] [(.ref a1)]
  refine Go.astoreN (ls' := #[.val (.ref a), .val (.int (0 : Int32)), .val (.int cs.length.toInt32), .val (.ref a1), .unset, .unset]) H d10_3 rfl rfl rfl ?_
  refine Go.aloadN H d10_4 rfl rfl rfl ?_
  refine Go.iloadN H d10_5 rfl rfl ?_
  refine Go.aloadN H d10_6 rfl rfl rfl ?_
  refine Go.iconst (0 : Int32) H d10_7 rfl rfl ?_
  refine Go.iloadN H d10_8 rfl rfl ?_
  refine Go.callS (rest := []) 0 [(.ref a), (.int (0 : Int32)), (.ref a1), (.int (0 : Int32)), (.int cs.length.toInt32)] H d10_9 rfl w52 w53 w50 w54 pd_N0 (ct_cmp5 l W a a1 cs h2 Fa F6 hC hn1 z4 ne7) (by simp) rfl rfl rfl (Nat.le_of_eq rfl) (by decide) (by decide) (by decide) (by decide) nh_N1 ?_
  rintro _ h9 _ ⟨r12, rfl, K10, q13, rfl⟩
  replace Fa := Fa.keep K10 (ninS ne7 nin0)
  replace KK := KK.trans K10 (allS (Or.inr sz8) all0)
  rcases q13 with ⟨rfl, hL14, F11⟩ | ⟨i, c, rfl, hc, hN⟩
  ·
    show Go _ _ _ _ _ _ h9 [a1] 1 3 12 #[.val (.ref a), .val (.int (0 : Int32)), .val (.int cs.length.toInt32), .val (.ref a1), .unset, .unset] [(.int cs.length.toInt32)]
    refine Go.istore (ls' := #[.val (.ref a), .val (.int (0 : Int32)), .val (.int cs.length.toInt32), .val (.ref a1), .val (.int cs.length.toInt32), .unset]) H d10_12 rfl rfl ?_
    refine Go.iload H d10_14 rfl rfl ?_
    refine Go.iloadN H d10_16 rfl rfl ?_
    refine Go.icmpY (pc' := 57) H d10_17 (teq rfl).1 (by decide) (by decide) ?_
    refine Go.aloadN H d10_57 rfl rfl rfl ?_
    exact Go.areturn [] H d10_58 rfl rfl (own_narR rfl) ⟨_, rfl, own_ext KK, Nat.le_of_eq g3.symm, Or.inl ⟨hL14, F11⟩, rfl⟩ all0 (by decide) (by decide)
  ·
    show Go _ _ _ _ _ _ h9 [a1] 1 3 12 #[.val (.ref a), .val (.int (0 : Int32)), .val (.int cs.length.toInt32), .val (.ref a1), .unset, .unset] [(.int i.toInt32)]
    refine Go.istore (ls' := #[.val (.ref a), .val (.int (0 : Int32)), .val (.int cs.length.toInt32), .val (.ref a1), .val (.int i.toInt32), .unset]) H d10_12 rfl rfl ?_
    refine Go.iload H d10_14 rfl rfl ?_
    refine Go.iloadN H d10_16 rfl rfl ?_
    refine Go.icmpN H d10_17 (feq (fun e => absurd (own_ofinj (by have := own_lenlt hc; omega) (by omega) e) (by have := own_lenlt hc; omega))).1 rfl ?_
    refine Go.aloadN H d10_20 rfl rfl rfl ?_
    refine Go.iloadN H d10_21 rfl rfl ?_
    refine Go.iloadN H d10_22 rfl rfl ?_
    refine Go.callS (rest := []) 0 [(.ref a), (.int (0 : Int32)), (.int cs.length.toInt32)] H d10_23 rfl w58 w59 w50 w60 pd_N5 (ct_tob l W a cs h9 Fa hn) all0 rfl rfl rfl (Nat.le_of_eq rfl) (by decide) (by decide) (by decide) (by decide) nh_N1 ?_
    rintro _ h16 _ ⟨b15, rfl, E17, g18, F19, rfl⟩
    have ne20 : a ≠ b15 := Nat.ne_of_lt (Nat.lt_of_lt_of_le Fa.lt g18)
    have sz21 := Nat.le_trans KK.1 g18
    replace Fa := Fa.ext E17
    replace KK := KK.ext E17
    show Go _ _ _ _ _ _ h16 [a1] 2 9 26 #[.val (.ref a), .val (.int (0 : Int32)), .val (.int cs.length.toInt32), .val (.ref a1), .val (.int i.toInt32), .unset] [(.ref b15)]
    refine Go.astore (ls' := #[.val (.ref a), .val (.int (0 : Int32)), .val (.int cs.length.toInt32), .val (.ref a1), .val (.int i.toInt32), .val (.ref b15)]) H d10_26 rfl rfl rfl ?_
    refine Go.aload H d10_28 rfl rfl rfl ?_
    refine Go.iload H d10_30 rfl rfl ?_
    refine Go.callS (rest := []) 0 [(.ref b15), (.int i.toInt32)] H d10_32 rfl w74 w75 w50 w76 pd_N4 (ct_getc l W b15 cs i c h16 F19 hc (hC c (List.mem_of_getElem? hc)) (by have := own_lenlt hc; omega)) all0 rfl rfl rfl (Nat.le_of_eq rfl) (by decide) (by decide) (by decide) (by decide) nh_N1 ?_
    rintro _ _ _ ⟨rfl, rfl, rfl⟩
    show Go _ _ _ _ _ _ h16 [a1] 2 9 35 #[.val (.ref a), .val (.int (0 : Int32)), .val (.int cs.length.toInt32), .val (.ref a1), .val (.int i.toInt32), .val (.ref b15)] [(.int c)]
    refine Go.sipush (255 : Int32) H d10_35 rfl rfl ?_
    refine Go.icmpY (pc' := 54) H d10_38 (tlt (own_nL (hC c (List.mem_of_getElem? hc)) hN)).2.2.1 (by decide) (by decide) ?_
    refine Go.aload H d10_54 rfl rfl rfl ?_
    exact Go.areturn [] H d10_56 rfl rfl (own_narR rfl) ⟨_, rfl, own_ext KK, sz21, Or.inr ⟨⟨c, List.mem_of_getElem? hc, hN⟩, F19⟩, rfl⟩ all0 (by decide) (by decide)
theorem d12_0 : decode jdk_52_method_15_code 0 = .ok (.iload_n 1, 1) := by decide +kernel
theorem d12_1 : decode jdk_52_method_15_code 1 = .ok (.aload_n 0, 1) := by decide +kernel
theorem d12_2 : decode jdk_52_method_15_code 2 = .ok (.arraylength, 1) := by decide +kernel
theorem d12_3 : decode jdk_52_method_15_code 3 = .ok (.isub, 1) := by decide +kernel
theorem d12_4 : decode jdk_52_method_15_code 4 = .ok (.bipush 31, 2) := by decide +kernel
theorem d12_6 : decode jdk_52_method_15_code 6 = .ok (.iushr, 1) := by decide +kernel
theorem d12_7 : decode jdk_52_method_15_code 7 = .ok (.i2b, 1) := by decide +kernel
theorem d12_8 : decode jdk_52_method_15_code 8 = .ok (.ireturn, 1) := by decide +kernel
abbrev N7 : MethodName := ⟨"java/lang/StringUTF16", "coderFromArrayLen", "([BI)B"⟩

abbrev rm_codl : Room := { frames := 0, cells := 0, slots := 0, locals := 0 }
set_option maxRecDepth 65536 in
set_option maxHeartbeats 4000000 in
theorem ct_codl (l : Launch) {Z : State} {n0 : Nat} {z : Int32} {f : Value} (W : Sx Z z f) (b : Addr) (bs : List Int32) (n : Int32) (h : Heap) (Fb : Vec Z h b .byte bs) (hb : bs.length.toInt32 = n) :
    Ctr l Z n0 N7 jdk_52_method_15_code 2 (some .byte) rm_codl #[(.ref b), (.int n)] h [] (fun v h' sn => v = some (.int 0) ∧ h = h' ∧ sn = []) := by
  refine Ctr.of_go (ls := #[.val (.ref b), .val (.int n)]) W.1.1 (plainFor_of_name pn_N0) (fun m => by first | (simp [entryFrame, mkF, argsToLocals, Value.category]; done) | rfl) (fun K H => ?_)
  refine Go.iloadN H d12_0 rfl rfl ?_
  refine Go.aloadN H d12_1 rfl rfl rfl ?_
  refine Go.arraylength n H d12_2 rfl Fb hb ?_
  refine Go.isub H d12_3 rfl ?_
  refine Go.bipush (31 : Int32) H d12_4 rfl rfl ?_
  refine Go.iushr H d12_6 rfl ?_
  refine Go.i2b H d12_7 rfl ?_
  exact Go.ireturn (0 : Int32) [] H d12_8 (by simp) (own_nb.trans (own_cod _)) ⟨rfl, rfl, rfl⟩ all0 (by decide) (by decide)

abbrev rm_codlU : Room := { frames := 0, cells := 0, slots := 0, locals := 0 }
set_option maxRecDepth 65536 in
set_option maxHeartbeats 4000000 in
theorem ct_codlU (l : Launch) {Z : State} {n0 : Nat} {z : Int32} {f : Value} (W : Sx Z z f) (b : Addr) (bs : List Int32) (n : Nat) (h : Heap) (Fb : Vec Z h b .byte bs) (hb : bs.length = 2 * n) (hp : 0 < n) (hn : n < 2 ^ 30) :
    Ctr l Z n0 N7 jdk_52_method_15_code 2 (some .byte) rm_codlU #[(.ref b), (.int n.toInt32)] h [] (fun v h' sn => v = some (.int 1) ∧ h = h' ∧ sn = []) := by
  refine Ctr.of_go (ls := #[.val (.ref b), .val (.int n.toInt32)]) W.1.1 (plainFor_of_name pn_N0) (fun m => by first | (simp [entryFrame, mkF, argsToLocals, Value.category]; done) | rfl) (fun K H => ?_)
  refine Go.iloadN H d12_0 rfl rfl ?_
  refine Go.aloadN H d12_1 rfl rfl rfl ?_
  refine Go.arraylength (2 * n).toInt32 H d12_2 rfl Fb (by rw [hb]) ?_
  refine Go.isub H d12_3 rfl ?_
  refine Go.bipush (31 : Int32) H d12_4 rfl rfl ?_
  refine Go.iushr H d12_6 rfl ?_
  refine Go.i2b H d12_7 rfl ?_
  exact Go.ireturn (1 : Int32) [] H d12_8 (by simp) (own_nb.trans (own_codU hp hn)) ⟨rfl, rfl, rfl⟩ all0 (by decide) (by decide)
theorem d5_0 : decode jdk_42_method_149_code 0 = .ok (.aload_n 0, 1) := by decide +kernel
theorem d5_1 : decode jdk_42_method_149_code 1 = .ok (.invokespecial 1, 3) := by decide +kernel
abbrev N8 : MethodName := ⟨"java/lang/Object", "<init>", "()V"⟩
theorem w22 : Jvm.Cond.methodLink "java/lang/String" (1 : Nat) N8 ∈ tables_1 := List.mem_of_getElem? (i := 22) rfl
theorem w23 : Jvm.Cond.instanceMethod N8 ∈ tables_1 := List.mem_of_getElem? (i := 23) rfl
theorem w24 : Jvm.Cond.code N8 object_method_1_code (1 : Nat) (Option.none : Option Jvm.ClassFile.FieldType) ∈ tables_1 := List.mem_of_getElem? (i := 24) rfl
theorem d5_4 : decode jdk_42_method_149_code 4 = .ok (.iload_n 3, 1) := by decide +kernel
theorem d5_5 : decode jdk_42_method_149_code 5 = .ok (.ifCond .ne 22, 3) := by decide +kernel
theorem d5_8 : decode jdk_42_method_149_code 8 = .ok (.aload_n 0, 1) := by decide +kernel
theorem d5_9 : decode jdk_42_method_149_code 9 = .ok (.ldc 7, 2) := by decide +kernel
theorem lt_0 : (∀ c ∈ ("" : String).toList, c.toNat < 256) ∧ ("" : String).toList.map (fun c => Value.int (Jvm.Lit.byteI c.toNat.toUInt16)) = ((([] : List Int32)).map (nar .byte)).map Value.int := by decide +kernel
theorem lt_0_l : ∀ c ∈ ([] : List Int32), isL c := own_an
theorem cm_0 : ("java/lang/String", 7) ∈ consts_1 := by decide
theorem w25 : Jvm.Cond.stringLink "java/lang/String" (7 : Nat) "" ∈ tables_1 := List.mem_of_getElem? (i := 25) rfl
theorem d5_11 : decode jdk_42_method_149_code 11 = .ok (.getfield 9, 3) := by decide +kernel
theorem w31 : Jvm.Cond.fieldLink "java/lang/String" (9 : Nat) "java/lang/String" "value" "[B" ∈ tables_1 := List.mem_of_getElem? (i := 31) rfl
theorem d5_14 : decode jdk_42_method_149_code 14 = .ok (.putfield 9, 3) := by decide +kernel
theorem w27 : Jvm.Cond.laysFinal "java/lang/String" "java/lang/String" "value" "[B" ∈ tables_1 := List.mem_of_getElem? (i := 27) rfl
theorem w28 : Jvm.Cond.laysFinal "java/lang/String" "java/lang/String" "coder" "B" ∈ tables_1 := List.mem_of_getElem? (i := 28) rfl
theorem d5_17 : decode jdk_42_method_149_code 17 = .ok (.aload_n 0, 1) := by decide +kernel
theorem d5_18 : decode jdk_42_method_149_code 18 = .ok (.ldc 7, 2) := by decide +kernel
theorem d5_20 : decode jdk_42_method_149_code 20 = .ok (.getfield 15, 3) := by decide +kernel
theorem w32 : Jvm.Cond.fieldLink "java/lang/String" (15 : Nat) "java/lang/String" "coder" "B" ∈ tables_1 := List.mem_of_getElem? (i := 32) rfl
theorem d5_23 : decode jdk_42_method_149_code 23 = .ok (.putfield 15, 3) := by decide +kernel
theorem d5_26 : decode jdk_42_method_149_code 26 = .ok (.return_, 1) := by decide +kernel
theorem d5_27 : decode jdk_42_method_149_code 27 = .ok (.getstatic 38, 3) := by decide +kernel
theorem w47 : Jvm.Cond.fieldLink "java/lang/String" (38 : Nat) "java/lang/String" "COMPACT_STRINGS" "Z" ∈ tables_1 := List.mem_of_getElem? (i := 47) rfl
theorem d5_30 : decode jdk_42_method_149_code 30 = .ok (.ifCond .eq 28, 3) := by decide +kernel
theorem d5_33 : decode jdk_42_method_149_code 33 = .ok (.aload_n 1, 1) := by decide +kernel
theorem d5_34 : decode jdk_42_method_149_code 34 = .ok (.iload_n 2, 1) := by decide +kernel
theorem d5_35 : decode jdk_42_method_149_code 35 = .ok (.iload_n 3, 1) := by decide +kernel
theorem d5_36 : decode jdk_42_method_149_code 36 = .ok (.invokestatic 177, 3) := by decide +kernel
theorem w51 : Jvm.Cond.code N6 jdk_52_method_16_code (6 : Nat) (Option.some (Jvm.ClassFile.FieldType.array Jvm.ClassFile.FieldType.byte)) ∈ tables_1 := List.mem_of_getElem? (i := 51) rfl
theorem pd_N6 : parseMethodDescriptor N6.desc = some ⟨[(.array .char), .int, .int], (some (.array .byte))⟩ := by decide +kernel
theorem w48 : Jvm.Cond.methodLink "java/lang/String" (177 : Nat) N6 ∈ tables_1 := List.mem_of_getElem? (i := 48) rfl
theorem w49 : Jvm.Cond.static N6 ∈ tables_1 := List.mem_of_getElem? (i := 49) rfl
theorem d5_39 : decode jdk_42_method_149_code 39 = .ok (.astore 5, 2) := by decide +kernel
theorem d5_41 : decode jdk_42_method_149_code 41 = .ok (.aload_n 0, 1) := by decide +kernel
theorem d5_42 : decode jdk_42_method_149_code 42 = .ok (.aload 5, 2) := by decide +kernel
theorem d5_44 : decode jdk_42_method_149_code 44 = .ok (.iload_n 3, 1) := by decide +kernel
theorem d5_45 : decode jdk_42_method_149_code 45 = .ok (.invokestatic 47, 3) := by decide +kernel
theorem w57 : Jvm.Cond.code N7 jdk_52_method_15_code (2 : Nat) (Option.some Jvm.ClassFile.FieldType.byte) ∈ tables_1 := List.mem_of_getElem? (i := 57) rfl
theorem pd_N7 : parseMethodDescriptor N7.desc = some ⟨[(.array .byte), .int], (some .byte)⟩ := by decide +kernel
theorem w55 : Jvm.Cond.methodLink "java/lang/String" (47 : Nat) N7 ∈ tables_1 := List.mem_of_getElem? (i := 55) rfl
theorem w56 : Jvm.Cond.static N7 ∈ tables_1 := List.mem_of_getElem? (i := 56) rfl
theorem d5_48 : decode jdk_42_method_149_code 48 = .ok (.putfield 15, 3) := by decide +kernel
theorem d5_51 : decode jdk_42_method_149_code 51 = .ok (.aload_n 0, 1) := by decide +kernel
theorem d5_52 : decode jdk_42_method_149_code 52 = .ok (.aload 5, 2) := by decide +kernel
theorem d5_54 : decode jdk_42_method_149_code 54 = .ok (.putfield 9, 3) := by decide +kernel
theorem d5_57 : decode jdk_42_method_149_code 57 = .ok (.return_, 1) := by decide +kernel
abbrev N9 : MethodName := ⟨"java/lang/String", "<init>", "([CIILjava/lang/Void;)V"⟩
theorem pn_N9 : plainName N9.cls = true := by first | (simp [plainName, overriddenIn]; done) | decide +kernel

abbrev rm_new4 : Room := { frames := 4, cells := 4, slots := 9, locals := 57 }
set_option maxRecDepth 65536 in
set_option maxHeartbeats 4000000 in
theorem ct_new4 (l : Launch) {Z : State} {n0 : Nat} {z : Int32} {f : Value} (W : Sx Z z f) (x a : Addr) (cs : List Int32) (h : Heap) (A : Exa Z h x "java/lang/String") (Fv : Fld Z h x "java/lang/String" "value" "[B" .null) (Fc : Fld Z h x "java/lang/String" "coder" "B" (.int 0)) (Fa : Vec Z h a .char cs) (hC : ∀ c ∈ cs, isC c) (hn : cs.length ≤ 3) (zx : n0 ≤ x) :
    Ctr l Z n0 N9 jdk_42_method_149_code 6 none rm_new4 #[(.ref x), (.ref a), (.int (0 : Int32)), (.int cs.length.toInt32), .null] h [x] (fun v h' sn => v = none ∧ Keep h h' [x] ∧ (∃ b, Stg Z h' x b cs) ∧ sn = []) := by
  refine Ctr.of_go (ls := #[.val (.ref x), .val (.ref a), .val (.int (0 : Int32)), .val (.int cs.length.toInt32), .val .null, .unset]) W.1.1 (plainFor_of_name pn_N9) (fun m => by first | (simp [entryFrame, mkF, argsToLocals, Value.category]; done) | rfl) (fun K H => ?_)
  have KK : Keep h h [x] := Keep.refl _ _
  have hax : a ≠ x := Vec.neExa Fa A W.1.1 w12
  refine Go.aloadN H d5_0 rfl rfl rfl ?_
  refine Go.initObj H d5_1 rfl w22 w23 w24 0 rfl (Nat.le_of_eq rfl) (by decide) (by decide) ?_
  refine Go.iloadN H d5_4 rfl rfl ?_
  by_cases c1 : cs = []
  ·
    refine Go.ifN H d5_5 (teq (by rw [c1]; rfl)).2 rfl ?_
    refine Go.aloadN H d5_8 rfl rfl rfl ?_
    refine Go.ldcS ([] : List Int32) (0 : Int32) 0 H d5_9 rfl w25 cm_0 lt_0 lt_0_l (by decide) (by decide) (by decide) (by decide) (by decide) (by decide) ?_
    intro a2 b3 h4 E5 S6 q7
    replace A := A.ext E5
    replace Fv := Fv.ext E5
    replace Fc := Fc.ext E5
    replace Fa := Fa.ext E5
    replace KK := KK.ext E5
    have ne8 : x ≠ a2 := (q7 x (by simp)).1
    have ne9 : x ≠ b3 := (q7 x (by simp)).2
    show Go _ _ _ _ _ _ h4 [x] 2 4 11 #[.val (.ref x), .val (.ref a), .val (.int (0 : Int32)), .val (.int cs.length.toInt32), .val .null, .unset] [(.ref a2), (.ref x)]
    refine Go.getfield H d5_11 rfl w31 S6.2.1 ?_
    refine Go.putfield (v := (.ref b3)) H d5_14 rfl w31 Fv A (Or.inr ⟨w27, rfl, rfl⟩) w12 (ty := (.array .byte)) (by decide) rfl rfl zx (by simp) ?_
    intro h10 Wr11
    have F12 := Fv.same Wr11
    have K13 := Keep.of_wr Wr11
    replace A := A.wr Wr11
    replace Fc := Fc.other Wr11 (Or.inr (own_sne W.1.1 (Or.inr w28) (Or.inr w27) (by decide) (t := .byte) (t' := (.array .byte)) (by decide) (by decide)))
    replace Fa := Fa.keep K13 (ninS hax nin0)
    replace S6 := S6.keep K13 (ninS (Ne.symm ne8) nin0) (ninS (Ne.symm ne9) nin0)
    replace KK := KK.wr Wr11 (Or.inl (by simp))
    refine Go.aloadN H d5_17 rfl rfl rfl ?_
    refine Go.ldcS ([] : List Int32) (0 : Int32) 0 H d5_18 rfl w25 cm_0 lt_0 lt_0_l (by decide) (by decide) (by decide) (by decide) (by decide) (by decide) ?_
    intro a14 b15 h16 E17 S18 q19
    replace A := A.ext E17
    replace Fc := Fc.ext E17
    replace Fa := Fa.ext E17
    replace S6 := S6.ext E17
    replace F12 := F12.ext E17
    replace KK := KK.ext E17
    have ne20 : x ≠ a14 := (q19 x (by simp)).1
    have ne21 : x ≠ b15 := (q19 x (by simp)).2
    show Go _ _ _ _ _ _ h16 [x] 4 8 20 #[.val (.ref x), .val (.ref a), .val (.int (0 : Int32)), .val (.int cs.length.toInt32), .val .null, .unset] [(.ref a14), (.ref x)]
    refine Go.getfield H d5_20 rfl w32 S18.2.2.1 ?_
    refine Go.putfield (v := (.int (0 : Int32))) H d5_23 rfl w32 Fc A (Or.inr ⟨w28, rfl, rfl⟩) w12 (ty := .byte) (by decide) (by decide) (by decide) zx (by simp) ?_
    intro h22 Wr23
    have F24 := Fc.same Wr23
    have K25 := Keep.of_wr Wr23
    replace A := A.wr Wr23
    replace Fa := Fa.keep K25 (ninS hax nin0)
    replace S6 := S6.keep K25 (ninS (Ne.symm ne8) nin0) (ninS (Ne.symm ne9) nin0)
    replace F12 := F12.other Wr23 (Or.inr (own_sne W.1.1 (Or.inr w27) (Or.inr w28) (by decide) (t := (.array .byte)) (t' := .byte) (by decide) (by decide)))
    replace S18 := S18.keep K25 (ninS (Ne.symm ne20) nin0) (ninS (Ne.symm ne21) nin0)
    replace KK := KK.wr Wr23 (Or.inl (by simp))
    exact Go.return_ [] H d5_26 ⟨rfl, KK, ⟨_, Or.inl ⟨A, F12, F24, (by rw [c1]; exact S6.2.2.2.1), (by rw [c1]; exact own_an), by omega⟩⟩, rfl⟩ all0 (by decide) (by decide)
  ·
    refine Go.ifY (pc' := 27) H d5_5 (feq (own_ne0 (by omega) (List.length_pos_iff.mpr c1))).2 (by decide) (by decide) ?_
    refine Go.getstatic H d5_27 rfl w47 W.1.2.2.1 ?_
    refine Go.ifN H d5_30 (feq W.1.2.1).1 rfl ?_
    refine Go.aloadN H d5_33 rfl rfl rfl ?_
    refine Go.iloadN H d5_34 rfl rfl ?_
    refine Go.iloadN H d5_35 rfl rfl ?_
    refine Go.callS (rest := []) 0 [(.ref a), (.int (0 : Int32)), (.int cs.length.toInt32)] H d5_36 rfl w48 w49 w50 w51 pd_N6 (ct_cmp3 l W a cs h Fa hC hn) all0 rfl rfl rfl (Nat.le_of_eq rfl) (by decide) (by decide) (by decide) (by decide) nh_N1 ?_
    rintro _ h27 _ ⟨b26, rfl, E28, g29, q31, rfl⟩
    have ne32 : x ≠ b26 := Nat.ne_of_lt (Nat.lt_of_lt_of_le A.lt g29)
    have ne33 : a ≠ b26 := Nat.ne_of_lt (Nat.lt_of_lt_of_le Fa.lt g29)
    replace A := A.ext E28
    replace Fv := Fv.ext E28
    replace Fc := Fc.ext E28
    replace Fa := Fa.ext E28
    replace KK := KK.ext E28
    rcases q31 with ⟨hL, F30⟩ | ⟨hX, F30⟩
    ·
      show Go _ _ _ _ _ _ h27 [x] 2 9 39 #[.val (.ref x), .val (.ref a), .val (.int (0 : Int32)), .val (.int cs.length.toInt32), .val .null, .unset] [(.ref b26)]
      refine Go.astore (ls' := #[.val (.ref x), .val (.ref a), .val (.int (0 : Int32)), .val (.int cs.length.toInt32), .val .null, .val (.ref b26)]) H d5_39 rfl rfl rfl ?_
      refine Go.aloadN H d5_41 rfl rfl rfl ?_
      refine Go.aload H d5_42 rfl rfl rfl ?_
      refine Go.iloadN H d5_44 rfl rfl ?_
      refine Go.callS (rest := [(.ref x)]) 1 [(.ref b26), (.int cs.length.toInt32)] H d5_45 rfl w55 w56 w50 w57 pd_N7 (ct_codl l W b26 _ cs.length.toInt32 h27 F30 (by rw [List.length_map])) all0 rfl rfl rfl (Nat.le_of_eq rfl) (by decide) (by decide) (by decide) (by decide) nh_N1 ?_
      rintro _ _ _ ⟨rfl, rfl, rfl⟩
      show Go _ _ _ _ _ _ h27 [x] 2 9 48 #[.val (.ref x), .val (.ref a), .val (.int (0 : Int32)), .val (.int cs.length.toInt32), .val .null, .val (.ref b26)] [(.int (0 : Int32)), (.ref x)]
      refine Go.putfield (v := (.int (0 : Int32))) H d5_48 rfl w32 Fc A (Or.inr ⟨w28, rfl, rfl⟩) w12 (ty := .byte) (by decide) (by decide) (by decide) zx (by simp) ?_
      intro h34 Wr35
      have F36 := Fc.same Wr35
      have K37 := Keep.of_wr Wr35
      replace A := A.wr Wr35
      replace Fv := Fv.other Wr35 (Or.inr (own_sne W.1.1 (Or.inr w27) (Or.inr w28) (by decide) (t := (.array .byte)) (t' := .byte) (by decide) (by decide)))
      replace Fa := Fa.keep K37 (ninS hax nin0)
      replace F30 := F30.keep K37 (ninS (Ne.symm ne32) nin0)
      replace KK := KK.wr Wr35 (Or.inl (by simp))
      refine Go.aloadN H d5_51 rfl rfl rfl ?_
      refine Go.aload H d5_52 rfl rfl rfl ?_
      refine Go.putfield (v := (.ref b26)) H d5_54 rfl w31 Fv A (Or.inr ⟨w27, rfl, rfl⟩) w12 (ty := (.array .byte)) (by decide) rfl rfl zx (by simp) ?_
      intro h38 Wr39
      have F40 := Fv.same Wr39
      have K41 := Keep.of_wr Wr39
      replace A := A.wr Wr39
      replace Fa := Fa.keep K41 (ninS hax nin0)
      replace F30 := F30.keep K41 (ninS (Ne.symm ne32) nin0)
      replace F36 := F36.other Wr39 (Or.inr (own_sne W.1.1 (Or.inr w28) (Or.inr w27) (by decide) (t := .byte) (t' := (.array .byte)) (by decide) (by decide)))
      replace KK := KK.wr Wr39 (Or.inl (by simp))
      exact Go.return_ [] H d5_57 ⟨rfl, KK, ⟨_, Or.inl ⟨A, F40, F36, F30, hL, by omega⟩⟩, rfl⟩ all0 (by decide) (by decide)
    ·
      show Go _ _ _ _ _ _ h27 [x] 2 9 39 #[.val (.ref x), .val (.ref a), .val (.int (0 : Int32)), .val (.int cs.length.toInt32), .val .null, .unset] [(.ref b26)]
      refine Go.astore (ls' := #[.val (.ref x), .val (.ref a), .val (.int (0 : Int32)), .val (.int cs.length.toInt32), .val .null, .val (.ref b26)]) H d5_39 rfl rfl rfl ?_
      refine Go.aloadN H d5_41 rfl rfl rfl ?_
      refine Go.aload H d5_42 rfl rfl rfl ?_
      refine Go.iloadN H d5_44 rfl rfl ?_
      refine Go.callS (rest := [(.ref x)]) 1 [(.ref b26), (.int cs.length.toInt32)] H d5_45 rfl w55 w56 w50 w57 pd_N7 (ct_codlU l W b26 _ cs.length h27 F30 (enc16_len _) (List.length_pos_iff.mpr (own_chpos hX)) (by omega)) all0 rfl rfl rfl (Nat.le_of_eq rfl) (by decide) (by decide) (by decide) (by decide) nh_N1 ?_
      rintro _ _ _ ⟨rfl, rfl, rfl⟩
      show Go _ _ _ _ _ _ h27 [x] 2 9 48 #[.val (.ref x), .val (.ref a), .val (.int (0 : Int32)), .val (.int cs.length.toInt32), .val .null, .val (.ref b26)] [(.int (1 : Int32)), (.ref x)]
      refine Go.putfield (v := (.int (1 : Int32))) H d5_48 rfl w32 Fc A (Or.inr ⟨w28, rfl, rfl⟩) w12 (ty := .byte) (by decide) (by decide) (by decide) zx (by simp) ?_
      intro h42 Wr43
      have F44 := Fc.same Wr43
      have K45 := Keep.of_wr Wr43
      replace A := A.wr Wr43
      replace Fv := Fv.other Wr43 (Or.inr (own_sne W.1.1 (Or.inr w27) (Or.inr w28) (by decide) (t := (.array .byte)) (t' := .byte) (by decide) (by decide)))
      replace Fa := Fa.keep K45 (ninS hax nin0)
      replace F30 := F30.keep K45 (ninS (Ne.symm ne32) nin0)
      replace KK := KK.wr Wr43 (Or.inl (by simp))
      refine Go.aloadN H d5_51 rfl rfl rfl ?_
      refine Go.aload H d5_52 rfl rfl rfl ?_
      refine Go.putfield (v := (.ref b26)) H d5_54 rfl w31 Fv A (Or.inr ⟨w27, rfl, rfl⟩) w12 (ty := (.array .byte)) (by decide) rfl rfl zx (by simp) ?_
      intro h46 Wr47
      have F48 := Fv.same Wr47
      have K49 := Keep.of_wr Wr47
      replace A := A.wr Wr47
      replace Fa := Fa.keep K49 (ninS hax nin0)
      replace F30 := F30.keep K49 (ninS (Ne.symm ne32) nin0)
      replace F44 := F44.other Wr47 (Or.inr (own_sne W.1.1 (Or.inr w28) (Or.inr w27) (by decide) (t := .byte) (t' := (.array .byte)) (by decide) (by decide)))
      replace KK := KK.wr Wr47 (Or.inl (by simp))
      exact Go.return_ [] H d5_57 ⟨rfl, KK, ⟨_, Or.inr ⟨A, F48, F44, F30, hC, by omega, hX⟩⟩, rfl⟩ all0 (by decide) (by decide)
theorem d4_0 : decode jdk_42_method_3_code 0 = .ok (.aload_n 0, 1) := by decide +kernel
theorem d4_1 : decode jdk_42_method_3_code 1 = .ok (.aload_n 1, 1) := by decide +kernel
theorem d4_2 : decode jdk_42_method_3_code 2 = .ok (.iconst 0, 1) := by decide +kernel
theorem d4_3 : decode jdk_42_method_3_code 3 = .ok (.aload_n 1, 1) := by decide +kernel
theorem d4_4 : decode jdk_42_method_3_code 4 = .ok (.arraylength, 1) := by decide +kernel
theorem d4_5 : decode jdk_42_method_3_code 5 = .ok (.aconst_null, 1) := by decide +kernel
theorem d4_6 : decode jdk_42_method_3_code 6 = .ok (.invokespecial 27, 3) := by decide +kernel
theorem w21 : Jvm.Cond.code N9 jdk_42_method_149_code (6 : Nat) (Option.none : Option Jvm.ClassFile.FieldType) ∈ tables_1 := List.mem_of_getElem? (i := 21) rfl
theorem w13 : Jvm.Cond.initialized "java/lang/String" ∈ tables_1 := List.mem_of_getElem? (i := 13) rfl
theorem pd_N9 : parseMethodDescriptor N9.desc = some ⟨[(.array .char), .int, .int, (.object "java/lang/Void")], none⟩ := by decide +kernel
theorem nh_N9 : N9.cls ≠ "java/lang/invoke/MethodHandle" ∧ N9.cls ≠ "java/lang/invoke/VarHandle" := by decide
theorem w18 : Jvm.Cond.methodLink "java/lang/String" (27 : Nat) N9 ∈ tables_1 := List.mem_of_getElem? (i := 18) rfl
theorem w19 : Jvm.Cond.instanceMethod N9 ∈ tables_1 := List.mem_of_getElem? (i := 19) rfl
theorem d4_9 : decode jdk_42_method_3_code 9 = .ok (.return_, 1) := by decide +kernel
abbrev N10 : MethodName := ⟨"java/lang/String", "<init>", "([C)V"⟩

abbrev rm_new1 : Room := { frames := 5, cells := 4, slots := 9, locals := 74 }
set_option maxRecDepth 65536 in
set_option maxHeartbeats 4000000 in
theorem ct_new1 (l : Launch) {Z : State} {n0 : Nat} {z : Int32} {f : Value} (W : Sx Z z f) (x a : Addr) (cs : List Int32) (h : Heap) (A : Exa Z h x "java/lang/String") (Fv : Fld Z h x "java/lang/String" "value" "[B" .null) (Fc : Fld Z h x "java/lang/String" "coder" "B" (.int 0)) (Fa : Vec Z h a .char cs) (hC : ∀ c ∈ cs, isC c) (hn : cs.length ≤ 3) (zx : n0 ≤ x) :
    Ctr l Z n0 N10 jdk_42_method_3_code 2 none rm_new1 #[(.ref x), (.ref a)] h [x] (fun v h' sn => v = none ∧ Keep h h' [x] ∧ (∃ b, Stg Z h' x b cs) ∧ sn = []) := by
  refine Ctr.of_go (ls := #[.val (.ref x), .val (.ref a)]) W.1.1 (plainFor_of_name pn_N9) (fun m => by first | (simp [entryFrame, mkF, argsToLocals, Value.category]; done) | rfl) (fun K H => ?_)
  have hax : a ≠ x := Vec.neExa Fa A W.1.1 w12
  refine Go.aloadN H d4_0 rfl rfl rfl ?_
  refine Go.aloadN H d4_1 rfl rfl rfl ?_
  refine Go.iconst (0 : Int32) H d4_2 rfl rfl ?_
  refine Go.aloadN H d4_3 rfl rfl rfl ?_
  refine Go.arraylength cs.length.toInt32 H d4_4 rfl Fa rfl ?_
  refine Go.aconstNull H d4_5 rfl ?_
  refine Go.callI (rest := []) 0 [(.ref a), (.int (0 : Int32)), (.int cs.length.toInt32), .null] H d4_6 rfl rfl w18 w19 w13 w21 pd_N9 (ct_new4 l W x a cs h A Fv Fc Fa hC hn zx) (by simp) rfl rfl rfl (Nat.le_of_eq rfl) (by decide) (by decide) (by decide) (by decide) nh_N9 ?_
  rintro _ h1 _ ⟨rfl, K2, ⟨b3, S4⟩, rfl⟩
  replace Fa := Fa.keep K2 (ninS hax nin0)
  show Go _ _ _ _ _ _ h1 [x] 4 9 9 #[.val (.ref x), .val (.ref a)] []
  exact Go.return_ [] H d4_9 ⟨rfl, K2, ⟨_, S4⟩, rfl⟩ all0 (by decide) (by decide)
theorem d21_0 : decode jdk_42_method_154_code 0 = .ok (.getstatic 38, 3) := by decide +kernel
theorem d21_3 : decode jdk_42_method_154_code 3 = .ok (.ifCond .eq 14, 3) := by decide +kernel
theorem d21_6 : decode jdk_42_method_154_code 6 = .ok (.aload_n 0, 1) := by decide +kernel
theorem d21_7 : decode jdk_42_method_154_code 7 = .ok (.getfield 15, 3) := by decide +kernel
theorem d21_10 : decode jdk_42_method_154_code 10 = .ok (.ifCond .ne 7, 3) := by decide +kernel
theorem d21_13 : decode jdk_42_method_154_code 13 = .ok (.iconst 1, 1) := by decide +kernel
theorem d21_14 : decode jdk_42_method_154_code 14 = .ok (.goto 4, 3) := by decide +kernel
theorem d21_18 : decode jdk_42_method_154_code 18 = .ok (.ireturn, 1) := by decide +kernel
abbrev N11 : MethodName := ⟨"java/lang/String", "isLatin1", "()Z"⟩

abbrev rm_isl0 : Room := { frames := 0, cells := 0, slots := 0, locals := 0 }
set_option maxRecDepth 65536 in
set_option maxHeartbeats 4000000 in
theorem ct_isl0 (l : Launch) {Z : State} {n0 : Nat} {z : Int32} {f : Value} (W : Sx Z z f) (x : Addr) (h : Heap) (A : Exa Z h x "java/lang/String") (Fc : Fld Z h x "java/lang/String" "coder" "B" (.int 0)) :
    Ctr l Z n0 N11 jdk_42_method_154_code 1 (some .boolean) rm_isl0 #[(.ref x)] h [] (fun v h' sn => v = some (.int 1) ∧ h = h' ∧ sn = []) := by
  refine Ctr.of_go (ls := #[.val (.ref x)]) W.1.1 (plainFor_of_name pn_N9) (fun m => by first | (simp [entryFrame, mkF, argsToLocals, Value.category]; done) | rfl) (fun K H => ?_)
  refine Go.getstatic H d21_0 rfl w47 W.1.2.2.1 ?_
  refine Go.ifN H d21_3 (feq W.1.2.1).1 rfl ?_
  refine Go.aloadN H d21_6 rfl rfl rfl ?_
  refine Go.getfield H d21_7 rfl w32 Fc ?_
  refine Go.ifN H d21_10 (by decide) rfl ?_
  refine Go.iconst (1 : Int32) H d21_13 rfl rfl ?_
  refine Go.goto (pc' := 18) H d21_14 (by decide) (by decide) ?_
  exact Go.ireturn (1 : Int32) [] H d21_18 (by simp) (by decide) ⟨rfl, rfl, rfl⟩ all0 (by decide) (by decide)
theorem d21_17 : decode jdk_42_method_154_code 17 = .ok (.iconst 0, 1) := by decide +kernel

abbrev rm_isl1 : Room := { frames := 0, cells := 0, slots := 0, locals := 0 }
set_option maxRecDepth 65536 in
set_option maxHeartbeats 4000000 in
theorem ct_isl1 (l : Launch) {Z : State} {n0 : Nat} {z : Int32} {f : Value} (W : Sx Z z f) (x : Addr) (h : Heap) (A : Exa Z h x "java/lang/String") (Fc : Fld Z h x "java/lang/String" "coder" "B" (.int 1)) :
    Ctr l Z n0 N11 jdk_42_method_154_code 1 (some .boolean) rm_isl1 #[(.ref x)] h [] (fun v h' sn => v = some (.int 0) ∧ h = h' ∧ sn = []) := by
  refine Ctr.of_go (ls := #[.val (.ref x)]) W.1.1 (plainFor_of_name pn_N9) (fun m => by first | (simp [entryFrame, mkF, argsToLocals, Value.category]; done) | rfl) (fun K H => ?_)
  refine Go.getstatic H d21_0 rfl w47 W.1.2.2.1 ?_
  refine Go.ifN H d21_3 (feq W.1.2.1).1 rfl ?_
  refine Go.aloadN H d21_6 rfl rfl rfl ?_
  refine Go.getfield H d21_7 rfl w32 Fc ?_
  refine Go.ifY (pc' := 17) H d21_10 (by decide) (by decide) (by decide) ?_
  refine Go.iconst (0 : Int32) H d21_17 rfl rfl ?_
  exact Go.ireturn (0 : Int32) [] H d21_18 (by simp) (by decide) ⟨rfl, rfl, rfl⟩ all0 (by decide) (by decide)
theorem d9_0 : decode jdk_42_method_152_code 0 = .ok (.getstatic 38, 3) := by decide +kernel
theorem d9_3 : decode jdk_42_method_152_code 3 = .ok (.ifCond .eq 10, 3) := by decide +kernel
theorem d9_6 : decode jdk_42_method_152_code 6 = .ok (.aload_n 0, 1) := by decide +kernel
theorem d9_7 : decode jdk_42_method_152_code 7 = .ok (.getfield 15, 3) := by decide +kernel
theorem d9_10 : decode jdk_42_method_152_code 10 = .ok (.goto 4, 3) := by decide +kernel
theorem d9_14 : decode jdk_42_method_152_code 14 = .ok (.ireturn, 1) := by decide +kernel
abbrev N12 : MethodName := ⟨"java/lang/String", "coder", "()B"⟩

abbrev rm_cod0 : Room := { frames := 0, cells := 0, slots := 0, locals := 0 }
set_option maxRecDepth 65536 in
set_option maxHeartbeats 4000000 in
theorem ct_cod0 (l : Launch) {Z : State} {n0 : Nat} {z : Int32} {f : Value} (W : Sx Z z f) (x : Addr) (h : Heap) (A : Exa Z h x "java/lang/String") (Fc : Fld Z h x "java/lang/String" "coder" "B" (.int 0)) :
    Ctr l Z n0 N12 jdk_42_method_152_code 1 (some .byte) rm_cod0 #[(.ref x)] h [] (fun v h' sn => v = some (.int 0) ∧ h = h' ∧ sn = []) := by
  refine Ctr.of_go (ls := #[.val (.ref x)]) W.1.1 (plainFor_of_name pn_N9) (fun m => by first | (simp [entryFrame, mkF, argsToLocals, Value.category]; done) | rfl) (fun K H => ?_)
  refine Go.getstatic H d9_0 rfl w47 W.1.2.2.1 ?_
  refine Go.ifN H d9_3 (feq W.1.2.1).1 rfl ?_
  refine Go.aloadN H d9_6 rfl rfl rfl ?_
  refine Go.getfield H d9_7 rfl w32 Fc ?_
  refine Go.goto (pc' := 14) H d9_10 (by decide) (by decide) ?_
  exact Go.ireturn (0 : Int32) [] H d9_14 (by simp) (by decide) ⟨rfl, rfl, rfl⟩ all0 (by decide) (by decide)

abbrev rm_cod1 : Room := { frames := 0, cells := 0, slots := 0, locals := 0 }
set_option maxRecDepth 65536 in
set_option maxHeartbeats 4000000 in
theorem ct_cod1 (l : Launch) {Z : State} {n0 : Nat} {z : Int32} {f : Value} (W : Sx Z z f) (x : Addr) (h : Heap) (A : Exa Z h x "java/lang/String") (Fc : Fld Z h x "java/lang/String" "coder" "B" (.int 1)) :
    Ctr l Z n0 N12 jdk_42_method_152_code 1 (some .byte) rm_cod1 #[(.ref x)] h [] (fun v h' sn => v = some (.int 1) ∧ h = h' ∧ sn = []) := by
  refine Ctr.of_go (ls := #[.val (.ref x)]) W.1.1 (plainFor_of_name pn_N9) (fun m => by first | (simp [entryFrame, mkF, argsToLocals, Value.category]; done) | rfl) (fun K H => ?_)
  refine Go.getstatic H d9_0 rfl w47 W.1.2.2.1 ?_
  refine Go.ifN H d9_3 (feq W.1.2.1).1 rfl ?_
  refine Go.aloadN H d9_6 rfl rfl rfl ?_
  refine Go.getfield H d9_7 rfl w32 Fc ?_
  refine Go.goto (pc' := 14) H d9_10 (by decide) (by decide) ?_
  exact Go.ireturn (1 : Int32) [] H d9_14 (by simp) (by decide) ⟨rfl, rfl, rfl⟩ all0 (by decide) (by decide)
theorem d8_0 : decode jdk_42_method_54_code 0 = .ok (.aload_n 0, 1) := by decide +kernel
theorem d8_1 : decode jdk_42_method_54_code 1 = .ok (.getfield 9, 3) := by decide +kernel
theorem d8_4 : decode jdk_42_method_54_code 4 = .ok (.arraylength, 1) := by decide +kernel
theorem d8_5 : decode jdk_42_method_54_code 5 = .ok (.aload_n 0, 1) := by decide +kernel
theorem d8_6 : decode jdk_42_method_54_code 6 = .ok (.invokevirtual 335, 3) := by decide +kernel
theorem w46 : Jvm.Cond.code N12 jdk_42_method_152_code (1 : Nat) (Option.some Jvm.ClassFile.FieldType.byte) ∈ tables_1 := List.mem_of_getElem? (i := 46) rfl
theorem pd_N12 : parseMethodDescriptor N12.desc = some ⟨[], (some .byte)⟩ := by decide +kernel
theorem w42 : Jvm.Cond.methodLink "java/lang/String" (335 : Nat) N12 ∈ tables_1 := List.mem_of_getElem? (i := 42) rfl
theorem w43 : Jvm.Cond.declares N12 ∈ tables_1 := List.mem_of_getElem? (i := 43) rfl
theorem w45 : Jvm.Cond.selects "java/lang/String" N12 N12 ∈ tables_1 := List.mem_of_getElem? (i := 45) rfl
theorem w44 : Jvm.Cond.instanceMethod N12 ∈ tables_1 := List.mem_of_getElem? (i := 44) rfl
theorem d8_9 : decode jdk_42_method_54_code 9 = .ok (.ishr, 1) := by decide +kernel
theorem d8_10 : decode jdk_42_method_54_code 10 = .ok (.ireturn, 1) := by decide +kernel
abbrev N13 : MethodName := ⟨"java/lang/String", "length", "()I"⟩

abbrev rm_len : Room := { frames := 1, cells := 0, slots := 0, locals := 13 }
set_option maxRecDepth 65536 in
set_option maxHeartbeats 4000000 in
theorem ct_len (l : Launch) {Z : State} {n0 : Nat} {z : Int32} {f : Value} (W : Sx Z z f) (x b : Addr) (cs : List Int32) (h : Heap) (S : Stg Z h x b cs) :
    Ctr l Z n0 N13 jdk_42_method_54_code 1 (some .int) rm_len #[(.ref x)] h [] (fun v h' sn => v = some (.int cs.length.toInt32) ∧ h = h' ∧ sn = []) := by
  refine Ctr.of_go (ls := #[.val (.ref x)]) W.1.1 (plainFor_of_name pn_N9) (fun m => by first | (simp [entryFrame, mkF, argsToLocals, Value.category]; done) | rfl) (fun K H => ?_)
  rcases S with ⟨A, Fv, Fc, Fb, hL, hn⟩ | ⟨A, Fv, Fc, Fb, hC, hn, hX⟩
  ·
    refine Go.aloadN H d8_0 rfl rfl rfl ?_
    refine Go.getfield H d8_1 rfl w31 Fv ?_
    refine Go.arraylength cs.length.toInt32 H d8_4 rfl Fb (by rw [List.length_map]) ?_
    refine Go.aloadN H d8_5 rfl rfl rfl ?_
    refine Go.callV (rest := [(.int cs.length.toInt32)]) 1 [] H d8_6 rfl A w42 w43 w45 w44 w13 w46 pd_N12 (ct_cod0 l W x h A Fc) all0 rfl rfl rfl (Nat.le_of_eq rfl) (by decide) (by decide) (by decide) (by decide) nh_N9 ?_
    rintro _ _ _ ⟨rfl, rfl, rfl⟩
    show Go _ _ _ _ _ _ h [] 0 0 9 #[.val (.ref x)] [(.int (0 : Int32)), (.int cs.length.toInt32)]
    refine Go.ishr H d8_9 rfl ?_
    exact Go.ireturnI [] H d8_10 ⟨by rw [own_shr0], rfl, rfl⟩ all0 (by decide) (by decide)
  ·
    refine Go.aloadN H d8_0 rfl rfl rfl ?_
    refine Go.getfield H d8_1 rfl w31 Fv ?_
    refine Go.arraylength (2 * cs.length).toInt32 H d8_4 rfl Fb (by rw [enc16_len]) ?_
    refine Go.aloadN H d8_5 rfl rfl rfl ?_
    refine Go.callV (rest := [(.int (2 * cs.length).toInt32)]) 1 [] H d8_6 rfl A w42 w43 w45 w44 w13 w46 pd_N12 (ct_cod1 l W x h A Fc) all0 rfl rfl rfl (Nat.le_of_eq rfl) (by decide) (by decide) (by decide) (by decide) nh_N9 ?_
    rintro _ _ _ ⟨rfl, rfl, rfl⟩
    show Go _ _ _ _ _ _ h [] 0 0 9 #[.val (.ref x)] [(.int (1 : Int32)), (.int (2 * cs.length).toInt32)]
    refine Go.ishr H d8_9 rfl ?_
    exact Go.ireturnI [] H d8_10 ⟨by rw [own_ul hn], rfl, rfl⟩ all0 (by decide) (by decide)
theorem d26_0 : decode jdk_41_method_11_code 0 = .ok (.iload_n 0, 1) := by decide +kernel
theorem d26_1 : decode jdk_41_method_11_code 1 = .ok (.ifCond .lt 8, 3) := by decide +kernel
theorem d26_4 : decode jdk_41_method_11_code 4 = .ok (.iload_n 0, 1) := by decide +kernel
theorem d26_5 : decode jdk_41_method_11_code 5 = .ok (.iload_n 1, 1) := by decide +kernel
theorem d26_6 : decode jdk_41_method_11_code 6 = .ok (.if_icmp .lt 10, 3) := by decide +kernel
theorem d26_16 : decode jdk_41_method_11_code 16 = .ok (.iload_n 0, 1) := by decide +kernel
theorem d26_17 : decode jdk_41_method_11_code 17 = .ok (.ireturn, 1) := by decide +kernel
abbrev N14 : MethodName := ⟨"jdk/internal/util/Preconditions", "checkIndex", "(IILjava/util/function/BiFunction;)I"⟩
theorem pn_N14 : plainName N14.cls = true := by first | (simp [plainName, overriddenIn]; done) | decide +kernel

abbrev rm_pre : Room := { frames := 0, cells := 0, slots := 0, locals := 0 }
set_option maxRecDepth 65536 in
set_option maxHeartbeats 4000000 in
theorem ct_pre (l : Launch) {Z : State} {n0 : Nat} {z : Int32} {f : Value} (W : Sx Z z f) (i n : Int32) (h : Heap) (h0 : ¬ i < 0) (hi : i < n) :
    Ctr l Z n0 N14 jdk_41_method_11_code 3 (some .int) rm_pre #[(.int i), (.int n), f] h [] (fun v h' sn => v = some (.int i) ∧ h = h' ∧ sn = []) := by
  refine Ctr.of_go (ls := #[.val (.int i), .val (.int n), .val f]) W.1.1 (plainFor_of_name pn_N14) (fun m => (by rcases ref_cases W.1.2.2.2.1 with q | ⟨fa, q⟩ <;> rw [q] <;> rfl)) (fun K H => ?_)
  refine Go.iloadN H d26_0 rfl rfl ?_
  refine Go.ifN H d26_1 (flt h0).1 rfl ?_
  refine Go.iloadN H d26_4 rfl rfl ?_
  refine Go.iloadN H d26_5 rfl rfl ?_
  refine Go.icmpY (pc' := 16) H d26_6 (tlt hi).1 (by decide) (by decide) ?_
  refine Go.iloadN H d26_16 rfl rfl ?_
  exact Go.ireturnI [] H d26_17 ⟨rfl, rfl, rfl⟩ all0 (by decide) (by decide)
theorem d25_0 : decode jdk_42_method_155_code 0 = .ok (.iload_n 0, 1) := by decide +kernel
theorem d25_1 : decode jdk_42_method_155_code 1 = .ok (.iload_n 1, 1) := by decide +kernel
theorem d25_2 : decode jdk_42_method_155_code 2 = .ok (.getstatic 1053, 3) := by decide +kernel
theorem w105 : Jvm.Cond.fieldLink "java/lang/String" (1053 : Nat) "jdk/internal/util/Preconditions" "SIOOBE_FORMATTER" "Ljava/util/function/BiFunction;" ∈ tables_1 := List.mem_of_getElem? (i := 105) rfl
theorem d25_5 : decode jdk_42_method_155_code 5 = .ok (.invokestatic 1059, 3) := by decide +kernel
theorem w109 : Jvm.Cond.code N14 jdk_41_method_11_code (3 : Nat) (Option.some Jvm.ClassFile.FieldType.int) ∈ tables_1 := List.mem_of_getElem? (i := 109) rfl
theorem w106 : Jvm.Cond.initialized "jdk/internal/util/Preconditions" ∈ tables_1 := List.mem_of_getElem? (i := 106) rfl
theorem pd_N14 : parseMethodDescriptor N14.desc = some ⟨[.int, .int, (.object "java/util/function/BiFunction")], (some .int)⟩ := by decide +kernel
theorem nh_N14 : N14.cls ≠ "java/lang/invoke/MethodHandle" ∧ N14.cls ≠ "java/lang/invoke/VarHandle" := by decide
theorem w107 : Jvm.Cond.methodLink "java/lang/String" (1059 : Nat) N14 ∈ tables_1 := List.mem_of_getElem? (i := 107) rfl
theorem w108 : Jvm.Cond.static N14 ∈ tables_1 := List.mem_of_getElem? (i := 108) rfl
theorem d25_8 : decode jdk_42_method_155_code 8 = .ok (.pop, 1) := by decide +kernel
theorem d25_9 : decode jdk_42_method_155_code 9 = .ok (.return_, 1) := by decide +kernel
abbrev N15 : MethodName := ⟨"java/lang/String", "checkIndex", "(II)V"⟩

abbrev rm_chk : Room := { frames := 1, cells := 0, slots := 0, locals := 14 }
set_option maxRecDepth 65536 in
set_option maxHeartbeats 4000000 in
theorem ct_chk (l : Launch) {Z : State} {n0 : Nat} {z : Int32} {f : Value} (W : Sx Z z f) (i n : Int32) (h : Heap) (h0 : ¬ i < 0) (hi : i < n) :
    Ctr l Z n0 N15 jdk_42_method_155_code 2 none rm_chk #[(.int i), (.int n)] h [] (fun v h' sn => v = none ∧ h = h' ∧ sn = []) := by
  refine Ctr.of_go (ls := #[.val (.int i), .val (.int n)]) W.1.1 (plainFor_of_name pn_N9) (fun m => by first | (simp [entryFrame, mkF, argsToLocals, Value.category]; done) | rfl) (fun K H => ?_)
  refine Go.iloadN H d25_0 rfl rfl ?_
  refine Go.iloadN H d25_1 rfl rfl ?_
  refine Go.getstatic H d25_2 rfl w105 W.1.2.2.2.2 ?_
  refine Go.callS (rest := []) 0 [(.int i), (.int n), f] H d25_5 rfl w107 w108 w106 w109 pd_N14 (ct_pre l W i n h h0 hi) all0 rfl rfl rfl (Nat.le_of_eq rfl) (by decide) (by decide) (by decide) (by decide) nh_N14 ?_
  rintro _ _ _ ⟨rfl, rfl, rfl⟩
  show Go _ _ _ _ _ _ h [] 0 0 8 #[.val (.int i), .val (.int n)] [(.int i)]
  refine Go.pop H d25_8 rfl rfl ?_
  exact Go.return_ [] H d25_9 ⟨rfl, rfl, rfl⟩ all0 (by decide) (by decide)
theorem d28_0 : decode jdk_43_method_2_code 0 = .ok (.iload_n 1, 1) := by decide +kernel
theorem d28_1 : decode jdk_43_method_2_code 1 = .ok (.aload_n 0, 1) := by decide +kernel
theorem d28_2 : decode jdk_43_method_2_code 2 = .ok (.arraylength, 1) := by decide +kernel
theorem d28_3 : decode jdk_43_method_2_code 3 = .ok (.invokestatic 9, 3) := by decide +kernel
theorem w104 : Jvm.Cond.code N15 jdk_42_method_155_code (2 : Nat) (Option.none : Option Jvm.ClassFile.FieldType) ∈ tables_1 := List.mem_of_getElem? (i := 104) rfl
theorem pd_N15 : parseMethodDescriptor N15.desc = some ⟨[.int, .int], none⟩ := by decide +kernel
theorem w117 : Jvm.Cond.methodLink "java/lang/StringLatin1" (9 : Nat) N15 ∈ tables_1 := List.mem_of_getElem? (i := 117) rfl
theorem w103 : Jvm.Cond.static N15 ∈ tables_1 := List.mem_of_getElem? (i := 103) rfl
theorem d28_6 : decode jdk_43_method_2_code 6 = .ok (.aload_n 0, 1) := by decide +kernel
theorem d28_7 : decode jdk_43_method_2_code 7 = .ok (.iload_n 1, 1) := by decide +kernel
theorem d28_8 : decode jdk_43_method_2_code 8 = .ok (.baload, 1) := by decide +kernel
theorem d28_9 : decode jdk_43_method_2_code 9 = .ok (.sipush 255, 3) := by decide +kernel
theorem d28_12 : decode jdk_43_method_2_code 12 = .ok (.iand, 1) := by decide +kernel
theorem d28_13 : decode jdk_43_method_2_code 13 = .ok (.i2c, 1) := by decide +kernel
theorem d28_14 : decode jdk_43_method_2_code 14 = .ok (.ireturn, 1) := by decide +kernel
abbrev N16 : MethodName := ⟨"java/lang/StringLatin1", "charAt", "([BI)C"⟩
theorem pn_N16 : plainName N16.cls = true := by first | (simp [plainName, overriddenIn]; done) | decide +kernel

abbrev rm_lch : Room := { frames := 2, cells := 0, slots := 0, locals := 27 }
set_option maxRecDepth 65536 in
set_option maxHeartbeats 4000000 in
theorem ct_lch (l : Launch) {Z : State} {n0 : Nat} {z : Int32} {f : Value} (W : Sx Z z f) (b : Addr) (cs : List Int32) (i c : Int32) (ni : Nat) (h : Heap) (Fb : Vec Z h b .byte (cs.map (nar .byte))) (hL : ∀ c ∈ cs, isL c) (hn : cs.length < 2 ^ 31) (h0 : ¬ i < 0) (hi : i.toNatClampNeg = ni) (hc : cs[ni]? = some c) :
    Ctr l Z n0 N16 jdk_43_method_2_code 2 (some .char) rm_lch #[(.ref b), (.int i)] h [] (fun v h' sn => v = some (.int c) ∧ h = h' ∧ sn = []) := by
  refine Ctr.of_go (ls := #[.val (.ref b), .val (.int i)]) W.1.1 (plainFor_of_name pn_N16) (fun m => by first | (simp [entryFrame, mkF, argsToLocals, Value.category]; done) | rfl) (fun K H => ?_)
  refine Go.iloadN H d28_0 rfl rfl ?_
  refine Go.aloadN H d28_1 rfl rfl rfl ?_
  refine Go.arraylength cs.length.toInt32 H d28_2 rfl Fb (by rw [List.length_map]) ?_
  refine Go.callS (rest := []) 0 [(.int i), (.int cs.length.toInt32)] H d28_3 rfl w117 w103 w13 w104 pd_N15 (ct_chk l W i cs.length.toInt32 h h0 (own_ltn h0 hi hn (own_lenlt hc))) all0 rfl rfl rfl (Nat.le_of_eq rfl) (by decide) (by decide) (by decide) (by decide) nh_N9 ?_
  rintro _ _ _ ⟨rfl, rfl, rfl⟩
  show Go _ _ _ _ _ _ h [] 0 0 6 #[.val (.ref b), .val (.int i)] []
  refine Go.aloadN H d28_6 rfl rfl rfl ?_
  refine Go.iloadN H d28_7 rfl rfl ?_
  refine Go.baload (v := (nar .byte c)) H d28_8 rfl Fb ni hi h0 (own_getm hc) ?_
  refine Go.sipush (255 : Int32) H d28_9 rfl rfl ?_
  refine Go.iand H d28_12 rfl ?_
  refine Go.i2c H d28_13 rfl ?_
  exact Go.ireturn c [] H d28_14 (by simp) (own_nn.trans (own_back (hL c (List.mem_of_getElem? hc)))) ⟨rfl, rfl, rfl⟩ all0 (by decide) (by decide)
theorem d24_0 : decode jdk_52_method_6_code 0 = .ok (.aload_n 0, 1) := by decide +kernel
theorem d24_1 : decode jdk_52_method_6_code 1 = .ok (.arraylength, 1) := by decide +kernel
theorem d24_2 : decode jdk_52_method_6_code 2 = .ok (.iconst 1, 1) := by decide +kernel
theorem d24_3 : decode jdk_52_method_6_code 3 = .ok (.ishr, 1) := by decide +kernel
theorem d24_4 : decode jdk_52_method_6_code 4 = .ok (.ireturn, 1) := by decide +kernel
abbrev N17 : MethodName := ⟨"java/lang/StringUTF16", "length", "([B)I"⟩

abbrev rm_ulen : Room := { frames := 0, cells := 0, slots := 0, locals := 0 }
set_option maxRecDepth 65536 in
set_option maxHeartbeats 4000000 in
theorem ct_ulen (l : Launch) {Z : State} {n0 : Nat} {z : Int32} {f : Value} (W : Sx Z z f) (b : Addr) (cs : List Int32) (h : Heap) (Fb : Vec Z h b .byte (enc16 cs)) (hn : cs.length < 2 ^ 30) :
    Ctr l Z n0 N17 jdk_52_method_6_code 1 (some .int) rm_ulen #[(.ref b)] h [] (fun v h' sn => v = some (.int cs.length.toInt32) ∧ h = h' ∧ sn = []) := by
  refine Ctr.of_go (ls := #[.val (.ref b)]) W.1.1 (plainFor_of_name pn_N0) (fun m => by first | (simp [entryFrame, mkF, argsToLocals, Value.category]; done) | rfl) (fun K H => ?_)
  refine Go.aloadN H d24_0 rfl rfl rfl ?_
  refine Go.arraylength (2 * cs.length).toInt32 H d24_1 rfl Fb (by rw [enc16_len]) ?_
  refine Go.iconst (1 : Int32) H d24_2 rfl rfl ?_
  refine Go.ishr H d24_3 rfl ?_
  exact Go.ireturnI [] H d24_4 ⟨by rw [own_ul hn], rfl, rfl⟩ all0 (by decide) (by decide)
theorem d23_0 : decode jdk_52_method_91_code 0 = .ok (.iload_n 0, 1) := by decide +kernel
theorem d23_1 : decode jdk_52_method_91_code 1 = .ok (.aload_n 1, 1) := by decide +kernel
theorem d23_2 : decode jdk_52_method_91_code 2 = .ok (.invokestatic 48, 3) := by decide +kernel
theorem w101 : Jvm.Cond.code N17 jdk_52_method_6_code (1 : Nat) (Option.some Jvm.ClassFile.FieldType.int) ∈ tables_1 := List.mem_of_getElem? (i := 101) rfl
theorem pd_N17 : parseMethodDescriptor N17.desc = some ⟨[(.array .byte)], (some .int)⟩ := by decide +kernel
theorem w99 : Jvm.Cond.methodLink "java/lang/StringUTF16" (48 : Nat) N17 ∈ tables_1 := List.mem_of_getElem? (i := 99) rfl
theorem w100 : Jvm.Cond.static N17 ∈ tables_1 := List.mem_of_getElem? (i := 100) rfl
theorem d23_5 : decode jdk_52_method_91_code 5 = .ok (.invokestatic 414, 3) := by decide +kernel
theorem w102 : Jvm.Cond.methodLink "java/lang/StringUTF16" (414 : Nat) N15 ∈ tables_1 := List.mem_of_getElem? (i := 102) rfl
theorem d23_8 : decode jdk_52_method_91_code 8 = .ok (.return_, 1) := by decide +kernel
abbrev N18 : MethodName := ⟨"java/lang/StringUTF16", "checkIndex", "(I[B)V"⟩

abbrev rm_uchk : Room := { frames := 2, cells := 0, slots := 0, locals := 27 }
set_option maxRecDepth 65536 in
set_option maxHeartbeats 4000000 in
theorem ct_uchk (l : Launch) {Z : State} {n0 : Nat} {z : Int32} {f : Value} (W : Sx Z z f) (b : Addr) (cs : List Int32) (i c : Int32) (ni : Nat) (h : Heap) (Fb : Vec Z h b .byte (enc16 cs)) (hn : cs.length < 2 ^ 30) (h0 : ¬ i < 0) (hi : i.toNatClampNeg = ni) (hc : cs[ni]? = some c) :
    Ctr l Z n0 N18 jdk_52_method_91_code 2 none rm_uchk #[(.int i), (.ref b)] h [] (fun v h' sn => v = none ∧ h = h' ∧ sn = []) := by
  refine Ctr.of_go (ls := #[.val (.int i), .val (.ref b)]) W.1.1 (plainFor_of_name pn_N0) (fun m => by first | (simp [entryFrame, mkF, argsToLocals, Value.category]; done) | rfl) (fun K H => ?_)
  refine Go.iloadN H d23_0 rfl rfl ?_
  refine Go.aloadN H d23_1 rfl rfl rfl ?_
  refine Go.callS (rest := [(.int i)]) 1 [(.ref b)] H d23_2 rfl w99 w100 w50 w101 pd_N17 (ct_ulen l W b cs h Fb hn) all0 rfl rfl rfl (Nat.le_of_eq rfl) (by decide) (by decide) (by decide) (by decide) nh_N1 ?_
  rintro _ _ _ ⟨rfl, rfl, rfl⟩
  show Go _ _ _ _ _ _ h [] 0 0 5 #[.val (.int i), .val (.ref b)] [(.int cs.length.toInt32), (.int i)]
  refine Go.callS (rest := []) 0 [(.int i), (.int cs.length.toInt32)] H d23_5 rfl w102 w103 w13 w104 pd_N15 (ct_chk l W i cs.length.toInt32 h h0 (own_ltn h0 hi (by omega) (own_lenlt hc))) all0 rfl rfl rfl (Nat.le_of_eq rfl) (by decide) (by decide) (by decide) (by decide) nh_N9 ?_
  rintro _ _ _ ⟨rfl, rfl, rfl⟩
  show Go _ _ _ _ _ _ h [] 0 0 8 #[.val (.int i), .val (.ref b)] []
  exact Go.return_ [] H d23_8 ⟨rfl, rfl, rfl⟩ all0 (by decide) (by decide)
theorem d22_0 : decode jdk_52_method_83_code 0 = .ok (.iload_n 1, 1) := by decide +kernel
theorem d22_1 : decode jdk_52_method_83_code 1 = .ok (.aload_n 0, 1) := by decide +kernel
theorem d22_2 : decode jdk_52_method_83_code 2 = .ok (.invokestatic 67, 3) := by decide +kernel
theorem w98 : Jvm.Cond.code N18 jdk_52_method_91_code (2 : Nat) (Option.none : Option Jvm.ClassFile.FieldType) ∈ tables_1 := List.mem_of_getElem? (i := 98) rfl
theorem pd_N18 : parseMethodDescriptor N18.desc = some ⟨[.int, (.array .byte)], none⟩ := by decide +kernel
theorem w96 : Jvm.Cond.methodLink "java/lang/StringUTF16" (67 : Nat) N18 ∈ tables_1 := List.mem_of_getElem? (i := 96) rfl
theorem w97 : Jvm.Cond.static N18 ∈ tables_1 := List.mem_of_getElem? (i := 97) rfl
theorem d22_5 : decode jdk_52_method_83_code 5 = .ok (.aload_n 0, 1) := by decide +kernel
theorem d22_6 : decode jdk_52_method_83_code 6 = .ok (.iload_n 1, 1) := by decide +kernel
theorem d22_7 : decode jdk_52_method_83_code 7 = .ok (.invokestatic 71, 3) := by decide +kernel
theorem d22_10 : decode jdk_52_method_83_code 10 = .ok (.ireturn, 1) := by decide +kernel
abbrev N19 : MethodName := ⟨"java/lang/StringUTF16", "charAt", "([BI)C"⟩

abbrev rm_ucha : Room := { frames := 3, cells := 0, slots := 0, locals := 40 }
set_option maxRecDepth 65536 in
set_option maxHeartbeats 4000000 in
theorem ct_ucha (l : Launch) {Z : State} {n0 : Nat} {z : Int32} {f : Value} (W : Sx Z z f) (b : Addr) (cs : List Int32) (i c : Int32) (ni : Nat) (h : Heap) (Fb : Vec Z h b .byte (enc16 cs)) (hn : cs.length < 2 ^ 30) (h0 : ¬ i < 0) (hi : i.toNatClampNeg = ni) (hc : cs[ni]? = some c) (hC : ∀ c ∈ cs, isC c) :
    Ctr l Z n0 N19 jdk_52_method_83_code 2 (some .char) rm_ucha #[(.ref b), (.int i)] h [] (fun v h' sn => v = some (.int c) ∧ h = h' ∧ sn = []) := by
  refine Ctr.of_go (ls := #[.val (.ref b), .val (.int i)]) W.1.1 (plainFor_of_name pn_N0) (fun m => by first | (simp [entryFrame, mkF, argsToLocals, Value.category]; done) | rfl) (fun K H => ?_)
  obtain ⟨rfl, hi2⟩ := own_oflt h0 hi
  refine Go.iloadN H d22_0 rfl rfl ?_
  refine Go.aloadN H d22_1 rfl rfl rfl ?_
  refine Go.callS (rest := []) 0 [(.int ni.toInt32), (.ref b)] H d22_2 rfl w96 w97 w50 w98 pd_N18 (ct_uchk l W b cs ni.toInt32 c ni h Fb hn h0 hi hc) all0 rfl rfl rfl (Nat.le_of_eq rfl) (by decide) (by decide) (by decide) (by decide) nh_N1 ?_
  rintro _ _ _ ⟨rfl, rfl, rfl⟩
  show Go _ _ _ _ _ _ h [] 0 0 5 #[.val (.ref b), .val (.int ni.toInt32)] []
  refine Go.aloadN H d22_5 rfl rfl rfl ?_
  refine Go.iloadN H d22_6 rfl rfl ?_
  refine Go.callS (rest := []) 0 [(.ref b), (.int ni.toInt32)] H d22_7 rfl w74 w75 w50 w76 pd_N4 (ct_getc l W b cs ni c h Fb hc (hC c (List.mem_of_getElem? hc)) (by have := own_lenlt hc; omega)) all0 rfl rfl rfl (Nat.le_of_eq rfl) (by decide) (by decide) (by decide) (by decide) nh_N1 ?_
  rintro _ _ _ ⟨rfl, rfl, rfl⟩
  show Go _ _ _ _ _ _ h [] 0 0 10 #[.val (.ref b), .val (.int ni.toInt32)] [(.int c)]
  exact Go.ireturn c [] H d22_10 (by simp) (own_char (hC c (List.mem_of_getElem? hc))) ⟨rfl, rfl, rfl⟩ all0 (by decide) (by decide)
theorem d20_0 : decode jdk_42_method_56_code 0 = .ok (.aload_n 0, 1) := by decide +kernel
theorem d20_1 : decode jdk_42_method_56_code 1 = .ok (.invokevirtual 492, 3) := by decide +kernel
theorem w92 : Jvm.Cond.code N11 jdk_42_method_154_code (1 : Nat) (Option.some Jvm.ClassFile.FieldType.boolean) ∈ tables_1 := List.mem_of_getElem? (i := 92) rfl
theorem pd_N11 : parseMethodDescriptor N11.desc = some ⟨[], (some .boolean)⟩ := by decide +kernel
theorem w88 : Jvm.Cond.methodLink "java/lang/String" (492 : Nat) N11 ∈ tables_1 := List.mem_of_getElem? (i := 88) rfl
theorem w89 : Jvm.Cond.declares N11 ∈ tables_1 := List.mem_of_getElem? (i := 89) rfl
theorem w91 : Jvm.Cond.selects "java/lang/String" N11 N11 ∈ tables_1 := List.mem_of_getElem? (i := 91) rfl
theorem w90 : Jvm.Cond.instanceMethod N11 ∈ tables_1 := List.mem_of_getElem? (i := 90) rfl
theorem d20_4 : decode jdk_42_method_56_code 4 = .ok (.ifCond .eq 12, 3) := by decide +kernel
theorem d20_7 : decode jdk_42_method_56_code 7 = .ok (.aload_n 0, 1) := by decide +kernel
theorem d20_8 : decode jdk_42_method_56_code 8 = .ok (.getfield 9, 3) := by decide +kernel
theorem d20_11 : decode jdk_42_method_56_code 11 = .ok (.iload_n 1, 1) := by decide +kernel
theorem d20_12 : decode jdk_42_method_56_code 12 = .ok (.invokestatic 495, 3) := by decide +kernel
theorem w116 : Jvm.Cond.code N16 jdk_43_method_2_code (2 : Nat) (Option.some Jvm.ClassFile.FieldType.char) ∈ tables_1 := List.mem_of_getElem? (i := 116) rfl
theorem w115 : Jvm.Cond.initialized "java/lang/StringLatin1" ∈ tables_1 := List.mem_of_getElem? (i := 115) rfl
theorem pd_N16 : parseMethodDescriptor N16.desc = some ⟨[(.array .byte), .int], (some .char)⟩ := by decide +kernel
theorem nh_N16 : N16.cls ≠ "java/lang/invoke/MethodHandle" ∧ N16.cls ≠ "java/lang/invoke/VarHandle" := by decide
theorem w113 : Jvm.Cond.methodLink "java/lang/String" (495 : Nat) N16 ∈ tables_1 := List.mem_of_getElem? (i := 113) rfl
theorem w114 : Jvm.Cond.static N16 ∈ tables_1 := List.mem_of_getElem? (i := 114) rfl
theorem d20_15 : decode jdk_42_method_56_code 15 = .ok (.ireturn, 1) := by decide +kernel
theorem d20_16 : decode jdk_42_method_56_code 16 = .ok (.aload_n 0, 1) := by decide +kernel
theorem d20_17 : decode jdk_42_method_56_code 17 = .ok (.getfield 9, 3) := by decide +kernel
theorem d20_20 : decode jdk_42_method_56_code 20 = .ok (.iload_n 1, 1) := by decide +kernel
theorem d20_21 : decode jdk_42_method_56_code 21 = .ok (.invokestatic 498, 3) := by decide +kernel
theorem w95 : Jvm.Cond.code N19 jdk_52_method_83_code (2 : Nat) (Option.some Jvm.ClassFile.FieldType.char) ∈ tables_1 := List.mem_of_getElem? (i := 95) rfl
theorem pd_N19 : parseMethodDescriptor N19.desc = some ⟨[(.array .byte), .int], (some .char)⟩ := by decide +kernel
theorem w93 : Jvm.Cond.methodLink "java/lang/String" (498 : Nat) N19 ∈ tables_1 := List.mem_of_getElem? (i := 93) rfl
theorem w94 : Jvm.Cond.static N19 ∈ tables_1 := List.mem_of_getElem? (i := 94) rfl
theorem d20_24 : decode jdk_42_method_56_code 24 = .ok (.ireturn, 1) := by decide +kernel
abbrev N20 : MethodName := ⟨"java/lang/String", "charAt", "(I)C"⟩

abbrev rm_cha : Room := { frames := 4, cells := 0, slots := 0, locals := 53 }
set_option maxRecDepth 65536 in
set_option maxHeartbeats 4000000 in
theorem ct_cha (l : Launch) {Z : State} {n0 : Nat} {z : Int32} {f : Value} (W : Sx Z z f) (x b : Addr) (cs : List Int32) (i c : Int32) (ni : Nat) (h : Heap) (S : Stg Z h x b cs) (h0 : ¬ i < 0) (hi : i.toNatClampNeg = ni) (hc : cs[ni]? = some c) :
    Ctr l Z n0 N20 jdk_42_method_56_code 2 (some .char) rm_cha #[(.ref x), (.int i)] h [] (fun v h' sn => v = some (.int c) ∧ h = h' ∧ sn = []) := by
  refine Ctr.of_go (ls := #[.val (.ref x), .val (.int i)]) W.1.1 (plainFor_of_name pn_N9) (fun m => by first | (simp [entryFrame, mkF, argsToLocals, Value.category]; done) | rfl) (fun K H => ?_)
  have hCc := S.isC c (List.mem_of_getElem? hc)
  rcases S with ⟨A, Fv, Fc, Fb, hL, hn⟩ | ⟨A, Fv, Fc, Fb, hC, hn, hX⟩
  ·
    refine Go.aloadN H d20_0 rfl rfl rfl ?_
    refine Go.callV (rest := []) 0 [] H d20_1 rfl A w88 w89 w91 w90 w13 w92 pd_N11 (ct_isl0 l W x h A Fc) all0 rfl rfl rfl (Nat.le_of_eq rfl) (by decide) (by decide) (by decide) (by decide) nh_N9 ?_
    rintro _ _ _ ⟨rfl, rfl, rfl⟩
    show Go _ _ _ _ _ _ h [] 0 0 4 #[.val (.ref x), .val (.int i)] [(.int (1 : Int32))]
    refine Go.ifN H d20_4 (by decide) rfl ?_
    refine Go.aloadN H d20_7 rfl rfl rfl ?_
    refine Go.getfield H d20_8 rfl w31 Fv ?_
    refine Go.iloadN H d20_11 rfl rfl ?_
    refine Go.callS (rest := []) 0 [(.ref b), (.int i)] H d20_12 rfl w113 w114 w115 w116 pd_N16 (ct_lch l W b cs i c ni h Fb hL hn h0 hi hc) all0 rfl rfl rfl (Nat.le_of_eq rfl) (by decide) (by decide) (by decide) (by decide) nh_N16 ?_
    rintro _ _ _ ⟨rfl, rfl, rfl⟩
    show Go _ _ _ _ _ _ h [] 0 0 15 #[.val (.ref x), .val (.int i)] [(.int c)]
    exact Go.ireturn c [] H d20_15 (by simp) (own_char hCc) ⟨rfl, rfl, rfl⟩ all0 (by decide) (by decide)
  ·
    refine Go.aloadN H d20_0 rfl rfl rfl ?_
    refine Go.callV (rest := []) 0 [] H d20_1 rfl A w88 w89 w91 w90 w13 w92 pd_N11 (ct_isl1 l W x h A Fc) all0 rfl rfl rfl (Nat.le_of_eq rfl) (by decide) (by decide) (by decide) (by decide) nh_N9 ?_
    rintro _ _ _ ⟨rfl, rfl, rfl⟩
    show Go _ _ _ _ _ _ h [] 0 0 4 #[.val (.ref x), .val (.int i)] [(.int (0 : Int32))]
    refine Go.ifY (pc' := 16) H d20_4 (by decide) (by decide) (by decide) ?_
    refine Go.aloadN H d20_16 rfl rfl rfl ?_
    refine Go.getfield H d20_17 rfl w31 Fv ?_
    refine Go.iloadN H d20_20 rfl rfl ?_
    refine Go.callS (rest := []) 0 [(.ref b), (.int i)] H d20_21 rfl w93 w94 w50 w95 pd_N19 (ct_ucha l W b cs i c ni h Fb hn h0 hi hc hC) all0 rfl rfl rfl (Nat.le_of_eq rfl) (by decide) (by decide) (by decide) (by decide) nh_N1 ?_
    rintro _ _ _ ⟨rfl, rfl, rfl⟩
    show Go _ _ _ _ _ _ h [] 0 0 24 #[.val (.ref x), .val (.int i)] [(.int c)]
    exact Go.ireturn c [] H d20_24 (by simp) (own_char hCc) ⟨rfl, rfl, rfl⟩ all0 (by decide) (by decide)
def tchF (x : Int64) (i : Int32) (k : Int32) : Int32 := if (((k.toUInt32 >>> (((5 : Int32) + i) &&& 31).toUInt32).toInt32) &&& (1 : Int32)) = (0 : Int32) then (nar .char (((x.toUInt64 >>> (((16 : Int32) * i) &&& 0x3f).toInt64.toUInt64).toInt64) &&& (65535 : Int64)).toInt32) else (nar .char ((((x.toUInt64 >>> (((16 : Int32) * i) &&& 0x3f).toInt64.toUInt64).toInt64) &&& (65535 : Int64)).toInt32 &&& (127 : Int32)))
theorem d1_0 : decode method_3_code 0 = .ok (.lload_n 0, 1) := by decide +kernel
theorem d1_1 : decode method_3_code 1 = .ok (.bipush 16, 2) := by decide +kernel
theorem d1_3 : decode method_3_code 3 = .ok (.iload_n 2, 1) := by decide +kernel
theorem d1_4 : decode method_3_code 4 = .ok (.imul, 1) := by decide +kernel
theorem d1_5 : decode method_3_code 5 = .ok (.lushr, 1) := by decide +kernel
theorem d1_6 : decode method_3_code 6 = .ok (.ldc2_w 31, 3) := by decide +kernel
theorem w4 : Jvm.Cond.constantLong "com/example/rendezpoint/rendezpoint/core/NameEqualIgnoringCasePinLaw" (31 : Nat) (65535 : Int64) ∈ tables_1 := List.mem_of_getElem? (i := 4) rfl
theorem d1_9 : decode method_3_code 9 = .ok (.land, 1) := by decide +kernel
theorem d1_10 : decode method_3_code 10 = .ok (.l2i, 1) := by decide +kernel
theorem d1_11 : decode method_3_code 11 = .ok (.istore 4, 2) := by decide +kernel
theorem d1_13 : decode method_3_code 13 = .ok (.iload_n 3, 1) := by decide +kernel
theorem d1_14 : decode method_3_code 14 = .ok (.iconst 5, 1) := by decide +kernel
theorem d1_15 : decode method_3_code 15 = .ok (.iload_n 2, 1) := by decide +kernel
theorem d1_16 : decode method_3_code 16 = .ok (.iadd, 1) := by decide +kernel
theorem d1_17 : decode method_3_code 17 = .ok (.iushr, 1) := by decide +kernel
theorem d1_18 : decode method_3_code 18 = .ok (.iconst 1, 1) := by decide +kernel
theorem d1_19 : decode method_3_code 19 = .ok (.iand, 1) := by decide +kernel
theorem d1_20 : decode method_3_code 20 = .ok (.ifCond .eq 10, 3) := by decide +kernel
theorem d1_30 : decode method_3_code 30 = .ok (.iload 4, 2) := by decide +kernel
theorem d1_32 : decode method_3_code 32 = .ok (.i2c, 1) := by decide +kernel
theorem d1_33 : decode method_3_code 33 = .ok (.ireturn, 1) := by decide +kernel
theorem d1_23 : decode method_3_code 23 = .ok (.iload 4, 2) := by decide +kernel
theorem d1_25 : decode method_3_code 25 = .ok (.bipush 127, 2) := by decide +kernel
theorem d1_27 : decode method_3_code 27 = .ok (.iand, 1) := by decide +kernel
theorem d1_28 : decode method_3_code 28 = .ok (.istore 4, 2) := by decide +kernel
abbrev N21 : MethodName := ⟨"com/example/rendezpoint/rendezpoint/core/NameEqualIgnoringCasePinLaw", "textChar", "(JII)C"⟩
theorem pn_N21 : plainName N21.cls = true := by first | (simp [plainName, overriddenIn]; done) | decide +kernel

abbrev rm_tch : Room := { frames := 0, cells := 0, slots := 0, locals := 0 }
set_option maxRecDepth 65536 in
set_option maxHeartbeats 4000000 in
theorem ct_tch (l : Launch) {Z : State} {n0 : Nat} {z : Int32} {f : Value} (W : Sx Z z f) (x : Int64) (i : Int32) (k : Int32) (h : Heap) :
    Ctr l Z n0 N21 method_3_code 5 (some .char) rm_tch #[(.long x), (.int i), (.int k)] h [] (fun v h' sn => v = some (.int (tchF x i k)) ∧ h = h' ∧ sn = []) := by
  refine Ctr.of_go (ls := #[.val (.long x), .second, .val (.int i), .val (.int k), .unset]) W.1.1 (plainFor_of_name pn_N21) (fun m => by first | (simp [entryFrame, mkF, argsToLocals, Value.category]; done) | rfl) (fun K H => ?_)
  refine Go.lloadN H d1_0 rfl rfl ?_
  refine Go.bipush (16 : Int32) H d1_1 rfl rfl ?_
  refine Go.iloadN H d1_3 rfl rfl ?_
  refine Go.imul H d1_4 rfl ?_
  refine Go.lushr H d1_5 rfl ?_
  refine Go.ldc2 H d1_6 rfl w4 ?_
  refine Go.land H d1_9 rfl ?_
  refine Go.l2i H d1_10 rfl ?_
  refine Go.istore (ls' := #[.val (.long x), .second, .val (.int i), .val (.int k), .val (.int (((x.toUInt64 >>> (((16 : Int32) * i) &&& 0x3f).toInt64.toUInt64).toInt64) &&& (65535 : Int64)).toInt32)]) H d1_11 rfl rfl ?_
  refine Go.iloadN H d1_13 rfl rfl ?_
  refine Go.iconst (5 : Int32) H d1_14 rfl rfl ?_
  refine Go.iloadN H d1_15 rfl rfl ?_
  refine Go.iadd H d1_16 rfl ?_
  refine Go.iushr H d1_17 rfl ?_
  refine Go.iconst (1 : Int32) H d1_18 rfl rfl ?_
  refine Go.iand H d1_19 rfl ?_
  by_cases c1 : (((k.toUInt32 >>> (((5 : Int32) + i) &&& 31).toUInt32).toInt32) &&& (1 : Int32)) = (0 : Int32)
  ·
    refine Go.ifY (pc' := 30) H d1_20 (teq c1).1 (by decide) (by decide) ?_
    refine Go.iload H d1_30 rfl rfl ?_
    refine Go.i2c H d1_32 rfl ?_
    exact Go.ireturn (nar .char (((x.toUInt64 >>> (((16 : Int32) * i) &&& 0x3f).toInt64.toUInt64).toInt64) &&& (65535 : Int64)).toInt32) [] H d1_33 (by simp) own_nn ⟨congrArg (fun q => some (Value.int q)) (show (nar .char (((x.toUInt64 >>> (((16 : Int32) * i) &&& 0x3f).toInt64.toUInt64).toInt64) &&& (65535 : Int64)).toInt32) = tchF x i k from Eq.symm (by rw [tchF, if_pos c1])), rfl, rfl⟩ all0 (by decide) (by decide)
  ·
    refine Go.ifN H d1_20 (feq c1).1 rfl ?_
    refine Go.iload H d1_23 rfl rfl ?_
    refine Go.bipush (127 : Int32) H d1_25 rfl rfl ?_
    refine Go.iand H d1_27 rfl ?_
    refine Go.istore (ls' := #[.val (.long x), .second, .val (.int i), .val (.int k), .val (.int ((((x.toUInt64 >>> (((16 : Int32) * i) &&& 0x3f).toInt64.toUInt64).toInt64) &&& (65535 : Int64)).toInt32 &&& (127 : Int32)))]) H d1_28 rfl rfl ?_
    refine Go.iload H d1_30 rfl rfl ?_
    refine Go.i2c H d1_32 rfl ?_
    exact Go.ireturn (nar .char ((((x.toUInt64 >>> (((16 : Int32) * i) &&& 0x3f).toInt64.toUInt64).toInt64) &&& (65535 : Int64)).toInt32 &&& (127 : Int32))) [] H d1_33 (by simp) own_nn ⟨congrArg (fun q => some (Value.int q)) (show (nar .char ((((x.toUInt64 >>> (((16 : Int32) * i) &&& 0x3f).toInt64.toUInt64).toInt64) &&& (65535 : Int64)).toInt32 &&& (127 : Int32))) = tchF x i k from Eq.symm (by rw [tchF, if_neg c1])), rfl, rfl⟩ all0 (by decide) (by decide)
theorem tchF_k (x : Int64) (i : Int32) (k : Int32) : isC (tchF x i k) := by
  unfold tchF
  repeat' split
  all_goals exact own_isC _
theorem tchF_c (x : Int64) (i : Int32) (k : Int32) : nar .char (tchF x i k) = tchF x i k := own_char (tchF_k x i k)
def ochF (t : Int32) (x : Int64) (i : Int32) (k : Int32) : Int32 := if (((k.toUInt32 >>> (((8 : Int32) + ((2 : Int32) * i)) &&& 31).toUInt32).toInt32) &&& (3 : Int32)) = (1 : Int32) then (nar .char t) else if (((k.toUInt32 >>> (((8 : Int32) + ((2 : Int32) * i)) &&& 31).toUInt32).toInt32) &&& (3 : Int32)) = (2 : Int32) then (nar .char (t ^^^ (32 : Int32))) else if (((k.toUInt32 >>> (((8 : Int32) + ((2 : Int32) * i)) &&& 31).toUInt32).toInt32) &&& (3 : Int32)) = (3 : Int32) then (nar .char ((((x.toUInt64 >>> (((16 : Int32) * i) &&& 0x3f).toInt64.toUInt64).toInt64) &&& (65535 : Int64)).toInt32 &&& (127 : Int32))) else (nar .char (((x.toUInt64 >>> (((16 : Int32) * i) &&& 0x3f).toInt64.toUInt64).toInt64) &&& (65535 : Int64)).toInt32)
theorem d2_0 : decode method_4_code 0 = .ok (.lload_n 1, 1) := by decide +kernel
theorem d2_1 : decode method_4_code 1 = .ok (.bipush 16, 2) := by decide +kernel
theorem d2_3 : decode method_4_code 3 = .ok (.iload_n 3, 1) := by decide +kernel
theorem d2_4 : decode method_4_code 4 = .ok (.imul, 1) := by decide +kernel
theorem d2_5 : decode method_4_code 5 = .ok (.lushr, 1) := by decide +kernel
theorem d2_6 : decode method_4_code 6 = .ok (.ldc2_w 31, 3) := by decide +kernel
theorem d2_9 : decode method_4_code 9 = .ok (.land, 1) := by decide +kernel
theorem d2_10 : decode method_4_code 10 = .ok (.l2i, 1) := by decide +kernel
theorem d2_11 : decode method_4_code 11 = .ok (.istore 5, 2) := by decide +kernel
theorem d2_13 : decode method_4_code 13 = .ok (.iload 4, 2) := by decide +kernel
theorem d2_15 : decode method_4_code 15 = .ok (.bipush 8, 2) := by decide +kernel
theorem d2_17 : decode method_4_code 17 = .ok (.iconst 2, 1) := by decide +kernel
theorem d2_18 : decode method_4_code 18 = .ok (.iload_n 3, 1) := by decide +kernel
theorem d2_19 : decode method_4_code 19 = .ok (.imul, 1) := by decide +kernel
theorem d2_20 : decode method_4_code 20 = .ok (.iadd, 1) := by decide +kernel
theorem d2_21 : decode method_4_code 21 = .ok (.iushr, 1) := by decide +kernel
theorem d2_22 : decode method_4_code 22 = .ok (.iconst 3, 1) := by decide +kernel
theorem d2_23 : decode method_4_code 23 = .ok (.iand, 1) := by decide +kernel
theorem d2_24 : decode method_4_code 24 = .ok (.istore 6, 2) := by decide +kernel
theorem d2_26 : decode method_4_code 26 = .ok (.iload 6, 2) := by decide +kernel
theorem d2_28 : decode method_4_code 28 = .ok (.iconst 1, 1) := by decide +kernel
theorem d2_29 : decode method_4_code 29 = .ok (.if_icmp .ne 5, 3) := by decide +kernel
theorem d2_32 : decode method_4_code 32 = .ok (.iload_n 0, 1) := by decide +kernel
theorem d2_33 : decode method_4_code 33 = .ok (.ireturn, 1) := by decide +kernel
theorem d2_34 : decode method_4_code 34 = .ok (.iload 6, 2) := by decide +kernel
theorem d2_36 : decode method_4_code 36 = .ok (.iconst 2, 1) := by decide +kernel
theorem d2_37 : decode method_4_code 37 = .ok (.if_icmp .ne 9, 3) := by decide +kernel
theorem d2_40 : decode method_4_code 40 = .ok (.iload_n 0, 1) := by decide +kernel
theorem d2_41 : decode method_4_code 41 = .ok (.bipush 32, 2) := by decide +kernel
theorem d2_43 : decode method_4_code 43 = .ok (.ixor, 1) := by decide +kernel
theorem d2_44 : decode method_4_code 44 = .ok (.i2c, 1) := by decide +kernel
theorem d2_45 : decode method_4_code 45 = .ok (.ireturn, 1) := by decide +kernel
theorem d2_46 : decode method_4_code 46 = .ok (.iload 6, 2) := by decide +kernel
theorem d2_48 : decode method_4_code 48 = .ok (.iconst 3, 1) := by decide +kernel
theorem d2_49 : decode method_4_code 49 = .ok (.if_icmp .ne 10, 3) := by decide +kernel
theorem d2_52 : decode method_4_code 52 = .ok (.iload 5, 2) := by decide +kernel
theorem d2_54 : decode method_4_code 54 = .ok (.bipush 127, 2) := by decide +kernel
theorem d2_56 : decode method_4_code 56 = .ok (.iand, 1) := by decide +kernel
theorem d2_57 : decode method_4_code 57 = .ok (.i2c, 1) := by decide +kernel
theorem d2_58 : decode method_4_code 58 = .ok (.ireturn, 1) := by decide +kernel
theorem d2_59 : decode method_4_code 59 = .ok (.iload 5, 2) := by decide +kernel
theorem d2_61 : decode method_4_code 61 = .ok (.i2c, 1) := by decide +kernel
theorem d2_62 : decode method_4_code 62 = .ok (.ireturn, 1) := by decide +kernel
abbrev N22 : MethodName := ⟨"com/example/rendezpoint/rendezpoint/core/NameEqualIgnoringCasePinLaw", "otherChar", "(CJII)C"⟩

abbrev rm_och : Room := { frames := 0, cells := 0, slots := 0, locals := 0 }
set_option maxRecDepth 65536 in
set_option maxHeartbeats 4000000 in
theorem ct_och (l : Launch) {Z : State} {n0 : Nat} {z : Int32} {f : Value} (W : Sx Z z f) (t : Int32) (x : Int64) (i : Int32) (k : Int32) (h : Heap) :
    Ctr l Z n0 N22 method_4_code 7 (some .char) rm_och #[(.int t), (.long x), (.int i), (.int k)] h [] (fun v h' sn => v = some (.int (ochF t x i k)) ∧ h = h' ∧ sn = []) := by
  refine Ctr.of_go (ls := #[.val (.int t), .val (.long x), .second, .val (.int i), .val (.int k), .unset, .unset]) W.1.1 (plainFor_of_name pn_N21) (fun m => by first | (simp [entryFrame, mkF, argsToLocals, Value.category]; done) | rfl) (fun K H => ?_)
  refine Go.lloadN H d2_0 rfl rfl ?_
  refine Go.bipush (16 : Int32) H d2_1 rfl rfl ?_
  refine Go.iloadN H d2_3 rfl rfl ?_
  refine Go.imul H d2_4 rfl ?_
  refine Go.lushr H d2_5 rfl ?_
  refine Go.ldc2 H d2_6 rfl w4 ?_
  refine Go.land H d2_9 rfl ?_
  refine Go.l2i H d2_10 rfl ?_
  refine Go.istore (ls' := #[.val (.int t), .val (.long x), .second, .val (.int i), .val (.int k), .val (.int (((x.toUInt64 >>> (((16 : Int32) * i) &&& 0x3f).toInt64.toUInt64).toInt64) &&& (65535 : Int64)).toInt32), .unset]) H d2_11 rfl rfl ?_
  refine Go.iload H d2_13 rfl rfl ?_
  refine Go.bipush (8 : Int32) H d2_15 rfl rfl ?_
  refine Go.iconst (2 : Int32) H d2_17 rfl rfl ?_
  refine Go.iloadN H d2_18 rfl rfl ?_
  refine Go.imul H d2_19 rfl ?_
  refine Go.iadd H d2_20 rfl ?_
  refine Go.iushr H d2_21 rfl ?_
  refine Go.iconst (3 : Int32) H d2_22 rfl rfl ?_
  refine Go.iand H d2_23 rfl ?_
  refine Go.istore (ls' := #[.val (.int t), .val (.long x), .second, .val (.int i), .val (.int k), .val (.int (((x.toUInt64 >>> (((16 : Int32) * i) &&& 0x3f).toInt64.toUInt64).toInt64) &&& (65535 : Int64)).toInt32), .val (.int (((k.toUInt32 >>> (((8 : Int32) + ((2 : Int32) * i)) &&& 31).toUInt32).toInt32) &&& (3 : Int32)))]) H d2_24 rfl rfl ?_
  refine Go.iload H d2_26 rfl rfl ?_
  refine Go.iconst (1 : Int32) H d2_28 rfl rfl ?_
  by_cases c1 : (((k.toUInt32 >>> (((8 : Int32) + ((2 : Int32) * i)) &&& 31).toUInt32).toInt32) &&& (3 : Int32)) = (1 : Int32)
  ·
    refine Go.icmpN H d2_29 (teq c1).2 rfl ?_
    refine Go.iloadN H d2_32 rfl rfl ?_
    exact Go.ireturn (nar .char t) [] H d2_33 (by simp) rfl ⟨congrArg (fun q => some (Value.int q)) (show (nar .char t) = ochF t x i k from Eq.symm (by rw [ochF, if_pos c1])), rfl, rfl⟩ all0 (by decide) (by decide)
  ·
    refine Go.icmpY (pc' := 34) H d2_29 (feq c1).2 (by decide) (by decide) ?_
    refine Go.iload H d2_34 rfl rfl ?_
    refine Go.iconst (2 : Int32) H d2_36 rfl rfl ?_
    by_cases c2 : (((k.toUInt32 >>> (((8 : Int32) + ((2 : Int32) * i)) &&& 31).toUInt32).toInt32) &&& (3 : Int32)) = (2 : Int32)
    ·
      refine Go.icmpN H d2_37 (teq c2).2 rfl ?_
      refine Go.iloadN H d2_40 rfl rfl ?_
      refine Go.bipush (32 : Int32) H d2_41 rfl rfl ?_
      refine Go.ixor H d2_43 rfl ?_
      refine Go.i2c H d2_44 rfl ?_
      exact Go.ireturn (nar .char (t ^^^ (32 : Int32))) [] H d2_45 (by simp) own_nn ⟨congrArg (fun q => some (Value.int q)) (show (nar .char (t ^^^ (32 : Int32))) = ochF t x i k from Eq.symm (by rw [ochF, if_neg c1, if_pos c2])), rfl, rfl⟩ all0 (by decide) (by decide)
    ·
      refine Go.icmpY (pc' := 46) H d2_37 (feq c2).2 (by decide) (by decide) ?_
      refine Go.iload H d2_46 rfl rfl ?_
      refine Go.iconst (3 : Int32) H d2_48 rfl rfl ?_
      by_cases c3 : (((k.toUInt32 >>> (((8 : Int32) + ((2 : Int32) * i)) &&& 31).toUInt32).toInt32) &&& (3 : Int32)) = (3 : Int32)
      ·
        refine Go.icmpN H d2_49 (teq c3).2 rfl ?_
        refine Go.iload H d2_52 rfl rfl ?_
        refine Go.bipush (127 : Int32) H d2_54 rfl rfl ?_
        refine Go.iand H d2_56 rfl ?_
        refine Go.i2c H d2_57 rfl ?_
        exact Go.ireturn (nar .char ((((x.toUInt64 >>> (((16 : Int32) * i) &&& 0x3f).toInt64.toUInt64).toInt64) &&& (65535 : Int64)).toInt32 &&& (127 : Int32))) [] H d2_58 (by simp) own_nn ⟨congrArg (fun q => some (Value.int q)) (show (nar .char ((((x.toUInt64 >>> (((16 : Int32) * i) &&& 0x3f).toInt64.toUInt64).toInt64) &&& (65535 : Int64)).toInt32 &&& (127 : Int32))) = ochF t x i k from Eq.symm (by rw [ochF, if_neg c1, if_neg c2, if_pos c3])), rfl, rfl⟩ all0 (by decide) (by decide)
      ·
        refine Go.icmpY (pc' := 59) H d2_49 (feq c3).2 (by decide) (by decide) ?_
        refine Go.iload H d2_59 rfl rfl ?_
        refine Go.i2c H d2_61 rfl ?_
        exact Go.ireturn (nar .char (((x.toUInt64 >>> (((16 : Int32) * i) &&& 0x3f).toInt64.toUInt64).toInt64) &&& (65535 : Int64)).toInt32) [] H d2_62 (by simp) own_nn ⟨congrArg (fun q => some (Value.int q)) (show (nar .char (((x.toUInt64 >>> (((16 : Int32) * i) &&& 0x3f).toInt64.toUInt64).toInt64) &&& (65535 : Int64)).toInt32) = ochF t x i k from Eq.symm (by rw [ochF, if_neg c1, if_neg c2, if_neg c3])), rfl, rfl⟩ all0 (by decide) (by decide)
theorem ochF_k (t : Int32) (x : Int64) (i : Int32) (k : Int32) : isC (ochF t x i k) := by
  unfold ochF
  repeat' split
  all_goals exact own_isC _
theorem ochF_c (t : Int32) (x : Int64) (i : Int32) (k : Int32) : nar .char (ochF t x i k) = ochF t x i k := own_char (ochF_k t x i k)
def isuF (c : Int32) : Int32 := if c < (65 : Int32) then (0 : Int32) else if (90 : Int32) < c then (0 : Int32) else (1 : Int32)
theorem d19_0 : decode method_5_code 0 = .ok (.iload_n 0, 1) := by decide +kernel
theorem d19_1 : decode method_5_code 1 = .ok (.bipush 65, 2) := by decide +kernel
theorem d19_3 : decode method_5_code 3 = .ok (.if_icmp .lt 13, 3) := by decide +kernel
theorem d19_16 : decode method_5_code 16 = .ok (.iconst 0, 1) := by decide +kernel
theorem d19_17 : decode method_5_code 17 = .ok (.ireturn, 1) := by decide +kernel
theorem d19_6 : decode method_5_code 6 = .ok (.iload_n 0, 1) := by decide +kernel
theorem d19_7 : decode method_5_code 7 = .ok (.bipush 90, 2) := by decide +kernel
theorem d19_9 : decode method_5_code 9 = .ok (.if_icmp .gt 7, 3) := by decide +kernel
theorem d19_12 : decode method_5_code 12 = .ok (.iconst 1, 1) := by decide +kernel
theorem d19_13 : decode method_5_code 13 = .ok (.goto 4, 3) := by decide +kernel
abbrev N23 : MethodName := ⟨"com/example/rendezpoint/rendezpoint/core/NameEqualIgnoringCasePinLaw", "isUpper", "(C)Z"⟩

abbrev rm_isu : Room := { frames := 0, cells := 0, slots := 0, locals := 0 }
set_option maxRecDepth 65536 in
set_option maxHeartbeats 4000000 in
theorem ct_isu (l : Launch) {Z : State} {n0 : Nat} {z : Int32} {f : Value} (W : Sx Z z f) (c : Int32) (h : Heap) :
    Ctr l Z n0 N23 method_5_code 1 (some .boolean) rm_isu #[(.int c)] h [] (fun v h' sn => v = some (.int (isuF c)) ∧ h = h' ∧ sn = []) := by
  refine Ctr.of_go (ls := #[.val (.int c)]) W.1.1 (plainFor_of_name pn_N21) (fun m => by first | (simp [entryFrame, mkF, argsToLocals, Value.category]; done) | rfl) (fun K H => ?_)
  refine Go.iloadN H d19_0 rfl rfl ?_
  refine Go.bipush (65 : Int32) H d19_1 rfl rfl ?_
  by_cases c1 : c < (65 : Int32)
  ·
    refine Go.icmpY (pc' := 16) H d19_3 (tlt c1).1 (by decide) (by decide) ?_
    refine Go.iconst (0 : Int32) H d19_16 rfl rfl ?_
    exact Go.ireturn (0 : Int32) [] H d19_17 (by simp) (by decide) ⟨congrArg (fun q => some (Value.int q)) (show (0 : Int32) = isuF c from Eq.symm (by rw [isuF, if_pos c1])), rfl, rfl⟩ all0 (by decide) (by decide)
  ·
    refine Go.icmpN H d19_3 (flt c1).1 rfl ?_
    refine Go.iloadN H d19_6 rfl rfl ?_
    refine Go.bipush (90 : Int32) H d19_7 rfl rfl ?_
    by_cases c2 : (90 : Int32) < c
    ·
      refine Go.icmpY (pc' := 16) H d19_9 (tlt c2).2.2.1 (by decide) (by decide) ?_
      refine Go.iconst (0 : Int32) H d19_16 rfl rfl ?_
      exact Go.ireturn (0 : Int32) [] H d19_17 (by simp) (by decide) ⟨congrArg (fun q => some (Value.int q)) (show (0 : Int32) = isuF c from Eq.symm (by rw [isuF, if_neg c1, if_pos c2])), rfl, rfl⟩ all0 (by decide) (by decide)
    ·
      refine Go.icmpN H d19_9 (flt c2).2.2.1 rfl ?_
      refine Go.iconst (1 : Int32) H d19_12 rfl rfl ?_
      refine Go.goto (pc' := 17) H d19_13 (by decide) (by decide) ?_
      exact Go.ireturn (1 : Int32) [] H d19_17 (by simp) (by decide) ⟨congrArg (fun q => some (Value.int q)) (show (1 : Int32) = isuF c from Eq.symm (by rw [isuF, if_neg c1, if_neg c2])), rfl, rfl⟩ all0 (by decide) (by decide)
def mF (a : Int32) (b : Int32) : Int32 := if a = b then (1 : Int32) else if (isuF a) = (0 : Int32) then if (isuF b) = (0 : Int32) then (0 : Int32) else if a = (b + (32 : Int32)) then (1 : Int32) else (0 : Int32) else if b = (a + (32 : Int32)) then (1 : Int32) else if (isuF b) = (0 : Int32) then (0 : Int32) else if a = (b + (32 : Int32)) then (1 : Int32) else (0 : Int32)
theorem d18_0 : decode method_6_code 0 = .ok (.iload_n 0, 1) := by decide +kernel
theorem d18_1 : decode method_6_code 1 = .ok (.iload_n 1, 1) := by decide +kernel
theorem d18_2 : decode method_6_code 2 = .ok (.if_icmp .ne 5, 3) := by decide +kernel
theorem d18_5 : decode method_6_code 5 = .ok (.iconst 1, 1) := by decide +kernel
theorem d18_6 : decode method_6_code 6 = .ok (.ireturn, 1) := by decide +kernel
theorem d18_7 : decode method_6_code 7 = .ok (.iload_n 0, 1) := by decide +kernel
theorem d18_8 : decode method_6_code 8 = .ok (.invokestatic 33, 3) := by decide +kernel
theorem w82 : Jvm.Cond.code N23 method_5_code (1 : Nat) (Option.some Jvm.ClassFile.FieldType.boolean) ∈ tables_1 := List.mem_of_getElem? (i := 82) rfl
theorem w2 : Jvm.Cond.initialized "com/example/rendezpoint/rendezpoint/core/NameEqualIgnoringCasePinLaw" ∈ tables_1 := List.mem_of_getElem? (i := 2) rfl
theorem pd_N23 : parseMethodDescriptor N23.desc = some ⟨[.char], (some .boolean)⟩ := by decide +kernel
theorem nh_N23 : N23.cls ≠ "java/lang/invoke/MethodHandle" ∧ N23.cls ≠ "java/lang/invoke/VarHandle" := by decide
theorem w80 : Jvm.Cond.methodLink "com/example/rendezpoint/rendezpoint/core/NameEqualIgnoringCasePinLaw" (33 : Nat) N23 ∈ tables_1 := List.mem_of_getElem? (i := 80) rfl
theorem w81 : Jvm.Cond.static N23 ∈ tables_1 := List.mem_of_getElem? (i := 81) rfl
theorem d18_11 : decode method_6_code 11 = .ok (.ifCond .eq 13, 3) := by decide +kernel
theorem d18_24 : decode method_6_code 24 = .ok (.iload_n 1, 1) := by decide +kernel
theorem d18_25 : decode method_6_code 25 = .ok (.invokestatic 33, 3) := by decide +kernel
theorem d18_28 : decode method_6_code 28 = .ok (.ifCond .eq 13, 3) := by decide +kernel
theorem d18_41 : decode method_6_code 41 = .ok (.iconst 0, 1) := by decide +kernel
theorem d18_42 : decode method_6_code 42 = .ok (.ireturn, 1) := by decide +kernel
theorem d18_31 : decode method_6_code 31 = .ok (.iload_n 0, 1) := by decide +kernel
theorem d18_32 : decode method_6_code 32 = .ok (.iload_n 1, 1) := by decide +kernel
theorem d18_33 : decode method_6_code 33 = .ok (.bipush 32, 2) := by decide +kernel
theorem d18_35 : decode method_6_code 35 = .ok (.iadd, 1) := by decide +kernel
theorem d18_36 : decode method_6_code 36 = .ok (.if_icmp .ne 5, 3) := by decide +kernel
theorem d18_39 : decode method_6_code 39 = .ok (.iconst 1, 1) := by decide +kernel
theorem d18_40 : decode method_6_code 40 = .ok (.ireturn, 1) := by decide +kernel
theorem d18_14 : decode method_6_code 14 = .ok (.iload_n 1, 1) := by decide +kernel
theorem d18_15 : decode method_6_code 15 = .ok (.iload_n 0, 1) := by decide +kernel
theorem d18_16 : decode method_6_code 16 = .ok (.bipush 32, 2) := by decide +kernel
theorem d18_18 : decode method_6_code 18 = .ok (.iadd, 1) := by decide +kernel
theorem d18_19 : decode method_6_code 19 = .ok (.if_icmp .ne 5, 3) := by decide +kernel
theorem d18_22 : decode method_6_code 22 = .ok (.iconst 1, 1) := by decide +kernel
theorem d18_23 : decode method_6_code 23 = .ok (.ireturn, 1) := by decide +kernel
abbrev N24 : MethodName := ⟨"com/example/rendezpoint/rendezpoint/core/NameEqualIgnoringCasePinLaw", "match", "(CC)Z"⟩

abbrev rm_mat : Room := { frames := 1, cells := 0, slots := 0, locals := 12 }
set_option maxRecDepth 65536 in
set_option maxHeartbeats 4000000 in
theorem ct_mat (l : Launch) {Z : State} {n0 : Nat} {z : Int32} {f : Value} (W : Sx Z z f) (a : Int32) (b : Int32) (h : Heap) :
    Ctr l Z n0 N24 method_6_code 2 (some .boolean) rm_mat #[(.int a), (.int b)] h [] (fun v h' sn => v = some (.int (mF a b)) ∧ h = h' ∧ sn = []) := by
  refine Ctr.of_go (ls := #[.val (.int a), .val (.int b)]) W.1.1 (plainFor_of_name pn_N21) (fun m => by first | (simp [entryFrame, mkF, argsToLocals, Value.category]; done) | rfl) (fun K H => ?_)
  refine Go.iloadN H d18_0 rfl rfl ?_
  refine Go.iloadN H d18_1 rfl rfl ?_
  by_cases c1 : a = b
  ·
    refine Go.icmpN H d18_2 (teq c1).2 rfl ?_
    refine Go.iconst (1 : Int32) H d18_5 rfl rfl ?_
    exact Go.ireturn (1 : Int32) [] H d18_6 (by simp) (by decide) ⟨congrArg (fun q => some (Value.int q)) (show (1 : Int32) = mF a b from Eq.symm (by rw [mF, if_pos c1])), rfl, rfl⟩ all0 (by decide) (by decide)
  ·
    refine Go.icmpY (pc' := 7) H d18_2 (feq c1).2 (by decide) (by decide) ?_
    refine Go.iloadN H d18_7 rfl rfl ?_
    refine Go.callS (rest := []) 0 [(.int a)] H d18_8 rfl w80 w81 w2 w82 pd_N23 (ct_isu l W a h) all0 rfl rfl rfl (Nat.le_of_eq rfl) (by decide) (by decide) (by decide) (by decide) nh_N23 ?_
    rintro _ _ _ ⟨rfl, rfl, rfl⟩
    show Go _ _ _ _ _ _ h [] 0 0 11 #[.val (.int a), .val (.int b)] [(.int (isuF a))]
    by_cases c2 : (isuF a) = (0 : Int32)
    ·
      refine Go.ifY (pc' := 24) H d18_11 (teq c2).1 (by decide) (by decide) ?_
      refine Go.iloadN H d18_24 rfl rfl ?_
      refine Go.callS (rest := []) 0 [(.int b)] H d18_25 rfl w80 w81 w2 w82 pd_N23 (ct_isu l W b h) all0 rfl rfl rfl (Nat.le_of_eq rfl) (by decide) (by decide) (by decide) (by decide) nh_N23 ?_
      rintro _ _ _ ⟨rfl, rfl, rfl⟩
      show Go _ _ _ _ _ _ h [] 0 0 28 #[.val (.int a), .val (.int b)] [(.int (isuF b))]
      by_cases c3 : (isuF b) = (0 : Int32)
      ·
        refine Go.ifY (pc' := 41) H d18_28 (teq c3).1 (by decide) (by decide) ?_
        refine Go.iconst (0 : Int32) H d18_41 rfl rfl ?_
        exact Go.ireturn (0 : Int32) [] H d18_42 (by simp) (by decide) ⟨congrArg (fun q => some (Value.int q)) (show (0 : Int32) = mF a b from Eq.symm (by rw [mF, if_neg c1, if_pos c2, if_pos c3])), rfl, rfl⟩ all0 (by decide) (by decide)
      ·
        refine Go.ifN H d18_28 (feq c3).1 rfl ?_
        refine Go.iloadN H d18_31 rfl rfl ?_
        refine Go.iloadN H d18_32 rfl rfl ?_
        refine Go.bipush (32 : Int32) H d18_33 rfl rfl ?_
        refine Go.iadd H d18_35 rfl ?_
        by_cases c4 : a = (b + (32 : Int32))
        ·
          refine Go.icmpN H d18_36 (teq c4).2 rfl ?_
          refine Go.iconst (1 : Int32) H d18_39 rfl rfl ?_
          exact Go.ireturn (1 : Int32) [] H d18_40 (by simp) (by decide) ⟨congrArg (fun q => some (Value.int q)) (show (1 : Int32) = mF a b from Eq.symm (by rw [mF, if_neg c1, if_pos c2, if_neg c3, if_pos c4])), rfl, rfl⟩ all0 (by decide) (by decide)
        ·
          refine Go.icmpY (pc' := 41) H d18_36 (feq c4).2 (by decide) (by decide) ?_
          refine Go.iconst (0 : Int32) H d18_41 rfl rfl ?_
          exact Go.ireturn (0 : Int32) [] H d18_42 (by simp) (by decide) ⟨congrArg (fun q => some (Value.int q)) (show (0 : Int32) = mF a b from Eq.symm (by rw [mF, if_neg c1, if_pos c2, if_neg c3, if_neg c4])), rfl, rfl⟩ all0 (by decide) (by decide)
    ·
      refine Go.ifN H d18_11 (feq c2).1 rfl ?_
      refine Go.iloadN H d18_14 rfl rfl ?_
      refine Go.iloadN H d18_15 rfl rfl ?_
      refine Go.bipush (32 : Int32) H d18_16 rfl rfl ?_
      refine Go.iadd H d18_18 rfl ?_
      by_cases c5 : b = (a + (32 : Int32))
      ·
        refine Go.icmpN H d18_19 (teq c5).2 rfl ?_
        refine Go.iconst (1 : Int32) H d18_22 rfl rfl ?_
        exact Go.ireturn (1 : Int32) [] H d18_23 (by simp) (by decide) ⟨congrArg (fun q => some (Value.int q)) (show (1 : Int32) = mF a b from Eq.symm (by rw [mF, if_neg c1, if_neg c2, if_pos c5])), rfl, rfl⟩ all0 (by decide) (by decide)
      ·
        refine Go.icmpY (pc' := 24) H d18_19 (feq c5).2 (by decide) (by decide) ?_
        refine Go.iloadN H d18_24 rfl rfl ?_
        refine Go.callS (rest := []) 0 [(.int b)] H d18_25 rfl w80 w81 w2 w82 pd_N23 (ct_isu l W b h) all0 rfl rfl rfl (Nat.le_of_eq rfl) (by decide) (by decide) (by decide) (by decide) nh_N23 ?_
        rintro _ _ _ ⟨rfl, rfl, rfl⟩
        show Go _ _ _ _ _ _ h [] 0 0 28 #[.val (.int a), .val (.int b)] [(.int (isuF b))]
        by_cases c6 : (isuF b) = (0 : Int32)
        ·
          refine Go.ifY (pc' := 41) H d18_28 (teq c6).1 (by decide) (by decide) ?_
          refine Go.iconst (0 : Int32) H d18_41 rfl rfl ?_
          exact Go.ireturn (0 : Int32) [] H d18_42 (by simp) (by decide) ⟨congrArg (fun q => some (Value.int q)) (show (0 : Int32) = mF a b from Eq.symm (by rw [mF, if_neg c1, if_neg c2, if_neg c5, if_pos c6])), rfl, rfl⟩ all0 (by decide) (by decide)
        ·
          refine Go.ifN H d18_28 (feq c6).1 rfl ?_
          refine Go.iloadN H d18_31 rfl rfl ?_
          refine Go.iloadN H d18_32 rfl rfl ?_
          refine Go.bipush (32 : Int32) H d18_33 rfl rfl ?_
          refine Go.iadd H d18_35 rfl ?_
          by_cases c7 : a = (b + (32 : Int32))
          ·
            refine Go.icmpN H d18_36 (teq c7).2 rfl ?_
            refine Go.iconst (1 : Int32) H d18_39 rfl rfl ?_
            exact Go.ireturn (1 : Int32) [] H d18_40 (by simp) (by decide) ⟨congrArg (fun q => some (Value.int q)) (show (1 : Int32) = mF a b from Eq.symm (by rw [mF, if_neg c1, if_neg c2, if_neg c5, if_neg c6, if_pos c7])), rfl, rfl⟩ all0 (by decide) (by decide)
          ·
            refine Go.icmpY (pc' := 41) H d18_36 (feq c7).2 (by decide) (by decide) ?_
            refine Go.iconst (0 : Int32) H d18_41 rfl rfl ?_
            exact Go.ireturn (0 : Int32) [] H d18_42 (by simp) (by decide) ⟨congrArg (fun q => some (Value.int q)) (show (0 : Int32) = mF a b from Eq.symm (by rw [mF, if_neg c1, if_neg c2, if_neg c5, if_neg c6, if_neg c7])), rfl, rfl⟩ all0 (by decide) (by decide)
def lowF (c : Int32) : Int32 := if c < (65 : Int32) then (nar .char c) else if (90 : Int32) < c then (nar .char c) else (nar .char ((c - (65 : Int32)) + (97 : Int32)))
theorem d27_0 : decode prog_6_method_5_code 0 = .ok (.iload_n 0, 1) := by decide +kernel
theorem d27_1 : decode prog_6_method_5_code 1 = .ok (.bipush 65, 2) := by decide +kernel
theorem d27_3 : decode prog_6_method_5_code 3 = .ok (.if_icmp .lt 20, 3) := by decide +kernel
theorem d27_23 : decode prog_6_method_5_code 23 = .ok (.iload_n 0, 1) := by decide +kernel
theorem d27_24 : decode prog_6_method_5_code 24 = .ok (.ireturn, 1) := by decide +kernel
theorem d27_6 : decode prog_6_method_5_code 6 = .ok (.iload_n 0, 1) := by decide +kernel
theorem d27_7 : decode prog_6_method_5_code 7 = .ok (.bipush 90, 2) := by decide +kernel
theorem d27_9 : decode prog_6_method_5_code 9 = .ok (.if_icmp .gt 14, 3) := by decide +kernel
theorem d27_12 : decode prog_6_method_5_code 12 = .ok (.iload_n 0, 1) := by decide +kernel
theorem d27_13 : decode prog_6_method_5_code 13 = .ok (.bipush 65, 2) := by decide +kernel
theorem d27_15 : decode prog_6_method_5_code 15 = .ok (.isub, 1) := by decide +kernel
theorem d27_16 : decode prog_6_method_5_code 16 = .ok (.bipush 97, 2) := by decide +kernel
theorem d27_18 : decode prog_6_method_5_code 18 = .ok (.iadd, 1) := by decide +kernel
theorem d27_19 : decode prog_6_method_5_code 19 = .ok (.i2c, 1) := by decide +kernel
theorem d27_20 : decode prog_6_method_5_code 20 = .ok (.goto 4, 3) := by decide +kernel
abbrev N25 : MethodName := ⟨"com/example/rendezpoint/rendezpoint/core/Name", "lowerCase", "(C)C"⟩
theorem pn_N25 : plainName N25.cls = true := by first | (simp [plainName, overriddenIn]; done) | decide +kernel

abbrev rm_low : Room := { frames := 0, cells := 0, slots := 0, locals := 0 }
set_option maxRecDepth 65536 in
set_option maxHeartbeats 4000000 in
theorem ct_low (l : Launch) {Z : State} {n0 : Nat} {z : Int32} {f : Value} (W : Sx Z z f) (c : Int32) (h : Heap) :
    Ctr l Z n0 N25 prog_6_method_5_code 1 (some .char) rm_low #[(.int c)] h [] (fun v h' sn => v = some (.int (lowF c)) ∧ h = h' ∧ sn = []) := by
  refine Ctr.of_go (ls := #[.val (.int c)]) W.1.1 (plainFor_of_name pn_N25) (fun m => by first | (simp [entryFrame, mkF, argsToLocals, Value.category]; done) | rfl) (fun K H => ?_)
  refine Go.iloadN H d27_0 rfl rfl ?_
  refine Go.bipush (65 : Int32) H d27_1 rfl rfl ?_
  by_cases c1 : c < (65 : Int32)
  ·
    refine Go.icmpY (pc' := 23) H d27_3 (tlt c1).1 (by decide) (by decide) ?_
    refine Go.iloadN H d27_23 rfl rfl ?_
    exact Go.ireturn (nar .char c) [] H d27_24 (by simp) rfl ⟨congrArg (fun q => some (Value.int q)) (show (nar .char c) = lowF c from Eq.symm (by rw [lowF, if_pos c1])), rfl, rfl⟩ all0 (by decide) (by decide)
  ·
    refine Go.icmpN H d27_3 (flt c1).1 rfl ?_
    refine Go.iloadN H d27_6 rfl rfl ?_
    refine Go.bipush (90 : Int32) H d27_7 rfl rfl ?_
    by_cases c2 : (90 : Int32) < c
    ·
      refine Go.icmpY (pc' := 23) H d27_9 (tlt c2).2.2.1 (by decide) (by decide) ?_
      refine Go.iloadN H d27_23 rfl rfl ?_
      exact Go.ireturn (nar .char c) [] H d27_24 (by simp) rfl ⟨congrArg (fun q => some (Value.int q)) (show (nar .char c) = lowF c from Eq.symm (by rw [lowF, if_neg c1, if_pos c2])), rfl, rfl⟩ all0 (by decide) (by decide)
    ·
      refine Go.icmpN H d27_9 (flt c2).2.2.1 rfl ?_
      refine Go.iloadN H d27_12 rfl rfl ?_
      refine Go.bipush (65 : Int32) H d27_13 rfl rfl ?_
      refine Go.isub H d27_15 rfl ?_
      refine Go.bipush (97 : Int32) H d27_16 rfl rfl ?_
      refine Go.iadd H d27_18 rfl ?_
      refine Go.i2c H d27_19 rfl ?_
      refine Go.goto (pc' := 24) H d27_20 (by decide) (by decide) ?_
      exact Go.ireturn (nar .char ((c - (65 : Int32)) + (97 : Int32))) [] H d27_24 (by simp) own_nn ⟨congrArg (fun q => some (Value.int q)) (show (nar .char ((c - (65 : Int32)) + (97 : Int32))) = lowF c from Eq.symm (by rw [lowF, if_neg c1, if_neg c2])), rfl, rfl⟩ all0 (by decide) (by decide)
theorem lowF_i {c : Int32} (h : isC c) : (lowF c).toInt = if 65 ≤ c.toInt ∧ c.toInt ≤ 90 then c.toInt + 32 else c.toInt := by
  obtain ⟨h1, h2⟩ := h
  have e65 : (65 : Int32).toInt = 65 := by decide
  have e90 : (90 : Int32).toInt = 90 := by decide
  have e97 : (97 : Int32).toInt = 97 := by decide
  unfold lowF
  simp only [Int32.lt_iff_toInt_lt, e65, e90]
  by_cases q : c.toInt < 65
  · rw [if_pos q, if_neg (by omega), own_char ⟨h1, h2⟩]
  · rw [if_neg q]
    by_cases r : 90 < c.toInt
    · rw [if_pos r, if_neg (by omega), own_char ⟨h1, h2⟩]
    · rw [if_neg r, if_pos (by omega)]
      have e : (c - 65 + 97).toInt = c.toInt + 32 := by
        rw [Int32.toInt_add, Int32.toInt_sub, e65, e97, Int.bmod_eq_of_le (n := c.toInt - 65) (by omega) (by omega), Int.bmod_eq_of_le (by omega) (by omega)]; omega
      rw [own_char ⟨by omega, by omega⟩, e]
theorem isuF_i (c : Int32) : isuF c = 0 ↔ ¬ (65 ≤ c.toInt ∧ c.toInt ≤ 90) := by
  have e65 : (65 : Int32).toInt = 65 := by decide
  have e90 : (90 : Int32).toInt = 90 := by decide
  unfold isuF
  simp only [Int32.lt_iff_toInt_lt, e65, e90]
  by_cases q : c.toInt < 65
  · rw [if_pos q]; simp; omega
  · rw [if_neg q]
    by_cases r : 90 < c.toInt
    · rw [if_pos r]; simp; omega
    · rw [if_neg r]; simp; omega
theorem own_eqi {a b : Int32} : a = b ↔ a.toInt = b.toInt := Int32.toInt_inj.symm
theorem own_p32 {a : Int32} (h : isC a) : (a + 32).toInt = a.toInt + 32 := by
  obtain ⟨h1, h2⟩ := h
  rw [Int32.toInt_add, show (32 : Int32).toInt = 32 from by decide, Int.bmod_eq_of_le (by omega) (by omega)]
theorem mF_i {a b : Int32} (ha : isC a) (hb : isC b) : mF a b = 0 ↔ ¬ lowF a = lowF b := by
  rw [own_eqi (a := lowF a), lowF_i ha, lowF_i hb]
  unfold mF
  simp only [isuF_i, own_eqi (a := a) (b := b), own_eqi (a := b) (b := a + 32), own_eqi (a := a) (b := b + 32), own_p32 ha, own_p32 hb]
  obtain ⟨h1, h2⟩ := ha
  obtain ⟨h3, h4⟩ := hb
  repeat' split
  all_goals (first | (simp; omega) | omega)
def eicF (cs ds : List Int32) : Int32 := if cs.map lowF = ds.map lowF then 1 else 0
theorem own_eqm {u v : List Int32} {i : Nat} (e : (u.take i).map lowF = (v.take i).map lowF) {p q : Int32} (h1 : u[i]? = some p) (h2 : v[i]? = some q) (hpq : lowF p = lowF q) : (u.take (i + 1)).map lowF = (v.take (i + 1)).map lowF := by
  rw [List.take_add_one, List.take_add_one, h1, h2, List.map_append, List.map_append, e]; simp [hpq]
theorem own_nem {u v : List Int32} {i : Nat} {p q : Int32} (h1 : u[i]? = some p) (h2 : v[i]? = some q) (hpq : ¬ lowF p = lowF q) : ¬ u.map lowF = v.map lowF := fun e => by
  have g := congrArg (fun z : List Int32 => z[i]?) e
  simp [List.getElem?_map, h1, h2] at g; exact hpq g
theorem lowF_k {c : Int32} : isC (lowF c) := by
  unfold lowF
  repeat' split
  all_goals exact own_isC _
theorem lowF_c (c : Int32) : nar .char (lowF c) = lowF c := own_char lowF_k
theorem d7_15 : decode prog_6_method_4_code 15 = .ok (.iload_n 2, 1) := by decide +kernel
theorem d7_16 : decode prog_6_method_4_code 16 = .ok (.aload_n 0, 1) := by decide +kernel
theorem d7_17 : decode prog_6_method_4_code 17 = .ok (.invokevirtual 29, 3) := by decide +kernel
theorem w41 : Jvm.Cond.code N13 jdk_42_method_54_code (1 : Nat) (Option.some Jvm.ClassFile.FieldType.int) ∈ tables_1 := List.mem_of_getElem? (i := 41) rfl
theorem pd_N13 : parseMethodDescriptor N13.desc = some ⟨[], (some .int)⟩ := by decide +kernel
theorem w37 : Jvm.Cond.methodLink "com/example/rendezpoint/rendezpoint/core/Name" (29 : Nat) N13 ∈ tables_1 := List.mem_of_getElem? (i := 37) rfl
theorem w38 : Jvm.Cond.declares N13 ∈ tables_1 := List.mem_of_getElem? (i := 38) rfl
theorem w40 : Jvm.Cond.selects "java/lang/String" N13 N13 ∈ tables_1 := List.mem_of_getElem? (i := 40) rfl
theorem w39 : Jvm.Cond.instanceMethod N13 ∈ tables_1 := List.mem_of_getElem? (i := 39) rfl
theorem d7_20 : decode prog_6_method_4_code 20 = .ok (.if_icmp .ge 30, 3) := by decide +kernel
theorem d7_50 : decode prog_6_method_4_code 50 = .ok (.iconst 1, 1) := by decide +kernel
theorem d7_51 : decode prog_6_method_4_code 51 = .ok (.ireturn, 1) := by decide +kernel
theorem d7_23 : decode prog_6_method_4_code 23 = .ok (.aload_n 0, 1) := by decide +kernel
theorem d7_24 : decode prog_6_method_4_code 24 = .ok (.iload_n 2, 1) := by decide +kernel
theorem d7_25 : decode prog_6_method_4_code 25 = .ok (.invokevirtual 37, 3) := by decide +kernel
theorem w87 : Jvm.Cond.code N20 jdk_42_method_56_code (2 : Nat) (Option.some Jvm.ClassFile.FieldType.char) ∈ tables_1 := List.mem_of_getElem? (i := 87) rfl
theorem pd_N20 : parseMethodDescriptor N20.desc = some ⟨[.int], (some .char)⟩ := by decide +kernel
theorem w83 : Jvm.Cond.methodLink "com/example/rendezpoint/rendezpoint/core/Name" (37 : Nat) N20 ∈ tables_1 := List.mem_of_getElem? (i := 83) rfl
theorem w84 : Jvm.Cond.declares N20 ∈ tables_1 := List.mem_of_getElem? (i := 84) rfl
theorem w86 : Jvm.Cond.selects "java/lang/String" N20 N20 ∈ tables_1 := List.mem_of_getElem? (i := 86) rfl
theorem w85 : Jvm.Cond.instanceMethod N20 ∈ tables_1 := List.mem_of_getElem? (i := 85) rfl
theorem d7_28 : decode prog_6_method_4_code 28 = .ok (.invokestatic 41, 3) := by decide +kernel
theorem w112 : Jvm.Cond.code N25 prog_6_method_5_code (1 : Nat) (Option.some Jvm.ClassFile.FieldType.char) ∈ tables_1 := List.mem_of_getElem? (i := 112) rfl
theorem w35 : Jvm.Cond.initialized "com/example/rendezpoint/rendezpoint/core/Name" ∈ tables_1 := List.mem_of_getElem? (i := 35) rfl
theorem pd_N25 : parseMethodDescriptor N25.desc = some ⟨[.char], (some .char)⟩ := by decide +kernel
theorem nh_N25 : N25.cls ≠ "java/lang/invoke/MethodHandle" ∧ N25.cls ≠ "java/lang/invoke/VarHandle" := by decide
theorem w110 : Jvm.Cond.methodLink "com/example/rendezpoint/rendezpoint/core/Name" (41 : Nat) N25 ∈ tables_1 := List.mem_of_getElem? (i := 110) rfl
theorem w111 : Jvm.Cond.static N25 ∈ tables_1 := List.mem_of_getElem? (i := 111) rfl
theorem d7_31 : decode prog_6_method_4_code 31 = .ok (.aload_n 1, 1) := by decide +kernel
theorem d7_32 : decode prog_6_method_4_code 32 = .ok (.iload_n 2, 1) := by decide +kernel
theorem d7_33 : decode prog_6_method_4_code 33 = .ok (.invokevirtual 37, 3) := by decide +kernel
theorem d7_36 : decode prog_6_method_4_code 36 = .ok (.invokestatic 41, 3) := by decide +kernel
theorem d7_39 : decode prog_6_method_4_code 39 = .ok (.if_icmp .eq 5, 3) := by decide +kernel
theorem d7_44 : decode prog_6_method_4_code 44 = .ok (.iinc 2 1, 3) := by decide +kernel
theorem d7_47 : decode prog_6_method_4_code 47 = .ok (.goto (-32), 3) := by decide +kernel
theorem d7_42 : decode prog_6_method_4_code 42 = .ok (.iconst 0, 1) := by decide +kernel
theorem d7_43 : decode prog_6_method_4_code 43 = .ok (.ireturn, 1) := by decide +kernel
theorem d7_0 : decode prog_6_method_4_code 0 = .ok (.aload_n 0, 1) := by decide +kernel
theorem d7_1 : decode prog_6_method_4_code 1 = .ok (.invokevirtual 29, 3) := by decide +kernel
theorem d7_4 : decode prog_6_method_4_code 4 = .ok (.aload_n 1, 1) := by decide +kernel
theorem d7_5 : decode prog_6_method_4_code 5 = .ok (.invokevirtual 29, 3) := by decide +kernel
theorem d7_8 : decode prog_6_method_4_code 8 = .ok (.if_icmp .eq 5, 3) := by decide +kernel
theorem d7_13 : decode prog_6_method_4_code 13 = .ok (.iconst 0, 1) := by decide +kernel
theorem d7_14 : decode prog_6_method_4_code 14 = .ok (.istore_n 2, 1) := by decide +kernel
theorem d7_11 : decode prog_6_method_4_code 11 = .ok (.iconst 0, 1) := by decide +kernel
theorem d7_12 : decode prog_6_method_4_code 12 = .ok (.ireturn, 1) := by decide +kernel

set_option maxRecDepth 65536 in
set_option maxHeartbeats 4000000 in
theorem lp_eic (l : Launch) {Z : State} {n0 : Nat} {z : Int32} {f : Value} (W : Sx Z z f) {h : Heap} (x b y d : Addr) (cs ds : List Int32) (S : Stg Z h x b cs) (S2 : Stg Z h y d ds) (hn : cs.length < 2 ^ 30) (hl : cs.length = ds.length) {K : Cx} (H : Ok Z K "com/example/rendezpoint/rendezpoint/core/Name" prog_6_method_4_code 3 (some .boolean) "equalIgnoringCase") :
    ∀ (m i : Nat), i + m = cs.length → (cs.take i).map lowF = (ds.take i).map lowF → Go l Z n0 ({ frames := 5, cells := 0, slots := 0, locals := 67 } : Room) K (fun v h' sn => v = some (.int (eicF cs ds)) ∧ h = h' ∧ sn = []) h [] 0 0 15 #[.val (.ref x), .val (.ref y), .val (.int i.toInt32)] [] := by
  intro m
  induction m with
  | zero =>
    intro i hi he
    refine Go.iloadN H d7_15 rfl rfl ?_
    refine Go.aloadN H d7_16 rfl rfl rfl ?_
    refine Go.callV (rest := [(.int i.toInt32)]) 1 [] H d7_17 rfl S.exa w37 w38 w40 w39 w13 w41 pd_N13 (ct_len l W x b cs h S) all0 rfl rfl rfl (Nat.le_of_eq rfl) (by decide) (by decide) (by decide) (by decide) nh_N9 ?_
    rintro _ _ _ ⟨rfl, rfl, rfl⟩
    show Go _ _ _ _ _ _ h [] 0 0 20 #[.val (.ref x), .val (.ref y), .val (.int i.toInt32)] [(.int cs.length.toInt32), (.int i.toInt32)]
    refine Go.icmpY (pc' := 50) H d7_20 (flt (own_nlt (by omega) (by omega))).2.1 (by decide) (by decide) ?_
    refine Go.iconst (1 : Int32) H d7_50 rfl rfl ?_
    exact Go.ireturn 1 [] H d7_51 (by simp) (by decide) ⟨by rw [eicF, if_pos (by rw [List.take_of_length_le (by omega), List.take_of_length_le (by omega)] at he; exact he)], rfl, rfl⟩ all0 (by decide) (by decide)
  | succ m ih =>
    intro i hi he
    have hlt : i < cs.length := by omega
    obtain ⟨p, hp⟩ : ∃ p, cs[i]? = some p := ⟨_, List.getElem?_eq_getElem hlt⟩
    obtain ⟨q, hq⟩ : ∃ q, ds[i]? = some q := ⟨_, List.getElem?_eq_getElem (by omega)⟩
    refine Go.iloadN H d7_15 rfl rfl ?_
    refine Go.aloadN H d7_16 rfl rfl rfl ?_
    refine Go.callV (rest := [(.int i.toInt32)]) 1 [] H d7_17 rfl S.exa w37 w38 w40 w39 w13 w41 pd_N13 (ct_len l W x b cs h S) all0 rfl rfl rfl (Nat.le_of_eq rfl) (by decide) (by decide) (by decide) (by decide) nh_N9 ?_
    rintro _ _ _ ⟨rfl, rfl, rfl⟩
    show Go _ _ _ _ _ _ h [] 0 0 20 #[.val (.ref x), .val (.ref y), .val (.int i.toInt32)] [(.int cs.length.toInt32), (.int i.toInt32)]
    refine Go.icmpN H d7_20 (tlt (own_lt (by omega) hlt)).2.1 rfl ?_
    refine Go.aloadN H d7_23 rfl rfl rfl ?_
    refine Go.iloadN H d7_24 rfl rfl ?_
    refine Go.callV (rest := []) 0 [(.int i.toInt32)] H d7_25 rfl S.exa w83 w84 w86 w85 w13 w87 pd_N20 (ct_cha l W x b cs i.toInt32 p i h S (own_n0 (by omega)) (own_cl (by omega)) hp) all0 rfl rfl rfl (Nat.le_of_eq rfl) (by decide) (by decide) (by decide) (by decide) nh_N9 ?_
    rintro _ _ _ ⟨rfl, rfl, rfl⟩
    show Go _ _ _ _ _ _ h [] 0 0 28 #[.val (.ref x), .val (.ref y), .val (.int i.toInt32)] [(.int p)]
    refine Go.callS (rest := []) 0 [(.int p)] H d7_28 rfl w110 w111 w35 w112 pd_N25 (ct_low l W p h) all0 rfl rfl rfl (Nat.le_of_eq rfl) (by decide) (by decide) (by decide) (by decide) nh_N25 ?_
    rintro _ _ _ ⟨rfl, rfl, rfl⟩
    show Go _ _ _ _ _ _ h [] 0 0 31 #[.val (.ref x), .val (.ref y), .val (.int i.toInt32)] [(.int (lowF p))]
    refine Go.aloadN H d7_31 rfl rfl rfl ?_
    refine Go.iloadN H d7_32 rfl rfl ?_
    refine Go.callV (rest := [(.int (lowF p))]) 1 [(.int i.toInt32)] H d7_33 rfl S2.exa w83 w84 w86 w85 w13 w87 pd_N20 (ct_cha l W y d ds i.toInt32 q i h S2 (own_n0 (by omega)) (own_cl (by omega)) hq) all0 rfl rfl rfl (Nat.le_of_eq rfl) (by decide) (by decide) (by decide) (by decide) nh_N9 ?_
    rintro _ _ _ ⟨rfl, rfl, rfl⟩
    show Go _ _ _ _ _ _ h [] 0 0 36 #[.val (.ref x), .val (.ref y), .val (.int i.toInt32)] [(.int q), (.int (lowF p))]
    refine Go.callS (rest := [(.int (lowF p))]) 1 [(.int q)] H d7_36 rfl w110 w111 w35 w112 pd_N25 (ct_low l W q h) all0 rfl rfl rfl (Nat.le_of_eq rfl) (by decide) (by decide) (by decide) (by decide) nh_N25 ?_
    rintro _ _ _ ⟨rfl, rfl, rfl⟩
    show Go _ _ _ _ _ _ h [] 0 0 39 #[.val (.ref x), .val (.ref y), .val (.int i.toInt32)] [(.int (lowF q)), (.int (lowF p))]
    by_cases c1 : (lowF p) = (lowF q)
    ·
      refine Go.icmpY (pc' := 44) H d7_39 (teq c1).1 (by decide) (by decide) ?_
      refine Go.iinc (ls' := #[.val (.ref x), .val (.ref y), .val (.int (i.toInt32 + (1 : Int32)))]) (1 : Int32) H d7_44 rfl rfl rfl rfl ?_
      refine Go.goto (pc' := 15) H d7_47 (by decide) (by decide) ?_
      rw [own_s i]
      exact ih (i + 1) (by omega) (own_eqm he hp hq c1)
    ·
      refine Go.icmpN H d7_39 (feq c1).1 rfl ?_
      refine Go.iconst (0 : Int32) H d7_42 rfl rfl ?_
      exact Go.ireturn 0 [] H d7_43 (by simp) (by decide) ⟨by rw [eicF, if_neg (own_nem hp hq c1)], rfl, rfl⟩ all0 (by decide) (by decide)
abbrev N26 : MethodName := ⟨"com/example/rendezpoint/rendezpoint/core/Name", "equalIgnoringCase", "(Ljava/lang/String;Ljava/lang/String;)Z"⟩

abbrev rm_eic : Room := { frames := 5, cells := 0, slots := 0, locals := 67 }
set_option maxRecDepth 65536 in
set_option maxHeartbeats 4000000 in
theorem ct_eic (l : Launch) {Z : State} {n0 : Nat} {z : Int32} {f : Value} (W : Sx Z z f) (x b y d : Addr) (cs ds : List Int32) (h : Heap) (S : Stg Z h x b cs) (S2 : Stg Z h y d ds) (hn : cs.length < 2 ^ 30) (hm : ds.length < 2 ^ 30) :
    Ctr l Z n0 N26 prog_6_method_4_code 3 (some .boolean) rm_eic #[(.ref x), (.ref y)] h [] (fun v h' sn => v = some (.int (eicF cs ds)) ∧ h = h' ∧ sn = []) := by
  refine Ctr.of_go (ls := #[.val (.ref x), .val (.ref y), .unset]) W.1.1 (plainFor_of_name pn_N25) (fun m => by first | (simp [entryFrame, mkF, argsToLocals, Value.category]; done) | rfl) (fun K H => ?_)
  refine Go.aloadN H d7_0 rfl rfl rfl ?_
  refine Go.callV (rest := []) 0 [] H d7_1 rfl S.exa w37 w38 w40 w39 w13 w41 pd_N13 (ct_len l W x b cs h S) all0 rfl rfl rfl (Nat.le_of_eq rfl) (by decide) (by decide) (by decide) (by decide) nh_N9 ?_
  rintro _ _ _ ⟨rfl, rfl, rfl⟩
  show Go _ _ _ _ _ _ h [] 0 0 4 #[.val (.ref x), .val (.ref y), .unset] [(.int cs.length.toInt32)]
  refine Go.aloadN H d7_4 rfl rfl rfl ?_
  refine Go.callV (rest := [(.int cs.length.toInt32)]) 1 [] H d7_5 rfl S2.exa w37 w38 w40 w39 w13 w41 pd_N13 (ct_len l W y d ds h S2) all0 rfl rfl rfl (Nat.le_of_eq rfl) (by decide) (by decide) (by decide) (by decide) nh_N9 ?_
  rintro _ _ _ ⟨rfl, rfl, rfl⟩
  show Go _ _ _ _ _ _ h [] 0 0 8 #[.val (.ref x), .val (.ref y), .unset] [(.int ds.length.toInt32), (.int cs.length.toInt32)]
  by_cases c1 : cs.length = ds.length
  ·
    refine Go.icmpY (pc' := 13) H d7_8 (teq (congrArg Nat.toInt32 c1)).1 (by decide) (by decide) ?_
    refine Go.iconst (0 : Int32) H d7_13 rfl rfl ?_
    refine Go.istoreN (ls' := #[.val (.ref x), .val (.ref y), .val (.int (0 : Int32))]) H d7_14 rfl rfl ?_
    exact lp_eic l W x b y d cs ds S S2 hn c1 H cs.length 0 (by omega) rfl
  ·
    refine Go.icmpN H d7_8 (feq (fun e => c1 (own_ofinj (by omega) (by omega) e))).1 rfl ?_
    refine Go.iconst (0 : Int32) H d7_11 rfl rfl ?_
    exact Go.ireturn 0 [] H d7_12 (by simp) (by decide) ⟨by rw [eicF, if_neg (fun e => c1 (by have := congrArg List.length e; simpa using this))], rfl, rfl⟩ all0 (by decide) (by decide)
theorem d3_0 : decode method_7_code 0 = .ok (.iload_n 0, 1) := by decide +kernel
theorem d3_1 : decode method_7_code 1 = .ok (.ifCond .ne 14, 3) := by decide +kernel
theorem d3_4 : decode method_7_code 4 = .ok (.new 37, 3) := by decide +kernel
theorem w11 : Jvm.Cond.classLink "com/example/rendezpoint/rendezpoint/core/NameEqualIgnoringCasePinLaw" (37 : Nat) "java/lang/String" ∈ tables_1 := List.mem_of_getElem? (i := 11) rfl
theorem d3_7 : decode method_7_code 7 = .ok (.dup, 1) := by decide +kernel
theorem d3_8 : decode method_7_code 8 = .ok (.iconst 0, 1) := by decide +kernel
theorem d3_9 : decode method_7_code 9 = .ok (.newarray .char, 2) := by decide +kernel
theorem w14 : Jvm.Cond.arrayClass Jvm.ClassFile.FieldType.char ∈ tables_1 := List.mem_of_getElem? (i := 14) rfl
theorem d3_11 : decode method_7_code 11 = .ok (.invokespecial 39, 3) := by decide +kernel
theorem w17 : Jvm.Cond.code N10 jdk_42_method_3_code (2 : Nat) (Option.none : Option Jvm.ClassFile.FieldType) ∈ tables_1 := List.mem_of_getElem? (i := 17) rfl
theorem pd_N10 : parseMethodDescriptor N10.desc = some ⟨[(.array .char)], none⟩ := by decide +kernel
theorem w15 : Jvm.Cond.methodLink "com/example/rendezpoint/rendezpoint/core/NameEqualIgnoringCasePinLaw" (39 : Nat) N10 ∈ tables_1 := List.mem_of_getElem? (i := 15) rfl
theorem w16 : Jvm.Cond.instanceMethod N10 ∈ tables_1 := List.mem_of_getElem? (i := 16) rfl
theorem d3_14 : decode method_7_code 14 = .ok (.areturn, 1) := by decide +kernel
abbrev N27 : MethodName := ⟨"com/example/rendezpoint/rendezpoint/core/NameEqualIgnoringCasePinLaw", "make", "(ICCC)Ljava/lang/String;"⟩

abbrev rm_make0 : Room := { frames := 6, cells := 6, slots := 13, locals := 88 }
set_option maxRecDepth 65536 in
set_option maxHeartbeats 4000000 in
theorem ct_make0 (l : Launch) {Z : State} {n0 : Nat} {z : Int32} {f : Value} (W : Sx Z z f) (c0 c1 c2 : Int32) (h : Heap) (k0 : isC c0) (k1 : isC c1) (k2 : isC c2) :
    Ctr l Z n0 N27 method_7_code 4 (some (.object "java/lang/String")) rm_make0 #[(.int (0 : Int32)), (.int c0), (.int c1), (.int c2)] h [] (fun v h' sn => ∃ a b, v = some (.ref a) ∧ Ext h h' ∧ h.size ≤ a ∧ Stg Z h' a b ([] : List Int32) ∧ sn = []) := by
  refine Ctr.of_go (ls := #[.val (.int (0 : Int32)), .val (.int c0), .val (.int c1), .val (.int c2)]) W.1.1 (plainFor_of_name pn_N21) (fun m => by first | (simp [entryFrame, mkF, argsToLocals, Value.category]; done) | rfl) (fun K H => ?_)
  have KK : Keep h h [] := Keep.refl _ _
  refine Go.iloadN H d3_0 rfl rfl ?_
  refine Go.ifN H d3_1 (by decide) rfl ?_
  refine Go.new H d3_4 rfl w11 w12 w13 (by decide) (by decide) ?_
  intro a1 h2 g3 z4 E5 A6 D7
  have sz8 := Nat.le_trans KK.1 (Nat.le_of_eq g3.symm)
  replace KK := KK.ext E5
  have F9 : Fld Z h2 a1 "java/lang/String" "value" "[B" .null := D7 (Or.inr w27) (ty := (.array .byte)) (by decide)
  have F10 : Fld Z h2 a1 "java/lang/String" "coder" "B" (.int (0 : Int32)) := D7 (Or.inr w28) (ty := .byte) (by decide)
  show Go _ _ _ _ _ _ h2 [a1] 1 4 7 #[.val (.int (0 : Int32)), .val (.int c0), .val (.int c1), .val (.int c2)] [(.ref a1)]
  refine Go.dup H d3_7 rfl rfl ?_
  refine Go.iconst (0 : Int32) H d3_8 rfl rfl ?_
  refine Go.newarray 0 0 H d3_9 rfl w14 rfl (by decide) (by decide) (by decide) (by decide) (by decide) (by decide) (by decide) ?_
  intro a11 h12 g13 z14 E15 F16
  have ne17 : a1 ≠ a11 := Nat.ne_of_lt (Nat.lt_of_lt_of_le A6.lt (Nat.le_of_eq g13.symm))
  have sz18 := Nat.le_trans KK.1 (Nat.le_of_eq g13.symm)
  replace A6 := A6.ext E15
  replace F9 := F9.ext E15
  replace F10 := F10.ext E15
  replace KK := KK.ext E15
  replace F16 : Vec Z h12 a11 .char [] := F16
  show Go _ _ _ _ _ _ h12 [a11, a1] 2 4 11 #[.val (.int (0 : Int32)), .val (.int c0), .val (.int c1), .val (.int c2)] [(.ref a11), (.ref a1), (.ref a1)]
  refine Go.callI (rest := [(.ref a1)]) 1 [(.ref a11)] H d3_11 rfl rfl w15 w16 w13 w17 pd_N10 (ct_new1 l W a1 a11 ([] : List Int32) h12 A6 F9 F10 F16 own_an (Nat.le_of_ble_eq_true rfl) z4) (by simp) rfl rfl rfl (Nat.le_of_eq rfl) (by decide) (by decide) (by decide) (by decide) nh_N9 ?_
  rintro _ h19 _ ⟨rfl, K20, ⟨b21, S22⟩, rfl⟩
  replace F16 := F16.keep K20 (ninS (Ne.symm ne17) nin0)
  replace KK := KK.trans K20 (allS (Or.inr sz8) all0)
  show Go _ _ _ _ _ _ h19 [a11, a1] 6 13 14 #[.val (.int (0 : Int32)), .val (.int c0), .val (.int c1), .val (.int c2)] [(.ref a1)]
  exact Go.areturn [] H d3_14 rfl rfl (own_narR rfl) ⟨_, _, rfl, own_ext KK, Nat.le_of_eq g3.symm, S22, rfl⟩ all0 (by decide) (by decide)
theorem d3_15 : decode method_7_code 15 = .ok (.iload_n 0, 1) := by decide +kernel
theorem d3_16 : decode method_7_code 16 = .ok (.iconst 1, 1) := by decide +kernel
theorem d3_17 : decode method_7_code 17 = .ok (.if_icmp .ne 18, 3) := by decide +kernel
theorem d3_20 : decode method_7_code 20 = .ok (.new 37, 3) := by decide +kernel
theorem d3_23 : decode method_7_code 23 = .ok (.dup, 1) := by decide +kernel
theorem d3_24 : decode method_7_code 24 = .ok (.iconst 1, 1) := by decide +kernel
theorem d3_25 : decode method_7_code 25 = .ok (.newarray .char, 2) := by decide +kernel
theorem d3_27 : decode method_7_code 27 = .ok (.dup, 1) := by decide +kernel
theorem d3_28 : decode method_7_code 28 = .ok (.iconst 0, 1) := by decide +kernel
theorem d3_29 : decode method_7_code 29 = .ok (.iload_n 1, 1) := by decide +kernel
theorem d3_30 : decode method_7_code 30 = .ok (.castore, 1) := by decide +kernel
theorem d3_31 : decode method_7_code 31 = .ok (.invokespecial 39, 3) := by decide +kernel
theorem d3_34 : decode method_7_code 34 = .ok (.areturn, 1) := by decide +kernel

abbrev rm_make1 : Room := { frames := 6, cells := 6, slots := 14, locals := 88 }
set_option maxRecDepth 65536 in
set_option maxHeartbeats 4000000 in
theorem ct_make1 (l : Launch) {Z : State} {n0 : Nat} {z : Int32} {f : Value} (W : Sx Z z f) (c0 c1 c2 : Int32) (h : Heap) (k0 : isC c0) (k1 : isC c1) (k2 : isC c2) :
    Ctr l Z n0 N27 method_7_code 4 (some (.object "java/lang/String")) rm_make1 #[(.int (1 : Int32)), (.int c0), (.int c1), (.int c2)] h [] (fun v h' sn => ∃ a b, v = some (.ref a) ∧ Ext h h' ∧ h.size ≤ a ∧ Stg Z h' a b [c0] ∧ sn = []) := by
  refine Ctr.of_go (ls := #[.val (.int (1 : Int32)), .val (.int c0), .val (.int c1), .val (.int c2)]) W.1.1 (plainFor_of_name pn_N21) (fun m => by first | (simp [entryFrame, mkF, argsToLocals, Value.category]; done) | rfl) (fun K H => ?_)
  have KK : Keep h h [] := Keep.refl _ _
  refine Go.iloadN H d3_0 rfl rfl ?_
  refine Go.ifY (pc' := 15) H d3_1 (by decide) (by decide) (by decide) ?_
  refine Go.iloadN H d3_15 rfl rfl ?_
  refine Go.iconst (1 : Int32) H d3_16 rfl rfl ?_
  refine Go.icmpN H d3_17 (by decide) rfl ?_
  refine Go.new H d3_20 rfl w11 w12 w13 (by decide) (by decide) ?_
  intro a1 h2 g3 z4 E5 A6 D7
  have sz8 := Nat.le_trans KK.1 (Nat.le_of_eq g3.symm)
  replace KK := KK.ext E5
  have F9 : Fld Z h2 a1 "java/lang/String" "value" "[B" .null := D7 (Or.inr w27) (ty := (.array .byte)) (by decide)
  have F10 : Fld Z h2 a1 "java/lang/String" "coder" "B" (.int (0 : Int32)) := D7 (Or.inr w28) (ty := .byte) (by decide)
  show Go _ _ _ _ _ _ h2 [a1] 1 4 23 #[.val (.int (1 : Int32)), .val (.int c0), .val (.int c1), .val (.int c2)] [(.ref a1)]
  refine Go.dup H d3_23 rfl rfl ?_
  refine Go.iconst (1 : Int32) H d3_24 rfl rfl ?_
  refine Go.newarray 1 1 H d3_25 rfl w14 rfl (by decide) (by decide) (by decide) (by decide) (by decide) (by decide) (by decide) ?_
  intro a11 h12 g13 z14 E15 F16
  have ne17 : a1 ≠ a11 := Nat.ne_of_lt (Nat.lt_of_lt_of_le A6.lt (Nat.le_of_eq g13.symm))
  have sz18 := Nat.le_trans KK.1 (Nat.le_of_eq g13.symm)
  replace A6 := A6.ext E15
  replace F9 := F9.ext E15
  replace F10 := F10.ext E15
  replace KK := KK.ext E15
  replace F16 : Vec Z h12 a11 .char [(0 : Int32)] := F16
  show Go _ _ _ _ _ _ h12 [a11, a1] 2 5 27 #[.val (.int (1 : Int32)), .val (.int c0), .val (.int c1), .val (.int c2)] [(.ref a11), (.ref a1), (.ref a1)]
  refine Go.dup H d3_27 rfl rfl ?_
  refine Go.iconst (0 : Int32) H d3_28 rfl rfl ?_
  refine Go.iloadN H d3_29 rfl rfl ?_
  refine Go.castore c0 H d3_30 rfl F16 0 (by decide) (by decide) (Nat.le_of_ble_eq_true rfl) (own_char k0) z14 (by simp) ?_
  intro h19 K20 F21
  replace A6 := A6.keep K20
  replace F9 := F9.keep K20 (ninS ne17 nin0)
  replace F10 := F10.keep K20 (ninS ne17 nin0)
  replace KK := KK.trans K20 (allS (Or.inr sz18) all0)
  replace F21 : Vec Z h19 a11 .char [c0] := F21
  refine Go.callI (rest := [(.ref a1)]) 1 [(.ref a11)] H d3_31 rfl rfl w15 w16 w13 w17 pd_N10 (ct_new1 l W a1 a11 [c0] h19 A6 F9 F10 F21 (own_ac k0 own_an) (Nat.le_of_ble_eq_true rfl) z4) (by simp) rfl rfl rfl (Nat.le_of_eq rfl) (by decide) (by decide) (by decide) (by decide) nh_N9 ?_
  rintro _ h22 _ ⟨rfl, K23, ⟨b24, S25⟩, rfl⟩
  replace F21 := F21.keep K23 (ninS (Ne.symm ne17) nin0)
  replace KK := KK.trans K23 (allS (Or.inr sz8) all0)
  show Go _ _ _ _ _ _ h22 [a11, a1] 6 14 34 #[.val (.int (1 : Int32)), .val (.int c0), .val (.int c1), .val (.int c2)] [(.ref a1)]
  exact Go.areturn [] H d3_34 rfl rfl (own_narR rfl) ⟨_, _, rfl, own_ext KK, Nat.le_of_eq g3.symm, S25, rfl⟩ all0 (by decide) (by decide)
theorem d3_35 : decode method_7_code 35 = .ok (.iload_n 0, 1) := by decide +kernel
theorem d3_36 : decode method_7_code 36 = .ok (.iconst 2, 1) := by decide +kernel
theorem d3_37 : decode method_7_code 37 = .ok (.if_icmp .ne 22, 3) := by decide +kernel
theorem d3_40 : decode method_7_code 40 = .ok (.new 37, 3) := by decide +kernel
theorem d3_43 : decode method_7_code 43 = .ok (.dup, 1) := by decide +kernel
theorem d3_44 : decode method_7_code 44 = .ok (.iconst 2, 1) := by decide +kernel
theorem d3_45 : decode method_7_code 45 = .ok (.newarray .char, 2) := by decide +kernel
theorem d3_47 : decode method_7_code 47 = .ok (.dup, 1) := by decide +kernel
theorem d3_48 : decode method_7_code 48 = .ok (.iconst 0, 1) := by decide +kernel
theorem d3_49 : decode method_7_code 49 = .ok (.iload_n 1, 1) := by decide +kernel
theorem d3_50 : decode method_7_code 50 = .ok (.castore, 1) := by decide +kernel
theorem d3_51 : decode method_7_code 51 = .ok (.dup, 1) := by decide +kernel
theorem d3_52 : decode method_7_code 52 = .ok (.iconst 1, 1) := by decide +kernel
theorem d3_53 : decode method_7_code 53 = .ok (.iload_n 2, 1) := by decide +kernel
theorem d3_54 : decode method_7_code 54 = .ok (.castore, 1) := by decide +kernel
theorem d3_55 : decode method_7_code 55 = .ok (.invokespecial 39, 3) := by decide +kernel
theorem d3_58 : decode method_7_code 58 = .ok (.areturn, 1) := by decide +kernel

abbrev rm_make2 : Room := { frames := 6, cells := 6, slots := 15, locals := 88 }
set_option maxRecDepth 65536 in
set_option maxHeartbeats 4000000 in
theorem ct_make2 (l : Launch) {Z : State} {n0 : Nat} {z : Int32} {f : Value} (W : Sx Z z f) (c0 c1 c2 : Int32) (h : Heap) (k0 : isC c0) (k1 : isC c1) (k2 : isC c2) :
    Ctr l Z n0 N27 method_7_code 4 (some (.object "java/lang/String")) rm_make2 #[(.int (2 : Int32)), (.int c0), (.int c1), (.int c2)] h [] (fun v h' sn => ∃ a b, v = some (.ref a) ∧ Ext h h' ∧ h.size ≤ a ∧ Stg Z h' a b [c0, c1] ∧ sn = []) := by
  refine Ctr.of_go (ls := #[.val (.int (2 : Int32)), .val (.int c0), .val (.int c1), .val (.int c2)]) W.1.1 (plainFor_of_name pn_N21) (fun m => by first | (simp [entryFrame, mkF, argsToLocals, Value.category]; done) | rfl) (fun K H => ?_)
  have KK : Keep h h [] := Keep.refl _ _
  refine Go.iloadN H d3_0 rfl rfl ?_
  refine Go.ifY (pc' := 15) H d3_1 (by decide) (by decide) (by decide) ?_
  refine Go.iloadN H d3_15 rfl rfl ?_
  refine Go.iconst (1 : Int32) H d3_16 rfl rfl ?_
  refine Go.icmpY (pc' := 35) H d3_17 (by decide) (by decide) (by decide) ?_
  refine Go.iloadN H d3_35 rfl rfl ?_
  refine Go.iconst (2 : Int32) H d3_36 rfl rfl ?_
  refine Go.icmpN H d3_37 (by decide) rfl ?_
  refine Go.new H d3_40 rfl w11 w12 w13 (by decide) (by decide) ?_
  intro a1 h2 g3 z4 E5 A6 D7
  have sz8 := Nat.le_trans KK.1 (Nat.le_of_eq g3.symm)
  replace KK := KK.ext E5
  have F9 : Fld Z h2 a1 "java/lang/String" "value" "[B" .null := D7 (Or.inr w27) (ty := (.array .byte)) (by decide)
  have F10 : Fld Z h2 a1 "java/lang/String" "coder" "B" (.int (0 : Int32)) := D7 (Or.inr w28) (ty := .byte) (by decide)
  show Go _ _ _ _ _ _ h2 [a1] 1 4 43 #[.val (.int (2 : Int32)), .val (.int c0), .val (.int c1), .val (.int c2)] [(.ref a1)]
  refine Go.dup H d3_43 rfl rfl ?_
  refine Go.iconst (2 : Int32) H d3_44 rfl rfl ?_
  refine Go.newarray 2 2 H d3_45 rfl w14 rfl (by decide) (by decide) (by decide) (by decide) (by decide) (by decide) (by decide) ?_
  intro a11 h12 g13 z14 E15 F16
  have ne17 : a1 ≠ a11 := Nat.ne_of_lt (Nat.lt_of_lt_of_le A6.lt (Nat.le_of_eq g13.symm))
  have sz18 := Nat.le_trans KK.1 (Nat.le_of_eq g13.symm)
  replace A6 := A6.ext E15
  replace F9 := F9.ext E15
  replace F10 := F10.ext E15
  replace KK := KK.ext E15
  replace F16 : Vec Z h12 a11 .char [(0 : Int32), (0 : Int32)] := F16
  show Go _ _ _ _ _ _ h12 [a11, a1] 2 6 47 #[.val (.int (2 : Int32)), .val (.int c0), .val (.int c1), .val (.int c2)] [(.ref a11), (.ref a1), (.ref a1)]
  refine Go.dup H d3_47 rfl rfl ?_
  refine Go.iconst (0 : Int32) H d3_48 rfl rfl ?_
  refine Go.iloadN H d3_49 rfl rfl ?_
  refine Go.castore c0 H d3_50 rfl F16 0 (by decide) (by decide) (Nat.le_of_ble_eq_true rfl) (own_char k0) z14 (by simp) ?_
  intro h19 K20 F21
  replace A6 := A6.keep K20
  replace F9 := F9.keep K20 (ninS ne17 nin0)
  replace F10 := F10.keep K20 (ninS ne17 nin0)
  replace KK := KK.trans K20 (allS (Or.inr sz18) all0)
  replace F21 : Vec Z h19 a11 .char [c0, (0 : Int32)] := F21
  refine Go.dup H d3_51 rfl rfl ?_
  refine Go.iconst (1 : Int32) H d3_52 rfl rfl ?_
  refine Go.iloadN H d3_53 rfl rfl ?_
  refine Go.castore c1 H d3_54 rfl F21 1 (by decide) (by decide) (Nat.le_of_ble_eq_true rfl) (own_char k1) z14 (by simp) ?_
  intro h22 K23 F24
  replace A6 := A6.keep K23
  replace F9 := F9.keep K23 (ninS ne17 nin0)
  replace F10 := F10.keep K23 (ninS ne17 nin0)
  replace KK := KK.trans K23 (allS (Or.inr sz18) all0)
  replace F24 : Vec Z h22 a11 .char [c0, c1] := F24
  refine Go.callI (rest := [(.ref a1)]) 1 [(.ref a11)] H d3_55 rfl rfl w15 w16 w13 w17 pd_N10 (ct_new1 l W a1 a11 [c0, c1] h22 A6 F9 F10 F24 (own_ac k0 (own_ac k1 own_an)) (Nat.le_of_ble_eq_true rfl) z4) (by simp) rfl rfl rfl (Nat.le_of_eq rfl) (by decide) (by decide) (by decide) (by decide) nh_N9 ?_
  rintro _ h25 _ ⟨rfl, K26, ⟨b27, S28⟩, rfl⟩
  replace F24 := F24.keep K26 (ninS (Ne.symm ne17) nin0)
  replace KK := KK.trans K26 (allS (Or.inr sz8) all0)
  show Go _ _ _ _ _ _ h25 [a11, a1] 6 15 58 #[.val (.int (2 : Int32)), .val (.int c0), .val (.int c1), .val (.int c2)] [(.ref a1)]
  exact Go.areturn [] H d3_58 rfl rfl (own_narR rfl) ⟨_, _, rfl, own_ext KK, Nat.le_of_eq g3.symm, S28, rfl⟩ all0 (by decide) (by decide)
theorem d3_59 : decode method_7_code 59 = .ok (.new 37, 3) := by decide +kernel
theorem d3_62 : decode method_7_code 62 = .ok (.dup, 1) := by decide +kernel
theorem d3_63 : decode method_7_code 63 = .ok (.iconst 3, 1) := by decide +kernel
theorem d3_64 : decode method_7_code 64 = .ok (.newarray .char, 2) := by decide +kernel
theorem d3_66 : decode method_7_code 66 = .ok (.dup, 1) := by decide +kernel
theorem d3_67 : decode method_7_code 67 = .ok (.iconst 0, 1) := by decide +kernel
theorem d3_68 : decode method_7_code 68 = .ok (.iload_n 1, 1) := by decide +kernel
theorem d3_69 : decode method_7_code 69 = .ok (.castore, 1) := by decide +kernel
theorem d3_70 : decode method_7_code 70 = .ok (.dup, 1) := by decide +kernel
theorem d3_71 : decode method_7_code 71 = .ok (.iconst 1, 1) := by decide +kernel
theorem d3_72 : decode method_7_code 72 = .ok (.iload_n 2, 1) := by decide +kernel
theorem d3_73 : decode method_7_code 73 = .ok (.castore, 1) := by decide +kernel
theorem d3_74 : decode method_7_code 74 = .ok (.dup, 1) := by decide +kernel
theorem d3_75 : decode method_7_code 75 = .ok (.iconst 2, 1) := by decide +kernel
theorem d3_76 : decode method_7_code 76 = .ok (.iload_n 3, 1) := by decide +kernel
theorem d3_77 : decode method_7_code 77 = .ok (.castore, 1) := by decide +kernel
theorem d3_78 : decode method_7_code 78 = .ok (.invokespecial 39, 3) := by decide +kernel
theorem d3_81 : decode method_7_code 81 = .ok (.areturn, 1) := by decide +kernel

abbrev rm_make3 : Room := { frames := 6, cells := 6, slots := 16, locals := 88 }
set_option maxRecDepth 65536 in
set_option maxHeartbeats 4000000 in
theorem ct_make3 (l : Launch) {Z : State} {n0 : Nat} {z : Int32} {f : Value} (W : Sx Z z f) (c0 c1 c2 : Int32) (h : Heap) (k0 : isC c0) (k1 : isC c1) (k2 : isC c2) :
    Ctr l Z n0 N27 method_7_code 4 (some (.object "java/lang/String")) rm_make3 #[(.int (3 : Int32)), (.int c0), (.int c1), (.int c2)] h [] (fun v h' sn => ∃ a b, v = some (.ref a) ∧ Ext h h' ∧ h.size ≤ a ∧ Stg Z h' a b [c0, c1, c2] ∧ sn = []) := by
  refine Ctr.of_go (ls := #[.val (.int (3 : Int32)), .val (.int c0), .val (.int c1), .val (.int c2)]) W.1.1 (plainFor_of_name pn_N21) (fun m => by first | (simp [entryFrame, mkF, argsToLocals, Value.category]; done) | rfl) (fun K H => ?_)
  have KK : Keep h h [] := Keep.refl _ _
  refine Go.iloadN H d3_0 rfl rfl ?_
  refine Go.ifY (pc' := 15) H d3_1 (by decide) (by decide) (by decide) ?_
  refine Go.iloadN H d3_15 rfl rfl ?_
  refine Go.iconst (1 : Int32) H d3_16 rfl rfl ?_
  refine Go.icmpY (pc' := 35) H d3_17 (by decide) (by decide) (by decide) ?_
  refine Go.iloadN H d3_35 rfl rfl ?_
  refine Go.iconst (2 : Int32) H d3_36 rfl rfl ?_
  refine Go.icmpY (pc' := 59) H d3_37 (by decide) (by decide) (by decide) ?_
  refine Go.new H d3_59 rfl w11 w12 w13 (by decide) (by decide) ?_
  intro a1 h2 g3 z4 E5 A6 D7
  have sz8 := Nat.le_trans KK.1 (Nat.le_of_eq g3.symm)
  replace KK := KK.ext E5
  have F9 : Fld Z h2 a1 "java/lang/String" "value" "[B" .null := D7 (Or.inr w27) (ty := (.array .byte)) (by decide)
  have F10 : Fld Z h2 a1 "java/lang/String" "coder" "B" (.int (0 : Int32)) := D7 (Or.inr w28) (ty := .byte) (by decide)
  show Go _ _ _ _ _ _ h2 [a1] 1 4 62 #[.val (.int (3 : Int32)), .val (.int c0), .val (.int c1), .val (.int c2)] [(.ref a1)]
  refine Go.dup H d3_62 rfl rfl ?_
  refine Go.iconst (3 : Int32) H d3_63 rfl rfl ?_
  refine Go.newarray 3 3 H d3_64 rfl w14 rfl (by decide) (by decide) (by decide) (by decide) (by decide) (by decide) (by decide) ?_
  intro a11 h12 g13 z14 E15 F16
  have ne17 : a1 ≠ a11 := Nat.ne_of_lt (Nat.lt_of_lt_of_le A6.lt (Nat.le_of_eq g13.symm))
  have sz18 := Nat.le_trans KK.1 (Nat.le_of_eq g13.symm)
  replace A6 := A6.ext E15
  replace F9 := F9.ext E15
  replace F10 := F10.ext E15
  replace KK := KK.ext E15
  replace F16 : Vec Z h12 a11 .char [(0 : Int32), (0 : Int32), (0 : Int32)] := F16
  show Go _ _ _ _ _ _ h12 [a11, a1] 2 7 66 #[.val (.int (3 : Int32)), .val (.int c0), .val (.int c1), .val (.int c2)] [(.ref a11), (.ref a1), (.ref a1)]
  refine Go.dup H d3_66 rfl rfl ?_
  refine Go.iconst (0 : Int32) H d3_67 rfl rfl ?_
  refine Go.iloadN H d3_68 rfl rfl ?_
  refine Go.castore c0 H d3_69 rfl F16 0 (by decide) (by decide) (Nat.le_of_ble_eq_true rfl) (own_char k0) z14 (by simp) ?_
  intro h19 K20 F21
  replace A6 := A6.keep K20
  replace F9 := F9.keep K20 (ninS ne17 nin0)
  replace F10 := F10.keep K20 (ninS ne17 nin0)
  replace KK := KK.trans K20 (allS (Or.inr sz18) all0)
  replace F21 : Vec Z h19 a11 .char [c0, (0 : Int32), (0 : Int32)] := F21
  refine Go.dup H d3_70 rfl rfl ?_
  refine Go.iconst (1 : Int32) H d3_71 rfl rfl ?_
  refine Go.iloadN H d3_72 rfl rfl ?_
  refine Go.castore c1 H d3_73 rfl F21 1 (by decide) (by decide) (Nat.le_of_ble_eq_true rfl) (own_char k1) z14 (by simp) ?_
  intro h22 K23 F24
  replace A6 := A6.keep K23
  replace F9 := F9.keep K23 (ninS ne17 nin0)
  replace F10 := F10.keep K23 (ninS ne17 nin0)
  replace KK := KK.trans K23 (allS (Or.inr sz18) all0)
  replace F24 : Vec Z h22 a11 .char [c0, c1, (0 : Int32)] := F24
  refine Go.dup H d3_74 rfl rfl ?_
  refine Go.iconst (2 : Int32) H d3_75 rfl rfl ?_
  refine Go.iloadN H d3_76 rfl rfl ?_
  refine Go.castore c2 H d3_77 rfl F24 2 (by decide) (by decide) (Nat.le_of_ble_eq_true rfl) (own_char k2) z14 (by simp) ?_
  intro h25 K26 F27
  replace A6 := A6.keep K26
  replace F9 := F9.keep K26 (ninS ne17 nin0)
  replace F10 := F10.keep K26 (ninS ne17 nin0)
  replace KK := KK.trans K26 (allS (Or.inr sz18) all0)
  replace F27 : Vec Z h25 a11 .char [c0, c1, c2] := F27
  refine Go.callI (rest := [(.ref a1)]) 1 [(.ref a11)] H d3_78 rfl rfl w15 w16 w13 w17 pd_N10 (ct_new1 l W a1 a11 [c0, c1, c2] h25 A6 F9 F10 F27 (own_ac k0 (own_ac k1 (own_ac k2 own_an))) (Nat.le_of_ble_eq_true rfl) z4) (by simp) rfl rfl rfl (Nat.le_of_eq rfl) (by decide) (by decide) (by decide) (by decide) nh_N9 ?_
  rintro _ h28 _ ⟨rfl, K29, ⟨b30, S31⟩, rfl⟩
  replace F27 := F27.keep K29 (ninS (Ne.symm ne17) nin0)
  replace KK := KK.trans K29 (allS (Or.inr sz8) all0)
  show Go _ _ _ _ _ _ h28 [a11, a1] 6 16 81 #[.val (.int (3 : Int32)), .val (.int c0), .val (.int c1), .val (.int c2)] [(.ref a1)]
  exact Go.areturn [] H d3_81 rfl rfl (own_narR rfl) ⟨_, _, rfl, own_ext KK, Nat.le_of_eq g3.symm, S31, rfl⟩ all0 (by decide) (by decide)
theorem own_and3 (x : Int32) : ∃ n : Int32, x &&& 3 = n ∧ (n = 0 ∨ n = 1 ∨ n = 2 ∨ n = 3) := by
  have m1 := c_mask x 3 2 (by decide) (by decide)
  have k : ∀ (y : Int32) (v : Int), y.toInt = v → v = 0 ∨ v = 1 ∨ v = 2 ∨ v = 3 → y = Int32.ofInt v := fun y v e h => by
    apply Int32.toInt_inj.mp; rcases h with rfl | rfl | rfl | rfl <;> rw [e] <;> decide
  have h : (x &&& 3).toInt = 0 ∨ (x &&& 3).toInt = 1 ∨ (x &&& 3).toInt = 2 ∨ (x &&& 3).toInt = 3 := by omega
  refine ⟨_, rfl, ?_⟩
  rcases h with h | h | h | h
  · exact Or.inl (k _ _ h (by omega))
  · exact Or.inr (Or.inl (k _ _ h (by omega)))
  · exact Or.inr (Or.inr (Or.inl (k _ _ h (by omega))))
  · exact Or.inr (Or.inr (Or.inr ((k _ _ h (by omega)))))
theorem w3 : Jvm.Cond.code N21 method_3_code (5 : Nat) (Option.some Jvm.ClassFile.FieldType.char) ∈ tables_1 := List.mem_of_getElem? (i := 3) rfl
theorem pd_N21 : parseMethodDescriptor N21.desc = some ⟨[.long, .int, .int], (some .char)⟩ := by decide +kernel
theorem w0 : Jvm.Cond.methodLink "com/example/rendezpoint/rendezpoint/core/NameEqualIgnoringCasePinLaw" (7 : Nat) N21 ∈ tables_1 := List.mem_of_getElem? (i := 0) rfl
theorem w1 : Jvm.Cond.static N21 ∈ tables_1 := List.mem_of_getElem? (i := 1) rfl
theorem w7 : Jvm.Cond.code N22 method_4_code (7 : Nat) (Option.some Jvm.ClassFile.FieldType.char) ∈ tables_1 := List.mem_of_getElem? (i := 7) rfl
theorem pd_N22 : parseMethodDescriptor N22.desc = some ⟨[.char, .long, .int, .int], (some .char)⟩ := by decide +kernel
theorem w5 : Jvm.Cond.methodLink "com/example/rendezpoint/rendezpoint/core/NameEqualIgnoringCasePinLaw" (13 : Nat) N22 ∈ tables_1 := List.mem_of_getElem? (i := 5) rfl
theorem w6 : Jvm.Cond.static N22 ∈ tables_1 := List.mem_of_getElem? (i := 6) rfl
theorem w10 : Jvm.Cond.code N27 method_7_code (4 : Nat) (Option.some (Jvm.ClassFile.FieldType.object "java/lang/String")) ∈ tables_1 := List.mem_of_getElem? (i := 10) rfl
theorem pd_N27 : parseMethodDescriptor N27.desc = some ⟨[.int, .char, .char, .char], (some (.object "java/lang/String"))⟩ := by decide +kernel
theorem w8 : Jvm.Cond.methodLink "com/example/rendezpoint/rendezpoint/core/NameEqualIgnoringCasePinLaw" (17 : Nat) N27 ∈ tables_1 := List.mem_of_getElem? (i := 8) rfl
theorem w9 : Jvm.Cond.static N27 ∈ tables_1 := List.mem_of_getElem? (i := 9) rfl
theorem w36 : Jvm.Cond.code N26 prog_6_method_4_code (3 : Nat) (Option.some Jvm.ClassFile.FieldType.boolean) ∈ tables_1 := List.mem_of_getElem? (i := 36) rfl
theorem pd_N26 : parseMethodDescriptor N26.desc = some ⟨[(.object "java/lang/String"), (.object "java/lang/String")], (some .boolean)⟩ := by decide +kernel
theorem w33 : Jvm.Cond.methodLink "com/example/rendezpoint/rendezpoint/core/NameEqualIgnoringCasePinLaw" (25 : Nat) N26 ∈ tables_1 := List.mem_of_getElem? (i := 33) rfl
theorem w34 : Jvm.Cond.static N26 ∈ tables_1 := List.mem_of_getElem? (i := 34) rfl
theorem w79 : Jvm.Cond.code N24 method_6_code (2 : Nat) (Option.some Jvm.ClassFile.FieldType.boolean) ∈ tables_1 := List.mem_of_getElem? (i := 79) rfl
theorem pd_N24 : parseMethodDescriptor N24.desc = some ⟨[.char, .char], (some .boolean)⟩ := by decide +kernel
theorem w77 : Jvm.Cond.methodLink "com/example/rendezpoint/rendezpoint/core/NameEqualIgnoringCasePinLaw" (21 : Nat) N24 ∈ tables_1 := List.mem_of_getElem? (i := 77) rfl
theorem w78 : Jvm.Cond.static N24 ∈ tables_1 := List.mem_of_getElem? (i := 78) rfl
abbrev N28 : MethodName := ⟨"com/example/rendezpoint/rendezpoint/core/NameEqualIgnoringCasePinLaw", "law", "(JJI)Z"⟩
set_option maxRecDepth 65536 in
set_option maxHeartbeats 40000000 in
theorem ct_law (l : Launch) {Z : State} {n0 : Nat} {z : Int32} {f : Value} (W : Sx Z z f) (u : Int64) (o : Int64) (k : Int32) (h : Heap) : Ctr l Z n0 x code maxLocals ret room_1 #[(.long u), (.long o), (.int k)] h [] (fun v h' sn => v = some (.int 1) ∧ True) := by
  refine Ctr.of_go (ls := #[.val (.long u), .second, .val (.long o), .second, .val (.int k), .unset, .unset, .unset, .unset, .unset, .unset, .unset, .unset, .unset, .unset, .unset]) W.1.1 (plainFor_of_name pn_N21) (fun m => by simp [entryFrame, mkF, argsToLocals, Value.category, maxLocals]) (fun K H0 => ?_)
  have H : Ok Z K "com/example/rendezpoint/rendezpoint/core/NameEqualIgnoringCasePinLaw" code 16 (some .boolean) "law" := H0
  obtain ⟨n, hn, hn4⟩ := own_and3 k
  obtain ⟨m, hm, hm4⟩ := own_and3 ((k.toUInt32 >>> ((3 : Int32) &&& 31).toUInt32).toInt32)
  refine Go.iload H at_0 rfl rfl ?_
  refine Go.iconst (3 : Int32) H at_2 rfl rfl ?_
  refine Go.iand H at_3 rfl ?_
  rw [hn]
  refine Go.istore (ls' := #[.val (.long u), .second, .val (.long o), .second, .val (.int k), .val (.int n), .unset, .unset, .unset, .unset, .unset, .unset, .unset, .unset, .unset, .unset]) H at_4 rfl rfl ?_
  refine Go.iload H at_6 rfl rfl ?_
  refine Go.iconst (4 : Int32) H at_8 rfl rfl ?_
  refine Go.iand H at_9 rfl ?_
  by_cases c1 : (k &&& (4 : Int32)) = (0 : Int32)
  ·
    refine Go.ifY (pc' := 22) H at_10 (teq c1).1 (by decide) (by decide) ?_
    refine Go.iload H at_22 rfl rfl ?_
    refine Go.istore (ls' := #[.val (.long u), .second, .val (.long o), .second, .val (.int k), .val (.int n), .val (.int n), .unset, .unset, .unset, .unset, .unset, .unset, .unset, .unset, .unset]) H at_24 rfl rfl ?_
    refine Go.lloadN H at_26 rfl rfl ?_
    refine Go.iconst (0 : Int32) H at_27 rfl rfl ?_
    refine Go.iload H at_28 rfl rfl ?_
    refine Go.callS (rest := []) 0 [(.long u), (.int (0 : Int32)), (.int k)] H at_30 rfl w0 w1 w2 w3 pd_N21 (ct_tch l W u (0 : Int32) k h) all0 rfl rfl rfl (Nat.le_of_eq rfl) (by decide) (by decide) (by decide) (by decide) nh_N23 ?_
    rintro _ _ _ ⟨rfl, rfl, rfl⟩
    show Go _ _ _ _ _ _ h [] 0 0 33 #[.val (.long u), .second, .val (.long o), .second, .val (.int k), .val (.int n), .val (.int n), .unset, .unset, .unset, .unset, .unset, .unset, .unset, .unset, .unset] [(.int (tchF u (0 : Int32) k))]
    refine Go.istore (ls' := #[.val (.long u), .second, .val (.long o), .second, .val (.int k), .val (.int n), .val (.int n), .val (.int (tchF u (0 : Int32) k)), .unset, .unset, .unset, .unset, .unset, .unset, .unset, .unset]) H at_33 rfl rfl ?_
    refine Go.lloadN H at_35 rfl rfl ?_
    refine Go.iconst (1 : Int32) H at_36 rfl rfl ?_
    refine Go.iload H at_37 rfl rfl ?_
    refine Go.callS (rest := []) 0 [(.long u), (.int (1 : Int32)), (.int k)] H at_39 rfl w0 w1 w2 w3 pd_N21 (ct_tch l W u (1 : Int32) k h) all0 rfl rfl rfl (Nat.le_of_eq rfl) (by decide) (by decide) (by decide) (by decide) nh_N23 ?_
    rintro _ _ _ ⟨rfl, rfl, rfl⟩
    show Go _ _ _ _ _ _ h [] 0 0 42 #[.val (.long u), .second, .val (.long o), .second, .val (.int k), .val (.int n), .val (.int n), .val (.int (tchF u (0 : Int32) k)), .unset, .unset, .unset, .unset, .unset, .unset, .unset, .unset] [(.int (tchF u (1 : Int32) k))]
    refine Go.istore (ls' := #[.val (.long u), .second, .val (.long o), .second, .val (.int k), .val (.int n), .val (.int n), .val (.int (tchF u (0 : Int32) k)), .val (.int (tchF u (1 : Int32) k)), .unset, .unset, .unset, .unset, .unset, .unset, .unset]) H at_42 rfl rfl ?_
    refine Go.lloadN H at_44 rfl rfl ?_
    refine Go.iconst (2 : Int32) H at_45 rfl rfl ?_
    refine Go.iload H at_46 rfl rfl ?_
    refine Go.callS (rest := []) 0 [(.long u), (.int (2 : Int32)), (.int k)] H at_48 rfl w0 w1 w2 w3 pd_N21 (ct_tch l W u (2 : Int32) k h) all0 rfl rfl rfl (Nat.le_of_eq rfl) (by decide) (by decide) (by decide) (by decide) nh_N23 ?_
    rintro _ _ _ ⟨rfl, rfl, rfl⟩
    show Go _ _ _ _ _ _ h [] 0 0 51 #[.val (.long u), .second, .val (.long o), .second, .val (.int k), .val (.int n), .val (.int n), .val (.int (tchF u (0 : Int32) k)), .val (.int (tchF u (1 : Int32) k)), .unset, .unset, .unset, .unset, .unset, .unset, .unset] [(.int (tchF u (2 : Int32) k))]
    refine Go.istore (ls' := #[.val (.long u), .second, .val (.long o), .second, .val (.int k), .val (.int n), .val (.int n), .val (.int (tchF u (0 : Int32) k)), .val (.int (tchF u (1 : Int32) k)), .val (.int (tchF u (2 : Int32) k)), .unset, .unset, .unset, .unset, .unset, .unset]) H at_51 rfl rfl ?_
    refine Go.iload H at_53 rfl rfl ?_
    refine Go.lloadN H at_55 rfl rfl ?_
    refine Go.iconst (0 : Int32) H at_56 rfl rfl ?_
    refine Go.iload H at_57 rfl rfl ?_
    refine Go.callS (rest := []) 0 [(.int (tchF u (0 : Int32) k)), (.long o), (.int (0 : Int32)), (.int k)] H at_59 rfl w5 w6 w2 w7 pd_N22 (ct_och l W (tchF u (0 : Int32) k) o (0 : Int32) k h) all0 rfl rfl rfl (Nat.le_of_eq rfl) (by decide) (by decide) (by decide) (by decide) nh_N23 ?_
    rintro _ _ _ ⟨rfl, rfl, rfl⟩
    show Go _ _ _ _ _ _ h [] 0 0 62 #[.val (.long u), .second, .val (.long o), .second, .val (.int k), .val (.int n), .val (.int n), .val (.int (tchF u (0 : Int32) k)), .val (.int (tchF u (1 : Int32) k)), .val (.int (tchF u (2 : Int32) k)), .unset, .unset, .unset, .unset, .unset, .unset] [(.int (ochF (tchF u (0 : Int32) k) o (0 : Int32) k))]
    refine Go.istore (ls' := #[.val (.long u), .second, .val (.long o), .second, .val (.int k), .val (.int n), .val (.int n), .val (.int (tchF u (0 : Int32) k)), .val (.int (tchF u (1 : Int32) k)), .val (.int (tchF u (2 : Int32) k)), .val (.int (ochF (tchF u (0 : Int32) k) o (0 : Int32) k)), .unset, .unset, .unset, .unset, .unset]) H at_62 rfl rfl ?_
    refine Go.iload H at_64 rfl rfl ?_
    refine Go.lloadN H at_66 rfl rfl ?_
    refine Go.iconst (1 : Int32) H at_67 rfl rfl ?_
    refine Go.iload H at_68 rfl rfl ?_
    refine Go.callS (rest := []) 0 [(.int (tchF u (1 : Int32) k)), (.long o), (.int (1 : Int32)), (.int k)] H at_70 rfl w5 w6 w2 w7 pd_N22 (ct_och l W (tchF u (1 : Int32) k) o (1 : Int32) k h) all0 rfl rfl rfl (Nat.le_of_eq rfl) (by decide) (by decide) (by decide) (by decide) nh_N23 ?_
    rintro _ _ _ ⟨rfl, rfl, rfl⟩
    show Go _ _ _ _ _ _ h [] 0 0 73 #[.val (.long u), .second, .val (.long o), .second, .val (.int k), .val (.int n), .val (.int n), .val (.int (tchF u (0 : Int32) k)), .val (.int (tchF u (1 : Int32) k)), .val (.int (tchF u (2 : Int32) k)), .val (.int (ochF (tchF u (0 : Int32) k) o (0 : Int32) k)), .unset, .unset, .unset, .unset, .unset] [(.int (ochF (tchF u (1 : Int32) k) o (1 : Int32) k))]
    refine Go.istore (ls' := #[.val (.long u), .second, .val (.long o), .second, .val (.int k), .val (.int n), .val (.int n), .val (.int (tchF u (0 : Int32) k)), .val (.int (tchF u (1 : Int32) k)), .val (.int (tchF u (2 : Int32) k)), .val (.int (ochF (tchF u (0 : Int32) k) o (0 : Int32) k)), .val (.int (ochF (tchF u (1 : Int32) k) o (1 : Int32) k)), .unset, .unset, .unset, .unset]) H at_73 rfl rfl ?_
    refine Go.iload H at_75 rfl rfl ?_
    refine Go.lloadN H at_77 rfl rfl ?_
    refine Go.iconst (2 : Int32) H at_78 rfl rfl ?_
    refine Go.iload H at_79 rfl rfl ?_
    refine Go.callS (rest := []) 0 [(.int (tchF u (2 : Int32) k)), (.long o), (.int (2 : Int32)), (.int k)] H at_81 rfl w5 w6 w2 w7 pd_N22 (ct_och l W (tchF u (2 : Int32) k) o (2 : Int32) k h) all0 rfl rfl rfl (Nat.le_of_eq rfl) (by decide) (by decide) (by decide) (by decide) nh_N23 ?_
    rintro _ _ _ ⟨rfl, rfl, rfl⟩
    show Go _ _ _ _ _ _ h [] 0 0 84 #[.val (.long u), .second, .val (.long o), .second, .val (.int k), .val (.int n), .val (.int n), .val (.int (tchF u (0 : Int32) k)), .val (.int (tchF u (1 : Int32) k)), .val (.int (tchF u (2 : Int32) k)), .val (.int (ochF (tchF u (0 : Int32) k) o (0 : Int32) k)), .val (.int (ochF (tchF u (1 : Int32) k) o (1 : Int32) k)), .unset, .unset, .unset, .unset] [(.int (ochF (tchF u (2 : Int32) k) o (2 : Int32) k))]
    refine Go.istore (ls' := #[.val (.long u), .second, .val (.long o), .second, .val (.int k), .val (.int n), .val (.int n), .val (.int (tchF u (0 : Int32) k)), .val (.int (tchF u (1 : Int32) k)), .val (.int (tchF u (2 : Int32) k)), .val (.int (ochF (tchF u (0 : Int32) k) o (0 : Int32) k)), .val (.int (ochF (tchF u (1 : Int32) k) o (1 : Int32) k)), .val (.int (ochF (tchF u (2 : Int32) k) o (2 : Int32) k)), .unset, .unset, .unset]) H at_84 rfl rfl ?_
    rcases hn4 with rfl | rfl | rfl | rfl
    ·
      show Go _ _ _ _ _ _ h [] 0 0 86 #[.val (.long u), .second, .val (.long o), .second, .val (.int k), .val (.int (0 : Int32)), .val (.int (0 : Int32)), .val (.int (tchF u (0 : Int32) k)), .val (.int (tchF u (1 : Int32) k)), .val (.int (tchF u (2 : Int32) k)), .val (.int (ochF (tchF u (0 : Int32) k) o (0 : Int32) k)), .val (.int (ochF (tchF u (1 : Int32) k) o (1 : Int32) k)), .val (.int (ochF (tchF u (2 : Int32) k) o (2 : Int32) k)), .unset, .unset, .unset] []
      refine Go.iload H at_86 rfl rfl ?_
      refine Go.iload H at_88 rfl rfl ?_
      refine Go.iload H at_90 rfl rfl ?_
      refine Go.iload H at_92 rfl rfl ?_
      refine Go.callS (rest := []) 0 [(.int (0 : Int32)), (.int (tchF u (0 : Int32) k)), (.int (tchF u (1 : Int32) k)), (.int (tchF u (2 : Int32) k))] H at_94 rfl w8 w9 w2 w10 pd_N27 (ct_make0 l W (tchF u (0 : Int32) k) (tchF u (1 : Int32) k) (tchF u (2 : Int32) k) h (tchF_k _ _ _) (tchF_k _ _ _) (tchF_k _ _ _)) all0 rfl rfl rfl (Nat.le_of_eq rfl) (by decide) (by decide) (by decide) (by decide) nh_N23 ?_
      rintro _ h4 _ ⟨a2, b3, rfl, E5, g6, S7, rfl⟩
      show Go _ _ _ _ _ _ h4 [] 6 13 97 #[.val (.long u), .second, .val (.long o), .second, .val (.int k), .val (.int (0 : Int32)), .val (.int (0 : Int32)), .val (.int (tchF u (0 : Int32) k)), .val (.int (tchF u (1 : Int32) k)), .val (.int (tchF u (2 : Int32) k)), .val (.int (ochF (tchF u (0 : Int32) k) o (0 : Int32) k)), .val (.int (ochF (tchF u (1 : Int32) k) o (1 : Int32) k)), .val (.int (ochF (tchF u (2 : Int32) k) o (2 : Int32) k)), .unset, .unset, .unset] [(.ref a2)]
      refine Go.astore (ls' := #[.val (.long u), .second, .val (.long o), .second, .val (.int k), .val (.int (0 : Int32)), .val (.int (0 : Int32)), .val (.int (tchF u (0 : Int32) k)), .val (.int (tchF u (1 : Int32) k)), .val (.int (tchF u (2 : Int32) k)), .val (.int (ochF (tchF u (0 : Int32) k) o (0 : Int32) k)), .val (.int (ochF (tchF u (1 : Int32) k) o (1 : Int32) k)), .val (.int (ochF (tchF u (2 : Int32) k) o (2 : Int32) k)), .val (.ref a2), .unset, .unset]) H at_97 rfl rfl rfl ?_
      refine Go.iload H at_99 rfl rfl ?_
      refine Go.iload H at_101 rfl rfl ?_
      refine Go.iload H at_103 rfl rfl ?_
      refine Go.iload H at_105 rfl rfl ?_
      refine Go.callS (rest := []) 0 [(.int (0 : Int32)), (.int (ochF (tchF u (0 : Int32) k) o (0 : Int32) k)), (.int (ochF (tchF u (1 : Int32) k) o (1 : Int32) k)), (.int (ochF (tchF u (2 : Int32) k) o (2 : Int32) k))] H at_107 rfl w8 w9 w2 w10 pd_N27 (ct_make0 l W (ochF (tchF u (0 : Int32) k) o (0 : Int32) k) (ochF (tchF u (1 : Int32) k) o (1 : Int32) k) (ochF (tchF u (2 : Int32) k) o (2 : Int32) k) h4 (ochF_k _ _ _ _) (ochF_k _ _ _ _) (ochF_k _ _ _ _)) all0 rfl rfl rfl (Nat.le_of_eq rfl) (by decide) (by decide) (by decide) (by decide) nh_N23 ?_
      rintro _ h10 _ ⟨a8, b9, rfl, E11, g12, S13, rfl⟩
      have ne14 : a2 ≠ a8 := Nat.ne_of_lt (Nat.lt_of_lt_of_le S7.lt g12)
      have ne15 : b3 ≠ a8 := Nat.ne_of_lt (Nat.lt_of_lt_of_le S7.ltb g12)
      replace S7 := S7.ext E11
      show Go _ _ _ _ _ _ h10 [] 12 26 110 #[.val (.long u), .second, .val (.long o), .second, .val (.int k), .val (.int (0 : Int32)), .val (.int (0 : Int32)), .val (.int (tchF u (0 : Int32) k)), .val (.int (tchF u (1 : Int32) k)), .val (.int (tchF u (2 : Int32) k)), .val (.int (ochF (tchF u (0 : Int32) k) o (0 : Int32) k)), .val (.int (ochF (tchF u (1 : Int32) k) o (1 : Int32) k)), .val (.int (ochF (tchF u (2 : Int32) k) o (2 : Int32) k)), .val (.ref a2), .unset, .unset] [(.ref a8)]
      refine Go.astore (ls' := #[.val (.long u), .second, .val (.long o), .second, .val (.int k), .val (.int (0 : Int32)), .val (.int (0 : Int32)), .val (.int (tchF u (0 : Int32) k)), .val (.int (tchF u (1 : Int32) k)), .val (.int (tchF u (2 : Int32) k)), .val (.int (ochF (tchF u (0 : Int32) k) o (0 : Int32) k)), .val (.int (ochF (tchF u (1 : Int32) k) o (1 : Int32) k)), .val (.int (ochF (tchF u (2 : Int32) k) o (2 : Int32) k)), .val (.ref a2), .val (.ref a8), .unset]) H at_110 rfl rfl rfl ?_
      refine Go.iload H at_112 rfl rfl ?_
      refine Go.iload H at_114 rfl rfl ?_
      refine Go.icmpN H at_116 (by decide) rfl ?_
      refine Go.iload H at_119 rfl rfl ?_
      refine Go.iconst (1 : Int32) H at_121 rfl rfl ?_
      refine Go.icmpY (pc' := 135) H at_122 (by decide) (by decide) (by decide) ?_
      refine Go.iload H at_135 rfl rfl ?_
      refine Go.iconst (2 : Int32) H at_137 rfl rfl ?_
      refine Go.icmpY (pc' := 151) H at_138 (by decide) (by decide) (by decide) ?_
      refine Go.iload H at_151 rfl rfl ?_
      refine Go.iconst (3 : Int32) H at_153 rfl rfl ?_
      refine Go.icmpY (pc' := 167) H at_154 (by decide) (by decide) (by decide) ?_
      refine Go.iconst (1 : Int32) H at_167 rfl rfl ?_
      refine Go.goto (pc' := 172) H at_168 (by decide) (by decide) ?_
      refine Go.istore (ls' := #[.val (.long u), .second, .val (.long o), .second, .val (.int k), .val (.int (0 : Int32)), .val (.int (0 : Int32)), .val (.int (tchF u (0 : Int32) k)), .val (.int (tchF u (1 : Int32) k)), .val (.int (tchF u (2 : Int32) k)), .val (.int (ochF (tchF u (0 : Int32) k) o (0 : Int32) k)), .val (.int (ochF (tchF u (1 : Int32) k) o (1 : Int32) k)), .val (.int (ochF (tchF u (2 : Int32) k) o (2 : Int32) k)), .val (.ref a2), .val (.ref a8), .val (.int (1 : Int32))]) H at_172 rfl rfl ?_
      refine Go.aload H at_174 rfl rfl rfl ?_
      refine Go.aload H at_176 rfl rfl rfl ?_
      refine Go.callS (rest := []) 0 [(.ref a2), (.ref a8)] H at_178 rfl w33 w34 w35 w36 pd_N26 (ct_eic l W a2 b3 a8 b9 ([] : List Int32) ([] : List Int32) h10 S7 S13 (Nat.le_of_ble_eq_true rfl) (Nat.le_of_ble_eq_true rfl)) all0 rfl rfl rfl (Nat.le_of_eq rfl) (by decide) (by decide) (by decide) (by decide) nh_N25 ?_
      rintro _ _ _ ⟨rfl, rfl, rfl⟩
      show Go _ _ _ _ _ _ h10 [] 12 26 181 #[.val (.long u), .second, .val (.long o), .second, .val (.int k), .val (.int (0 : Int32)), .val (.int (0 : Int32)), .val (.int (tchF u (0 : Int32) k)), .val (.int (tchF u (1 : Int32) k)), .val (.int (tchF u (2 : Int32) k)), .val (.int (ochF (tchF u (0 : Int32) k) o (0 : Int32) k)), .val (.int (ochF (tchF u (1 : Int32) k) o (1 : Int32) k)), .val (.int (ochF (tchF u (2 : Int32) k) o (2 : Int32) k)), .val (.ref a2), .val (.ref a8), .val (.int (1 : Int32))] [(.int (eicF ([] : List Int32) ([] : List Int32)))]
      refine Go.iload H at_181 rfl rfl ?_
      refine Go.icmpN H at_183 (teq (by simp [eicF])).2 rfl ?_
      refine Go.iconst (1 : Int32) H at_186 rfl rfl ?_
      refine Go.goto (pc' := 191) H at_187 (by decide) (by decide) ?_
      exact Go.ireturn 1 [] H at_191 (by simp) (by decide) ⟨rfl, trivial⟩ all0 (by decide) (by decide)
    ·
      show Go _ _ _ _ _ _ h [] 0 0 86 #[.val (.long u), .second, .val (.long o), .second, .val (.int k), .val (.int (1 : Int32)), .val (.int (1 : Int32)), .val (.int (tchF u (0 : Int32) k)), .val (.int (tchF u (1 : Int32) k)), .val (.int (tchF u (2 : Int32) k)), .val (.int (ochF (tchF u (0 : Int32) k) o (0 : Int32) k)), .val (.int (ochF (tchF u (1 : Int32) k) o (1 : Int32) k)), .val (.int (ochF (tchF u (2 : Int32) k) o (2 : Int32) k)), .unset, .unset, .unset] []
      refine Go.iload H at_86 rfl rfl ?_
      refine Go.iload H at_88 rfl rfl ?_
      refine Go.iload H at_90 rfl rfl ?_
      refine Go.iload H at_92 rfl rfl ?_
      refine Go.callS (rest := []) 0 [(.int (1 : Int32)), (.int (tchF u (0 : Int32) k)), (.int (tchF u (1 : Int32) k)), (.int (tchF u (2 : Int32) k))] H at_94 rfl w8 w9 w2 w10 pd_N27 (ct_make1 l W (tchF u (0 : Int32) k) (tchF u (1 : Int32) k) (tchF u (2 : Int32) k) h (tchF_k _ _ _) (tchF_k _ _ _) (tchF_k _ _ _)) all0 rfl rfl rfl (Nat.le_of_eq rfl) (by decide) (by decide) (by decide) (by decide) nh_N23 ?_
      rintro _ h18 _ ⟨a16, b17, rfl, E19, g20, S21, rfl⟩
      show Go _ _ _ _ _ _ h18 [] 6 14 97 #[.val (.long u), .second, .val (.long o), .second, .val (.int k), .val (.int (1 : Int32)), .val (.int (1 : Int32)), .val (.int (tchF u (0 : Int32) k)), .val (.int (tchF u (1 : Int32) k)), .val (.int (tchF u (2 : Int32) k)), .val (.int (ochF (tchF u (0 : Int32) k) o (0 : Int32) k)), .val (.int (ochF (tchF u (1 : Int32) k) o (1 : Int32) k)), .val (.int (ochF (tchF u (2 : Int32) k) o (2 : Int32) k)), .unset, .unset, .unset] [(.ref a16)]
      refine Go.astore (ls' := #[.val (.long u), .second, .val (.long o), .second, .val (.int k), .val (.int (1 : Int32)), .val (.int (1 : Int32)), .val (.int (tchF u (0 : Int32) k)), .val (.int (tchF u (1 : Int32) k)), .val (.int (tchF u (2 : Int32) k)), .val (.int (ochF (tchF u (0 : Int32) k) o (0 : Int32) k)), .val (.int (ochF (tchF u (1 : Int32) k) o (1 : Int32) k)), .val (.int (ochF (tchF u (2 : Int32) k) o (2 : Int32) k)), .val (.ref a16), .unset, .unset]) H at_97 rfl rfl rfl ?_
      refine Go.iload H at_99 rfl rfl ?_
      refine Go.iload H at_101 rfl rfl ?_
      refine Go.iload H at_103 rfl rfl ?_
      refine Go.iload H at_105 rfl rfl ?_
      refine Go.callS (rest := []) 0 [(.int (1 : Int32)), (.int (ochF (tchF u (0 : Int32) k) o (0 : Int32) k)), (.int (ochF (tchF u (1 : Int32) k) o (1 : Int32) k)), (.int (ochF (tchF u (2 : Int32) k) o (2 : Int32) k))] H at_107 rfl w8 w9 w2 w10 pd_N27 (ct_make1 l W (ochF (tchF u (0 : Int32) k) o (0 : Int32) k) (ochF (tchF u (1 : Int32) k) o (1 : Int32) k) (ochF (tchF u (2 : Int32) k) o (2 : Int32) k) h18 (ochF_k _ _ _ _) (ochF_k _ _ _ _) (ochF_k _ _ _ _)) all0 rfl rfl rfl (Nat.le_of_eq rfl) (by decide) (by decide) (by decide) (by decide) nh_N23 ?_
      rintro _ h24 _ ⟨a22, b23, rfl, E25, g26, S27, rfl⟩
      have ne28 : a16 ≠ a22 := Nat.ne_of_lt (Nat.lt_of_lt_of_le S21.lt g26)
      have ne29 : b17 ≠ a22 := Nat.ne_of_lt (Nat.lt_of_lt_of_le S21.ltb g26)
      replace S21 := S21.ext E25
      show Go _ _ _ _ _ _ h24 [] 12 28 110 #[.val (.long u), .second, .val (.long o), .second, .val (.int k), .val (.int (1 : Int32)), .val (.int (1 : Int32)), .val (.int (tchF u (0 : Int32) k)), .val (.int (tchF u (1 : Int32) k)), .val (.int (tchF u (2 : Int32) k)), .val (.int (ochF (tchF u (0 : Int32) k) o (0 : Int32) k)), .val (.int (ochF (tchF u (1 : Int32) k) o (1 : Int32) k)), .val (.int (ochF (tchF u (2 : Int32) k) o (2 : Int32) k)), .val (.ref a16), .unset, .unset] [(.ref a22)]
      refine Go.astore (ls' := #[.val (.long u), .second, .val (.long o), .second, .val (.int k), .val (.int (1 : Int32)), .val (.int (1 : Int32)), .val (.int (tchF u (0 : Int32) k)), .val (.int (tchF u (1 : Int32) k)), .val (.int (tchF u (2 : Int32) k)), .val (.int (ochF (tchF u (0 : Int32) k) o (0 : Int32) k)), .val (.int (ochF (tchF u (1 : Int32) k) o (1 : Int32) k)), .val (.int (ochF (tchF u (2 : Int32) k) o (2 : Int32) k)), .val (.ref a16), .val (.ref a22), .unset]) H at_110 rfl rfl rfl ?_
      refine Go.iload H at_112 rfl rfl ?_
      refine Go.iload H at_114 rfl rfl ?_
      refine Go.icmpN H at_116 (by decide) rfl ?_
      refine Go.iload H at_119 rfl rfl ?_
      refine Go.iconst (1 : Int32) H at_121 rfl rfl ?_
      refine Go.icmpN H at_122 (by decide) rfl ?_
      refine Go.iload H at_125 rfl rfl ?_
      refine Go.iload H at_127 rfl rfl ?_
      refine Go.callS (rest := []) 0 [(.int (tchF u (0 : Int32) k)), (.int (ochF (tchF u (0 : Int32) k) o (0 : Int32) k))] H at_129 rfl w77 w78 w2 w79 pd_N24 (ct_mat l W (tchF u (0 : Int32) k) (ochF (tchF u (0 : Int32) k) o (0 : Int32) k) h24) all0 rfl rfl rfl (Nat.le_of_eq rfl) (by decide) (by decide) (by decide) (by decide) nh_N23 ?_
      rintro _ _ _ ⟨rfl, rfl, rfl⟩
      show Go _ _ _ _ _ _ h24 [] 12 28 132 #[.val (.long u), .second, .val (.long o), .second, .val (.int k), .val (.int (1 : Int32)), .val (.int (1 : Int32)), .val (.int (tchF u (0 : Int32) k)), .val (.int (tchF u (1 : Int32) k)), .val (.int (tchF u (2 : Int32) k)), .val (.int (ochF (tchF u (0 : Int32) k) o (0 : Int32) k)), .val (.int (ochF (tchF u (1 : Int32) k) o (1 : Int32) k)), .val (.int (ochF (tchF u (2 : Int32) k) o (2 : Int32) k)), .val (.ref a16), .val (.ref a22), .unset] [(.int (mF (tchF u (0 : Int32) k) (ochF (tchF u (0 : Int32) k) o (0 : Int32) k)))]
      by_cases c30 : (mF (tchF u (0 : Int32) k) (ochF (tchF u (0 : Int32) k) o (0 : Int32) k)) = (0 : Int32)
      ·
        refine Go.ifY (pc' := 171) H at_132 (teq c30).1 (by decide) (by decide) ?_
        refine Go.iconst (0 : Int32) H at_171 rfl rfl ?_
        refine Go.istore (ls' := #[.val (.long u), .second, .val (.long o), .second, .val (.int k), .val (.int (1 : Int32)), .val (.int (1 : Int32)), .val (.int (tchF u (0 : Int32) k)), .val (.int (tchF u (1 : Int32) k)), .val (.int (tchF u (2 : Int32) k)), .val (.int (ochF (tchF u (0 : Int32) k) o (0 : Int32) k)), .val (.int (ochF (tchF u (1 : Int32) k) o (1 : Int32) k)), .val (.int (ochF (tchF u (2 : Int32) k) o (2 : Int32) k)), .val (.ref a16), .val (.ref a22), .val (.int (0 : Int32))]) H at_172 rfl rfl ?_
        refine Go.aload H at_174 rfl rfl rfl ?_
        refine Go.aload H at_176 rfl rfl rfl ?_
        refine Go.callS (rest := []) 0 [(.ref a16), (.ref a22)] H at_178 rfl w33 w34 w35 w36 pd_N26 (ct_eic l W a16 b17 a22 b23 [(tchF u (0 : Int32) k)] [(ochF (tchF u (0 : Int32) k) o (0 : Int32) k)] h24 S21 S27 (Nat.le_of_ble_eq_true rfl) (Nat.le_of_ble_eq_true rfl)) all0 rfl rfl rfl (Nat.le_of_eq rfl) (by decide) (by decide) (by decide) (by decide) nh_N25 ?_
        rintro _ _ _ ⟨rfl, rfl, rfl⟩
        show Go _ _ _ _ _ _ h24 [] 12 28 181 #[.val (.long u), .second, .val (.long o), .second, .val (.int k), .val (.int (1 : Int32)), .val (.int (1 : Int32)), .val (.int (tchF u (0 : Int32) k)), .val (.int (tchF u (1 : Int32) k)), .val (.int (tchF u (2 : Int32) k)), .val (.int (ochF (tchF u (0 : Int32) k) o (0 : Int32) k)), .val (.int (ochF (tchF u (1 : Int32) k) o (1 : Int32) k)), .val (.int (ochF (tchF u (2 : Int32) k) o (2 : Int32) k)), .val (.ref a16), .val (.ref a22), .val (.int (0 : Int32))] [(.int (eicF [(tchF u (0 : Int32) k)] [(ochF (tchF u (0 : Int32) k) o (0 : Int32) k)]))]
        refine Go.iload H at_181 rfl rfl ?_
        refine Go.icmpN H at_183 (teq (by simp [eicF, (mF_i (tchF_k _ _ _) (ochF_k _ _ _ _)).mp c30])).2 rfl ?_
        refine Go.iconst (1 : Int32) H at_186 rfl rfl ?_
        refine Go.goto (pc' := 191) H at_187 (by decide) (by decide) ?_
        exact Go.ireturn 1 [] H at_191 (by simp) (by decide) ⟨rfl, trivial⟩ all0 (by decide) (by decide)
      ·
        refine Go.ifN H at_132 (feq c30).1 rfl ?_
        refine Go.iload H at_135 rfl rfl ?_
        refine Go.iconst (2 : Int32) H at_137 rfl rfl ?_
        refine Go.icmpY (pc' := 151) H at_138 (by decide) (by decide) (by decide) ?_
        refine Go.iload H at_151 rfl rfl ?_
        refine Go.iconst (3 : Int32) H at_153 rfl rfl ?_
        refine Go.icmpY (pc' := 167) H at_154 (by decide) (by decide) (by decide) ?_
        refine Go.iconst (1 : Int32) H at_167 rfl rfl ?_
        refine Go.goto (pc' := 172) H at_168 (by decide) (by decide) ?_
        refine Go.istore (ls' := #[.val (.long u), .second, .val (.long o), .second, .val (.int k), .val (.int (1 : Int32)), .val (.int (1 : Int32)), .val (.int (tchF u (0 : Int32) k)), .val (.int (tchF u (1 : Int32) k)), .val (.int (tchF u (2 : Int32) k)), .val (.int (ochF (tchF u (0 : Int32) k) o (0 : Int32) k)), .val (.int (ochF (tchF u (1 : Int32) k) o (1 : Int32) k)), .val (.int (ochF (tchF u (2 : Int32) k) o (2 : Int32) k)), .val (.ref a16), .val (.ref a22), .val (.int (1 : Int32))]) H at_172 rfl rfl ?_
        refine Go.aload H at_174 rfl rfl rfl ?_
        refine Go.aload H at_176 rfl rfl rfl ?_
        refine Go.callS (rest := []) 0 [(.ref a16), (.ref a22)] H at_178 rfl w33 w34 w35 w36 pd_N26 (ct_eic l W a16 b17 a22 b23 [(tchF u (0 : Int32) k)] [(ochF (tchF u (0 : Int32) k) o (0 : Int32) k)] h24 S21 S27 (Nat.le_of_ble_eq_true rfl) (Nat.le_of_ble_eq_true rfl)) all0 rfl rfl rfl (Nat.le_of_eq rfl) (by decide) (by decide) (by decide) (by decide) nh_N25 ?_
        rintro _ _ _ ⟨rfl, rfl, rfl⟩
        show Go _ _ _ _ _ _ h24 [] 12 28 181 #[.val (.long u), .second, .val (.long o), .second, .val (.int k), .val (.int (1 : Int32)), .val (.int (1 : Int32)), .val (.int (tchF u (0 : Int32) k)), .val (.int (tchF u (1 : Int32) k)), .val (.int (tchF u (2 : Int32) k)), .val (.int (ochF (tchF u (0 : Int32) k) o (0 : Int32) k)), .val (.int (ochF (tchF u (1 : Int32) k) o (1 : Int32) k)), .val (.int (ochF (tchF u (2 : Int32) k) o (2 : Int32) k)), .val (.ref a16), .val (.ref a22), .val (.int (1 : Int32))] [(.int (eicF [(tchF u (0 : Int32) k)] [(ochF (tchF u (0 : Int32) k) o (0 : Int32) k)]))]
        refine Go.iload H at_181 rfl rfl ?_
        refine Go.icmpN H at_183 (teq (by simp [eicF, Decidable.byContradiction (fun e => c30 ((mF_i (tchF_k _ _ _) (ochF_k _ _ _ _)).mpr e))])).2 rfl ?_
        refine Go.iconst (1 : Int32) H at_186 rfl rfl ?_
        refine Go.goto (pc' := 191) H at_187 (by decide) (by decide) ?_
        exact Go.ireturn 1 [] H at_191 (by simp) (by decide) ⟨rfl, trivial⟩ all0 (by decide) (by decide)
    ·
      show Go _ _ _ _ _ _ h [] 0 0 86 #[.val (.long u), .second, .val (.long o), .second, .val (.int k), .val (.int (2 : Int32)), .val (.int (2 : Int32)), .val (.int (tchF u (0 : Int32) k)), .val (.int (tchF u (1 : Int32) k)), .val (.int (tchF u (2 : Int32) k)), .val (.int (ochF (tchF u (0 : Int32) k) o (0 : Int32) k)), .val (.int (ochF (tchF u (1 : Int32) k) o (1 : Int32) k)), .val (.int (ochF (tchF u (2 : Int32) k) o (2 : Int32) k)), .unset, .unset, .unset] []
      refine Go.iload H at_86 rfl rfl ?_
      refine Go.iload H at_88 rfl rfl ?_
      refine Go.iload H at_90 rfl rfl ?_
      refine Go.iload H at_92 rfl rfl ?_
      refine Go.callS (rest := []) 0 [(.int (2 : Int32)), (.int (tchF u (0 : Int32) k)), (.int (tchF u (1 : Int32) k)), (.int (tchF u (2 : Int32) k))] H at_94 rfl w8 w9 w2 w10 pd_N27 (ct_make2 l W (tchF u (0 : Int32) k) (tchF u (1 : Int32) k) (tchF u (2 : Int32) k) h (tchF_k _ _ _) (tchF_k _ _ _) (tchF_k _ _ _)) all0 rfl rfl rfl (Nat.le_of_eq rfl) (by decide) (by decide) (by decide) (by decide) nh_N23 ?_
      rintro _ h33 _ ⟨a31, b32, rfl, E34, g35, S36, rfl⟩
      show Go _ _ _ _ _ _ h33 [] 6 15 97 #[.val (.long u), .second, .val (.long o), .second, .val (.int k), .val (.int (2 : Int32)), .val (.int (2 : Int32)), .val (.int (tchF u (0 : Int32) k)), .val (.int (tchF u (1 : Int32) k)), .val (.int (tchF u (2 : Int32) k)), .val (.int (ochF (tchF u (0 : Int32) k) o (0 : Int32) k)), .val (.int (ochF (tchF u (1 : Int32) k) o (1 : Int32) k)), .val (.int (ochF (tchF u (2 : Int32) k) o (2 : Int32) k)), .unset, .unset, .unset] [(.ref a31)]
      refine Go.astore (ls' := #[.val (.long u), .second, .val (.long o), .second, .val (.int k), .val (.int (2 : Int32)), .val (.int (2 : Int32)), .val (.int (tchF u (0 : Int32) k)), .val (.int (tchF u (1 : Int32) k)), .val (.int (tchF u (2 : Int32) k)), .val (.int (ochF (tchF u (0 : Int32) k) o (0 : Int32) k)), .val (.int (ochF (tchF u (1 : Int32) k) o (1 : Int32) k)), .val (.int (ochF (tchF u (2 : Int32) k) o (2 : Int32) k)), .val (.ref a31), .unset, .unset]) H at_97 rfl rfl rfl ?_
      refine Go.iload H at_99 rfl rfl ?_
      refine Go.iload H at_101 rfl rfl ?_
      refine Go.iload H at_103 rfl rfl ?_
      refine Go.iload H at_105 rfl rfl ?_
      refine Go.callS (rest := []) 0 [(.int (2 : Int32)), (.int (ochF (tchF u (0 : Int32) k) o (0 : Int32) k)), (.int (ochF (tchF u (1 : Int32) k) o (1 : Int32) k)), (.int (ochF (tchF u (2 : Int32) k) o (2 : Int32) k))] H at_107 rfl w8 w9 w2 w10 pd_N27 (ct_make2 l W (ochF (tchF u (0 : Int32) k) o (0 : Int32) k) (ochF (tchF u (1 : Int32) k) o (1 : Int32) k) (ochF (tchF u (2 : Int32) k) o (2 : Int32) k) h33 (ochF_k _ _ _ _) (ochF_k _ _ _ _) (ochF_k _ _ _ _)) all0 rfl rfl rfl (Nat.le_of_eq rfl) (by decide) (by decide) (by decide) (by decide) nh_N23 ?_
      rintro _ h39 _ ⟨a37, b38, rfl, E40, g41, S42, rfl⟩
      have ne43 : a31 ≠ a37 := Nat.ne_of_lt (Nat.lt_of_lt_of_le S36.lt g41)
      have ne44 : b32 ≠ a37 := Nat.ne_of_lt (Nat.lt_of_lt_of_le S36.ltb g41)
      replace S36 := S36.ext E40
      show Go _ _ _ _ _ _ h39 [] 12 30 110 #[.val (.long u), .second, .val (.long o), .second, .val (.int k), .val (.int (2 : Int32)), .val (.int (2 : Int32)), .val (.int (tchF u (0 : Int32) k)), .val (.int (tchF u (1 : Int32) k)), .val (.int (tchF u (2 : Int32) k)), .val (.int (ochF (tchF u (0 : Int32) k) o (0 : Int32) k)), .val (.int (ochF (tchF u (1 : Int32) k) o (1 : Int32) k)), .val (.int (ochF (tchF u (2 : Int32) k) o (2 : Int32) k)), .val (.ref a31), .unset, .unset] [(.ref a37)]
      refine Go.astore (ls' := #[.val (.long u), .second, .val (.long o), .second, .val (.int k), .val (.int (2 : Int32)), .val (.int (2 : Int32)), .val (.int (tchF u (0 : Int32) k)), .val (.int (tchF u (1 : Int32) k)), .val (.int (tchF u (2 : Int32) k)), .val (.int (ochF (tchF u (0 : Int32) k) o (0 : Int32) k)), .val (.int (ochF (tchF u (1 : Int32) k) o (1 : Int32) k)), .val (.int (ochF (tchF u (2 : Int32) k) o (2 : Int32) k)), .val (.ref a31), .val (.ref a37), .unset]) H at_110 rfl rfl rfl ?_
      refine Go.iload H at_112 rfl rfl ?_
      refine Go.iload H at_114 rfl rfl ?_
      refine Go.icmpN H at_116 (by decide) rfl ?_
      refine Go.iload H at_119 rfl rfl ?_
      refine Go.iconst (1 : Int32) H at_121 rfl rfl ?_
      refine Go.icmpN H at_122 (by decide) rfl ?_
      refine Go.iload H at_125 rfl rfl ?_
      refine Go.iload H at_127 rfl rfl ?_
      refine Go.callS (rest := []) 0 [(.int (tchF u (0 : Int32) k)), (.int (ochF (tchF u (0 : Int32) k) o (0 : Int32) k))] H at_129 rfl w77 w78 w2 w79 pd_N24 (ct_mat l W (tchF u (0 : Int32) k) (ochF (tchF u (0 : Int32) k) o (0 : Int32) k) h39) all0 rfl rfl rfl (Nat.le_of_eq rfl) (by decide) (by decide) (by decide) (by decide) nh_N23 ?_
      rintro _ _ _ ⟨rfl, rfl, rfl⟩
      show Go _ _ _ _ _ _ h39 [] 12 30 132 #[.val (.long u), .second, .val (.long o), .second, .val (.int k), .val (.int (2 : Int32)), .val (.int (2 : Int32)), .val (.int (tchF u (0 : Int32) k)), .val (.int (tchF u (1 : Int32) k)), .val (.int (tchF u (2 : Int32) k)), .val (.int (ochF (tchF u (0 : Int32) k) o (0 : Int32) k)), .val (.int (ochF (tchF u (1 : Int32) k) o (1 : Int32) k)), .val (.int (ochF (tchF u (2 : Int32) k) o (2 : Int32) k)), .val (.ref a31), .val (.ref a37), .unset] [(.int (mF (tchF u (0 : Int32) k) (ochF (tchF u (0 : Int32) k) o (0 : Int32) k)))]
      by_cases c45 : (mF (tchF u (0 : Int32) k) (ochF (tchF u (0 : Int32) k) o (0 : Int32) k)) = (0 : Int32)
      ·
        refine Go.ifY (pc' := 171) H at_132 (teq c45).1 (by decide) (by decide) ?_
        refine Go.iconst (0 : Int32) H at_171 rfl rfl ?_
        refine Go.istore (ls' := #[.val (.long u), .second, .val (.long o), .second, .val (.int k), .val (.int (2 : Int32)), .val (.int (2 : Int32)), .val (.int (tchF u (0 : Int32) k)), .val (.int (tchF u (1 : Int32) k)), .val (.int (tchF u (2 : Int32) k)), .val (.int (ochF (tchF u (0 : Int32) k) o (0 : Int32) k)), .val (.int (ochF (tchF u (1 : Int32) k) o (1 : Int32) k)), .val (.int (ochF (tchF u (2 : Int32) k) o (2 : Int32) k)), .val (.ref a31), .val (.ref a37), .val (.int (0 : Int32))]) H at_172 rfl rfl ?_
        refine Go.aload H at_174 rfl rfl rfl ?_
        refine Go.aload H at_176 rfl rfl rfl ?_
        refine Go.callS (rest := []) 0 [(.ref a31), (.ref a37)] H at_178 rfl w33 w34 w35 w36 pd_N26 (ct_eic l W a31 b32 a37 b38 [(tchF u (0 : Int32) k), (tchF u (1 : Int32) k)] [(ochF (tchF u (0 : Int32) k) o (0 : Int32) k), (ochF (tchF u (1 : Int32) k) o (1 : Int32) k)] h39 S36 S42 (Nat.le_of_ble_eq_true rfl) (Nat.le_of_ble_eq_true rfl)) all0 rfl rfl rfl (Nat.le_of_eq rfl) (by decide) (by decide) (by decide) (by decide) nh_N25 ?_
        rintro _ _ _ ⟨rfl, rfl, rfl⟩
        show Go _ _ _ _ _ _ h39 [] 12 30 181 #[.val (.long u), .second, .val (.long o), .second, .val (.int k), .val (.int (2 : Int32)), .val (.int (2 : Int32)), .val (.int (tchF u (0 : Int32) k)), .val (.int (tchF u (1 : Int32) k)), .val (.int (tchF u (2 : Int32) k)), .val (.int (ochF (tchF u (0 : Int32) k) o (0 : Int32) k)), .val (.int (ochF (tchF u (1 : Int32) k) o (1 : Int32) k)), .val (.int (ochF (tchF u (2 : Int32) k) o (2 : Int32) k)), .val (.ref a31), .val (.ref a37), .val (.int (0 : Int32))] [(.int (eicF [(tchF u (0 : Int32) k), (tchF u (1 : Int32) k)] [(ochF (tchF u (0 : Int32) k) o (0 : Int32) k), (ochF (tchF u (1 : Int32) k) o (1 : Int32) k)]))]
        refine Go.iload H at_181 rfl rfl ?_
        refine Go.icmpN H at_183 (teq (by simp [eicF, (mF_i (tchF_k _ _ _) (ochF_k _ _ _ _)).mp c45])).2 rfl ?_
        refine Go.iconst (1 : Int32) H at_186 rfl rfl ?_
        refine Go.goto (pc' := 191) H at_187 (by decide) (by decide) ?_
        exact Go.ireturn 1 [] H at_191 (by simp) (by decide) ⟨rfl, trivial⟩ all0 (by decide) (by decide)
      ·
        refine Go.ifN H at_132 (feq c45).1 rfl ?_
        refine Go.iload H at_135 rfl rfl ?_
        refine Go.iconst (2 : Int32) H at_137 rfl rfl ?_
        refine Go.icmpN H at_138 (by decide) rfl ?_
        refine Go.iload H at_141 rfl rfl ?_
        refine Go.iload H at_143 rfl rfl ?_
        refine Go.callS (rest := []) 0 [(.int (tchF u (1 : Int32) k)), (.int (ochF (tchF u (1 : Int32) k) o (1 : Int32) k))] H at_145 rfl w77 w78 w2 w79 pd_N24 (ct_mat l W (tchF u (1 : Int32) k) (ochF (tchF u (1 : Int32) k) o (1 : Int32) k) h39) all0 rfl rfl rfl (Nat.le_of_eq rfl) (by decide) (by decide) (by decide) (by decide) nh_N23 ?_
        rintro _ _ _ ⟨rfl, rfl, rfl⟩
        show Go _ _ _ _ _ _ h39 [] 12 30 148 #[.val (.long u), .second, .val (.long o), .second, .val (.int k), .val (.int (2 : Int32)), .val (.int (2 : Int32)), .val (.int (tchF u (0 : Int32) k)), .val (.int (tchF u (1 : Int32) k)), .val (.int (tchF u (2 : Int32) k)), .val (.int (ochF (tchF u (0 : Int32) k) o (0 : Int32) k)), .val (.int (ochF (tchF u (1 : Int32) k) o (1 : Int32) k)), .val (.int (ochF (tchF u (2 : Int32) k) o (2 : Int32) k)), .val (.ref a31), .val (.ref a37), .unset] [(.int (mF (tchF u (1 : Int32) k) (ochF (tchF u (1 : Int32) k) o (1 : Int32) k)))]
        by_cases c46 : (mF (tchF u (1 : Int32) k) (ochF (tchF u (1 : Int32) k) o (1 : Int32) k)) = (0 : Int32)
        ·
          refine Go.ifY (pc' := 171) H at_148 (teq c46).1 (by decide) (by decide) ?_
          refine Go.iconst (0 : Int32) H at_171 rfl rfl ?_
          refine Go.istore (ls' := #[.val (.long u), .second, .val (.long o), .second, .val (.int k), .val (.int (2 : Int32)), .val (.int (2 : Int32)), .val (.int (tchF u (0 : Int32) k)), .val (.int (tchF u (1 : Int32) k)), .val (.int (tchF u (2 : Int32) k)), .val (.int (ochF (tchF u (0 : Int32) k) o (0 : Int32) k)), .val (.int (ochF (tchF u (1 : Int32) k) o (1 : Int32) k)), .val (.int (ochF (tchF u (2 : Int32) k) o (2 : Int32) k)), .val (.ref a31), .val (.ref a37), .val (.int (0 : Int32))]) H at_172 rfl rfl ?_
          refine Go.aload H at_174 rfl rfl rfl ?_
          refine Go.aload H at_176 rfl rfl rfl ?_
          refine Go.callS (rest := []) 0 [(.ref a31), (.ref a37)] H at_178 rfl w33 w34 w35 w36 pd_N26 (ct_eic l W a31 b32 a37 b38 [(tchF u (0 : Int32) k), (tchF u (1 : Int32) k)] [(ochF (tchF u (0 : Int32) k) o (0 : Int32) k), (ochF (tchF u (1 : Int32) k) o (1 : Int32) k)] h39 S36 S42 (Nat.le_of_ble_eq_true rfl) (Nat.le_of_ble_eq_true rfl)) all0 rfl rfl rfl (Nat.le_of_eq rfl) (by decide) (by decide) (by decide) (by decide) nh_N25 ?_
          rintro _ _ _ ⟨rfl, rfl, rfl⟩
          show Go _ _ _ _ _ _ h39 [] 12 30 181 #[.val (.long u), .second, .val (.long o), .second, .val (.int k), .val (.int (2 : Int32)), .val (.int (2 : Int32)), .val (.int (tchF u (0 : Int32) k)), .val (.int (tchF u (1 : Int32) k)), .val (.int (tchF u (2 : Int32) k)), .val (.int (ochF (tchF u (0 : Int32) k) o (0 : Int32) k)), .val (.int (ochF (tchF u (1 : Int32) k) o (1 : Int32) k)), .val (.int (ochF (tchF u (2 : Int32) k) o (2 : Int32) k)), .val (.ref a31), .val (.ref a37), .val (.int (0 : Int32))] [(.int (eicF [(tchF u (0 : Int32) k), (tchF u (1 : Int32) k)] [(ochF (tchF u (0 : Int32) k) o (0 : Int32) k), (ochF (tchF u (1 : Int32) k) o (1 : Int32) k)]))]
          refine Go.iload H at_181 rfl rfl ?_
          refine Go.icmpN H at_183 (teq (by simp [eicF, Decidable.byContradiction (fun e => c45 ((mF_i (tchF_k _ _ _) (ochF_k _ _ _ _)).mpr e)), (mF_i (tchF_k _ _ _) (ochF_k _ _ _ _)).mp c46])).2 rfl ?_
          refine Go.iconst (1 : Int32) H at_186 rfl rfl ?_
          refine Go.goto (pc' := 191) H at_187 (by decide) (by decide) ?_
          exact Go.ireturn 1 [] H at_191 (by simp) (by decide) ⟨rfl, trivial⟩ all0 (by decide) (by decide)
        ·
          refine Go.ifN H at_148 (feq c46).1 rfl ?_
          refine Go.iload H at_151 rfl rfl ?_
          refine Go.iconst (3 : Int32) H at_153 rfl rfl ?_
          refine Go.icmpY (pc' := 167) H at_154 (by decide) (by decide) (by decide) ?_
          refine Go.iconst (1 : Int32) H at_167 rfl rfl ?_
          refine Go.goto (pc' := 172) H at_168 (by decide) (by decide) ?_
          refine Go.istore (ls' := #[.val (.long u), .second, .val (.long o), .second, .val (.int k), .val (.int (2 : Int32)), .val (.int (2 : Int32)), .val (.int (tchF u (0 : Int32) k)), .val (.int (tchF u (1 : Int32) k)), .val (.int (tchF u (2 : Int32) k)), .val (.int (ochF (tchF u (0 : Int32) k) o (0 : Int32) k)), .val (.int (ochF (tchF u (1 : Int32) k) o (1 : Int32) k)), .val (.int (ochF (tchF u (2 : Int32) k) o (2 : Int32) k)), .val (.ref a31), .val (.ref a37), .val (.int (1 : Int32))]) H at_172 rfl rfl ?_
          refine Go.aload H at_174 rfl rfl rfl ?_
          refine Go.aload H at_176 rfl rfl rfl ?_
          refine Go.callS (rest := []) 0 [(.ref a31), (.ref a37)] H at_178 rfl w33 w34 w35 w36 pd_N26 (ct_eic l W a31 b32 a37 b38 [(tchF u (0 : Int32) k), (tchF u (1 : Int32) k)] [(ochF (tchF u (0 : Int32) k) o (0 : Int32) k), (ochF (tchF u (1 : Int32) k) o (1 : Int32) k)] h39 S36 S42 (Nat.le_of_ble_eq_true rfl) (Nat.le_of_ble_eq_true rfl)) all0 rfl rfl rfl (Nat.le_of_eq rfl) (by decide) (by decide) (by decide) (by decide) nh_N25 ?_
          rintro _ _ _ ⟨rfl, rfl, rfl⟩
          show Go _ _ _ _ _ _ h39 [] 12 30 181 #[.val (.long u), .second, .val (.long o), .second, .val (.int k), .val (.int (2 : Int32)), .val (.int (2 : Int32)), .val (.int (tchF u (0 : Int32) k)), .val (.int (tchF u (1 : Int32) k)), .val (.int (tchF u (2 : Int32) k)), .val (.int (ochF (tchF u (0 : Int32) k) o (0 : Int32) k)), .val (.int (ochF (tchF u (1 : Int32) k) o (1 : Int32) k)), .val (.int (ochF (tchF u (2 : Int32) k) o (2 : Int32) k)), .val (.ref a31), .val (.ref a37), .val (.int (1 : Int32))] [(.int (eicF [(tchF u (0 : Int32) k), (tchF u (1 : Int32) k)] [(ochF (tchF u (0 : Int32) k) o (0 : Int32) k), (ochF (tchF u (1 : Int32) k) o (1 : Int32) k)]))]
          refine Go.iload H at_181 rfl rfl ?_
          refine Go.icmpN H at_183 (teq (by simp [eicF, Decidable.byContradiction (fun e => c45 ((mF_i (tchF_k _ _ _) (ochF_k _ _ _ _)).mpr e)), Decidable.byContradiction (fun e => c46 ((mF_i (tchF_k _ _ _) (ochF_k _ _ _ _)).mpr e))])).2 rfl ?_
          refine Go.iconst (1 : Int32) H at_186 rfl rfl ?_
          refine Go.goto (pc' := 191) H at_187 (by decide) (by decide) ?_
          exact Go.ireturn 1 [] H at_191 (by simp) (by decide) ⟨rfl, trivial⟩ all0 (by decide) (by decide)
    ·
      show Go _ _ _ _ _ _ h [] 0 0 86 #[.val (.long u), .second, .val (.long o), .second, .val (.int k), .val (.int (3 : Int32)), .val (.int (3 : Int32)), .val (.int (tchF u (0 : Int32) k)), .val (.int (tchF u (1 : Int32) k)), .val (.int (tchF u (2 : Int32) k)), .val (.int (ochF (tchF u (0 : Int32) k) o (0 : Int32) k)), .val (.int (ochF (tchF u (1 : Int32) k) o (1 : Int32) k)), .val (.int (ochF (tchF u (2 : Int32) k) o (2 : Int32) k)), .unset, .unset, .unset] []
      refine Go.iload H at_86 rfl rfl ?_
      refine Go.iload H at_88 rfl rfl ?_
      refine Go.iload H at_90 rfl rfl ?_
      refine Go.iload H at_92 rfl rfl ?_
      refine Go.callS (rest := []) 0 [(.int (3 : Int32)), (.int (tchF u (0 : Int32) k)), (.int (tchF u (1 : Int32) k)), (.int (tchF u (2 : Int32) k))] H at_94 rfl w8 w9 w2 w10 pd_N27 (ct_make3 l W (tchF u (0 : Int32) k) (tchF u (1 : Int32) k) (tchF u (2 : Int32) k) h (tchF_k _ _ _) (tchF_k _ _ _) (tchF_k _ _ _)) all0 rfl rfl rfl (Nat.le_of_eq rfl) (by decide) (by decide) (by decide) (by decide) nh_N23 ?_
      rintro _ h49 _ ⟨a47, b48, rfl, E50, g51, S52, rfl⟩
      show Go _ _ _ _ _ _ h49 [] 6 16 97 #[.val (.long u), .second, .val (.long o), .second, .val (.int k), .val (.int (3 : Int32)), .val (.int (3 : Int32)), .val (.int (tchF u (0 : Int32) k)), .val (.int (tchF u (1 : Int32) k)), .val (.int (tchF u (2 : Int32) k)), .val (.int (ochF (tchF u (0 : Int32) k) o (0 : Int32) k)), .val (.int (ochF (tchF u (1 : Int32) k) o (1 : Int32) k)), .val (.int (ochF (tchF u (2 : Int32) k) o (2 : Int32) k)), .unset, .unset, .unset] [(.ref a47)]
      refine Go.astore (ls' := #[.val (.long u), .second, .val (.long o), .second, .val (.int k), .val (.int (3 : Int32)), .val (.int (3 : Int32)), .val (.int (tchF u (0 : Int32) k)), .val (.int (tchF u (1 : Int32) k)), .val (.int (tchF u (2 : Int32) k)), .val (.int (ochF (tchF u (0 : Int32) k) o (0 : Int32) k)), .val (.int (ochF (tchF u (1 : Int32) k) o (1 : Int32) k)), .val (.int (ochF (tchF u (2 : Int32) k) o (2 : Int32) k)), .val (.ref a47), .unset, .unset]) H at_97 rfl rfl rfl ?_
      refine Go.iload H at_99 rfl rfl ?_
      refine Go.iload H at_101 rfl rfl ?_
      refine Go.iload H at_103 rfl rfl ?_
      refine Go.iload H at_105 rfl rfl ?_
      refine Go.callS (rest := []) 0 [(.int (3 : Int32)), (.int (ochF (tchF u (0 : Int32) k) o (0 : Int32) k)), (.int (ochF (tchF u (1 : Int32) k) o (1 : Int32) k)), (.int (ochF (tchF u (2 : Int32) k) o (2 : Int32) k))] H at_107 rfl w8 w9 w2 w10 pd_N27 (ct_make3 l W (ochF (tchF u (0 : Int32) k) o (0 : Int32) k) (ochF (tchF u (1 : Int32) k) o (1 : Int32) k) (ochF (tchF u (2 : Int32) k) o (2 : Int32) k) h49 (ochF_k _ _ _ _) (ochF_k _ _ _ _) (ochF_k _ _ _ _)) all0 rfl rfl rfl (Nat.le_of_eq rfl) (by decide) (by decide) (by decide) (by decide) nh_N23 ?_
      rintro _ h55 _ ⟨a53, b54, rfl, E56, g57, S58, rfl⟩
      have ne59 : a47 ≠ a53 := Nat.ne_of_lt (Nat.lt_of_lt_of_le S52.lt g57)
      have ne60 : b48 ≠ a53 := Nat.ne_of_lt (Nat.lt_of_lt_of_le S52.ltb g57)
      replace S52 := S52.ext E56
      show Go _ _ _ _ _ _ h55 [] 12 32 110 #[.val (.long u), .second, .val (.long o), .second, .val (.int k), .val (.int (3 : Int32)), .val (.int (3 : Int32)), .val (.int (tchF u (0 : Int32) k)), .val (.int (tchF u (1 : Int32) k)), .val (.int (tchF u (2 : Int32) k)), .val (.int (ochF (tchF u (0 : Int32) k) o (0 : Int32) k)), .val (.int (ochF (tchF u (1 : Int32) k) o (1 : Int32) k)), .val (.int (ochF (tchF u (2 : Int32) k) o (2 : Int32) k)), .val (.ref a47), .unset, .unset] [(.ref a53)]
      refine Go.astore (ls' := #[.val (.long u), .second, .val (.long o), .second, .val (.int k), .val (.int (3 : Int32)), .val (.int (3 : Int32)), .val (.int (tchF u (0 : Int32) k)), .val (.int (tchF u (1 : Int32) k)), .val (.int (tchF u (2 : Int32) k)), .val (.int (ochF (tchF u (0 : Int32) k) o (0 : Int32) k)), .val (.int (ochF (tchF u (1 : Int32) k) o (1 : Int32) k)), .val (.int (ochF (tchF u (2 : Int32) k) o (2 : Int32) k)), .val (.ref a47), .val (.ref a53), .unset]) H at_110 rfl rfl rfl ?_
      refine Go.iload H at_112 rfl rfl ?_
      refine Go.iload H at_114 rfl rfl ?_
      refine Go.icmpN H at_116 (by decide) rfl ?_
      refine Go.iload H at_119 rfl rfl ?_
      refine Go.iconst (1 : Int32) H at_121 rfl rfl ?_
      refine Go.icmpN H at_122 (by decide) rfl ?_
      refine Go.iload H at_125 rfl rfl ?_
      refine Go.iload H at_127 rfl rfl ?_
      refine Go.callS (rest := []) 0 [(.int (tchF u (0 : Int32) k)), (.int (ochF (tchF u (0 : Int32) k) o (0 : Int32) k))] H at_129 rfl w77 w78 w2 w79 pd_N24 (ct_mat l W (tchF u (0 : Int32) k) (ochF (tchF u (0 : Int32) k) o (0 : Int32) k) h55) all0 rfl rfl rfl (Nat.le_of_eq rfl) (by decide) (by decide) (by decide) (by decide) nh_N23 ?_
      rintro _ _ _ ⟨rfl, rfl, rfl⟩
      show Go _ _ _ _ _ _ h55 [] 12 32 132 #[.val (.long u), .second, .val (.long o), .second, .val (.int k), .val (.int (3 : Int32)), .val (.int (3 : Int32)), .val (.int (tchF u (0 : Int32) k)), .val (.int (tchF u (1 : Int32) k)), .val (.int (tchF u (2 : Int32) k)), .val (.int (ochF (tchF u (0 : Int32) k) o (0 : Int32) k)), .val (.int (ochF (tchF u (1 : Int32) k) o (1 : Int32) k)), .val (.int (ochF (tchF u (2 : Int32) k) o (2 : Int32) k)), .val (.ref a47), .val (.ref a53), .unset] [(.int (mF (tchF u (0 : Int32) k) (ochF (tchF u (0 : Int32) k) o (0 : Int32) k)))]
      by_cases c61 : (mF (tchF u (0 : Int32) k) (ochF (tchF u (0 : Int32) k) o (0 : Int32) k)) = (0 : Int32)
      ·
        refine Go.ifY (pc' := 171) H at_132 (teq c61).1 (by decide) (by decide) ?_
        refine Go.iconst (0 : Int32) H at_171 rfl rfl ?_
        refine Go.istore (ls' := #[.val (.long u), .second, .val (.long o), .second, .val (.int k), .val (.int (3 : Int32)), .val (.int (3 : Int32)), .val (.int (tchF u (0 : Int32) k)), .val (.int (tchF u (1 : Int32) k)), .val (.int (tchF u (2 : Int32) k)), .val (.int (ochF (tchF u (0 : Int32) k) o (0 : Int32) k)), .val (.int (ochF (tchF u (1 : Int32) k) o (1 : Int32) k)), .val (.int (ochF (tchF u (2 : Int32) k) o (2 : Int32) k)), .val (.ref a47), .val (.ref a53), .val (.int (0 : Int32))]) H at_172 rfl rfl ?_
        refine Go.aload H at_174 rfl rfl rfl ?_
        refine Go.aload H at_176 rfl rfl rfl ?_
        refine Go.callS (rest := []) 0 [(.ref a47), (.ref a53)] H at_178 rfl w33 w34 w35 w36 pd_N26 (ct_eic l W a47 b48 a53 b54 [(tchF u (0 : Int32) k), (tchF u (1 : Int32) k), (tchF u (2 : Int32) k)] [(ochF (tchF u (0 : Int32) k) o (0 : Int32) k), (ochF (tchF u (1 : Int32) k) o (1 : Int32) k), (ochF (tchF u (2 : Int32) k) o (2 : Int32) k)] h55 S52 S58 (Nat.le_of_ble_eq_true rfl) (Nat.le_of_ble_eq_true rfl)) all0 rfl rfl rfl (Nat.le_of_eq rfl) (by decide) (by decide) (by decide) (by decide) nh_N25 ?_
        rintro _ _ _ ⟨rfl, rfl, rfl⟩
        show Go _ _ _ _ _ _ h55 [] 12 32 181 #[.val (.long u), .second, .val (.long o), .second, .val (.int k), .val (.int (3 : Int32)), .val (.int (3 : Int32)), .val (.int (tchF u (0 : Int32) k)), .val (.int (tchF u (1 : Int32) k)), .val (.int (tchF u (2 : Int32) k)), .val (.int (ochF (tchF u (0 : Int32) k) o (0 : Int32) k)), .val (.int (ochF (tchF u (1 : Int32) k) o (1 : Int32) k)), .val (.int (ochF (tchF u (2 : Int32) k) o (2 : Int32) k)), .val (.ref a47), .val (.ref a53), .val (.int (0 : Int32))] [(.int (eicF [(tchF u (0 : Int32) k), (tchF u (1 : Int32) k), (tchF u (2 : Int32) k)] [(ochF (tchF u (0 : Int32) k) o (0 : Int32) k), (ochF (tchF u (1 : Int32) k) o (1 : Int32) k), (ochF (tchF u (2 : Int32) k) o (2 : Int32) k)]))]
        refine Go.iload H at_181 rfl rfl ?_
        refine Go.icmpN H at_183 (teq (by simp [eicF, (mF_i (tchF_k _ _ _) (ochF_k _ _ _ _)).mp c61])).2 rfl ?_
        refine Go.iconst (1 : Int32) H at_186 rfl rfl ?_
        refine Go.goto (pc' := 191) H at_187 (by decide) (by decide) ?_
        exact Go.ireturn 1 [] H at_191 (by simp) (by decide) ⟨rfl, trivial⟩ all0 (by decide) (by decide)
      ·
        refine Go.ifN H at_132 (feq c61).1 rfl ?_
        refine Go.iload H at_135 rfl rfl ?_
        refine Go.iconst (2 : Int32) H at_137 rfl rfl ?_
        refine Go.icmpN H at_138 (by decide) rfl ?_
        refine Go.iload H at_141 rfl rfl ?_
        refine Go.iload H at_143 rfl rfl ?_
        refine Go.callS (rest := []) 0 [(.int (tchF u (1 : Int32) k)), (.int (ochF (tchF u (1 : Int32) k) o (1 : Int32) k))] H at_145 rfl w77 w78 w2 w79 pd_N24 (ct_mat l W (tchF u (1 : Int32) k) (ochF (tchF u (1 : Int32) k) o (1 : Int32) k) h55) all0 rfl rfl rfl (Nat.le_of_eq rfl) (by decide) (by decide) (by decide) (by decide) nh_N23 ?_
        rintro _ _ _ ⟨rfl, rfl, rfl⟩
        show Go _ _ _ _ _ _ h55 [] 12 32 148 #[.val (.long u), .second, .val (.long o), .second, .val (.int k), .val (.int (3 : Int32)), .val (.int (3 : Int32)), .val (.int (tchF u (0 : Int32) k)), .val (.int (tchF u (1 : Int32) k)), .val (.int (tchF u (2 : Int32) k)), .val (.int (ochF (tchF u (0 : Int32) k) o (0 : Int32) k)), .val (.int (ochF (tchF u (1 : Int32) k) o (1 : Int32) k)), .val (.int (ochF (tchF u (2 : Int32) k) o (2 : Int32) k)), .val (.ref a47), .val (.ref a53), .unset] [(.int (mF (tchF u (1 : Int32) k) (ochF (tchF u (1 : Int32) k) o (1 : Int32) k)))]
        by_cases c62 : (mF (tchF u (1 : Int32) k) (ochF (tchF u (1 : Int32) k) o (1 : Int32) k)) = (0 : Int32)
        ·
          refine Go.ifY (pc' := 171) H at_148 (teq c62).1 (by decide) (by decide) ?_
          refine Go.iconst (0 : Int32) H at_171 rfl rfl ?_
          refine Go.istore (ls' := #[.val (.long u), .second, .val (.long o), .second, .val (.int k), .val (.int (3 : Int32)), .val (.int (3 : Int32)), .val (.int (tchF u (0 : Int32) k)), .val (.int (tchF u (1 : Int32) k)), .val (.int (tchF u (2 : Int32) k)), .val (.int (ochF (tchF u (0 : Int32) k) o (0 : Int32) k)), .val (.int (ochF (tchF u (1 : Int32) k) o (1 : Int32) k)), .val (.int (ochF (tchF u (2 : Int32) k) o (2 : Int32) k)), .val (.ref a47), .val (.ref a53), .val (.int (0 : Int32))]) H at_172 rfl rfl ?_
          refine Go.aload H at_174 rfl rfl rfl ?_
          refine Go.aload H at_176 rfl rfl rfl ?_
          refine Go.callS (rest := []) 0 [(.ref a47), (.ref a53)] H at_178 rfl w33 w34 w35 w36 pd_N26 (ct_eic l W a47 b48 a53 b54 [(tchF u (0 : Int32) k), (tchF u (1 : Int32) k), (tchF u (2 : Int32) k)] [(ochF (tchF u (0 : Int32) k) o (0 : Int32) k), (ochF (tchF u (1 : Int32) k) o (1 : Int32) k), (ochF (tchF u (2 : Int32) k) o (2 : Int32) k)] h55 S52 S58 (Nat.le_of_ble_eq_true rfl) (Nat.le_of_ble_eq_true rfl)) all0 rfl rfl rfl (Nat.le_of_eq rfl) (by decide) (by decide) (by decide) (by decide) nh_N25 ?_
          rintro _ _ _ ⟨rfl, rfl, rfl⟩
          show Go _ _ _ _ _ _ h55 [] 12 32 181 #[.val (.long u), .second, .val (.long o), .second, .val (.int k), .val (.int (3 : Int32)), .val (.int (3 : Int32)), .val (.int (tchF u (0 : Int32) k)), .val (.int (tchF u (1 : Int32) k)), .val (.int (tchF u (2 : Int32) k)), .val (.int (ochF (tchF u (0 : Int32) k) o (0 : Int32) k)), .val (.int (ochF (tchF u (1 : Int32) k) o (1 : Int32) k)), .val (.int (ochF (tchF u (2 : Int32) k) o (2 : Int32) k)), .val (.ref a47), .val (.ref a53), .val (.int (0 : Int32))] [(.int (eicF [(tchF u (0 : Int32) k), (tchF u (1 : Int32) k), (tchF u (2 : Int32) k)] [(ochF (tchF u (0 : Int32) k) o (0 : Int32) k), (ochF (tchF u (1 : Int32) k) o (1 : Int32) k), (ochF (tchF u (2 : Int32) k) o (2 : Int32) k)]))]
          refine Go.iload H at_181 rfl rfl ?_
          refine Go.icmpN H at_183 (teq (by simp [eicF, Decidable.byContradiction (fun e => c61 ((mF_i (tchF_k _ _ _) (ochF_k _ _ _ _)).mpr e)), (mF_i (tchF_k _ _ _) (ochF_k _ _ _ _)).mp c62])).2 rfl ?_
          refine Go.iconst (1 : Int32) H at_186 rfl rfl ?_
          refine Go.goto (pc' := 191) H at_187 (by decide) (by decide) ?_
          exact Go.ireturn 1 [] H at_191 (by simp) (by decide) ⟨rfl, trivial⟩ all0 (by decide) (by decide)
        ·
          refine Go.ifN H at_148 (feq c62).1 rfl ?_
          refine Go.iload H at_151 rfl rfl ?_
          refine Go.iconst (3 : Int32) H at_153 rfl rfl ?_
          refine Go.icmpN H at_154 (by decide) rfl ?_
          refine Go.iload H at_157 rfl rfl ?_
          refine Go.iload H at_159 rfl rfl ?_
          refine Go.callS (rest := []) 0 [(.int (tchF u (2 : Int32) k)), (.int (ochF (tchF u (2 : Int32) k) o (2 : Int32) k))] H at_161 rfl w77 w78 w2 w79 pd_N24 (ct_mat l W (tchF u (2 : Int32) k) (ochF (tchF u (2 : Int32) k) o (2 : Int32) k) h55) all0 rfl rfl rfl (Nat.le_of_eq rfl) (by decide) (by decide) (by decide) (by decide) nh_N23 ?_
          rintro _ _ _ ⟨rfl, rfl, rfl⟩
          show Go _ _ _ _ _ _ h55 [] 12 32 164 #[.val (.long u), .second, .val (.long o), .second, .val (.int k), .val (.int (3 : Int32)), .val (.int (3 : Int32)), .val (.int (tchF u (0 : Int32) k)), .val (.int (tchF u (1 : Int32) k)), .val (.int (tchF u (2 : Int32) k)), .val (.int (ochF (tchF u (0 : Int32) k) o (0 : Int32) k)), .val (.int (ochF (tchF u (1 : Int32) k) o (1 : Int32) k)), .val (.int (ochF (tchF u (2 : Int32) k) o (2 : Int32) k)), .val (.ref a47), .val (.ref a53), .unset] [(.int (mF (tchF u (2 : Int32) k) (ochF (tchF u (2 : Int32) k) o (2 : Int32) k)))]
          by_cases c63 : (mF (tchF u (2 : Int32) k) (ochF (tchF u (2 : Int32) k) o (2 : Int32) k)) = (0 : Int32)
          ·
            refine Go.ifY (pc' := 171) H at_164 (teq c63).1 (by decide) (by decide) ?_
            refine Go.iconst (0 : Int32) H at_171 rfl rfl ?_
            refine Go.istore (ls' := #[.val (.long u), .second, .val (.long o), .second, .val (.int k), .val (.int (3 : Int32)), .val (.int (3 : Int32)), .val (.int (tchF u (0 : Int32) k)), .val (.int (tchF u (1 : Int32) k)), .val (.int (tchF u (2 : Int32) k)), .val (.int (ochF (tchF u (0 : Int32) k) o (0 : Int32) k)), .val (.int (ochF (tchF u (1 : Int32) k) o (1 : Int32) k)), .val (.int (ochF (tchF u (2 : Int32) k) o (2 : Int32) k)), .val (.ref a47), .val (.ref a53), .val (.int (0 : Int32))]) H at_172 rfl rfl ?_
            refine Go.aload H at_174 rfl rfl rfl ?_
            refine Go.aload H at_176 rfl rfl rfl ?_
            refine Go.callS (rest := []) 0 [(.ref a47), (.ref a53)] H at_178 rfl w33 w34 w35 w36 pd_N26 (ct_eic l W a47 b48 a53 b54 [(tchF u (0 : Int32) k), (tchF u (1 : Int32) k), (tchF u (2 : Int32) k)] [(ochF (tchF u (0 : Int32) k) o (0 : Int32) k), (ochF (tchF u (1 : Int32) k) o (1 : Int32) k), (ochF (tchF u (2 : Int32) k) o (2 : Int32) k)] h55 S52 S58 (Nat.le_of_ble_eq_true rfl) (Nat.le_of_ble_eq_true rfl)) all0 rfl rfl rfl (Nat.le_of_eq rfl) (by decide) (by decide) (by decide) (by decide) nh_N25 ?_
            rintro _ _ _ ⟨rfl, rfl, rfl⟩
            show Go _ _ _ _ _ _ h55 [] 12 32 181 #[.val (.long u), .second, .val (.long o), .second, .val (.int k), .val (.int (3 : Int32)), .val (.int (3 : Int32)), .val (.int (tchF u (0 : Int32) k)), .val (.int (tchF u (1 : Int32) k)), .val (.int (tchF u (2 : Int32) k)), .val (.int (ochF (tchF u (0 : Int32) k) o (0 : Int32) k)), .val (.int (ochF (tchF u (1 : Int32) k) o (1 : Int32) k)), .val (.int (ochF (tchF u (2 : Int32) k) o (2 : Int32) k)), .val (.ref a47), .val (.ref a53), .val (.int (0 : Int32))] [(.int (eicF [(tchF u (0 : Int32) k), (tchF u (1 : Int32) k), (tchF u (2 : Int32) k)] [(ochF (tchF u (0 : Int32) k) o (0 : Int32) k), (ochF (tchF u (1 : Int32) k) o (1 : Int32) k), (ochF (tchF u (2 : Int32) k) o (2 : Int32) k)]))]
            refine Go.iload H at_181 rfl rfl ?_
            refine Go.icmpN H at_183 (teq (by simp [eicF, Decidable.byContradiction (fun e => c61 ((mF_i (tchF_k _ _ _) (ochF_k _ _ _ _)).mpr e)), Decidable.byContradiction (fun e => c62 ((mF_i (tchF_k _ _ _) (ochF_k _ _ _ _)).mpr e)), (mF_i (tchF_k _ _ _) (ochF_k _ _ _ _)).mp c63])).2 rfl ?_
            refine Go.iconst (1 : Int32) H at_186 rfl rfl ?_
            refine Go.goto (pc' := 191) H at_187 (by decide) (by decide) ?_
            exact Go.ireturn 1 [] H at_191 (by simp) (by decide) ⟨rfl, trivial⟩ all0 (by decide) (by decide)
          ·
            refine Go.ifN H at_164 (feq c63).1 rfl ?_
            refine Go.iconst (1 : Int32) H at_167 rfl rfl ?_
            refine Go.goto (pc' := 172) H at_168 (by decide) (by decide) ?_
            refine Go.istore (ls' := #[.val (.long u), .second, .val (.long o), .second, .val (.int k), .val (.int (3 : Int32)), .val (.int (3 : Int32)), .val (.int (tchF u (0 : Int32) k)), .val (.int (tchF u (1 : Int32) k)), .val (.int (tchF u (2 : Int32) k)), .val (.int (ochF (tchF u (0 : Int32) k) o (0 : Int32) k)), .val (.int (ochF (tchF u (1 : Int32) k) o (1 : Int32) k)), .val (.int (ochF (tchF u (2 : Int32) k) o (2 : Int32) k)), .val (.ref a47), .val (.ref a53), .val (.int (1 : Int32))]) H at_172 rfl rfl ?_
            refine Go.aload H at_174 rfl rfl rfl ?_
            refine Go.aload H at_176 rfl rfl rfl ?_
            refine Go.callS (rest := []) 0 [(.ref a47), (.ref a53)] H at_178 rfl w33 w34 w35 w36 pd_N26 (ct_eic l W a47 b48 a53 b54 [(tchF u (0 : Int32) k), (tchF u (1 : Int32) k), (tchF u (2 : Int32) k)] [(ochF (tchF u (0 : Int32) k) o (0 : Int32) k), (ochF (tchF u (1 : Int32) k) o (1 : Int32) k), (ochF (tchF u (2 : Int32) k) o (2 : Int32) k)] h55 S52 S58 (Nat.le_of_ble_eq_true rfl) (Nat.le_of_ble_eq_true rfl)) all0 rfl rfl rfl (Nat.le_of_eq rfl) (by decide) (by decide) (by decide) (by decide) nh_N25 ?_
            rintro _ _ _ ⟨rfl, rfl, rfl⟩
            show Go _ _ _ _ _ _ h55 [] 12 32 181 #[.val (.long u), .second, .val (.long o), .second, .val (.int k), .val (.int (3 : Int32)), .val (.int (3 : Int32)), .val (.int (tchF u (0 : Int32) k)), .val (.int (tchF u (1 : Int32) k)), .val (.int (tchF u (2 : Int32) k)), .val (.int (ochF (tchF u (0 : Int32) k) o (0 : Int32) k)), .val (.int (ochF (tchF u (1 : Int32) k) o (1 : Int32) k)), .val (.int (ochF (tchF u (2 : Int32) k) o (2 : Int32) k)), .val (.ref a47), .val (.ref a53), .val (.int (1 : Int32))] [(.int (eicF [(tchF u (0 : Int32) k), (tchF u (1 : Int32) k), (tchF u (2 : Int32) k)] [(ochF (tchF u (0 : Int32) k) o (0 : Int32) k), (ochF (tchF u (1 : Int32) k) o (1 : Int32) k), (ochF (tchF u (2 : Int32) k) o (2 : Int32) k)]))]
            refine Go.iload H at_181 rfl rfl ?_
            refine Go.icmpN H at_183 (teq (by simp [eicF, Decidable.byContradiction (fun e => c61 ((mF_i (tchF_k _ _ _) (ochF_k _ _ _ _)).mpr e)), Decidable.byContradiction (fun e => c62 ((mF_i (tchF_k _ _ _) (ochF_k _ _ _ _)).mpr e)), Decidable.byContradiction (fun e => c63 ((mF_i (tchF_k _ _ _) (ochF_k _ _ _ _)).mpr e))])).2 rfl ?_
            refine Go.iconst (1 : Int32) H at_186 rfl rfl ?_
            refine Go.goto (pc' := 191) H at_187 (by decide) (by decide) ?_
            exact Go.ireturn 1 [] H at_191 (by simp) (by decide) ⟨rfl, trivial⟩ all0 (by decide) (by decide)
  ·
    refine Go.ifN H at_10 (feq c1).1 rfl ?_
    refine Go.iload H at_13 rfl rfl ?_
    refine Go.iconst (3 : Int32) H at_15 rfl rfl ?_
    refine Go.iushr H at_16 rfl ?_
    refine Go.iconst (3 : Int32) H at_17 rfl rfl ?_
    refine Go.iand H at_18 rfl ?_
    rw [hm]
    refine Go.goto (pc' := 24) H at_19 (by decide) (by decide) ?_
    refine Go.istore (ls' := #[.val (.long u), .second, .val (.long o), .second, .val (.int k), .val (.int n), .val (.int m), .unset, .unset, .unset, .unset, .unset, .unset, .unset, .unset, .unset]) H at_24 rfl rfl ?_
    refine Go.lloadN H at_26 rfl rfl ?_
    refine Go.iconst (0 : Int32) H at_27 rfl rfl ?_
    refine Go.iload H at_28 rfl rfl ?_
    refine Go.callS (rest := []) 0 [(.long u), (.int (0 : Int32)), (.int k)] H at_30 rfl w0 w1 w2 w3 pd_N21 (ct_tch l W u (0 : Int32) k h) all0 rfl rfl rfl (Nat.le_of_eq rfl) (by decide) (by decide) (by decide) (by decide) nh_N23 ?_
    rintro _ _ _ ⟨rfl, rfl, rfl⟩
    show Go _ _ _ _ _ _ h [] 0 0 33 #[.val (.long u), .second, .val (.long o), .second, .val (.int k), .val (.int n), .val (.int m), .unset, .unset, .unset, .unset, .unset, .unset, .unset, .unset, .unset] [(.int (tchF u (0 : Int32) k))]
    refine Go.istore (ls' := #[.val (.long u), .second, .val (.long o), .second, .val (.int k), .val (.int n), .val (.int m), .val (.int (tchF u (0 : Int32) k)), .unset, .unset, .unset, .unset, .unset, .unset, .unset, .unset]) H at_33 rfl rfl ?_
    refine Go.lloadN H at_35 rfl rfl ?_
    refine Go.iconst (1 : Int32) H at_36 rfl rfl ?_
    refine Go.iload H at_37 rfl rfl ?_
    refine Go.callS (rest := []) 0 [(.long u), (.int (1 : Int32)), (.int k)] H at_39 rfl w0 w1 w2 w3 pd_N21 (ct_tch l W u (1 : Int32) k h) all0 rfl rfl rfl (Nat.le_of_eq rfl) (by decide) (by decide) (by decide) (by decide) nh_N23 ?_
    rintro _ _ _ ⟨rfl, rfl, rfl⟩
    show Go _ _ _ _ _ _ h [] 0 0 42 #[.val (.long u), .second, .val (.long o), .second, .val (.int k), .val (.int n), .val (.int m), .val (.int (tchF u (0 : Int32) k)), .unset, .unset, .unset, .unset, .unset, .unset, .unset, .unset] [(.int (tchF u (1 : Int32) k))]
    refine Go.istore (ls' := #[.val (.long u), .second, .val (.long o), .second, .val (.int k), .val (.int n), .val (.int m), .val (.int (tchF u (0 : Int32) k)), .val (.int (tchF u (1 : Int32) k)), .unset, .unset, .unset, .unset, .unset, .unset, .unset]) H at_42 rfl rfl ?_
    refine Go.lloadN H at_44 rfl rfl ?_
    refine Go.iconst (2 : Int32) H at_45 rfl rfl ?_
    refine Go.iload H at_46 rfl rfl ?_
    refine Go.callS (rest := []) 0 [(.long u), (.int (2 : Int32)), (.int k)] H at_48 rfl w0 w1 w2 w3 pd_N21 (ct_tch l W u (2 : Int32) k h) all0 rfl rfl rfl (Nat.le_of_eq rfl) (by decide) (by decide) (by decide) (by decide) nh_N23 ?_
    rintro _ _ _ ⟨rfl, rfl, rfl⟩
    show Go _ _ _ _ _ _ h [] 0 0 51 #[.val (.long u), .second, .val (.long o), .second, .val (.int k), .val (.int n), .val (.int m), .val (.int (tchF u (0 : Int32) k)), .val (.int (tchF u (1 : Int32) k)), .unset, .unset, .unset, .unset, .unset, .unset, .unset] [(.int (tchF u (2 : Int32) k))]
    refine Go.istore (ls' := #[.val (.long u), .second, .val (.long o), .second, .val (.int k), .val (.int n), .val (.int m), .val (.int (tchF u (0 : Int32) k)), .val (.int (tchF u (1 : Int32) k)), .val (.int (tchF u (2 : Int32) k)), .unset, .unset, .unset, .unset, .unset, .unset]) H at_51 rfl rfl ?_
    refine Go.iload H at_53 rfl rfl ?_
    refine Go.lloadN H at_55 rfl rfl ?_
    refine Go.iconst (0 : Int32) H at_56 rfl rfl ?_
    refine Go.iload H at_57 rfl rfl ?_
    refine Go.callS (rest := []) 0 [(.int (tchF u (0 : Int32) k)), (.long o), (.int (0 : Int32)), (.int k)] H at_59 rfl w5 w6 w2 w7 pd_N22 (ct_och l W (tchF u (0 : Int32) k) o (0 : Int32) k h) all0 rfl rfl rfl (Nat.le_of_eq rfl) (by decide) (by decide) (by decide) (by decide) nh_N23 ?_
    rintro _ _ _ ⟨rfl, rfl, rfl⟩
    show Go _ _ _ _ _ _ h [] 0 0 62 #[.val (.long u), .second, .val (.long o), .second, .val (.int k), .val (.int n), .val (.int m), .val (.int (tchF u (0 : Int32) k)), .val (.int (tchF u (1 : Int32) k)), .val (.int (tchF u (2 : Int32) k)), .unset, .unset, .unset, .unset, .unset, .unset] [(.int (ochF (tchF u (0 : Int32) k) o (0 : Int32) k))]
    refine Go.istore (ls' := #[.val (.long u), .second, .val (.long o), .second, .val (.int k), .val (.int n), .val (.int m), .val (.int (tchF u (0 : Int32) k)), .val (.int (tchF u (1 : Int32) k)), .val (.int (tchF u (2 : Int32) k)), .val (.int (ochF (tchF u (0 : Int32) k) o (0 : Int32) k)), .unset, .unset, .unset, .unset, .unset]) H at_62 rfl rfl ?_
    refine Go.iload H at_64 rfl rfl ?_
    refine Go.lloadN H at_66 rfl rfl ?_
    refine Go.iconst (1 : Int32) H at_67 rfl rfl ?_
    refine Go.iload H at_68 rfl rfl ?_
    refine Go.callS (rest := []) 0 [(.int (tchF u (1 : Int32) k)), (.long o), (.int (1 : Int32)), (.int k)] H at_70 rfl w5 w6 w2 w7 pd_N22 (ct_och l W (tchF u (1 : Int32) k) o (1 : Int32) k h) all0 rfl rfl rfl (Nat.le_of_eq rfl) (by decide) (by decide) (by decide) (by decide) nh_N23 ?_
    rintro _ _ _ ⟨rfl, rfl, rfl⟩
    show Go _ _ _ _ _ _ h [] 0 0 73 #[.val (.long u), .second, .val (.long o), .second, .val (.int k), .val (.int n), .val (.int m), .val (.int (tchF u (0 : Int32) k)), .val (.int (tchF u (1 : Int32) k)), .val (.int (tchF u (2 : Int32) k)), .val (.int (ochF (tchF u (0 : Int32) k) o (0 : Int32) k)), .unset, .unset, .unset, .unset, .unset] [(.int (ochF (tchF u (1 : Int32) k) o (1 : Int32) k))]
    refine Go.istore (ls' := #[.val (.long u), .second, .val (.long o), .second, .val (.int k), .val (.int n), .val (.int m), .val (.int (tchF u (0 : Int32) k)), .val (.int (tchF u (1 : Int32) k)), .val (.int (tchF u (2 : Int32) k)), .val (.int (ochF (tchF u (0 : Int32) k) o (0 : Int32) k)), .val (.int (ochF (tchF u (1 : Int32) k) o (1 : Int32) k)), .unset, .unset, .unset, .unset]) H at_73 rfl rfl ?_
    refine Go.iload H at_75 rfl rfl ?_
    refine Go.lloadN H at_77 rfl rfl ?_
    refine Go.iconst (2 : Int32) H at_78 rfl rfl ?_
    refine Go.iload H at_79 rfl rfl ?_
    refine Go.callS (rest := []) 0 [(.int (tchF u (2 : Int32) k)), (.long o), (.int (2 : Int32)), (.int k)] H at_81 rfl w5 w6 w2 w7 pd_N22 (ct_och l W (tchF u (2 : Int32) k) o (2 : Int32) k h) all0 rfl rfl rfl (Nat.le_of_eq rfl) (by decide) (by decide) (by decide) (by decide) nh_N23 ?_
    rintro _ _ _ ⟨rfl, rfl, rfl⟩
    show Go _ _ _ _ _ _ h [] 0 0 84 #[.val (.long u), .second, .val (.long o), .second, .val (.int k), .val (.int n), .val (.int m), .val (.int (tchF u (0 : Int32) k)), .val (.int (tchF u (1 : Int32) k)), .val (.int (tchF u (2 : Int32) k)), .val (.int (ochF (tchF u (0 : Int32) k) o (0 : Int32) k)), .val (.int (ochF (tchF u (1 : Int32) k) o (1 : Int32) k)), .unset, .unset, .unset, .unset] [(.int (ochF (tchF u (2 : Int32) k) o (2 : Int32) k))]
    refine Go.istore (ls' := #[.val (.long u), .second, .val (.long o), .second, .val (.int k), .val (.int n), .val (.int m), .val (.int (tchF u (0 : Int32) k)), .val (.int (tchF u (1 : Int32) k)), .val (.int (tchF u (2 : Int32) k)), .val (.int (ochF (tchF u (0 : Int32) k) o (0 : Int32) k)), .val (.int (ochF (tchF u (1 : Int32) k) o (1 : Int32) k)), .val (.int (ochF (tchF u (2 : Int32) k) o (2 : Int32) k)), .unset, .unset, .unset]) H at_84 rfl rfl ?_
    rcases hn4 with rfl | rfl | rfl | rfl
    ·
      rcases hm4 with rfl | rfl | rfl | rfl
      ·
        show Go _ _ _ _ _ _ h [] 0 0 86 #[.val (.long u), .second, .val (.long o), .second, .val (.int k), .val (.int (0 : Int32)), .val (.int (0 : Int32)), .val (.int (tchF u (0 : Int32) k)), .val (.int (tchF u (1 : Int32) k)), .val (.int (tchF u (2 : Int32) k)), .val (.int (ochF (tchF u (0 : Int32) k) o (0 : Int32) k)), .val (.int (ochF (tchF u (1 : Int32) k) o (1 : Int32) k)), .val (.int (ochF (tchF u (2 : Int32) k) o (2 : Int32) k)), .unset, .unset, .unset] []
        refine Go.iload H at_86 rfl rfl ?_
        refine Go.iload H at_88 rfl rfl ?_
        refine Go.iload H at_90 rfl rfl ?_
        refine Go.iload H at_92 rfl rfl ?_
        refine Go.callS (rest := []) 0 [(.int (0 : Int32)), (.int (tchF u (0 : Int32) k)), (.int (tchF u (1 : Int32) k)), (.int (tchF u (2 : Int32) k))] H at_94 rfl w8 w9 w2 w10 pd_N27 (ct_make0 l W (tchF u (0 : Int32) k) (tchF u (1 : Int32) k) (tchF u (2 : Int32) k) h (tchF_k _ _ _) (tchF_k _ _ _) (tchF_k _ _ _)) all0 rfl rfl rfl (Nat.le_of_eq rfl) (by decide) (by decide) (by decide) (by decide) nh_N23 ?_
        rintro _ h66 _ ⟨a64, b65, rfl, E67, g68, S69, rfl⟩
        show Go _ _ _ _ _ _ h66 [] 6 13 97 #[.val (.long u), .second, .val (.long o), .second, .val (.int k), .val (.int (0 : Int32)), .val (.int (0 : Int32)), .val (.int (tchF u (0 : Int32) k)), .val (.int (tchF u (1 : Int32) k)), .val (.int (tchF u (2 : Int32) k)), .val (.int (ochF (tchF u (0 : Int32) k) o (0 : Int32) k)), .val (.int (ochF (tchF u (1 : Int32) k) o (1 : Int32) k)), .val (.int (ochF (tchF u (2 : Int32) k) o (2 : Int32) k)), .unset, .unset, .unset] [(.ref a64)]
        refine Go.astore (ls' := #[.val (.long u), .second, .val (.long o), .second, .val (.int k), .val (.int (0 : Int32)), .val (.int (0 : Int32)), .val (.int (tchF u (0 : Int32) k)), .val (.int (tchF u (1 : Int32) k)), .val (.int (tchF u (2 : Int32) k)), .val (.int (ochF (tchF u (0 : Int32) k) o (0 : Int32) k)), .val (.int (ochF (tchF u (1 : Int32) k) o (1 : Int32) k)), .val (.int (ochF (tchF u (2 : Int32) k) o (2 : Int32) k)), .val (.ref a64), .unset, .unset]) H at_97 rfl rfl rfl ?_
        refine Go.iload H at_99 rfl rfl ?_
        refine Go.iload H at_101 rfl rfl ?_
        refine Go.iload H at_103 rfl rfl ?_
        refine Go.iload H at_105 rfl rfl ?_
        refine Go.callS (rest := []) 0 [(.int (0 : Int32)), (.int (ochF (tchF u (0 : Int32) k) o (0 : Int32) k)), (.int (ochF (tchF u (1 : Int32) k) o (1 : Int32) k)), (.int (ochF (tchF u (2 : Int32) k) o (2 : Int32) k))] H at_107 rfl w8 w9 w2 w10 pd_N27 (ct_make0 l W (ochF (tchF u (0 : Int32) k) o (0 : Int32) k) (ochF (tchF u (1 : Int32) k) o (1 : Int32) k) (ochF (tchF u (2 : Int32) k) o (2 : Int32) k) h66 (ochF_k _ _ _ _) (ochF_k _ _ _ _) (ochF_k _ _ _ _)) all0 rfl rfl rfl (Nat.le_of_eq rfl) (by decide) (by decide) (by decide) (by decide) nh_N23 ?_
        rintro _ h72 _ ⟨a70, b71, rfl, E73, g74, S75, rfl⟩
        have ne76 : a64 ≠ a70 := Nat.ne_of_lt (Nat.lt_of_lt_of_le S69.lt g74)
        have ne77 : b65 ≠ a70 := Nat.ne_of_lt (Nat.lt_of_lt_of_le S69.ltb g74)
        replace S69 := S69.ext E73
        show Go _ _ _ _ _ _ h72 [] 12 26 110 #[.val (.long u), .second, .val (.long o), .second, .val (.int k), .val (.int (0 : Int32)), .val (.int (0 : Int32)), .val (.int (tchF u (0 : Int32) k)), .val (.int (tchF u (1 : Int32) k)), .val (.int (tchF u (2 : Int32) k)), .val (.int (ochF (tchF u (0 : Int32) k) o (0 : Int32) k)), .val (.int (ochF (tchF u (1 : Int32) k) o (1 : Int32) k)), .val (.int (ochF (tchF u (2 : Int32) k) o (2 : Int32) k)), .val (.ref a64), .unset, .unset] [(.ref a70)]
        refine Go.astore (ls' := #[.val (.long u), .second, .val (.long o), .second, .val (.int k), .val (.int (0 : Int32)), .val (.int (0 : Int32)), .val (.int (tchF u (0 : Int32) k)), .val (.int (tchF u (1 : Int32) k)), .val (.int (tchF u (2 : Int32) k)), .val (.int (ochF (tchF u (0 : Int32) k) o (0 : Int32) k)), .val (.int (ochF (tchF u (1 : Int32) k) o (1 : Int32) k)), .val (.int (ochF (tchF u (2 : Int32) k) o (2 : Int32) k)), .val (.ref a64), .val (.ref a70), .unset]) H at_110 rfl rfl rfl ?_
        refine Go.iload H at_112 rfl rfl ?_
        refine Go.iload H at_114 rfl rfl ?_
        refine Go.icmpN H at_116 (by decide) rfl ?_
        refine Go.iload H at_119 rfl rfl ?_
        refine Go.iconst (1 : Int32) H at_121 rfl rfl ?_
        refine Go.icmpY (pc' := 135) H at_122 (by decide) (by decide) (by decide) ?_
        refine Go.iload H at_135 rfl rfl ?_
        refine Go.iconst (2 : Int32) H at_137 rfl rfl ?_
        refine Go.icmpY (pc' := 151) H at_138 (by decide) (by decide) (by decide) ?_
        refine Go.iload H at_151 rfl rfl ?_
        refine Go.iconst (3 : Int32) H at_153 rfl rfl ?_
        refine Go.icmpY (pc' := 167) H at_154 (by decide) (by decide) (by decide) ?_
        refine Go.iconst (1 : Int32) H at_167 rfl rfl ?_
        refine Go.goto (pc' := 172) H at_168 (by decide) (by decide) ?_
        refine Go.istore (ls' := #[.val (.long u), .second, .val (.long o), .second, .val (.int k), .val (.int (0 : Int32)), .val (.int (0 : Int32)), .val (.int (tchF u (0 : Int32) k)), .val (.int (tchF u (1 : Int32) k)), .val (.int (tchF u (2 : Int32) k)), .val (.int (ochF (tchF u (0 : Int32) k) o (0 : Int32) k)), .val (.int (ochF (tchF u (1 : Int32) k) o (1 : Int32) k)), .val (.int (ochF (tchF u (2 : Int32) k) o (2 : Int32) k)), .val (.ref a64), .val (.ref a70), .val (.int (1 : Int32))]) H at_172 rfl rfl ?_
        refine Go.aload H at_174 rfl rfl rfl ?_
        refine Go.aload H at_176 rfl rfl rfl ?_
        refine Go.callS (rest := []) 0 [(.ref a64), (.ref a70)] H at_178 rfl w33 w34 w35 w36 pd_N26 (ct_eic l W a64 b65 a70 b71 ([] : List Int32) ([] : List Int32) h72 S69 S75 (Nat.le_of_ble_eq_true rfl) (Nat.le_of_ble_eq_true rfl)) all0 rfl rfl rfl (Nat.le_of_eq rfl) (by decide) (by decide) (by decide) (by decide) nh_N25 ?_
        rintro _ _ _ ⟨rfl, rfl, rfl⟩
        show Go _ _ _ _ _ _ h72 [] 12 26 181 #[.val (.long u), .second, .val (.long o), .second, .val (.int k), .val (.int (0 : Int32)), .val (.int (0 : Int32)), .val (.int (tchF u (0 : Int32) k)), .val (.int (tchF u (1 : Int32) k)), .val (.int (tchF u (2 : Int32) k)), .val (.int (ochF (tchF u (0 : Int32) k) o (0 : Int32) k)), .val (.int (ochF (tchF u (1 : Int32) k) o (1 : Int32) k)), .val (.int (ochF (tchF u (2 : Int32) k) o (2 : Int32) k)), .val (.ref a64), .val (.ref a70), .val (.int (1 : Int32))] [(.int (eicF ([] : List Int32) ([] : List Int32)))]
        refine Go.iload H at_181 rfl rfl ?_
        refine Go.icmpN H at_183 (teq (by simp [eicF])).2 rfl ?_
        refine Go.iconst (1 : Int32) H at_186 rfl rfl ?_
        refine Go.goto (pc' := 191) H at_187 (by decide) (by decide) ?_
        exact Go.ireturn 1 [] H at_191 (by simp) (by decide) ⟨rfl, trivial⟩ all0 (by decide) (by decide)
      ·
        show Go _ _ _ _ _ _ h [] 0 0 86 #[.val (.long u), .second, .val (.long o), .second, .val (.int k), .val (.int (0 : Int32)), .val (.int (1 : Int32)), .val (.int (tchF u (0 : Int32) k)), .val (.int (tchF u (1 : Int32) k)), .val (.int (tchF u (2 : Int32) k)), .val (.int (ochF (tchF u (0 : Int32) k) o (0 : Int32) k)), .val (.int (ochF (tchF u (1 : Int32) k) o (1 : Int32) k)), .val (.int (ochF (tchF u (2 : Int32) k) o (2 : Int32) k)), .unset, .unset, .unset] []
        refine Go.iload H at_86 rfl rfl ?_
        refine Go.iload H at_88 rfl rfl ?_
        refine Go.iload H at_90 rfl rfl ?_
        refine Go.iload H at_92 rfl rfl ?_
        refine Go.callS (rest := []) 0 [(.int (0 : Int32)), (.int (tchF u (0 : Int32) k)), (.int (tchF u (1 : Int32) k)), (.int (tchF u (2 : Int32) k))] H at_94 rfl w8 w9 w2 w10 pd_N27 (ct_make0 l W (tchF u (0 : Int32) k) (tchF u (1 : Int32) k) (tchF u (2 : Int32) k) h (tchF_k _ _ _) (tchF_k _ _ _) (tchF_k _ _ _)) all0 rfl rfl rfl (Nat.le_of_eq rfl) (by decide) (by decide) (by decide) (by decide) nh_N23 ?_
        rintro _ h80 _ ⟨a78, b79, rfl, E81, g82, S83, rfl⟩
        show Go _ _ _ _ _ _ h80 [] 6 13 97 #[.val (.long u), .second, .val (.long o), .second, .val (.int k), .val (.int (0 : Int32)), .val (.int (1 : Int32)), .val (.int (tchF u (0 : Int32) k)), .val (.int (tchF u (1 : Int32) k)), .val (.int (tchF u (2 : Int32) k)), .val (.int (ochF (tchF u (0 : Int32) k) o (0 : Int32) k)), .val (.int (ochF (tchF u (1 : Int32) k) o (1 : Int32) k)), .val (.int (ochF (tchF u (2 : Int32) k) o (2 : Int32) k)), .unset, .unset, .unset] [(.ref a78)]
        refine Go.astore (ls' := #[.val (.long u), .second, .val (.long o), .second, .val (.int k), .val (.int (0 : Int32)), .val (.int (1 : Int32)), .val (.int (tchF u (0 : Int32) k)), .val (.int (tchF u (1 : Int32) k)), .val (.int (tchF u (2 : Int32) k)), .val (.int (ochF (tchF u (0 : Int32) k) o (0 : Int32) k)), .val (.int (ochF (tchF u (1 : Int32) k) o (1 : Int32) k)), .val (.int (ochF (tchF u (2 : Int32) k) o (2 : Int32) k)), .val (.ref a78), .unset, .unset]) H at_97 rfl rfl rfl ?_
        refine Go.iload H at_99 rfl rfl ?_
        refine Go.iload H at_101 rfl rfl ?_
        refine Go.iload H at_103 rfl rfl ?_
        refine Go.iload H at_105 rfl rfl ?_
        refine Go.callS (rest := []) 0 [(.int (1 : Int32)), (.int (ochF (tchF u (0 : Int32) k) o (0 : Int32) k)), (.int (ochF (tchF u (1 : Int32) k) o (1 : Int32) k)), (.int (ochF (tchF u (2 : Int32) k) o (2 : Int32) k))] H at_107 rfl w8 w9 w2 w10 pd_N27 (ct_make1 l W (ochF (tchF u (0 : Int32) k) o (0 : Int32) k) (ochF (tchF u (1 : Int32) k) o (1 : Int32) k) (ochF (tchF u (2 : Int32) k) o (2 : Int32) k) h80 (ochF_k _ _ _ _) (ochF_k _ _ _ _) (ochF_k _ _ _ _)) all0 rfl rfl rfl (Nat.le_of_eq rfl) (by decide) (by decide) (by decide) (by decide) nh_N23 ?_
        rintro _ h86 _ ⟨a84, b85, rfl, E87, g88, S89, rfl⟩
        have ne90 : a78 ≠ a84 := Nat.ne_of_lt (Nat.lt_of_lt_of_le S83.lt g88)
        have ne91 : b79 ≠ a84 := Nat.ne_of_lt (Nat.lt_of_lt_of_le S83.ltb g88)
        replace S83 := S83.ext E87
        show Go _ _ _ _ _ _ h86 [] 12 27 110 #[.val (.long u), .second, .val (.long o), .second, .val (.int k), .val (.int (0 : Int32)), .val (.int (1 : Int32)), .val (.int (tchF u (0 : Int32) k)), .val (.int (tchF u (1 : Int32) k)), .val (.int (tchF u (2 : Int32) k)), .val (.int (ochF (tchF u (0 : Int32) k) o (0 : Int32) k)), .val (.int (ochF (tchF u (1 : Int32) k) o (1 : Int32) k)), .val (.int (ochF (tchF u (2 : Int32) k) o (2 : Int32) k)), .val (.ref a78), .unset, .unset] [(.ref a84)]
        refine Go.astore (ls' := #[.val (.long u), .second, .val (.long o), .second, .val (.int k), .val (.int (0 : Int32)), .val (.int (1 : Int32)), .val (.int (tchF u (0 : Int32) k)), .val (.int (tchF u (1 : Int32) k)), .val (.int (tchF u (2 : Int32) k)), .val (.int (ochF (tchF u (0 : Int32) k) o (0 : Int32) k)), .val (.int (ochF (tchF u (1 : Int32) k) o (1 : Int32) k)), .val (.int (ochF (tchF u (2 : Int32) k) o (2 : Int32) k)), .val (.ref a78), .val (.ref a84), .unset]) H at_110 rfl rfl rfl ?_
        refine Go.iload H at_112 rfl rfl ?_
        refine Go.iload H at_114 rfl rfl ?_
        refine Go.icmpY (pc' := 171) H at_116 (by decide) (by decide) (by decide) ?_
        refine Go.iconst (0 : Int32) H at_171 rfl rfl ?_
        refine Go.istore (ls' := #[.val (.long u), .second, .val (.long o), .second, .val (.int k), .val (.int (0 : Int32)), .val (.int (1 : Int32)), .val (.int (tchF u (0 : Int32) k)), .val (.int (tchF u (1 : Int32) k)), .val (.int (tchF u (2 : Int32) k)), .val (.int (ochF (tchF u (0 : Int32) k) o (0 : Int32) k)), .val (.int (ochF (tchF u (1 : Int32) k) o (1 : Int32) k)), .val (.int (ochF (tchF u (2 : Int32) k) o (2 : Int32) k)), .val (.ref a78), .val (.ref a84), .val (.int (0 : Int32))]) H at_172 rfl rfl ?_
        refine Go.aload H at_174 rfl rfl rfl ?_
        refine Go.aload H at_176 rfl rfl rfl ?_
        refine Go.callS (rest := []) 0 [(.ref a78), (.ref a84)] H at_178 rfl w33 w34 w35 w36 pd_N26 (ct_eic l W a78 b79 a84 b85 ([] : List Int32) [(ochF (tchF u (0 : Int32) k) o (0 : Int32) k)] h86 S83 S89 (Nat.le_of_ble_eq_true rfl) (Nat.le_of_ble_eq_true rfl)) all0 rfl rfl rfl (Nat.le_of_eq rfl) (by decide) (by decide) (by decide) (by decide) nh_N25 ?_
        rintro _ _ _ ⟨rfl, rfl, rfl⟩
        show Go _ _ _ _ _ _ h86 [] 12 27 181 #[.val (.long u), .second, .val (.long o), .second, .val (.int k), .val (.int (0 : Int32)), .val (.int (1 : Int32)), .val (.int (tchF u (0 : Int32) k)), .val (.int (tchF u (1 : Int32) k)), .val (.int (tchF u (2 : Int32) k)), .val (.int (ochF (tchF u (0 : Int32) k) o (0 : Int32) k)), .val (.int (ochF (tchF u (1 : Int32) k) o (1 : Int32) k)), .val (.int (ochF (tchF u (2 : Int32) k) o (2 : Int32) k)), .val (.ref a78), .val (.ref a84), .val (.int (0 : Int32))] [(.int (eicF ([] : List Int32) [(ochF (tchF u (0 : Int32) k) o (0 : Int32) k)]))]
        refine Go.iload H at_181 rfl rfl ?_
        refine Go.icmpN H at_183 (teq (by simp [eicF])).2 rfl ?_
        refine Go.iconst (1 : Int32) H at_186 rfl rfl ?_
        refine Go.goto (pc' := 191) H at_187 (by decide) (by decide) ?_
        exact Go.ireturn 1 [] H at_191 (by simp) (by decide) ⟨rfl, trivial⟩ all0 (by decide) (by decide)
      ·
        show Go _ _ _ _ _ _ h [] 0 0 86 #[.val (.long u), .second, .val (.long o), .second, .val (.int k), .val (.int (0 : Int32)), .val (.int (2 : Int32)), .val (.int (tchF u (0 : Int32) k)), .val (.int (tchF u (1 : Int32) k)), .val (.int (tchF u (2 : Int32) k)), .val (.int (ochF (tchF u (0 : Int32) k) o (0 : Int32) k)), .val (.int (ochF (tchF u (1 : Int32) k) o (1 : Int32) k)), .val (.int (ochF (tchF u (2 : Int32) k) o (2 : Int32) k)), .unset, .unset, .unset] []
        refine Go.iload H at_86 rfl rfl ?_
        refine Go.iload H at_88 rfl rfl ?_
        refine Go.iload H at_90 rfl rfl ?_
        refine Go.iload H at_92 rfl rfl ?_
        refine Go.callS (rest := []) 0 [(.int (0 : Int32)), (.int (tchF u (0 : Int32) k)), (.int (tchF u (1 : Int32) k)), (.int (tchF u (2 : Int32) k))] H at_94 rfl w8 w9 w2 w10 pd_N27 (ct_make0 l W (tchF u (0 : Int32) k) (tchF u (1 : Int32) k) (tchF u (2 : Int32) k) h (tchF_k _ _ _) (tchF_k _ _ _) (tchF_k _ _ _)) all0 rfl rfl rfl (Nat.le_of_eq rfl) (by decide) (by decide) (by decide) (by decide) nh_N23 ?_
        rintro _ h94 _ ⟨a92, b93, rfl, E95, g96, S97, rfl⟩
        show Go _ _ _ _ _ _ h94 [] 6 13 97 #[.val (.long u), .second, .val (.long o), .second, .val (.int k), .val (.int (0 : Int32)), .val (.int (2 : Int32)), .val (.int (tchF u (0 : Int32) k)), .val (.int (tchF u (1 : Int32) k)), .val (.int (tchF u (2 : Int32) k)), .val (.int (ochF (tchF u (0 : Int32) k) o (0 : Int32) k)), .val (.int (ochF (tchF u (1 : Int32) k) o (1 : Int32) k)), .val (.int (ochF (tchF u (2 : Int32) k) o (2 : Int32) k)), .unset, .unset, .unset] [(.ref a92)]
        refine Go.astore (ls' := #[.val (.long u), .second, .val (.long o), .second, .val (.int k), .val (.int (0 : Int32)), .val (.int (2 : Int32)), .val (.int (tchF u (0 : Int32) k)), .val (.int (tchF u (1 : Int32) k)), .val (.int (tchF u (2 : Int32) k)), .val (.int (ochF (tchF u (0 : Int32) k) o (0 : Int32) k)), .val (.int (ochF (tchF u (1 : Int32) k) o (1 : Int32) k)), .val (.int (ochF (tchF u (2 : Int32) k) o (2 : Int32) k)), .val (.ref a92), .unset, .unset]) H at_97 rfl rfl rfl ?_
        refine Go.iload H at_99 rfl rfl ?_
        refine Go.iload H at_101 rfl rfl ?_
        refine Go.iload H at_103 rfl rfl ?_
        refine Go.iload H at_105 rfl rfl ?_
        refine Go.callS (rest := []) 0 [(.int (2 : Int32)), (.int (ochF (tchF u (0 : Int32) k) o (0 : Int32) k)), (.int (ochF (tchF u (1 : Int32) k) o (1 : Int32) k)), (.int (ochF (tchF u (2 : Int32) k) o (2 : Int32) k))] H at_107 rfl w8 w9 w2 w10 pd_N27 (ct_make2 l W (ochF (tchF u (0 : Int32) k) o (0 : Int32) k) (ochF (tchF u (1 : Int32) k) o (1 : Int32) k) (ochF (tchF u (2 : Int32) k) o (2 : Int32) k) h94 (ochF_k _ _ _ _) (ochF_k _ _ _ _) (ochF_k _ _ _ _)) all0 rfl rfl rfl (Nat.le_of_eq rfl) (by decide) (by decide) (by decide) (by decide) nh_N23 ?_
        rintro _ h100 _ ⟨a98, b99, rfl, E101, g102, S103, rfl⟩
        have ne104 : a92 ≠ a98 := Nat.ne_of_lt (Nat.lt_of_lt_of_le S97.lt g102)
        have ne105 : b93 ≠ a98 := Nat.ne_of_lt (Nat.lt_of_lt_of_le S97.ltb g102)
        replace S97 := S97.ext E101
        show Go _ _ _ _ _ _ h100 [] 12 28 110 #[.val (.long u), .second, .val (.long o), .second, .val (.int k), .val (.int (0 : Int32)), .val (.int (2 : Int32)), .val (.int (tchF u (0 : Int32) k)), .val (.int (tchF u (1 : Int32) k)), .val (.int (tchF u (2 : Int32) k)), .val (.int (ochF (tchF u (0 : Int32) k) o (0 : Int32) k)), .val (.int (ochF (tchF u (1 : Int32) k) o (1 : Int32) k)), .val (.int (ochF (tchF u (2 : Int32) k) o (2 : Int32) k)), .val (.ref a92), .unset, .unset] [(.ref a98)]
        refine Go.astore (ls' := #[.val (.long u), .second, .val (.long o), .second, .val (.int k), .val (.int (0 : Int32)), .val (.int (2 : Int32)), .val (.int (tchF u (0 : Int32) k)), .val (.int (tchF u (1 : Int32) k)), .val (.int (tchF u (2 : Int32) k)), .val (.int (ochF (tchF u (0 : Int32) k) o (0 : Int32) k)), .val (.int (ochF (tchF u (1 : Int32) k) o (1 : Int32) k)), .val (.int (ochF (tchF u (2 : Int32) k) o (2 : Int32) k)), .val (.ref a92), .val (.ref a98), .unset]) H at_110 rfl rfl rfl ?_
        refine Go.iload H at_112 rfl rfl ?_
        refine Go.iload H at_114 rfl rfl ?_
        refine Go.icmpY (pc' := 171) H at_116 (by decide) (by decide) (by decide) ?_
        refine Go.iconst (0 : Int32) H at_171 rfl rfl ?_
        refine Go.istore (ls' := #[.val (.long u), .second, .val (.long o), .second, .val (.int k), .val (.int (0 : Int32)), .val (.int (2 : Int32)), .val (.int (tchF u (0 : Int32) k)), .val (.int (tchF u (1 : Int32) k)), .val (.int (tchF u (2 : Int32) k)), .val (.int (ochF (tchF u (0 : Int32) k) o (0 : Int32) k)), .val (.int (ochF (tchF u (1 : Int32) k) o (1 : Int32) k)), .val (.int (ochF (tchF u (2 : Int32) k) o (2 : Int32) k)), .val (.ref a92), .val (.ref a98), .val (.int (0 : Int32))]) H at_172 rfl rfl ?_
        refine Go.aload H at_174 rfl rfl rfl ?_
        refine Go.aload H at_176 rfl rfl rfl ?_
        refine Go.callS (rest := []) 0 [(.ref a92), (.ref a98)] H at_178 rfl w33 w34 w35 w36 pd_N26 (ct_eic l W a92 b93 a98 b99 ([] : List Int32) [(ochF (tchF u (0 : Int32) k) o (0 : Int32) k), (ochF (tchF u (1 : Int32) k) o (1 : Int32) k)] h100 S97 S103 (Nat.le_of_ble_eq_true rfl) (Nat.le_of_ble_eq_true rfl)) all0 rfl rfl rfl (Nat.le_of_eq rfl) (by decide) (by decide) (by decide) (by decide) nh_N25 ?_
        rintro _ _ _ ⟨rfl, rfl, rfl⟩
        show Go _ _ _ _ _ _ h100 [] 12 28 181 #[.val (.long u), .second, .val (.long o), .second, .val (.int k), .val (.int (0 : Int32)), .val (.int (2 : Int32)), .val (.int (tchF u (0 : Int32) k)), .val (.int (tchF u (1 : Int32) k)), .val (.int (tchF u (2 : Int32) k)), .val (.int (ochF (tchF u (0 : Int32) k) o (0 : Int32) k)), .val (.int (ochF (tchF u (1 : Int32) k) o (1 : Int32) k)), .val (.int (ochF (tchF u (2 : Int32) k) o (2 : Int32) k)), .val (.ref a92), .val (.ref a98), .val (.int (0 : Int32))] [(.int (eicF ([] : List Int32) [(ochF (tchF u (0 : Int32) k) o (0 : Int32) k), (ochF (tchF u (1 : Int32) k) o (1 : Int32) k)]))]
        refine Go.iload H at_181 rfl rfl ?_
        refine Go.icmpN H at_183 (teq (by simp [eicF])).2 rfl ?_
        refine Go.iconst (1 : Int32) H at_186 rfl rfl ?_
        refine Go.goto (pc' := 191) H at_187 (by decide) (by decide) ?_
        exact Go.ireturn 1 [] H at_191 (by simp) (by decide) ⟨rfl, trivial⟩ all0 (by decide) (by decide)
      ·
        show Go _ _ _ _ _ _ h [] 0 0 86 #[.val (.long u), .second, .val (.long o), .second, .val (.int k), .val (.int (0 : Int32)), .val (.int (3 : Int32)), .val (.int (tchF u (0 : Int32) k)), .val (.int (tchF u (1 : Int32) k)), .val (.int (tchF u (2 : Int32) k)), .val (.int (ochF (tchF u (0 : Int32) k) o (0 : Int32) k)), .val (.int (ochF (tchF u (1 : Int32) k) o (1 : Int32) k)), .val (.int (ochF (tchF u (2 : Int32) k) o (2 : Int32) k)), .unset, .unset, .unset] []
        refine Go.iload H at_86 rfl rfl ?_
        refine Go.iload H at_88 rfl rfl ?_
        refine Go.iload H at_90 rfl rfl ?_
        refine Go.iload H at_92 rfl rfl ?_
        refine Go.callS (rest := []) 0 [(.int (0 : Int32)), (.int (tchF u (0 : Int32) k)), (.int (tchF u (1 : Int32) k)), (.int (tchF u (2 : Int32) k))] H at_94 rfl w8 w9 w2 w10 pd_N27 (ct_make0 l W (tchF u (0 : Int32) k) (tchF u (1 : Int32) k) (tchF u (2 : Int32) k) h (tchF_k _ _ _) (tchF_k _ _ _) (tchF_k _ _ _)) all0 rfl rfl rfl (Nat.le_of_eq rfl) (by decide) (by decide) (by decide) (by decide) nh_N23 ?_
        rintro _ h108 _ ⟨a106, b107, rfl, E109, g110, S111, rfl⟩
        show Go _ _ _ _ _ _ h108 [] 6 13 97 #[.val (.long u), .second, .val (.long o), .second, .val (.int k), .val (.int (0 : Int32)), .val (.int (3 : Int32)), .val (.int (tchF u (0 : Int32) k)), .val (.int (tchF u (1 : Int32) k)), .val (.int (tchF u (2 : Int32) k)), .val (.int (ochF (tchF u (0 : Int32) k) o (0 : Int32) k)), .val (.int (ochF (tchF u (1 : Int32) k) o (1 : Int32) k)), .val (.int (ochF (tchF u (2 : Int32) k) o (2 : Int32) k)), .unset, .unset, .unset] [(.ref a106)]
        refine Go.astore (ls' := #[.val (.long u), .second, .val (.long o), .second, .val (.int k), .val (.int (0 : Int32)), .val (.int (3 : Int32)), .val (.int (tchF u (0 : Int32) k)), .val (.int (tchF u (1 : Int32) k)), .val (.int (tchF u (2 : Int32) k)), .val (.int (ochF (tchF u (0 : Int32) k) o (0 : Int32) k)), .val (.int (ochF (tchF u (1 : Int32) k) o (1 : Int32) k)), .val (.int (ochF (tchF u (2 : Int32) k) o (2 : Int32) k)), .val (.ref a106), .unset, .unset]) H at_97 rfl rfl rfl ?_
        refine Go.iload H at_99 rfl rfl ?_
        refine Go.iload H at_101 rfl rfl ?_
        refine Go.iload H at_103 rfl rfl ?_
        refine Go.iload H at_105 rfl rfl ?_
        refine Go.callS (rest := []) 0 [(.int (3 : Int32)), (.int (ochF (tchF u (0 : Int32) k) o (0 : Int32) k)), (.int (ochF (tchF u (1 : Int32) k) o (1 : Int32) k)), (.int (ochF (tchF u (2 : Int32) k) o (2 : Int32) k))] H at_107 rfl w8 w9 w2 w10 pd_N27 (ct_make3 l W (ochF (tchF u (0 : Int32) k) o (0 : Int32) k) (ochF (tchF u (1 : Int32) k) o (1 : Int32) k) (ochF (tchF u (2 : Int32) k) o (2 : Int32) k) h108 (ochF_k _ _ _ _) (ochF_k _ _ _ _) (ochF_k _ _ _ _)) all0 rfl rfl rfl (Nat.le_of_eq rfl) (by decide) (by decide) (by decide) (by decide) nh_N23 ?_
        rintro _ h114 _ ⟨a112, b113, rfl, E115, g116, S117, rfl⟩
        have ne118 : a106 ≠ a112 := Nat.ne_of_lt (Nat.lt_of_lt_of_le S111.lt g116)
        have ne119 : b107 ≠ a112 := Nat.ne_of_lt (Nat.lt_of_lt_of_le S111.ltb g116)
        replace S111 := S111.ext E115
        show Go _ _ _ _ _ _ h114 [] 12 29 110 #[.val (.long u), .second, .val (.long o), .second, .val (.int k), .val (.int (0 : Int32)), .val (.int (3 : Int32)), .val (.int (tchF u (0 : Int32) k)), .val (.int (tchF u (1 : Int32) k)), .val (.int (tchF u (2 : Int32) k)), .val (.int (ochF (tchF u (0 : Int32) k) o (0 : Int32) k)), .val (.int (ochF (tchF u (1 : Int32) k) o (1 : Int32) k)), .val (.int (ochF (tchF u (2 : Int32) k) o (2 : Int32) k)), .val (.ref a106), .unset, .unset] [(.ref a112)]
        refine Go.astore (ls' := #[.val (.long u), .second, .val (.long o), .second, .val (.int k), .val (.int (0 : Int32)), .val (.int (3 : Int32)), .val (.int (tchF u (0 : Int32) k)), .val (.int (tchF u (1 : Int32) k)), .val (.int (tchF u (2 : Int32) k)), .val (.int (ochF (tchF u (0 : Int32) k) o (0 : Int32) k)), .val (.int (ochF (tchF u (1 : Int32) k) o (1 : Int32) k)), .val (.int (ochF (tchF u (2 : Int32) k) o (2 : Int32) k)), .val (.ref a106), .val (.ref a112), .unset]) H at_110 rfl rfl rfl ?_
        refine Go.iload H at_112 rfl rfl ?_
        refine Go.iload H at_114 rfl rfl ?_
        refine Go.icmpY (pc' := 171) H at_116 (by decide) (by decide) (by decide) ?_
        refine Go.iconst (0 : Int32) H at_171 rfl rfl ?_
        refine Go.istore (ls' := #[.val (.long u), .second, .val (.long o), .second, .val (.int k), .val (.int (0 : Int32)), .val (.int (3 : Int32)), .val (.int (tchF u (0 : Int32) k)), .val (.int (tchF u (1 : Int32) k)), .val (.int (tchF u (2 : Int32) k)), .val (.int (ochF (tchF u (0 : Int32) k) o (0 : Int32) k)), .val (.int (ochF (tchF u (1 : Int32) k) o (1 : Int32) k)), .val (.int (ochF (tchF u (2 : Int32) k) o (2 : Int32) k)), .val (.ref a106), .val (.ref a112), .val (.int (0 : Int32))]) H at_172 rfl rfl ?_
        refine Go.aload H at_174 rfl rfl rfl ?_
        refine Go.aload H at_176 rfl rfl rfl ?_
        refine Go.callS (rest := []) 0 [(.ref a106), (.ref a112)] H at_178 rfl w33 w34 w35 w36 pd_N26 (ct_eic l W a106 b107 a112 b113 ([] : List Int32) [(ochF (tchF u (0 : Int32) k) o (0 : Int32) k), (ochF (tchF u (1 : Int32) k) o (1 : Int32) k), (ochF (tchF u (2 : Int32) k) o (2 : Int32) k)] h114 S111 S117 (Nat.le_of_ble_eq_true rfl) (Nat.le_of_ble_eq_true rfl)) all0 rfl rfl rfl (Nat.le_of_eq rfl) (by decide) (by decide) (by decide) (by decide) nh_N25 ?_
        rintro _ _ _ ⟨rfl, rfl, rfl⟩
        show Go _ _ _ _ _ _ h114 [] 12 29 181 #[.val (.long u), .second, .val (.long o), .second, .val (.int k), .val (.int (0 : Int32)), .val (.int (3 : Int32)), .val (.int (tchF u (0 : Int32) k)), .val (.int (tchF u (1 : Int32) k)), .val (.int (tchF u (2 : Int32) k)), .val (.int (ochF (tchF u (0 : Int32) k) o (0 : Int32) k)), .val (.int (ochF (tchF u (1 : Int32) k) o (1 : Int32) k)), .val (.int (ochF (tchF u (2 : Int32) k) o (2 : Int32) k)), .val (.ref a106), .val (.ref a112), .val (.int (0 : Int32))] [(.int (eicF ([] : List Int32) [(ochF (tchF u (0 : Int32) k) o (0 : Int32) k), (ochF (tchF u (1 : Int32) k) o (1 : Int32) k), (ochF (tchF u (2 : Int32) k) o (2 : Int32) k)]))]
        refine Go.iload H at_181 rfl rfl ?_
        refine Go.icmpN H at_183 (teq (by simp [eicF])).2 rfl ?_
        refine Go.iconst (1 : Int32) H at_186 rfl rfl ?_
        refine Go.goto (pc' := 191) H at_187 (by decide) (by decide) ?_
        exact Go.ireturn 1 [] H at_191 (by simp) (by decide) ⟨rfl, trivial⟩ all0 (by decide) (by decide)
    ·
      rcases hm4 with rfl | rfl | rfl | rfl
      ·
        show Go _ _ _ _ _ _ h [] 0 0 86 #[.val (.long u), .second, .val (.long o), .second, .val (.int k), .val (.int (1 : Int32)), .val (.int (0 : Int32)), .val (.int (tchF u (0 : Int32) k)), .val (.int (tchF u (1 : Int32) k)), .val (.int (tchF u (2 : Int32) k)), .val (.int (ochF (tchF u (0 : Int32) k) o (0 : Int32) k)), .val (.int (ochF (tchF u (1 : Int32) k) o (1 : Int32) k)), .val (.int (ochF (tchF u (2 : Int32) k) o (2 : Int32) k)), .unset, .unset, .unset] []
        refine Go.iload H at_86 rfl rfl ?_
        refine Go.iload H at_88 rfl rfl ?_
        refine Go.iload H at_90 rfl rfl ?_
        refine Go.iload H at_92 rfl rfl ?_
        refine Go.callS (rest := []) 0 [(.int (1 : Int32)), (.int (tchF u (0 : Int32) k)), (.int (tchF u (1 : Int32) k)), (.int (tchF u (2 : Int32) k))] H at_94 rfl w8 w9 w2 w10 pd_N27 (ct_make1 l W (tchF u (0 : Int32) k) (tchF u (1 : Int32) k) (tchF u (2 : Int32) k) h (tchF_k _ _ _) (tchF_k _ _ _) (tchF_k _ _ _)) all0 rfl rfl rfl (Nat.le_of_eq rfl) (by decide) (by decide) (by decide) (by decide) nh_N23 ?_
        rintro _ h122 _ ⟨a120, b121, rfl, E123, g124, S125, rfl⟩
        show Go _ _ _ _ _ _ h122 [] 6 14 97 #[.val (.long u), .second, .val (.long o), .second, .val (.int k), .val (.int (1 : Int32)), .val (.int (0 : Int32)), .val (.int (tchF u (0 : Int32) k)), .val (.int (tchF u (1 : Int32) k)), .val (.int (tchF u (2 : Int32) k)), .val (.int (ochF (tchF u (0 : Int32) k) o (0 : Int32) k)), .val (.int (ochF (tchF u (1 : Int32) k) o (1 : Int32) k)), .val (.int (ochF (tchF u (2 : Int32) k) o (2 : Int32) k)), .unset, .unset, .unset] [(.ref a120)]
        refine Go.astore (ls' := #[.val (.long u), .second, .val (.long o), .second, .val (.int k), .val (.int (1 : Int32)), .val (.int (0 : Int32)), .val (.int (tchF u (0 : Int32) k)), .val (.int (tchF u (1 : Int32) k)), .val (.int (tchF u (2 : Int32) k)), .val (.int (ochF (tchF u (0 : Int32) k) o (0 : Int32) k)), .val (.int (ochF (tchF u (1 : Int32) k) o (1 : Int32) k)), .val (.int (ochF (tchF u (2 : Int32) k) o (2 : Int32) k)), .val (.ref a120), .unset, .unset]) H at_97 rfl rfl rfl ?_
        refine Go.iload H at_99 rfl rfl ?_
        refine Go.iload H at_101 rfl rfl ?_
        refine Go.iload H at_103 rfl rfl ?_
        refine Go.iload H at_105 rfl rfl ?_
        refine Go.callS (rest := []) 0 [(.int (0 : Int32)), (.int (ochF (tchF u (0 : Int32) k) o (0 : Int32) k)), (.int (ochF (tchF u (1 : Int32) k) o (1 : Int32) k)), (.int (ochF (tchF u (2 : Int32) k) o (2 : Int32) k))] H at_107 rfl w8 w9 w2 w10 pd_N27 (ct_make0 l W (ochF (tchF u (0 : Int32) k) o (0 : Int32) k) (ochF (tchF u (1 : Int32) k) o (1 : Int32) k) (ochF (tchF u (2 : Int32) k) o (2 : Int32) k) h122 (ochF_k _ _ _ _) (ochF_k _ _ _ _) (ochF_k _ _ _ _)) all0 rfl rfl rfl (Nat.le_of_eq rfl) (by decide) (by decide) (by decide) (by decide) nh_N23 ?_
        rintro _ h128 _ ⟨a126, b127, rfl, E129, g130, S131, rfl⟩
        have ne132 : a120 ≠ a126 := Nat.ne_of_lt (Nat.lt_of_lt_of_le S125.lt g130)
        have ne133 : b121 ≠ a126 := Nat.ne_of_lt (Nat.lt_of_lt_of_le S125.ltb g130)
        replace S125 := S125.ext E129
        show Go _ _ _ _ _ _ h128 [] 12 27 110 #[.val (.long u), .second, .val (.long o), .second, .val (.int k), .val (.int (1 : Int32)), .val (.int (0 : Int32)), .val (.int (tchF u (0 : Int32) k)), .val (.int (tchF u (1 : Int32) k)), .val (.int (tchF u (2 : Int32) k)), .val (.int (ochF (tchF u (0 : Int32) k) o (0 : Int32) k)), .val (.int (ochF (tchF u (1 : Int32) k) o (1 : Int32) k)), .val (.int (ochF (tchF u (2 : Int32) k) o (2 : Int32) k)), .val (.ref a120), .unset, .unset] [(.ref a126)]
        refine Go.astore (ls' := #[.val (.long u), .second, .val (.long o), .second, .val (.int k), .val (.int (1 : Int32)), .val (.int (0 : Int32)), .val (.int (tchF u (0 : Int32) k)), .val (.int (tchF u (1 : Int32) k)), .val (.int (tchF u (2 : Int32) k)), .val (.int (ochF (tchF u (0 : Int32) k) o (0 : Int32) k)), .val (.int (ochF (tchF u (1 : Int32) k) o (1 : Int32) k)), .val (.int (ochF (tchF u (2 : Int32) k) o (2 : Int32) k)), .val (.ref a120), .val (.ref a126), .unset]) H at_110 rfl rfl rfl ?_
        refine Go.iload H at_112 rfl rfl ?_
        refine Go.iload H at_114 rfl rfl ?_
        refine Go.icmpY (pc' := 171) H at_116 (by decide) (by decide) (by decide) ?_
        refine Go.iconst (0 : Int32) H at_171 rfl rfl ?_
        refine Go.istore (ls' := #[.val (.long u), .second, .val (.long o), .second, .val (.int k), .val (.int (1 : Int32)), .val (.int (0 : Int32)), .val (.int (tchF u (0 : Int32) k)), .val (.int (tchF u (1 : Int32) k)), .val (.int (tchF u (2 : Int32) k)), .val (.int (ochF (tchF u (0 : Int32) k) o (0 : Int32) k)), .val (.int (ochF (tchF u (1 : Int32) k) o (1 : Int32) k)), .val (.int (ochF (tchF u (2 : Int32) k) o (2 : Int32) k)), .val (.ref a120), .val (.ref a126), .val (.int (0 : Int32))]) H at_172 rfl rfl ?_
        refine Go.aload H at_174 rfl rfl rfl ?_
        refine Go.aload H at_176 rfl rfl rfl ?_
        refine Go.callS (rest := []) 0 [(.ref a120), (.ref a126)] H at_178 rfl w33 w34 w35 w36 pd_N26 (ct_eic l W a120 b121 a126 b127 [(tchF u (0 : Int32) k)] ([] : List Int32) h128 S125 S131 (Nat.le_of_ble_eq_true rfl) (Nat.le_of_ble_eq_true rfl)) all0 rfl rfl rfl (Nat.le_of_eq rfl) (by decide) (by decide) (by decide) (by decide) nh_N25 ?_
        rintro _ _ _ ⟨rfl, rfl, rfl⟩
        show Go _ _ _ _ _ _ h128 [] 12 27 181 #[.val (.long u), .second, .val (.long o), .second, .val (.int k), .val (.int (1 : Int32)), .val (.int (0 : Int32)), .val (.int (tchF u (0 : Int32) k)), .val (.int (tchF u (1 : Int32) k)), .val (.int (tchF u (2 : Int32) k)), .val (.int (ochF (tchF u (0 : Int32) k) o (0 : Int32) k)), .val (.int (ochF (tchF u (1 : Int32) k) o (1 : Int32) k)), .val (.int (ochF (tchF u (2 : Int32) k) o (2 : Int32) k)), .val (.ref a120), .val (.ref a126), .val (.int (0 : Int32))] [(.int (eicF [(tchF u (0 : Int32) k)] ([] : List Int32)))]
        refine Go.iload H at_181 rfl rfl ?_
        refine Go.icmpN H at_183 (teq (by simp [eicF])).2 rfl ?_
        refine Go.iconst (1 : Int32) H at_186 rfl rfl ?_
        refine Go.goto (pc' := 191) H at_187 (by decide) (by decide) ?_
        exact Go.ireturn 1 [] H at_191 (by simp) (by decide) ⟨rfl, trivial⟩ all0 (by decide) (by decide)
      ·
        show Go _ _ _ _ _ _ h [] 0 0 86 #[.val (.long u), .second, .val (.long o), .second, .val (.int k), .val (.int (1 : Int32)), .val (.int (1 : Int32)), .val (.int (tchF u (0 : Int32) k)), .val (.int (tchF u (1 : Int32) k)), .val (.int (tchF u (2 : Int32) k)), .val (.int (ochF (tchF u (0 : Int32) k) o (0 : Int32) k)), .val (.int (ochF (tchF u (1 : Int32) k) o (1 : Int32) k)), .val (.int (ochF (tchF u (2 : Int32) k) o (2 : Int32) k)), .unset, .unset, .unset] []
        refine Go.iload H at_86 rfl rfl ?_
        refine Go.iload H at_88 rfl rfl ?_
        refine Go.iload H at_90 rfl rfl ?_
        refine Go.iload H at_92 rfl rfl ?_
        refine Go.callS (rest := []) 0 [(.int (1 : Int32)), (.int (tchF u (0 : Int32) k)), (.int (tchF u (1 : Int32) k)), (.int (tchF u (2 : Int32) k))] H at_94 rfl w8 w9 w2 w10 pd_N27 (ct_make1 l W (tchF u (0 : Int32) k) (tchF u (1 : Int32) k) (tchF u (2 : Int32) k) h (tchF_k _ _ _) (tchF_k _ _ _) (tchF_k _ _ _)) all0 rfl rfl rfl (Nat.le_of_eq rfl) (by decide) (by decide) (by decide) (by decide) nh_N23 ?_
        rintro _ h136 _ ⟨a134, b135, rfl, E137, g138, S139, rfl⟩
        show Go _ _ _ _ _ _ h136 [] 6 14 97 #[.val (.long u), .second, .val (.long o), .second, .val (.int k), .val (.int (1 : Int32)), .val (.int (1 : Int32)), .val (.int (tchF u (0 : Int32) k)), .val (.int (tchF u (1 : Int32) k)), .val (.int (tchF u (2 : Int32) k)), .val (.int (ochF (tchF u (0 : Int32) k) o (0 : Int32) k)), .val (.int (ochF (tchF u (1 : Int32) k) o (1 : Int32) k)), .val (.int (ochF (tchF u (2 : Int32) k) o (2 : Int32) k)), .unset, .unset, .unset] [(.ref a134)]
        refine Go.astore (ls' := #[.val (.long u), .second, .val (.long o), .second, .val (.int k), .val (.int (1 : Int32)), .val (.int (1 : Int32)), .val (.int (tchF u (0 : Int32) k)), .val (.int (tchF u (1 : Int32) k)), .val (.int (tchF u (2 : Int32) k)), .val (.int (ochF (tchF u (0 : Int32) k) o (0 : Int32) k)), .val (.int (ochF (tchF u (1 : Int32) k) o (1 : Int32) k)), .val (.int (ochF (tchF u (2 : Int32) k) o (2 : Int32) k)), .val (.ref a134), .unset, .unset]) H at_97 rfl rfl rfl ?_
        refine Go.iload H at_99 rfl rfl ?_
        refine Go.iload H at_101 rfl rfl ?_
        refine Go.iload H at_103 rfl rfl ?_
        refine Go.iload H at_105 rfl rfl ?_
        refine Go.callS (rest := []) 0 [(.int (1 : Int32)), (.int (ochF (tchF u (0 : Int32) k) o (0 : Int32) k)), (.int (ochF (tchF u (1 : Int32) k) o (1 : Int32) k)), (.int (ochF (tchF u (2 : Int32) k) o (2 : Int32) k))] H at_107 rfl w8 w9 w2 w10 pd_N27 (ct_make1 l W (ochF (tchF u (0 : Int32) k) o (0 : Int32) k) (ochF (tchF u (1 : Int32) k) o (1 : Int32) k) (ochF (tchF u (2 : Int32) k) o (2 : Int32) k) h136 (ochF_k _ _ _ _) (ochF_k _ _ _ _) (ochF_k _ _ _ _)) all0 rfl rfl rfl (Nat.le_of_eq rfl) (by decide) (by decide) (by decide) (by decide) nh_N23 ?_
        rintro _ h142 _ ⟨a140, b141, rfl, E143, g144, S145, rfl⟩
        have ne146 : a134 ≠ a140 := Nat.ne_of_lt (Nat.lt_of_lt_of_le S139.lt g144)
        have ne147 : b135 ≠ a140 := Nat.ne_of_lt (Nat.lt_of_lt_of_le S139.ltb g144)
        replace S139 := S139.ext E143
        show Go _ _ _ _ _ _ h142 [] 12 28 110 #[.val (.long u), .second, .val (.long o), .second, .val (.int k), .val (.int (1 : Int32)), .val (.int (1 : Int32)), .val (.int (tchF u (0 : Int32) k)), .val (.int (tchF u (1 : Int32) k)), .val (.int (tchF u (2 : Int32) k)), .val (.int (ochF (tchF u (0 : Int32) k) o (0 : Int32) k)), .val (.int (ochF (tchF u (1 : Int32) k) o (1 : Int32) k)), .val (.int (ochF (tchF u (2 : Int32) k) o (2 : Int32) k)), .val (.ref a134), .unset, .unset] [(.ref a140)]
        refine Go.astore (ls' := #[.val (.long u), .second, .val (.long o), .second, .val (.int k), .val (.int (1 : Int32)), .val (.int (1 : Int32)), .val (.int (tchF u (0 : Int32) k)), .val (.int (tchF u (1 : Int32) k)), .val (.int (tchF u (2 : Int32) k)), .val (.int (ochF (tchF u (0 : Int32) k) o (0 : Int32) k)), .val (.int (ochF (tchF u (1 : Int32) k) o (1 : Int32) k)), .val (.int (ochF (tchF u (2 : Int32) k) o (2 : Int32) k)), .val (.ref a134), .val (.ref a140), .unset]) H at_110 rfl rfl rfl ?_
        refine Go.iload H at_112 rfl rfl ?_
        refine Go.iload H at_114 rfl rfl ?_
        refine Go.icmpN H at_116 (by decide) rfl ?_
        refine Go.iload H at_119 rfl rfl ?_
        refine Go.iconst (1 : Int32) H at_121 rfl rfl ?_
        refine Go.icmpN H at_122 (by decide) rfl ?_
        refine Go.iload H at_125 rfl rfl ?_
        refine Go.iload H at_127 rfl rfl ?_
        refine Go.callS (rest := []) 0 [(.int (tchF u (0 : Int32) k)), (.int (ochF (tchF u (0 : Int32) k) o (0 : Int32) k))] H at_129 rfl w77 w78 w2 w79 pd_N24 (ct_mat l W (tchF u (0 : Int32) k) (ochF (tchF u (0 : Int32) k) o (0 : Int32) k) h142) all0 rfl rfl rfl (Nat.le_of_eq rfl) (by decide) (by decide) (by decide) (by decide) nh_N23 ?_
        rintro _ _ _ ⟨rfl, rfl, rfl⟩
        show Go _ _ _ _ _ _ h142 [] 12 28 132 #[.val (.long u), .second, .val (.long o), .second, .val (.int k), .val (.int (1 : Int32)), .val (.int (1 : Int32)), .val (.int (tchF u (0 : Int32) k)), .val (.int (tchF u (1 : Int32) k)), .val (.int (tchF u (2 : Int32) k)), .val (.int (ochF (tchF u (0 : Int32) k) o (0 : Int32) k)), .val (.int (ochF (tchF u (1 : Int32) k) o (1 : Int32) k)), .val (.int (ochF (tchF u (2 : Int32) k) o (2 : Int32) k)), .val (.ref a134), .val (.ref a140), .unset] [(.int (mF (tchF u (0 : Int32) k) (ochF (tchF u (0 : Int32) k) o (0 : Int32) k)))]
        by_cases c148 : (mF (tchF u (0 : Int32) k) (ochF (tchF u (0 : Int32) k) o (0 : Int32) k)) = (0 : Int32)
        ·
          refine Go.ifY (pc' := 171) H at_132 (teq c148).1 (by decide) (by decide) ?_
          refine Go.iconst (0 : Int32) H at_171 rfl rfl ?_
          refine Go.istore (ls' := #[.val (.long u), .second, .val (.long o), .second, .val (.int k), .val (.int (1 : Int32)), .val (.int (1 : Int32)), .val (.int (tchF u (0 : Int32) k)), .val (.int (tchF u (1 : Int32) k)), .val (.int (tchF u (2 : Int32) k)), .val (.int (ochF (tchF u (0 : Int32) k) o (0 : Int32) k)), .val (.int (ochF (tchF u (1 : Int32) k) o (1 : Int32) k)), .val (.int (ochF (tchF u (2 : Int32) k) o (2 : Int32) k)), .val (.ref a134), .val (.ref a140), .val (.int (0 : Int32))]) H at_172 rfl rfl ?_
          refine Go.aload H at_174 rfl rfl rfl ?_
          refine Go.aload H at_176 rfl rfl rfl ?_
          refine Go.callS (rest := []) 0 [(.ref a134), (.ref a140)] H at_178 rfl w33 w34 w35 w36 pd_N26 (ct_eic l W a134 b135 a140 b141 [(tchF u (0 : Int32) k)] [(ochF (tchF u (0 : Int32) k) o (0 : Int32) k)] h142 S139 S145 (Nat.le_of_ble_eq_true rfl) (Nat.le_of_ble_eq_true rfl)) all0 rfl rfl rfl (Nat.le_of_eq rfl) (by decide) (by decide) (by decide) (by decide) nh_N25 ?_
          rintro _ _ _ ⟨rfl, rfl, rfl⟩
          show Go _ _ _ _ _ _ h142 [] 12 28 181 #[.val (.long u), .second, .val (.long o), .second, .val (.int k), .val (.int (1 : Int32)), .val (.int (1 : Int32)), .val (.int (tchF u (0 : Int32) k)), .val (.int (tchF u (1 : Int32) k)), .val (.int (tchF u (2 : Int32) k)), .val (.int (ochF (tchF u (0 : Int32) k) o (0 : Int32) k)), .val (.int (ochF (tchF u (1 : Int32) k) o (1 : Int32) k)), .val (.int (ochF (tchF u (2 : Int32) k) o (2 : Int32) k)), .val (.ref a134), .val (.ref a140), .val (.int (0 : Int32))] [(.int (eicF [(tchF u (0 : Int32) k)] [(ochF (tchF u (0 : Int32) k) o (0 : Int32) k)]))]
          refine Go.iload H at_181 rfl rfl ?_
          refine Go.icmpN H at_183 (teq (by simp [eicF, (mF_i (tchF_k _ _ _) (ochF_k _ _ _ _)).mp c148])).2 rfl ?_
          refine Go.iconst (1 : Int32) H at_186 rfl rfl ?_
          refine Go.goto (pc' := 191) H at_187 (by decide) (by decide) ?_
          exact Go.ireturn 1 [] H at_191 (by simp) (by decide) ⟨rfl, trivial⟩ all0 (by decide) (by decide)
        ·
          refine Go.ifN H at_132 (feq c148).1 rfl ?_
          refine Go.iload H at_135 rfl rfl ?_
          refine Go.iconst (2 : Int32) H at_137 rfl rfl ?_
          refine Go.icmpY (pc' := 151) H at_138 (by decide) (by decide) (by decide) ?_
          refine Go.iload H at_151 rfl rfl ?_
          refine Go.iconst (3 : Int32) H at_153 rfl rfl ?_
          refine Go.icmpY (pc' := 167) H at_154 (by decide) (by decide) (by decide) ?_
          refine Go.iconst (1 : Int32) H at_167 rfl rfl ?_
          refine Go.goto (pc' := 172) H at_168 (by decide) (by decide) ?_
          refine Go.istore (ls' := #[.val (.long u), .second, .val (.long o), .second, .val (.int k), .val (.int (1 : Int32)), .val (.int (1 : Int32)), .val (.int (tchF u (0 : Int32) k)), .val (.int (tchF u (1 : Int32) k)), .val (.int (tchF u (2 : Int32) k)), .val (.int (ochF (tchF u (0 : Int32) k) o (0 : Int32) k)), .val (.int (ochF (tchF u (1 : Int32) k) o (1 : Int32) k)), .val (.int (ochF (tchF u (2 : Int32) k) o (2 : Int32) k)), .val (.ref a134), .val (.ref a140), .val (.int (1 : Int32))]) H at_172 rfl rfl ?_
          refine Go.aload H at_174 rfl rfl rfl ?_
          refine Go.aload H at_176 rfl rfl rfl ?_
          refine Go.callS (rest := []) 0 [(.ref a134), (.ref a140)] H at_178 rfl w33 w34 w35 w36 pd_N26 (ct_eic l W a134 b135 a140 b141 [(tchF u (0 : Int32) k)] [(ochF (tchF u (0 : Int32) k) o (0 : Int32) k)] h142 S139 S145 (Nat.le_of_ble_eq_true rfl) (Nat.le_of_ble_eq_true rfl)) all0 rfl rfl rfl (Nat.le_of_eq rfl) (by decide) (by decide) (by decide) (by decide) nh_N25 ?_
          rintro _ _ _ ⟨rfl, rfl, rfl⟩
          show Go _ _ _ _ _ _ h142 [] 12 28 181 #[.val (.long u), .second, .val (.long o), .second, .val (.int k), .val (.int (1 : Int32)), .val (.int (1 : Int32)), .val (.int (tchF u (0 : Int32) k)), .val (.int (tchF u (1 : Int32) k)), .val (.int (tchF u (2 : Int32) k)), .val (.int (ochF (tchF u (0 : Int32) k) o (0 : Int32) k)), .val (.int (ochF (tchF u (1 : Int32) k) o (1 : Int32) k)), .val (.int (ochF (tchF u (2 : Int32) k) o (2 : Int32) k)), .val (.ref a134), .val (.ref a140), .val (.int (1 : Int32))] [(.int (eicF [(tchF u (0 : Int32) k)] [(ochF (tchF u (0 : Int32) k) o (0 : Int32) k)]))]
          refine Go.iload H at_181 rfl rfl ?_
          refine Go.icmpN H at_183 (teq (by simp [eicF, Decidable.byContradiction (fun e => c148 ((mF_i (tchF_k _ _ _) (ochF_k _ _ _ _)).mpr e))])).2 rfl ?_
          refine Go.iconst (1 : Int32) H at_186 rfl rfl ?_
          refine Go.goto (pc' := 191) H at_187 (by decide) (by decide) ?_
          exact Go.ireturn 1 [] H at_191 (by simp) (by decide) ⟨rfl, trivial⟩ all0 (by decide) (by decide)
      ·
        show Go _ _ _ _ _ _ h [] 0 0 86 #[.val (.long u), .second, .val (.long o), .second, .val (.int k), .val (.int (1 : Int32)), .val (.int (2 : Int32)), .val (.int (tchF u (0 : Int32) k)), .val (.int (tchF u (1 : Int32) k)), .val (.int (tchF u (2 : Int32) k)), .val (.int (ochF (tchF u (0 : Int32) k) o (0 : Int32) k)), .val (.int (ochF (tchF u (1 : Int32) k) o (1 : Int32) k)), .val (.int (ochF (tchF u (2 : Int32) k) o (2 : Int32) k)), .unset, .unset, .unset] []
        refine Go.iload H at_86 rfl rfl ?_
        refine Go.iload H at_88 rfl rfl ?_
        refine Go.iload H at_90 rfl rfl ?_
        refine Go.iload H at_92 rfl rfl ?_
        refine Go.callS (rest := []) 0 [(.int (1 : Int32)), (.int (tchF u (0 : Int32) k)), (.int (tchF u (1 : Int32) k)), (.int (tchF u (2 : Int32) k))] H at_94 rfl w8 w9 w2 w10 pd_N27 (ct_make1 l W (tchF u (0 : Int32) k) (tchF u (1 : Int32) k) (tchF u (2 : Int32) k) h (tchF_k _ _ _) (tchF_k _ _ _) (tchF_k _ _ _)) all0 rfl rfl rfl (Nat.le_of_eq rfl) (by decide) (by decide) (by decide) (by decide) nh_N23 ?_
        rintro _ h151 _ ⟨a149, b150, rfl, E152, g153, S154, rfl⟩
        show Go _ _ _ _ _ _ h151 [] 6 14 97 #[.val (.long u), .second, .val (.long o), .second, .val (.int k), .val (.int (1 : Int32)), .val (.int (2 : Int32)), .val (.int (tchF u (0 : Int32) k)), .val (.int (tchF u (1 : Int32) k)), .val (.int (tchF u (2 : Int32) k)), .val (.int (ochF (tchF u (0 : Int32) k) o (0 : Int32) k)), .val (.int (ochF (tchF u (1 : Int32) k) o (1 : Int32) k)), .val (.int (ochF (tchF u (2 : Int32) k) o (2 : Int32) k)), .unset, .unset, .unset] [(.ref a149)]
        refine Go.astore (ls' := #[.val (.long u), .second, .val (.long o), .second, .val (.int k), .val (.int (1 : Int32)), .val (.int (2 : Int32)), .val (.int (tchF u (0 : Int32) k)), .val (.int (tchF u (1 : Int32) k)), .val (.int (tchF u (2 : Int32) k)), .val (.int (ochF (tchF u (0 : Int32) k) o (0 : Int32) k)), .val (.int (ochF (tchF u (1 : Int32) k) o (1 : Int32) k)), .val (.int (ochF (tchF u (2 : Int32) k) o (2 : Int32) k)), .val (.ref a149), .unset, .unset]) H at_97 rfl rfl rfl ?_
        refine Go.iload H at_99 rfl rfl ?_
        refine Go.iload H at_101 rfl rfl ?_
        refine Go.iload H at_103 rfl rfl ?_
        refine Go.iload H at_105 rfl rfl ?_
        refine Go.callS (rest := []) 0 [(.int (2 : Int32)), (.int (ochF (tchF u (0 : Int32) k) o (0 : Int32) k)), (.int (ochF (tchF u (1 : Int32) k) o (1 : Int32) k)), (.int (ochF (tchF u (2 : Int32) k) o (2 : Int32) k))] H at_107 rfl w8 w9 w2 w10 pd_N27 (ct_make2 l W (ochF (tchF u (0 : Int32) k) o (0 : Int32) k) (ochF (tchF u (1 : Int32) k) o (1 : Int32) k) (ochF (tchF u (2 : Int32) k) o (2 : Int32) k) h151 (ochF_k _ _ _ _) (ochF_k _ _ _ _) (ochF_k _ _ _ _)) all0 rfl rfl rfl (Nat.le_of_eq rfl) (by decide) (by decide) (by decide) (by decide) nh_N23 ?_
        rintro _ h157 _ ⟨a155, b156, rfl, E158, g159, S160, rfl⟩
        have ne161 : a149 ≠ a155 := Nat.ne_of_lt (Nat.lt_of_lt_of_le S154.lt g159)
        have ne162 : b150 ≠ a155 := Nat.ne_of_lt (Nat.lt_of_lt_of_le S154.ltb g159)
        replace S154 := S154.ext E158
        show Go _ _ _ _ _ _ h157 [] 12 29 110 #[.val (.long u), .second, .val (.long o), .second, .val (.int k), .val (.int (1 : Int32)), .val (.int (2 : Int32)), .val (.int (tchF u (0 : Int32) k)), .val (.int (tchF u (1 : Int32) k)), .val (.int (tchF u (2 : Int32) k)), .val (.int (ochF (tchF u (0 : Int32) k) o (0 : Int32) k)), .val (.int (ochF (tchF u (1 : Int32) k) o (1 : Int32) k)), .val (.int (ochF (tchF u (2 : Int32) k) o (2 : Int32) k)), .val (.ref a149), .unset, .unset] [(.ref a155)]
        refine Go.astore (ls' := #[.val (.long u), .second, .val (.long o), .second, .val (.int k), .val (.int (1 : Int32)), .val (.int (2 : Int32)), .val (.int (tchF u (0 : Int32) k)), .val (.int (tchF u (1 : Int32) k)), .val (.int (tchF u (2 : Int32) k)), .val (.int (ochF (tchF u (0 : Int32) k) o (0 : Int32) k)), .val (.int (ochF (tchF u (1 : Int32) k) o (1 : Int32) k)), .val (.int (ochF (tchF u (2 : Int32) k) o (2 : Int32) k)), .val (.ref a149), .val (.ref a155), .unset]) H at_110 rfl rfl rfl ?_
        refine Go.iload H at_112 rfl rfl ?_
        refine Go.iload H at_114 rfl rfl ?_
        refine Go.icmpY (pc' := 171) H at_116 (by decide) (by decide) (by decide) ?_
        refine Go.iconst (0 : Int32) H at_171 rfl rfl ?_
        refine Go.istore (ls' := #[.val (.long u), .second, .val (.long o), .second, .val (.int k), .val (.int (1 : Int32)), .val (.int (2 : Int32)), .val (.int (tchF u (0 : Int32) k)), .val (.int (tchF u (1 : Int32) k)), .val (.int (tchF u (2 : Int32) k)), .val (.int (ochF (tchF u (0 : Int32) k) o (0 : Int32) k)), .val (.int (ochF (tchF u (1 : Int32) k) o (1 : Int32) k)), .val (.int (ochF (tchF u (2 : Int32) k) o (2 : Int32) k)), .val (.ref a149), .val (.ref a155), .val (.int (0 : Int32))]) H at_172 rfl rfl ?_
        refine Go.aload H at_174 rfl rfl rfl ?_
        refine Go.aload H at_176 rfl rfl rfl ?_
        refine Go.callS (rest := []) 0 [(.ref a149), (.ref a155)] H at_178 rfl w33 w34 w35 w36 pd_N26 (ct_eic l W a149 b150 a155 b156 [(tchF u (0 : Int32) k)] [(ochF (tchF u (0 : Int32) k) o (0 : Int32) k), (ochF (tchF u (1 : Int32) k) o (1 : Int32) k)] h157 S154 S160 (Nat.le_of_ble_eq_true rfl) (Nat.le_of_ble_eq_true rfl)) all0 rfl rfl rfl (Nat.le_of_eq rfl) (by decide) (by decide) (by decide) (by decide) nh_N25 ?_
        rintro _ _ _ ⟨rfl, rfl, rfl⟩
        show Go _ _ _ _ _ _ h157 [] 12 29 181 #[.val (.long u), .second, .val (.long o), .second, .val (.int k), .val (.int (1 : Int32)), .val (.int (2 : Int32)), .val (.int (tchF u (0 : Int32) k)), .val (.int (tchF u (1 : Int32) k)), .val (.int (tchF u (2 : Int32) k)), .val (.int (ochF (tchF u (0 : Int32) k) o (0 : Int32) k)), .val (.int (ochF (tchF u (1 : Int32) k) o (1 : Int32) k)), .val (.int (ochF (tchF u (2 : Int32) k) o (2 : Int32) k)), .val (.ref a149), .val (.ref a155), .val (.int (0 : Int32))] [(.int (eicF [(tchF u (0 : Int32) k)] [(ochF (tchF u (0 : Int32) k) o (0 : Int32) k), (ochF (tchF u (1 : Int32) k) o (1 : Int32) k)]))]
        refine Go.iload H at_181 rfl rfl ?_
        refine Go.icmpN H at_183 (teq (by simp [eicF])).2 rfl ?_
        refine Go.iconst (1 : Int32) H at_186 rfl rfl ?_
        refine Go.goto (pc' := 191) H at_187 (by decide) (by decide) ?_
        exact Go.ireturn 1 [] H at_191 (by simp) (by decide) ⟨rfl, trivial⟩ all0 (by decide) (by decide)
      ·
        show Go _ _ _ _ _ _ h [] 0 0 86 #[.val (.long u), .second, .val (.long o), .second, .val (.int k), .val (.int (1 : Int32)), .val (.int (3 : Int32)), .val (.int (tchF u (0 : Int32) k)), .val (.int (tchF u (1 : Int32) k)), .val (.int (tchF u (2 : Int32) k)), .val (.int (ochF (tchF u (0 : Int32) k) o (0 : Int32) k)), .val (.int (ochF (tchF u (1 : Int32) k) o (1 : Int32) k)), .val (.int (ochF (tchF u (2 : Int32) k) o (2 : Int32) k)), .unset, .unset, .unset] []
        refine Go.iload H at_86 rfl rfl ?_
        refine Go.iload H at_88 rfl rfl ?_
        refine Go.iload H at_90 rfl rfl ?_
        refine Go.iload H at_92 rfl rfl ?_
        refine Go.callS (rest := []) 0 [(.int (1 : Int32)), (.int (tchF u (0 : Int32) k)), (.int (tchF u (1 : Int32) k)), (.int (tchF u (2 : Int32) k))] H at_94 rfl w8 w9 w2 w10 pd_N27 (ct_make1 l W (tchF u (0 : Int32) k) (tchF u (1 : Int32) k) (tchF u (2 : Int32) k) h (tchF_k _ _ _) (tchF_k _ _ _) (tchF_k _ _ _)) all0 rfl rfl rfl (Nat.le_of_eq rfl) (by decide) (by decide) (by decide) (by decide) nh_N23 ?_
        rintro _ h165 _ ⟨a163, b164, rfl, E166, g167, S168, rfl⟩
        show Go _ _ _ _ _ _ h165 [] 6 14 97 #[.val (.long u), .second, .val (.long o), .second, .val (.int k), .val (.int (1 : Int32)), .val (.int (3 : Int32)), .val (.int (tchF u (0 : Int32) k)), .val (.int (tchF u (1 : Int32) k)), .val (.int (tchF u (2 : Int32) k)), .val (.int (ochF (tchF u (0 : Int32) k) o (0 : Int32) k)), .val (.int (ochF (tchF u (1 : Int32) k) o (1 : Int32) k)), .val (.int (ochF (tchF u (2 : Int32) k) o (2 : Int32) k)), .unset, .unset, .unset] [(.ref a163)]
        refine Go.astore (ls' := #[.val (.long u), .second, .val (.long o), .second, .val (.int k), .val (.int (1 : Int32)), .val (.int (3 : Int32)), .val (.int (tchF u (0 : Int32) k)), .val (.int (tchF u (1 : Int32) k)), .val (.int (tchF u (2 : Int32) k)), .val (.int (ochF (tchF u (0 : Int32) k) o (0 : Int32) k)), .val (.int (ochF (tchF u (1 : Int32) k) o (1 : Int32) k)), .val (.int (ochF (tchF u (2 : Int32) k) o (2 : Int32) k)), .val (.ref a163), .unset, .unset]) H at_97 rfl rfl rfl ?_
        refine Go.iload H at_99 rfl rfl ?_
        refine Go.iload H at_101 rfl rfl ?_
        refine Go.iload H at_103 rfl rfl ?_
        refine Go.iload H at_105 rfl rfl ?_
        refine Go.callS (rest := []) 0 [(.int (3 : Int32)), (.int (ochF (tchF u (0 : Int32) k) o (0 : Int32) k)), (.int (ochF (tchF u (1 : Int32) k) o (1 : Int32) k)), (.int (ochF (tchF u (2 : Int32) k) o (2 : Int32) k))] H at_107 rfl w8 w9 w2 w10 pd_N27 (ct_make3 l W (ochF (tchF u (0 : Int32) k) o (0 : Int32) k) (ochF (tchF u (1 : Int32) k) o (1 : Int32) k) (ochF (tchF u (2 : Int32) k) o (2 : Int32) k) h165 (ochF_k _ _ _ _) (ochF_k _ _ _ _) (ochF_k _ _ _ _)) all0 rfl rfl rfl (Nat.le_of_eq rfl) (by decide) (by decide) (by decide) (by decide) nh_N23 ?_
        rintro _ h171 _ ⟨a169, b170, rfl, E172, g173, S174, rfl⟩
        have ne175 : a163 ≠ a169 := Nat.ne_of_lt (Nat.lt_of_lt_of_le S168.lt g173)
        have ne176 : b164 ≠ a169 := Nat.ne_of_lt (Nat.lt_of_lt_of_le S168.ltb g173)
        replace S168 := S168.ext E172
        show Go _ _ _ _ _ _ h171 [] 12 30 110 #[.val (.long u), .second, .val (.long o), .second, .val (.int k), .val (.int (1 : Int32)), .val (.int (3 : Int32)), .val (.int (tchF u (0 : Int32) k)), .val (.int (tchF u (1 : Int32) k)), .val (.int (tchF u (2 : Int32) k)), .val (.int (ochF (tchF u (0 : Int32) k) o (0 : Int32) k)), .val (.int (ochF (tchF u (1 : Int32) k) o (1 : Int32) k)), .val (.int (ochF (tchF u (2 : Int32) k) o (2 : Int32) k)), .val (.ref a163), .unset, .unset] [(.ref a169)]
        refine Go.astore (ls' := #[.val (.long u), .second, .val (.long o), .second, .val (.int k), .val (.int (1 : Int32)), .val (.int (3 : Int32)), .val (.int (tchF u (0 : Int32) k)), .val (.int (tchF u (1 : Int32) k)), .val (.int (tchF u (2 : Int32) k)), .val (.int (ochF (tchF u (0 : Int32) k) o (0 : Int32) k)), .val (.int (ochF (tchF u (1 : Int32) k) o (1 : Int32) k)), .val (.int (ochF (tchF u (2 : Int32) k) o (2 : Int32) k)), .val (.ref a163), .val (.ref a169), .unset]) H at_110 rfl rfl rfl ?_
        refine Go.iload H at_112 rfl rfl ?_
        refine Go.iload H at_114 rfl rfl ?_
        refine Go.icmpY (pc' := 171) H at_116 (by decide) (by decide) (by decide) ?_
        refine Go.iconst (0 : Int32) H at_171 rfl rfl ?_
        refine Go.istore (ls' := #[.val (.long u), .second, .val (.long o), .second, .val (.int k), .val (.int (1 : Int32)), .val (.int (3 : Int32)), .val (.int (tchF u (0 : Int32) k)), .val (.int (tchF u (1 : Int32) k)), .val (.int (tchF u (2 : Int32) k)), .val (.int (ochF (tchF u (0 : Int32) k) o (0 : Int32) k)), .val (.int (ochF (tchF u (1 : Int32) k) o (1 : Int32) k)), .val (.int (ochF (tchF u (2 : Int32) k) o (2 : Int32) k)), .val (.ref a163), .val (.ref a169), .val (.int (0 : Int32))]) H at_172 rfl rfl ?_
        refine Go.aload H at_174 rfl rfl rfl ?_
        refine Go.aload H at_176 rfl rfl rfl ?_
        refine Go.callS (rest := []) 0 [(.ref a163), (.ref a169)] H at_178 rfl w33 w34 w35 w36 pd_N26 (ct_eic l W a163 b164 a169 b170 [(tchF u (0 : Int32) k)] [(ochF (tchF u (0 : Int32) k) o (0 : Int32) k), (ochF (tchF u (1 : Int32) k) o (1 : Int32) k), (ochF (tchF u (2 : Int32) k) o (2 : Int32) k)] h171 S168 S174 (Nat.le_of_ble_eq_true rfl) (Nat.le_of_ble_eq_true rfl)) all0 rfl rfl rfl (Nat.le_of_eq rfl) (by decide) (by decide) (by decide) (by decide) nh_N25 ?_
        rintro _ _ _ ⟨rfl, rfl, rfl⟩
        show Go _ _ _ _ _ _ h171 [] 12 30 181 #[.val (.long u), .second, .val (.long o), .second, .val (.int k), .val (.int (1 : Int32)), .val (.int (3 : Int32)), .val (.int (tchF u (0 : Int32) k)), .val (.int (tchF u (1 : Int32) k)), .val (.int (tchF u (2 : Int32) k)), .val (.int (ochF (tchF u (0 : Int32) k) o (0 : Int32) k)), .val (.int (ochF (tchF u (1 : Int32) k) o (1 : Int32) k)), .val (.int (ochF (tchF u (2 : Int32) k) o (2 : Int32) k)), .val (.ref a163), .val (.ref a169), .val (.int (0 : Int32))] [(.int (eicF [(tchF u (0 : Int32) k)] [(ochF (tchF u (0 : Int32) k) o (0 : Int32) k), (ochF (tchF u (1 : Int32) k) o (1 : Int32) k), (ochF (tchF u (2 : Int32) k) o (2 : Int32) k)]))]
        refine Go.iload H at_181 rfl rfl ?_
        refine Go.icmpN H at_183 (teq (by simp [eicF])).2 rfl ?_
        refine Go.iconst (1 : Int32) H at_186 rfl rfl ?_
        refine Go.goto (pc' := 191) H at_187 (by decide) (by decide) ?_
        exact Go.ireturn 1 [] H at_191 (by simp) (by decide) ⟨rfl, trivial⟩ all0 (by decide) (by decide)
    ·
      rcases hm4 with rfl | rfl | rfl | rfl
      ·
        show Go _ _ _ _ _ _ h [] 0 0 86 #[.val (.long u), .second, .val (.long o), .second, .val (.int k), .val (.int (2 : Int32)), .val (.int (0 : Int32)), .val (.int (tchF u (0 : Int32) k)), .val (.int (tchF u (1 : Int32) k)), .val (.int (tchF u (2 : Int32) k)), .val (.int (ochF (tchF u (0 : Int32) k) o (0 : Int32) k)), .val (.int (ochF (tchF u (1 : Int32) k) o (1 : Int32) k)), .val (.int (ochF (tchF u (2 : Int32) k) o (2 : Int32) k)), .unset, .unset, .unset] []
        refine Go.iload H at_86 rfl rfl ?_
        refine Go.iload H at_88 rfl rfl ?_
        refine Go.iload H at_90 rfl rfl ?_
        refine Go.iload H at_92 rfl rfl ?_
        refine Go.callS (rest := []) 0 [(.int (2 : Int32)), (.int (tchF u (0 : Int32) k)), (.int (tchF u (1 : Int32) k)), (.int (tchF u (2 : Int32) k))] H at_94 rfl w8 w9 w2 w10 pd_N27 (ct_make2 l W (tchF u (0 : Int32) k) (tchF u (1 : Int32) k) (tchF u (2 : Int32) k) h (tchF_k _ _ _) (tchF_k _ _ _) (tchF_k _ _ _)) all0 rfl rfl rfl (Nat.le_of_eq rfl) (by decide) (by decide) (by decide) (by decide) nh_N23 ?_
        rintro _ h179 _ ⟨a177, b178, rfl, E180, g181, S182, rfl⟩
        show Go _ _ _ _ _ _ h179 [] 6 15 97 #[.val (.long u), .second, .val (.long o), .second, .val (.int k), .val (.int (2 : Int32)), .val (.int (0 : Int32)), .val (.int (tchF u (0 : Int32) k)), .val (.int (tchF u (1 : Int32) k)), .val (.int (tchF u (2 : Int32) k)), .val (.int (ochF (tchF u (0 : Int32) k) o (0 : Int32) k)), .val (.int (ochF (tchF u (1 : Int32) k) o (1 : Int32) k)), .val (.int (ochF (tchF u (2 : Int32) k) o (2 : Int32) k)), .unset, .unset, .unset] [(.ref a177)]
        refine Go.astore (ls' := #[.val (.long u), .second, .val (.long o), .second, .val (.int k), .val (.int (2 : Int32)), .val (.int (0 : Int32)), .val (.int (tchF u (0 : Int32) k)), .val (.int (tchF u (1 : Int32) k)), .val (.int (tchF u (2 : Int32) k)), .val (.int (ochF (tchF u (0 : Int32) k) o (0 : Int32) k)), .val (.int (ochF (tchF u (1 : Int32) k) o (1 : Int32) k)), .val (.int (ochF (tchF u (2 : Int32) k) o (2 : Int32) k)), .val (.ref a177), .unset, .unset]) H at_97 rfl rfl rfl ?_
        refine Go.iload H at_99 rfl rfl ?_
        refine Go.iload H at_101 rfl rfl ?_
        refine Go.iload H at_103 rfl rfl ?_
        refine Go.iload H at_105 rfl rfl ?_
        refine Go.callS (rest := []) 0 [(.int (0 : Int32)), (.int (ochF (tchF u (0 : Int32) k) o (0 : Int32) k)), (.int (ochF (tchF u (1 : Int32) k) o (1 : Int32) k)), (.int (ochF (tchF u (2 : Int32) k) o (2 : Int32) k))] H at_107 rfl w8 w9 w2 w10 pd_N27 (ct_make0 l W (ochF (tchF u (0 : Int32) k) o (0 : Int32) k) (ochF (tchF u (1 : Int32) k) o (1 : Int32) k) (ochF (tchF u (2 : Int32) k) o (2 : Int32) k) h179 (ochF_k _ _ _ _) (ochF_k _ _ _ _) (ochF_k _ _ _ _)) all0 rfl rfl rfl (Nat.le_of_eq rfl) (by decide) (by decide) (by decide) (by decide) nh_N23 ?_
        rintro _ h185 _ ⟨a183, b184, rfl, E186, g187, S188, rfl⟩
        have ne189 : a177 ≠ a183 := Nat.ne_of_lt (Nat.lt_of_lt_of_le S182.lt g187)
        have ne190 : b178 ≠ a183 := Nat.ne_of_lt (Nat.lt_of_lt_of_le S182.ltb g187)
        replace S182 := S182.ext E186
        show Go _ _ _ _ _ _ h185 [] 12 28 110 #[.val (.long u), .second, .val (.long o), .second, .val (.int k), .val (.int (2 : Int32)), .val (.int (0 : Int32)), .val (.int (tchF u (0 : Int32) k)), .val (.int (tchF u (1 : Int32) k)), .val (.int (tchF u (2 : Int32) k)), .val (.int (ochF (tchF u (0 : Int32) k) o (0 : Int32) k)), .val (.int (ochF (tchF u (1 : Int32) k) o (1 : Int32) k)), .val (.int (ochF (tchF u (2 : Int32) k) o (2 : Int32) k)), .val (.ref a177), .unset, .unset] [(.ref a183)]
        refine Go.astore (ls' := #[.val (.long u), .second, .val (.long o), .second, .val (.int k), .val (.int (2 : Int32)), .val (.int (0 : Int32)), .val (.int (tchF u (0 : Int32) k)), .val (.int (tchF u (1 : Int32) k)), .val (.int (tchF u (2 : Int32) k)), .val (.int (ochF (tchF u (0 : Int32) k) o (0 : Int32) k)), .val (.int (ochF (tchF u (1 : Int32) k) o (1 : Int32) k)), .val (.int (ochF (tchF u (2 : Int32) k) o (2 : Int32) k)), .val (.ref a177), .val (.ref a183), .unset]) H at_110 rfl rfl rfl ?_
        refine Go.iload H at_112 rfl rfl ?_
        refine Go.iload H at_114 rfl rfl ?_
        refine Go.icmpY (pc' := 171) H at_116 (by decide) (by decide) (by decide) ?_
        refine Go.iconst (0 : Int32) H at_171 rfl rfl ?_
        refine Go.istore (ls' := #[.val (.long u), .second, .val (.long o), .second, .val (.int k), .val (.int (2 : Int32)), .val (.int (0 : Int32)), .val (.int (tchF u (0 : Int32) k)), .val (.int (tchF u (1 : Int32) k)), .val (.int (tchF u (2 : Int32) k)), .val (.int (ochF (tchF u (0 : Int32) k) o (0 : Int32) k)), .val (.int (ochF (tchF u (1 : Int32) k) o (1 : Int32) k)), .val (.int (ochF (tchF u (2 : Int32) k) o (2 : Int32) k)), .val (.ref a177), .val (.ref a183), .val (.int (0 : Int32))]) H at_172 rfl rfl ?_
        refine Go.aload H at_174 rfl rfl rfl ?_
        refine Go.aload H at_176 rfl rfl rfl ?_
        refine Go.callS (rest := []) 0 [(.ref a177), (.ref a183)] H at_178 rfl w33 w34 w35 w36 pd_N26 (ct_eic l W a177 b178 a183 b184 [(tchF u (0 : Int32) k), (tchF u (1 : Int32) k)] ([] : List Int32) h185 S182 S188 (Nat.le_of_ble_eq_true rfl) (Nat.le_of_ble_eq_true rfl)) all0 rfl rfl rfl (Nat.le_of_eq rfl) (by decide) (by decide) (by decide) (by decide) nh_N25 ?_
        rintro _ _ _ ⟨rfl, rfl, rfl⟩
        show Go _ _ _ _ _ _ h185 [] 12 28 181 #[.val (.long u), .second, .val (.long o), .second, .val (.int k), .val (.int (2 : Int32)), .val (.int (0 : Int32)), .val (.int (tchF u (0 : Int32) k)), .val (.int (tchF u (1 : Int32) k)), .val (.int (tchF u (2 : Int32) k)), .val (.int (ochF (tchF u (0 : Int32) k) o (0 : Int32) k)), .val (.int (ochF (tchF u (1 : Int32) k) o (1 : Int32) k)), .val (.int (ochF (tchF u (2 : Int32) k) o (2 : Int32) k)), .val (.ref a177), .val (.ref a183), .val (.int (0 : Int32))] [(.int (eicF [(tchF u (0 : Int32) k), (tchF u (1 : Int32) k)] ([] : List Int32)))]
        refine Go.iload H at_181 rfl rfl ?_
        refine Go.icmpN H at_183 (teq (by simp [eicF])).2 rfl ?_
        refine Go.iconst (1 : Int32) H at_186 rfl rfl ?_
        refine Go.goto (pc' := 191) H at_187 (by decide) (by decide) ?_
        exact Go.ireturn 1 [] H at_191 (by simp) (by decide) ⟨rfl, trivial⟩ all0 (by decide) (by decide)
      ·
        show Go _ _ _ _ _ _ h [] 0 0 86 #[.val (.long u), .second, .val (.long o), .second, .val (.int k), .val (.int (2 : Int32)), .val (.int (1 : Int32)), .val (.int (tchF u (0 : Int32) k)), .val (.int (tchF u (1 : Int32) k)), .val (.int (tchF u (2 : Int32) k)), .val (.int (ochF (tchF u (0 : Int32) k) o (0 : Int32) k)), .val (.int (ochF (tchF u (1 : Int32) k) o (1 : Int32) k)), .val (.int (ochF (tchF u (2 : Int32) k) o (2 : Int32) k)), .unset, .unset, .unset] []
        refine Go.iload H at_86 rfl rfl ?_
        refine Go.iload H at_88 rfl rfl ?_
        refine Go.iload H at_90 rfl rfl ?_
        refine Go.iload H at_92 rfl rfl ?_
        refine Go.callS (rest := []) 0 [(.int (2 : Int32)), (.int (tchF u (0 : Int32) k)), (.int (tchF u (1 : Int32) k)), (.int (tchF u (2 : Int32) k))] H at_94 rfl w8 w9 w2 w10 pd_N27 (ct_make2 l W (tchF u (0 : Int32) k) (tchF u (1 : Int32) k) (tchF u (2 : Int32) k) h (tchF_k _ _ _) (tchF_k _ _ _) (tchF_k _ _ _)) all0 rfl rfl rfl (Nat.le_of_eq rfl) (by decide) (by decide) (by decide) (by decide) nh_N23 ?_
        rintro _ h193 _ ⟨a191, b192, rfl, E194, g195, S196, rfl⟩
        show Go _ _ _ _ _ _ h193 [] 6 15 97 #[.val (.long u), .second, .val (.long o), .second, .val (.int k), .val (.int (2 : Int32)), .val (.int (1 : Int32)), .val (.int (tchF u (0 : Int32) k)), .val (.int (tchF u (1 : Int32) k)), .val (.int (tchF u (2 : Int32) k)), .val (.int (ochF (tchF u (0 : Int32) k) o (0 : Int32) k)), .val (.int (ochF (tchF u (1 : Int32) k) o (1 : Int32) k)), .val (.int (ochF (tchF u (2 : Int32) k) o (2 : Int32) k)), .unset, .unset, .unset] [(.ref a191)]
        refine Go.astore (ls' := #[.val (.long u), .second, .val (.long o), .second, .val (.int k), .val (.int (2 : Int32)), .val (.int (1 : Int32)), .val (.int (tchF u (0 : Int32) k)), .val (.int (tchF u (1 : Int32) k)), .val (.int (tchF u (2 : Int32) k)), .val (.int (ochF (tchF u (0 : Int32) k) o (0 : Int32) k)), .val (.int (ochF (tchF u (1 : Int32) k) o (1 : Int32) k)), .val (.int (ochF (tchF u (2 : Int32) k) o (2 : Int32) k)), .val (.ref a191), .unset, .unset]) H at_97 rfl rfl rfl ?_
        refine Go.iload H at_99 rfl rfl ?_
        refine Go.iload H at_101 rfl rfl ?_
        refine Go.iload H at_103 rfl rfl ?_
        refine Go.iload H at_105 rfl rfl ?_
        refine Go.callS (rest := []) 0 [(.int (1 : Int32)), (.int (ochF (tchF u (0 : Int32) k) o (0 : Int32) k)), (.int (ochF (tchF u (1 : Int32) k) o (1 : Int32) k)), (.int (ochF (tchF u (2 : Int32) k) o (2 : Int32) k))] H at_107 rfl w8 w9 w2 w10 pd_N27 (ct_make1 l W (ochF (tchF u (0 : Int32) k) o (0 : Int32) k) (ochF (tchF u (1 : Int32) k) o (1 : Int32) k) (ochF (tchF u (2 : Int32) k) o (2 : Int32) k) h193 (ochF_k _ _ _ _) (ochF_k _ _ _ _) (ochF_k _ _ _ _)) all0 rfl rfl rfl (Nat.le_of_eq rfl) (by decide) (by decide) (by decide) (by decide) nh_N23 ?_
        rintro _ h199 _ ⟨a197, b198, rfl, E200, g201, S202, rfl⟩
        have ne203 : a191 ≠ a197 := Nat.ne_of_lt (Nat.lt_of_lt_of_le S196.lt g201)
        have ne204 : b192 ≠ a197 := Nat.ne_of_lt (Nat.lt_of_lt_of_le S196.ltb g201)
        replace S196 := S196.ext E200
        show Go _ _ _ _ _ _ h199 [] 12 29 110 #[.val (.long u), .second, .val (.long o), .second, .val (.int k), .val (.int (2 : Int32)), .val (.int (1 : Int32)), .val (.int (tchF u (0 : Int32) k)), .val (.int (tchF u (1 : Int32) k)), .val (.int (tchF u (2 : Int32) k)), .val (.int (ochF (tchF u (0 : Int32) k) o (0 : Int32) k)), .val (.int (ochF (tchF u (1 : Int32) k) o (1 : Int32) k)), .val (.int (ochF (tchF u (2 : Int32) k) o (2 : Int32) k)), .val (.ref a191), .unset, .unset] [(.ref a197)]
        refine Go.astore (ls' := #[.val (.long u), .second, .val (.long o), .second, .val (.int k), .val (.int (2 : Int32)), .val (.int (1 : Int32)), .val (.int (tchF u (0 : Int32) k)), .val (.int (tchF u (1 : Int32) k)), .val (.int (tchF u (2 : Int32) k)), .val (.int (ochF (tchF u (0 : Int32) k) o (0 : Int32) k)), .val (.int (ochF (tchF u (1 : Int32) k) o (1 : Int32) k)), .val (.int (ochF (tchF u (2 : Int32) k) o (2 : Int32) k)), .val (.ref a191), .val (.ref a197), .unset]) H at_110 rfl rfl rfl ?_
        refine Go.iload H at_112 rfl rfl ?_
        refine Go.iload H at_114 rfl rfl ?_
        refine Go.icmpY (pc' := 171) H at_116 (by decide) (by decide) (by decide) ?_
        refine Go.iconst (0 : Int32) H at_171 rfl rfl ?_
        refine Go.istore (ls' := #[.val (.long u), .second, .val (.long o), .second, .val (.int k), .val (.int (2 : Int32)), .val (.int (1 : Int32)), .val (.int (tchF u (0 : Int32) k)), .val (.int (tchF u (1 : Int32) k)), .val (.int (tchF u (2 : Int32) k)), .val (.int (ochF (tchF u (0 : Int32) k) o (0 : Int32) k)), .val (.int (ochF (tchF u (1 : Int32) k) o (1 : Int32) k)), .val (.int (ochF (tchF u (2 : Int32) k) o (2 : Int32) k)), .val (.ref a191), .val (.ref a197), .val (.int (0 : Int32))]) H at_172 rfl rfl ?_
        refine Go.aload H at_174 rfl rfl rfl ?_
        refine Go.aload H at_176 rfl rfl rfl ?_
        refine Go.callS (rest := []) 0 [(.ref a191), (.ref a197)] H at_178 rfl w33 w34 w35 w36 pd_N26 (ct_eic l W a191 b192 a197 b198 [(tchF u (0 : Int32) k), (tchF u (1 : Int32) k)] [(ochF (tchF u (0 : Int32) k) o (0 : Int32) k)] h199 S196 S202 (Nat.le_of_ble_eq_true rfl) (Nat.le_of_ble_eq_true rfl)) all0 rfl rfl rfl (Nat.le_of_eq rfl) (by decide) (by decide) (by decide) (by decide) nh_N25 ?_
        rintro _ _ _ ⟨rfl, rfl, rfl⟩
        show Go _ _ _ _ _ _ h199 [] 12 29 181 #[.val (.long u), .second, .val (.long o), .second, .val (.int k), .val (.int (2 : Int32)), .val (.int (1 : Int32)), .val (.int (tchF u (0 : Int32) k)), .val (.int (tchF u (1 : Int32) k)), .val (.int (tchF u (2 : Int32) k)), .val (.int (ochF (tchF u (0 : Int32) k) o (0 : Int32) k)), .val (.int (ochF (tchF u (1 : Int32) k) o (1 : Int32) k)), .val (.int (ochF (tchF u (2 : Int32) k) o (2 : Int32) k)), .val (.ref a191), .val (.ref a197), .val (.int (0 : Int32))] [(.int (eicF [(tchF u (0 : Int32) k), (tchF u (1 : Int32) k)] [(ochF (tchF u (0 : Int32) k) o (0 : Int32) k)]))]
        refine Go.iload H at_181 rfl rfl ?_
        refine Go.icmpN H at_183 (teq (by simp [eicF])).2 rfl ?_
        refine Go.iconst (1 : Int32) H at_186 rfl rfl ?_
        refine Go.goto (pc' := 191) H at_187 (by decide) (by decide) ?_
        exact Go.ireturn 1 [] H at_191 (by simp) (by decide) ⟨rfl, trivial⟩ all0 (by decide) (by decide)
      ·
        show Go _ _ _ _ _ _ h [] 0 0 86 #[.val (.long u), .second, .val (.long o), .second, .val (.int k), .val (.int (2 : Int32)), .val (.int (2 : Int32)), .val (.int (tchF u (0 : Int32) k)), .val (.int (tchF u (1 : Int32) k)), .val (.int (tchF u (2 : Int32) k)), .val (.int (ochF (tchF u (0 : Int32) k) o (0 : Int32) k)), .val (.int (ochF (tchF u (1 : Int32) k) o (1 : Int32) k)), .val (.int (ochF (tchF u (2 : Int32) k) o (2 : Int32) k)), .unset, .unset, .unset] []
        refine Go.iload H at_86 rfl rfl ?_
        refine Go.iload H at_88 rfl rfl ?_
        refine Go.iload H at_90 rfl rfl ?_
        refine Go.iload H at_92 rfl rfl ?_
        refine Go.callS (rest := []) 0 [(.int (2 : Int32)), (.int (tchF u (0 : Int32) k)), (.int (tchF u (1 : Int32) k)), (.int (tchF u (2 : Int32) k))] H at_94 rfl w8 w9 w2 w10 pd_N27 (ct_make2 l W (tchF u (0 : Int32) k) (tchF u (1 : Int32) k) (tchF u (2 : Int32) k) h (tchF_k _ _ _) (tchF_k _ _ _) (tchF_k _ _ _)) all0 rfl rfl rfl (Nat.le_of_eq rfl) (by decide) (by decide) (by decide) (by decide) nh_N23 ?_
        rintro _ h207 _ ⟨a205, b206, rfl, E208, g209, S210, rfl⟩
        show Go _ _ _ _ _ _ h207 [] 6 15 97 #[.val (.long u), .second, .val (.long o), .second, .val (.int k), .val (.int (2 : Int32)), .val (.int (2 : Int32)), .val (.int (tchF u (0 : Int32) k)), .val (.int (tchF u (1 : Int32) k)), .val (.int (tchF u (2 : Int32) k)), .val (.int (ochF (tchF u (0 : Int32) k) o (0 : Int32) k)), .val (.int (ochF (tchF u (1 : Int32) k) o (1 : Int32) k)), .val (.int (ochF (tchF u (2 : Int32) k) o (2 : Int32) k)), .unset, .unset, .unset] [(.ref a205)]
        refine Go.astore (ls' := #[.val (.long u), .second, .val (.long o), .second, .val (.int k), .val (.int (2 : Int32)), .val (.int (2 : Int32)), .val (.int (tchF u (0 : Int32) k)), .val (.int (tchF u (1 : Int32) k)), .val (.int (tchF u (2 : Int32) k)), .val (.int (ochF (tchF u (0 : Int32) k) o (0 : Int32) k)), .val (.int (ochF (tchF u (1 : Int32) k) o (1 : Int32) k)), .val (.int (ochF (tchF u (2 : Int32) k) o (2 : Int32) k)), .val (.ref a205), .unset, .unset]) H at_97 rfl rfl rfl ?_
        refine Go.iload H at_99 rfl rfl ?_
        refine Go.iload H at_101 rfl rfl ?_
        refine Go.iload H at_103 rfl rfl ?_
        refine Go.iload H at_105 rfl rfl ?_
        refine Go.callS (rest := []) 0 [(.int (2 : Int32)), (.int (ochF (tchF u (0 : Int32) k) o (0 : Int32) k)), (.int (ochF (tchF u (1 : Int32) k) o (1 : Int32) k)), (.int (ochF (tchF u (2 : Int32) k) o (2 : Int32) k))] H at_107 rfl w8 w9 w2 w10 pd_N27 (ct_make2 l W (ochF (tchF u (0 : Int32) k) o (0 : Int32) k) (ochF (tchF u (1 : Int32) k) o (1 : Int32) k) (ochF (tchF u (2 : Int32) k) o (2 : Int32) k) h207 (ochF_k _ _ _ _) (ochF_k _ _ _ _) (ochF_k _ _ _ _)) all0 rfl rfl rfl (Nat.le_of_eq rfl) (by decide) (by decide) (by decide) (by decide) nh_N23 ?_
        rintro _ h213 _ ⟨a211, b212, rfl, E214, g215, S216, rfl⟩
        have ne217 : a205 ≠ a211 := Nat.ne_of_lt (Nat.lt_of_lt_of_le S210.lt g215)
        have ne218 : b206 ≠ a211 := Nat.ne_of_lt (Nat.lt_of_lt_of_le S210.ltb g215)
        replace S210 := S210.ext E214
        show Go _ _ _ _ _ _ h213 [] 12 30 110 #[.val (.long u), .second, .val (.long o), .second, .val (.int k), .val (.int (2 : Int32)), .val (.int (2 : Int32)), .val (.int (tchF u (0 : Int32) k)), .val (.int (tchF u (1 : Int32) k)), .val (.int (tchF u (2 : Int32) k)), .val (.int (ochF (tchF u (0 : Int32) k) o (0 : Int32) k)), .val (.int (ochF (tchF u (1 : Int32) k) o (1 : Int32) k)), .val (.int (ochF (tchF u (2 : Int32) k) o (2 : Int32) k)), .val (.ref a205), .unset, .unset] [(.ref a211)]
        refine Go.astore (ls' := #[.val (.long u), .second, .val (.long o), .second, .val (.int k), .val (.int (2 : Int32)), .val (.int (2 : Int32)), .val (.int (tchF u (0 : Int32) k)), .val (.int (tchF u (1 : Int32) k)), .val (.int (tchF u (2 : Int32) k)), .val (.int (ochF (tchF u (0 : Int32) k) o (0 : Int32) k)), .val (.int (ochF (tchF u (1 : Int32) k) o (1 : Int32) k)), .val (.int (ochF (tchF u (2 : Int32) k) o (2 : Int32) k)), .val (.ref a205), .val (.ref a211), .unset]) H at_110 rfl rfl rfl ?_
        refine Go.iload H at_112 rfl rfl ?_
        refine Go.iload H at_114 rfl rfl ?_
        refine Go.icmpN H at_116 (by decide) rfl ?_
        refine Go.iload H at_119 rfl rfl ?_
        refine Go.iconst (1 : Int32) H at_121 rfl rfl ?_
        refine Go.icmpN H at_122 (by decide) rfl ?_
        refine Go.iload H at_125 rfl rfl ?_
        refine Go.iload H at_127 rfl rfl ?_
        refine Go.callS (rest := []) 0 [(.int (tchF u (0 : Int32) k)), (.int (ochF (tchF u (0 : Int32) k) o (0 : Int32) k))] H at_129 rfl w77 w78 w2 w79 pd_N24 (ct_mat l W (tchF u (0 : Int32) k) (ochF (tchF u (0 : Int32) k) o (0 : Int32) k) h213) all0 rfl rfl rfl (Nat.le_of_eq rfl) (by decide) (by decide) (by decide) (by decide) nh_N23 ?_
        rintro _ _ _ ⟨rfl, rfl, rfl⟩
        show Go _ _ _ _ _ _ h213 [] 12 30 132 #[.val (.long u), .second, .val (.long o), .second, .val (.int k), .val (.int (2 : Int32)), .val (.int (2 : Int32)), .val (.int (tchF u (0 : Int32) k)), .val (.int (tchF u (1 : Int32) k)), .val (.int (tchF u (2 : Int32) k)), .val (.int (ochF (tchF u (0 : Int32) k) o (0 : Int32) k)), .val (.int (ochF (tchF u (1 : Int32) k) o (1 : Int32) k)), .val (.int (ochF (tchF u (2 : Int32) k) o (2 : Int32) k)), .val (.ref a205), .val (.ref a211), .unset] [(.int (mF (tchF u (0 : Int32) k) (ochF (tchF u (0 : Int32) k) o (0 : Int32) k)))]
        by_cases c219 : (mF (tchF u (0 : Int32) k) (ochF (tchF u (0 : Int32) k) o (0 : Int32) k)) = (0 : Int32)
        ·
          refine Go.ifY (pc' := 171) H at_132 (teq c219).1 (by decide) (by decide) ?_
          refine Go.iconst (0 : Int32) H at_171 rfl rfl ?_
          refine Go.istore (ls' := #[.val (.long u), .second, .val (.long o), .second, .val (.int k), .val (.int (2 : Int32)), .val (.int (2 : Int32)), .val (.int (tchF u (0 : Int32) k)), .val (.int (tchF u (1 : Int32) k)), .val (.int (tchF u (2 : Int32) k)), .val (.int (ochF (tchF u (0 : Int32) k) o (0 : Int32) k)), .val (.int (ochF (tchF u (1 : Int32) k) o (1 : Int32) k)), .val (.int (ochF (tchF u (2 : Int32) k) o (2 : Int32) k)), .val (.ref a205), .val (.ref a211), .val (.int (0 : Int32))]) H at_172 rfl rfl ?_
          refine Go.aload H at_174 rfl rfl rfl ?_
          refine Go.aload H at_176 rfl rfl rfl ?_
          refine Go.callS (rest := []) 0 [(.ref a205), (.ref a211)] H at_178 rfl w33 w34 w35 w36 pd_N26 (ct_eic l W a205 b206 a211 b212 [(tchF u (0 : Int32) k), (tchF u (1 : Int32) k)] [(ochF (tchF u (0 : Int32) k) o (0 : Int32) k), (ochF (tchF u (1 : Int32) k) o (1 : Int32) k)] h213 S210 S216 (Nat.le_of_ble_eq_true rfl) (Nat.le_of_ble_eq_true rfl)) all0 rfl rfl rfl (Nat.le_of_eq rfl) (by decide) (by decide) (by decide) (by decide) nh_N25 ?_
          rintro _ _ _ ⟨rfl, rfl, rfl⟩
          show Go _ _ _ _ _ _ h213 [] 12 30 181 #[.val (.long u), .second, .val (.long o), .second, .val (.int k), .val (.int (2 : Int32)), .val (.int (2 : Int32)), .val (.int (tchF u (0 : Int32) k)), .val (.int (tchF u (1 : Int32) k)), .val (.int (tchF u (2 : Int32) k)), .val (.int (ochF (tchF u (0 : Int32) k) o (0 : Int32) k)), .val (.int (ochF (tchF u (1 : Int32) k) o (1 : Int32) k)), .val (.int (ochF (tchF u (2 : Int32) k) o (2 : Int32) k)), .val (.ref a205), .val (.ref a211), .val (.int (0 : Int32))] [(.int (eicF [(tchF u (0 : Int32) k), (tchF u (1 : Int32) k)] [(ochF (tchF u (0 : Int32) k) o (0 : Int32) k), (ochF (tchF u (1 : Int32) k) o (1 : Int32) k)]))]
          refine Go.iload H at_181 rfl rfl ?_
          refine Go.icmpN H at_183 (teq (by simp [eicF, (mF_i (tchF_k _ _ _) (ochF_k _ _ _ _)).mp c219])).2 rfl ?_
          refine Go.iconst (1 : Int32) H at_186 rfl rfl ?_
          refine Go.goto (pc' := 191) H at_187 (by decide) (by decide) ?_
          exact Go.ireturn 1 [] H at_191 (by simp) (by decide) ⟨rfl, trivial⟩ all0 (by decide) (by decide)
        ·
          refine Go.ifN H at_132 (feq c219).1 rfl ?_
          refine Go.iload H at_135 rfl rfl ?_
          refine Go.iconst (2 : Int32) H at_137 rfl rfl ?_
          refine Go.icmpN H at_138 (by decide) rfl ?_
          refine Go.iload H at_141 rfl rfl ?_
          refine Go.iload H at_143 rfl rfl ?_
          refine Go.callS (rest := []) 0 [(.int (tchF u (1 : Int32) k)), (.int (ochF (tchF u (1 : Int32) k) o (1 : Int32) k))] H at_145 rfl w77 w78 w2 w79 pd_N24 (ct_mat l W (tchF u (1 : Int32) k) (ochF (tchF u (1 : Int32) k) o (1 : Int32) k) h213) all0 rfl rfl rfl (Nat.le_of_eq rfl) (by decide) (by decide) (by decide) (by decide) nh_N23 ?_
          rintro _ _ _ ⟨rfl, rfl, rfl⟩
          show Go _ _ _ _ _ _ h213 [] 12 30 148 #[.val (.long u), .second, .val (.long o), .second, .val (.int k), .val (.int (2 : Int32)), .val (.int (2 : Int32)), .val (.int (tchF u (0 : Int32) k)), .val (.int (tchF u (1 : Int32) k)), .val (.int (tchF u (2 : Int32) k)), .val (.int (ochF (tchF u (0 : Int32) k) o (0 : Int32) k)), .val (.int (ochF (tchF u (1 : Int32) k) o (1 : Int32) k)), .val (.int (ochF (tchF u (2 : Int32) k) o (2 : Int32) k)), .val (.ref a205), .val (.ref a211), .unset] [(.int (mF (tchF u (1 : Int32) k) (ochF (tchF u (1 : Int32) k) o (1 : Int32) k)))]
          by_cases c220 : (mF (tchF u (1 : Int32) k) (ochF (tchF u (1 : Int32) k) o (1 : Int32) k)) = (0 : Int32)
          ·
            refine Go.ifY (pc' := 171) H at_148 (teq c220).1 (by decide) (by decide) ?_
            refine Go.iconst (0 : Int32) H at_171 rfl rfl ?_
            refine Go.istore (ls' := #[.val (.long u), .second, .val (.long o), .second, .val (.int k), .val (.int (2 : Int32)), .val (.int (2 : Int32)), .val (.int (tchF u (0 : Int32) k)), .val (.int (tchF u (1 : Int32) k)), .val (.int (tchF u (2 : Int32) k)), .val (.int (ochF (tchF u (0 : Int32) k) o (0 : Int32) k)), .val (.int (ochF (tchF u (1 : Int32) k) o (1 : Int32) k)), .val (.int (ochF (tchF u (2 : Int32) k) o (2 : Int32) k)), .val (.ref a205), .val (.ref a211), .val (.int (0 : Int32))]) H at_172 rfl rfl ?_
            refine Go.aload H at_174 rfl rfl rfl ?_
            refine Go.aload H at_176 rfl rfl rfl ?_
            refine Go.callS (rest := []) 0 [(.ref a205), (.ref a211)] H at_178 rfl w33 w34 w35 w36 pd_N26 (ct_eic l W a205 b206 a211 b212 [(tchF u (0 : Int32) k), (tchF u (1 : Int32) k)] [(ochF (tchF u (0 : Int32) k) o (0 : Int32) k), (ochF (tchF u (1 : Int32) k) o (1 : Int32) k)] h213 S210 S216 (Nat.le_of_ble_eq_true rfl) (Nat.le_of_ble_eq_true rfl)) all0 rfl rfl rfl (Nat.le_of_eq rfl) (by decide) (by decide) (by decide) (by decide) nh_N25 ?_
            rintro _ _ _ ⟨rfl, rfl, rfl⟩
            show Go _ _ _ _ _ _ h213 [] 12 30 181 #[.val (.long u), .second, .val (.long o), .second, .val (.int k), .val (.int (2 : Int32)), .val (.int (2 : Int32)), .val (.int (tchF u (0 : Int32) k)), .val (.int (tchF u (1 : Int32) k)), .val (.int (tchF u (2 : Int32) k)), .val (.int (ochF (tchF u (0 : Int32) k) o (0 : Int32) k)), .val (.int (ochF (tchF u (1 : Int32) k) o (1 : Int32) k)), .val (.int (ochF (tchF u (2 : Int32) k) o (2 : Int32) k)), .val (.ref a205), .val (.ref a211), .val (.int (0 : Int32))] [(.int (eicF [(tchF u (0 : Int32) k), (tchF u (1 : Int32) k)] [(ochF (tchF u (0 : Int32) k) o (0 : Int32) k), (ochF (tchF u (1 : Int32) k) o (1 : Int32) k)]))]
            refine Go.iload H at_181 rfl rfl ?_
            refine Go.icmpN H at_183 (teq (by simp [eicF, Decidable.byContradiction (fun e => c219 ((mF_i (tchF_k _ _ _) (ochF_k _ _ _ _)).mpr e)), (mF_i (tchF_k _ _ _) (ochF_k _ _ _ _)).mp c220])).2 rfl ?_
            refine Go.iconst (1 : Int32) H at_186 rfl rfl ?_
            refine Go.goto (pc' := 191) H at_187 (by decide) (by decide) ?_
            exact Go.ireturn 1 [] H at_191 (by simp) (by decide) ⟨rfl, trivial⟩ all0 (by decide) (by decide)
          ·
            refine Go.ifN H at_148 (feq c220).1 rfl ?_
            refine Go.iload H at_151 rfl rfl ?_
            refine Go.iconst (3 : Int32) H at_153 rfl rfl ?_
            refine Go.icmpY (pc' := 167) H at_154 (by decide) (by decide) (by decide) ?_
            refine Go.iconst (1 : Int32) H at_167 rfl rfl ?_
            refine Go.goto (pc' := 172) H at_168 (by decide) (by decide) ?_
            refine Go.istore (ls' := #[.val (.long u), .second, .val (.long o), .second, .val (.int k), .val (.int (2 : Int32)), .val (.int (2 : Int32)), .val (.int (tchF u (0 : Int32) k)), .val (.int (tchF u (1 : Int32) k)), .val (.int (tchF u (2 : Int32) k)), .val (.int (ochF (tchF u (0 : Int32) k) o (0 : Int32) k)), .val (.int (ochF (tchF u (1 : Int32) k) o (1 : Int32) k)), .val (.int (ochF (tchF u (2 : Int32) k) o (2 : Int32) k)), .val (.ref a205), .val (.ref a211), .val (.int (1 : Int32))]) H at_172 rfl rfl ?_
            refine Go.aload H at_174 rfl rfl rfl ?_
            refine Go.aload H at_176 rfl rfl rfl ?_
            refine Go.callS (rest := []) 0 [(.ref a205), (.ref a211)] H at_178 rfl w33 w34 w35 w36 pd_N26 (ct_eic l W a205 b206 a211 b212 [(tchF u (0 : Int32) k), (tchF u (1 : Int32) k)] [(ochF (tchF u (0 : Int32) k) o (0 : Int32) k), (ochF (tchF u (1 : Int32) k) o (1 : Int32) k)] h213 S210 S216 (Nat.le_of_ble_eq_true rfl) (Nat.le_of_ble_eq_true rfl)) all0 rfl rfl rfl (Nat.le_of_eq rfl) (by decide) (by decide) (by decide) (by decide) nh_N25 ?_
            rintro _ _ _ ⟨rfl, rfl, rfl⟩
            show Go _ _ _ _ _ _ h213 [] 12 30 181 #[.val (.long u), .second, .val (.long o), .second, .val (.int k), .val (.int (2 : Int32)), .val (.int (2 : Int32)), .val (.int (tchF u (0 : Int32) k)), .val (.int (tchF u (1 : Int32) k)), .val (.int (tchF u (2 : Int32) k)), .val (.int (ochF (tchF u (0 : Int32) k) o (0 : Int32) k)), .val (.int (ochF (tchF u (1 : Int32) k) o (1 : Int32) k)), .val (.int (ochF (tchF u (2 : Int32) k) o (2 : Int32) k)), .val (.ref a205), .val (.ref a211), .val (.int (1 : Int32))] [(.int (eicF [(tchF u (0 : Int32) k), (tchF u (1 : Int32) k)] [(ochF (tchF u (0 : Int32) k) o (0 : Int32) k), (ochF (tchF u (1 : Int32) k) o (1 : Int32) k)]))]
            refine Go.iload H at_181 rfl rfl ?_
            refine Go.icmpN H at_183 (teq (by simp [eicF, Decidable.byContradiction (fun e => c219 ((mF_i (tchF_k _ _ _) (ochF_k _ _ _ _)).mpr e)), Decidable.byContradiction (fun e => c220 ((mF_i (tchF_k _ _ _) (ochF_k _ _ _ _)).mpr e))])).2 rfl ?_
            refine Go.iconst (1 : Int32) H at_186 rfl rfl ?_
            refine Go.goto (pc' := 191) H at_187 (by decide) (by decide) ?_
            exact Go.ireturn 1 [] H at_191 (by simp) (by decide) ⟨rfl, trivial⟩ all0 (by decide) (by decide)
      ·
        show Go _ _ _ _ _ _ h [] 0 0 86 #[.val (.long u), .second, .val (.long o), .second, .val (.int k), .val (.int (2 : Int32)), .val (.int (3 : Int32)), .val (.int (tchF u (0 : Int32) k)), .val (.int (tchF u (1 : Int32) k)), .val (.int (tchF u (2 : Int32) k)), .val (.int (ochF (tchF u (0 : Int32) k) o (0 : Int32) k)), .val (.int (ochF (tchF u (1 : Int32) k) o (1 : Int32) k)), .val (.int (ochF (tchF u (2 : Int32) k) o (2 : Int32) k)), .unset, .unset, .unset] []
        refine Go.iload H at_86 rfl rfl ?_
        refine Go.iload H at_88 rfl rfl ?_
        refine Go.iload H at_90 rfl rfl ?_
        refine Go.iload H at_92 rfl rfl ?_
        refine Go.callS (rest := []) 0 [(.int (2 : Int32)), (.int (tchF u (0 : Int32) k)), (.int (tchF u (1 : Int32) k)), (.int (tchF u (2 : Int32) k))] H at_94 rfl w8 w9 w2 w10 pd_N27 (ct_make2 l W (tchF u (0 : Int32) k) (tchF u (1 : Int32) k) (tchF u (2 : Int32) k) h (tchF_k _ _ _) (tchF_k _ _ _) (tchF_k _ _ _)) all0 rfl rfl rfl (Nat.le_of_eq rfl) (by decide) (by decide) (by decide) (by decide) nh_N23 ?_
        rintro _ h223 _ ⟨a221, b222, rfl, E224, g225, S226, rfl⟩
        show Go _ _ _ _ _ _ h223 [] 6 15 97 #[.val (.long u), .second, .val (.long o), .second, .val (.int k), .val (.int (2 : Int32)), .val (.int (3 : Int32)), .val (.int (tchF u (0 : Int32) k)), .val (.int (tchF u (1 : Int32) k)), .val (.int (tchF u (2 : Int32) k)), .val (.int (ochF (tchF u (0 : Int32) k) o (0 : Int32) k)), .val (.int (ochF (tchF u (1 : Int32) k) o (1 : Int32) k)), .val (.int (ochF (tchF u (2 : Int32) k) o (2 : Int32) k)), .unset, .unset, .unset] [(.ref a221)]
        refine Go.astore (ls' := #[.val (.long u), .second, .val (.long o), .second, .val (.int k), .val (.int (2 : Int32)), .val (.int (3 : Int32)), .val (.int (tchF u (0 : Int32) k)), .val (.int (tchF u (1 : Int32) k)), .val (.int (tchF u (2 : Int32) k)), .val (.int (ochF (tchF u (0 : Int32) k) o (0 : Int32) k)), .val (.int (ochF (tchF u (1 : Int32) k) o (1 : Int32) k)), .val (.int (ochF (tchF u (2 : Int32) k) o (2 : Int32) k)), .val (.ref a221), .unset, .unset]) H at_97 rfl rfl rfl ?_
        refine Go.iload H at_99 rfl rfl ?_
        refine Go.iload H at_101 rfl rfl ?_
        refine Go.iload H at_103 rfl rfl ?_
        refine Go.iload H at_105 rfl rfl ?_
        refine Go.callS (rest := []) 0 [(.int (3 : Int32)), (.int (ochF (tchF u (0 : Int32) k) o (0 : Int32) k)), (.int (ochF (tchF u (1 : Int32) k) o (1 : Int32) k)), (.int (ochF (tchF u (2 : Int32) k) o (2 : Int32) k))] H at_107 rfl w8 w9 w2 w10 pd_N27 (ct_make3 l W (ochF (tchF u (0 : Int32) k) o (0 : Int32) k) (ochF (tchF u (1 : Int32) k) o (1 : Int32) k) (ochF (tchF u (2 : Int32) k) o (2 : Int32) k) h223 (ochF_k _ _ _ _) (ochF_k _ _ _ _) (ochF_k _ _ _ _)) all0 rfl rfl rfl (Nat.le_of_eq rfl) (by decide) (by decide) (by decide) (by decide) nh_N23 ?_
        rintro _ h229 _ ⟨a227, b228, rfl, E230, g231, S232, rfl⟩
        have ne233 : a221 ≠ a227 := Nat.ne_of_lt (Nat.lt_of_lt_of_le S226.lt g231)
        have ne234 : b222 ≠ a227 := Nat.ne_of_lt (Nat.lt_of_lt_of_le S226.ltb g231)
        replace S226 := S226.ext E230
        show Go _ _ _ _ _ _ h229 [] 12 31 110 #[.val (.long u), .second, .val (.long o), .second, .val (.int k), .val (.int (2 : Int32)), .val (.int (3 : Int32)), .val (.int (tchF u (0 : Int32) k)), .val (.int (tchF u (1 : Int32) k)), .val (.int (tchF u (2 : Int32) k)), .val (.int (ochF (tchF u (0 : Int32) k) o (0 : Int32) k)), .val (.int (ochF (tchF u (1 : Int32) k) o (1 : Int32) k)), .val (.int (ochF (tchF u (2 : Int32) k) o (2 : Int32) k)), .val (.ref a221), .unset, .unset] [(.ref a227)]
        refine Go.astore (ls' := #[.val (.long u), .second, .val (.long o), .second, .val (.int k), .val (.int (2 : Int32)), .val (.int (3 : Int32)), .val (.int (tchF u (0 : Int32) k)), .val (.int (tchF u (1 : Int32) k)), .val (.int (tchF u (2 : Int32) k)), .val (.int (ochF (tchF u (0 : Int32) k) o (0 : Int32) k)), .val (.int (ochF (tchF u (1 : Int32) k) o (1 : Int32) k)), .val (.int (ochF (tchF u (2 : Int32) k) o (2 : Int32) k)), .val (.ref a221), .val (.ref a227), .unset]) H at_110 rfl rfl rfl ?_
        refine Go.iload H at_112 rfl rfl ?_
        refine Go.iload H at_114 rfl rfl ?_
        refine Go.icmpY (pc' := 171) H at_116 (by decide) (by decide) (by decide) ?_
        refine Go.iconst (0 : Int32) H at_171 rfl rfl ?_
        refine Go.istore (ls' := #[.val (.long u), .second, .val (.long o), .second, .val (.int k), .val (.int (2 : Int32)), .val (.int (3 : Int32)), .val (.int (tchF u (0 : Int32) k)), .val (.int (tchF u (1 : Int32) k)), .val (.int (tchF u (2 : Int32) k)), .val (.int (ochF (tchF u (0 : Int32) k) o (0 : Int32) k)), .val (.int (ochF (tchF u (1 : Int32) k) o (1 : Int32) k)), .val (.int (ochF (tchF u (2 : Int32) k) o (2 : Int32) k)), .val (.ref a221), .val (.ref a227), .val (.int (0 : Int32))]) H at_172 rfl rfl ?_
        refine Go.aload H at_174 rfl rfl rfl ?_
        refine Go.aload H at_176 rfl rfl rfl ?_
        refine Go.callS (rest := []) 0 [(.ref a221), (.ref a227)] H at_178 rfl w33 w34 w35 w36 pd_N26 (ct_eic l W a221 b222 a227 b228 [(tchF u (0 : Int32) k), (tchF u (1 : Int32) k)] [(ochF (tchF u (0 : Int32) k) o (0 : Int32) k), (ochF (tchF u (1 : Int32) k) o (1 : Int32) k), (ochF (tchF u (2 : Int32) k) o (2 : Int32) k)] h229 S226 S232 (Nat.le_of_ble_eq_true rfl) (Nat.le_of_ble_eq_true rfl)) all0 rfl rfl rfl (Nat.le_of_eq rfl) (by decide) (by decide) (by decide) (by decide) nh_N25 ?_
        rintro _ _ _ ⟨rfl, rfl, rfl⟩
        show Go _ _ _ _ _ _ h229 [] 12 31 181 #[.val (.long u), .second, .val (.long o), .second, .val (.int k), .val (.int (2 : Int32)), .val (.int (3 : Int32)), .val (.int (tchF u (0 : Int32) k)), .val (.int (tchF u (1 : Int32) k)), .val (.int (tchF u (2 : Int32) k)), .val (.int (ochF (tchF u (0 : Int32) k) o (0 : Int32) k)), .val (.int (ochF (tchF u (1 : Int32) k) o (1 : Int32) k)), .val (.int (ochF (tchF u (2 : Int32) k) o (2 : Int32) k)), .val (.ref a221), .val (.ref a227), .val (.int (0 : Int32))] [(.int (eicF [(tchF u (0 : Int32) k), (tchF u (1 : Int32) k)] [(ochF (tchF u (0 : Int32) k) o (0 : Int32) k), (ochF (tchF u (1 : Int32) k) o (1 : Int32) k), (ochF (tchF u (2 : Int32) k) o (2 : Int32) k)]))]
        refine Go.iload H at_181 rfl rfl ?_
        refine Go.icmpN H at_183 (teq (by simp [eicF])).2 rfl ?_
        refine Go.iconst (1 : Int32) H at_186 rfl rfl ?_
        refine Go.goto (pc' := 191) H at_187 (by decide) (by decide) ?_
        exact Go.ireturn 1 [] H at_191 (by simp) (by decide) ⟨rfl, trivial⟩ all0 (by decide) (by decide)
    ·
      rcases hm4 with rfl | rfl | rfl | rfl
      ·
        show Go _ _ _ _ _ _ h [] 0 0 86 #[.val (.long u), .second, .val (.long o), .second, .val (.int k), .val (.int (3 : Int32)), .val (.int (0 : Int32)), .val (.int (tchF u (0 : Int32) k)), .val (.int (tchF u (1 : Int32) k)), .val (.int (tchF u (2 : Int32) k)), .val (.int (ochF (tchF u (0 : Int32) k) o (0 : Int32) k)), .val (.int (ochF (tchF u (1 : Int32) k) o (1 : Int32) k)), .val (.int (ochF (tchF u (2 : Int32) k) o (2 : Int32) k)), .unset, .unset, .unset] []
        refine Go.iload H at_86 rfl rfl ?_
        refine Go.iload H at_88 rfl rfl ?_
        refine Go.iload H at_90 rfl rfl ?_
        refine Go.iload H at_92 rfl rfl ?_
        refine Go.callS (rest := []) 0 [(.int (3 : Int32)), (.int (tchF u (0 : Int32) k)), (.int (tchF u (1 : Int32) k)), (.int (tchF u (2 : Int32) k))] H at_94 rfl w8 w9 w2 w10 pd_N27 (ct_make3 l W (tchF u (0 : Int32) k) (tchF u (1 : Int32) k) (tchF u (2 : Int32) k) h (tchF_k _ _ _) (tchF_k _ _ _) (tchF_k _ _ _)) all0 rfl rfl rfl (Nat.le_of_eq rfl) (by decide) (by decide) (by decide) (by decide) nh_N23 ?_
        rintro _ h237 _ ⟨a235, b236, rfl, E238, g239, S240, rfl⟩
        show Go _ _ _ _ _ _ h237 [] 6 16 97 #[.val (.long u), .second, .val (.long o), .second, .val (.int k), .val (.int (3 : Int32)), .val (.int (0 : Int32)), .val (.int (tchF u (0 : Int32) k)), .val (.int (tchF u (1 : Int32) k)), .val (.int (tchF u (2 : Int32) k)), .val (.int (ochF (tchF u (0 : Int32) k) o (0 : Int32) k)), .val (.int (ochF (tchF u (1 : Int32) k) o (1 : Int32) k)), .val (.int (ochF (tchF u (2 : Int32) k) o (2 : Int32) k)), .unset, .unset, .unset] [(.ref a235)]
        refine Go.astore (ls' := #[.val (.long u), .second, .val (.long o), .second, .val (.int k), .val (.int (3 : Int32)), .val (.int (0 : Int32)), .val (.int (tchF u (0 : Int32) k)), .val (.int (tchF u (1 : Int32) k)), .val (.int (tchF u (2 : Int32) k)), .val (.int (ochF (tchF u (0 : Int32) k) o (0 : Int32) k)), .val (.int (ochF (tchF u (1 : Int32) k) o (1 : Int32) k)), .val (.int (ochF (tchF u (2 : Int32) k) o (2 : Int32) k)), .val (.ref a235), .unset, .unset]) H at_97 rfl rfl rfl ?_
        refine Go.iload H at_99 rfl rfl ?_
        refine Go.iload H at_101 rfl rfl ?_
        refine Go.iload H at_103 rfl rfl ?_
        refine Go.iload H at_105 rfl rfl ?_
        refine Go.callS (rest := []) 0 [(.int (0 : Int32)), (.int (ochF (tchF u (0 : Int32) k) o (0 : Int32) k)), (.int (ochF (tchF u (1 : Int32) k) o (1 : Int32) k)), (.int (ochF (tchF u (2 : Int32) k) o (2 : Int32) k))] H at_107 rfl w8 w9 w2 w10 pd_N27 (ct_make0 l W (ochF (tchF u (0 : Int32) k) o (0 : Int32) k) (ochF (tchF u (1 : Int32) k) o (1 : Int32) k) (ochF (tchF u (2 : Int32) k) o (2 : Int32) k) h237 (ochF_k _ _ _ _) (ochF_k _ _ _ _) (ochF_k _ _ _ _)) all0 rfl rfl rfl (Nat.le_of_eq rfl) (by decide) (by decide) (by decide) (by decide) nh_N23 ?_
        rintro _ h243 _ ⟨a241, b242, rfl, E244, g245, S246, rfl⟩
        have ne247 : a235 ≠ a241 := Nat.ne_of_lt (Nat.lt_of_lt_of_le S240.lt g245)
        have ne248 : b236 ≠ a241 := Nat.ne_of_lt (Nat.lt_of_lt_of_le S240.ltb g245)
        replace S240 := S240.ext E244
        show Go _ _ _ _ _ _ h243 [] 12 29 110 #[.val (.long u), .second, .val (.long o), .second, .val (.int k), .val (.int (3 : Int32)), .val (.int (0 : Int32)), .val (.int (tchF u (0 : Int32) k)), .val (.int (tchF u (1 : Int32) k)), .val (.int (tchF u (2 : Int32) k)), .val (.int (ochF (tchF u (0 : Int32) k) o (0 : Int32) k)), .val (.int (ochF (tchF u (1 : Int32) k) o (1 : Int32) k)), .val (.int (ochF (tchF u (2 : Int32) k) o (2 : Int32) k)), .val (.ref a235), .unset, .unset] [(.ref a241)]
        refine Go.astore (ls' := #[.val (.long u), .second, .val (.long o), .second, .val (.int k), .val (.int (3 : Int32)), .val (.int (0 : Int32)), .val (.int (tchF u (0 : Int32) k)), .val (.int (tchF u (1 : Int32) k)), .val (.int (tchF u (2 : Int32) k)), .val (.int (ochF (tchF u (0 : Int32) k) o (0 : Int32) k)), .val (.int (ochF (tchF u (1 : Int32) k) o (1 : Int32) k)), .val (.int (ochF (tchF u (2 : Int32) k) o (2 : Int32) k)), .val (.ref a235), .val (.ref a241), .unset]) H at_110 rfl rfl rfl ?_
        refine Go.iload H at_112 rfl rfl ?_
        refine Go.iload H at_114 rfl rfl ?_
        refine Go.icmpY (pc' := 171) H at_116 (by decide) (by decide) (by decide) ?_
        refine Go.iconst (0 : Int32) H at_171 rfl rfl ?_
        refine Go.istore (ls' := #[.val (.long u), .second, .val (.long o), .second, .val (.int k), .val (.int (3 : Int32)), .val (.int (0 : Int32)), .val (.int (tchF u (0 : Int32) k)), .val (.int (tchF u (1 : Int32) k)), .val (.int (tchF u (2 : Int32) k)), .val (.int (ochF (tchF u (0 : Int32) k) o (0 : Int32) k)), .val (.int (ochF (tchF u (1 : Int32) k) o (1 : Int32) k)), .val (.int (ochF (tchF u (2 : Int32) k) o (2 : Int32) k)), .val (.ref a235), .val (.ref a241), .val (.int (0 : Int32))]) H at_172 rfl rfl ?_
        refine Go.aload H at_174 rfl rfl rfl ?_
        refine Go.aload H at_176 rfl rfl rfl ?_
        refine Go.callS (rest := []) 0 [(.ref a235), (.ref a241)] H at_178 rfl w33 w34 w35 w36 pd_N26 (ct_eic l W a235 b236 a241 b242 [(tchF u (0 : Int32) k), (tchF u (1 : Int32) k), (tchF u (2 : Int32) k)] ([] : List Int32) h243 S240 S246 (Nat.le_of_ble_eq_true rfl) (Nat.le_of_ble_eq_true rfl)) all0 rfl rfl rfl (Nat.le_of_eq rfl) (by decide) (by decide) (by decide) (by decide) nh_N25 ?_
        rintro _ _ _ ⟨rfl, rfl, rfl⟩
        show Go _ _ _ _ _ _ h243 [] 12 29 181 #[.val (.long u), .second, .val (.long o), .second, .val (.int k), .val (.int (3 : Int32)), .val (.int (0 : Int32)), .val (.int (tchF u (0 : Int32) k)), .val (.int (tchF u (1 : Int32) k)), .val (.int (tchF u (2 : Int32) k)), .val (.int (ochF (tchF u (0 : Int32) k) o (0 : Int32) k)), .val (.int (ochF (tchF u (1 : Int32) k) o (1 : Int32) k)), .val (.int (ochF (tchF u (2 : Int32) k) o (2 : Int32) k)), .val (.ref a235), .val (.ref a241), .val (.int (0 : Int32))] [(.int (eicF [(tchF u (0 : Int32) k), (tchF u (1 : Int32) k), (tchF u (2 : Int32) k)] ([] : List Int32)))]
        refine Go.iload H at_181 rfl rfl ?_
        refine Go.icmpN H at_183 (teq (by simp [eicF])).2 rfl ?_
        refine Go.iconst (1 : Int32) H at_186 rfl rfl ?_
        refine Go.goto (pc' := 191) H at_187 (by decide) (by decide) ?_
        exact Go.ireturn 1 [] H at_191 (by simp) (by decide) ⟨rfl, trivial⟩ all0 (by decide) (by decide)
      ·
        show Go _ _ _ _ _ _ h [] 0 0 86 #[.val (.long u), .second, .val (.long o), .second, .val (.int k), .val (.int (3 : Int32)), .val (.int (1 : Int32)), .val (.int (tchF u (0 : Int32) k)), .val (.int (tchF u (1 : Int32) k)), .val (.int (tchF u (2 : Int32) k)), .val (.int (ochF (tchF u (0 : Int32) k) o (0 : Int32) k)), .val (.int (ochF (tchF u (1 : Int32) k) o (1 : Int32) k)), .val (.int (ochF (tchF u (2 : Int32) k) o (2 : Int32) k)), .unset, .unset, .unset] []
        refine Go.iload H at_86 rfl rfl ?_
        refine Go.iload H at_88 rfl rfl ?_
        refine Go.iload H at_90 rfl rfl ?_
        refine Go.iload H at_92 rfl rfl ?_
        refine Go.callS (rest := []) 0 [(.int (3 : Int32)), (.int (tchF u (0 : Int32) k)), (.int (tchF u (1 : Int32) k)), (.int (tchF u (2 : Int32) k))] H at_94 rfl w8 w9 w2 w10 pd_N27 (ct_make3 l W (tchF u (0 : Int32) k) (tchF u (1 : Int32) k) (tchF u (2 : Int32) k) h (tchF_k _ _ _) (tchF_k _ _ _) (tchF_k _ _ _)) all0 rfl rfl rfl (Nat.le_of_eq rfl) (by decide) (by decide) (by decide) (by decide) nh_N23 ?_
        rintro _ h251 _ ⟨a249, b250, rfl, E252, g253, S254, rfl⟩
        show Go _ _ _ _ _ _ h251 [] 6 16 97 #[.val (.long u), .second, .val (.long o), .second, .val (.int k), .val (.int (3 : Int32)), .val (.int (1 : Int32)), .val (.int (tchF u (0 : Int32) k)), .val (.int (tchF u (1 : Int32) k)), .val (.int (tchF u (2 : Int32) k)), .val (.int (ochF (tchF u (0 : Int32) k) o (0 : Int32) k)), .val (.int (ochF (tchF u (1 : Int32) k) o (1 : Int32) k)), .val (.int (ochF (tchF u (2 : Int32) k) o (2 : Int32) k)), .unset, .unset, .unset] [(.ref a249)]
        refine Go.astore (ls' := #[.val (.long u), .second, .val (.long o), .second, .val (.int k), .val (.int (3 : Int32)), .val (.int (1 : Int32)), .val (.int (tchF u (0 : Int32) k)), .val (.int (tchF u (1 : Int32) k)), .val (.int (tchF u (2 : Int32) k)), .val (.int (ochF (tchF u (0 : Int32) k) o (0 : Int32) k)), .val (.int (ochF (tchF u (1 : Int32) k) o (1 : Int32) k)), .val (.int (ochF (tchF u (2 : Int32) k) o (2 : Int32) k)), .val (.ref a249), .unset, .unset]) H at_97 rfl rfl rfl ?_
        refine Go.iload H at_99 rfl rfl ?_
        refine Go.iload H at_101 rfl rfl ?_
        refine Go.iload H at_103 rfl rfl ?_
        refine Go.iload H at_105 rfl rfl ?_
        refine Go.callS (rest := []) 0 [(.int (1 : Int32)), (.int (ochF (tchF u (0 : Int32) k) o (0 : Int32) k)), (.int (ochF (tchF u (1 : Int32) k) o (1 : Int32) k)), (.int (ochF (tchF u (2 : Int32) k) o (2 : Int32) k))] H at_107 rfl w8 w9 w2 w10 pd_N27 (ct_make1 l W (ochF (tchF u (0 : Int32) k) o (0 : Int32) k) (ochF (tchF u (1 : Int32) k) o (1 : Int32) k) (ochF (tchF u (2 : Int32) k) o (2 : Int32) k) h251 (ochF_k _ _ _ _) (ochF_k _ _ _ _) (ochF_k _ _ _ _)) all0 rfl rfl rfl (Nat.le_of_eq rfl) (by decide) (by decide) (by decide) (by decide) nh_N23 ?_
        rintro _ h257 _ ⟨a255, b256, rfl, E258, g259, S260, rfl⟩
        have ne261 : a249 ≠ a255 := Nat.ne_of_lt (Nat.lt_of_lt_of_le S254.lt g259)
        have ne262 : b250 ≠ a255 := Nat.ne_of_lt (Nat.lt_of_lt_of_le S254.ltb g259)
        replace S254 := S254.ext E258
        show Go _ _ _ _ _ _ h257 [] 12 30 110 #[.val (.long u), .second, .val (.long o), .second, .val (.int k), .val (.int (3 : Int32)), .val (.int (1 : Int32)), .val (.int (tchF u (0 : Int32) k)), .val (.int (tchF u (1 : Int32) k)), .val (.int (tchF u (2 : Int32) k)), .val (.int (ochF (tchF u (0 : Int32) k) o (0 : Int32) k)), .val (.int (ochF (tchF u (1 : Int32) k) o (1 : Int32) k)), .val (.int (ochF (tchF u (2 : Int32) k) o (2 : Int32) k)), .val (.ref a249), .unset, .unset] [(.ref a255)]
        refine Go.astore (ls' := #[.val (.long u), .second, .val (.long o), .second, .val (.int k), .val (.int (3 : Int32)), .val (.int (1 : Int32)), .val (.int (tchF u (0 : Int32) k)), .val (.int (tchF u (1 : Int32) k)), .val (.int (tchF u (2 : Int32) k)), .val (.int (ochF (tchF u (0 : Int32) k) o (0 : Int32) k)), .val (.int (ochF (tchF u (1 : Int32) k) o (1 : Int32) k)), .val (.int (ochF (tchF u (2 : Int32) k) o (2 : Int32) k)), .val (.ref a249), .val (.ref a255), .unset]) H at_110 rfl rfl rfl ?_
        refine Go.iload H at_112 rfl rfl ?_
        refine Go.iload H at_114 rfl rfl ?_
        refine Go.icmpY (pc' := 171) H at_116 (by decide) (by decide) (by decide) ?_
        refine Go.iconst (0 : Int32) H at_171 rfl rfl ?_
        refine Go.istore (ls' := #[.val (.long u), .second, .val (.long o), .second, .val (.int k), .val (.int (3 : Int32)), .val (.int (1 : Int32)), .val (.int (tchF u (0 : Int32) k)), .val (.int (tchF u (1 : Int32) k)), .val (.int (tchF u (2 : Int32) k)), .val (.int (ochF (tchF u (0 : Int32) k) o (0 : Int32) k)), .val (.int (ochF (tchF u (1 : Int32) k) o (1 : Int32) k)), .val (.int (ochF (tchF u (2 : Int32) k) o (2 : Int32) k)), .val (.ref a249), .val (.ref a255), .val (.int (0 : Int32))]) H at_172 rfl rfl ?_
        refine Go.aload H at_174 rfl rfl rfl ?_
        refine Go.aload H at_176 rfl rfl rfl ?_
        refine Go.callS (rest := []) 0 [(.ref a249), (.ref a255)] H at_178 rfl w33 w34 w35 w36 pd_N26 (ct_eic l W a249 b250 a255 b256 [(tchF u (0 : Int32) k), (tchF u (1 : Int32) k), (tchF u (2 : Int32) k)] [(ochF (tchF u (0 : Int32) k) o (0 : Int32) k)] h257 S254 S260 (Nat.le_of_ble_eq_true rfl) (Nat.le_of_ble_eq_true rfl)) all0 rfl rfl rfl (Nat.le_of_eq rfl) (by decide) (by decide) (by decide) (by decide) nh_N25 ?_
        rintro _ _ _ ⟨rfl, rfl, rfl⟩
        show Go _ _ _ _ _ _ h257 [] 12 30 181 #[.val (.long u), .second, .val (.long o), .second, .val (.int k), .val (.int (3 : Int32)), .val (.int (1 : Int32)), .val (.int (tchF u (0 : Int32) k)), .val (.int (tchF u (1 : Int32) k)), .val (.int (tchF u (2 : Int32) k)), .val (.int (ochF (tchF u (0 : Int32) k) o (0 : Int32) k)), .val (.int (ochF (tchF u (1 : Int32) k) o (1 : Int32) k)), .val (.int (ochF (tchF u (2 : Int32) k) o (2 : Int32) k)), .val (.ref a249), .val (.ref a255), .val (.int (0 : Int32))] [(.int (eicF [(tchF u (0 : Int32) k), (tchF u (1 : Int32) k), (tchF u (2 : Int32) k)] [(ochF (tchF u (0 : Int32) k) o (0 : Int32) k)]))]
        refine Go.iload H at_181 rfl rfl ?_
        refine Go.icmpN H at_183 (teq (by simp [eicF])).2 rfl ?_
        refine Go.iconst (1 : Int32) H at_186 rfl rfl ?_
        refine Go.goto (pc' := 191) H at_187 (by decide) (by decide) ?_
        exact Go.ireturn 1 [] H at_191 (by simp) (by decide) ⟨rfl, trivial⟩ all0 (by decide) (by decide)
      ·
        show Go _ _ _ _ _ _ h [] 0 0 86 #[.val (.long u), .second, .val (.long o), .second, .val (.int k), .val (.int (3 : Int32)), .val (.int (2 : Int32)), .val (.int (tchF u (0 : Int32) k)), .val (.int (tchF u (1 : Int32) k)), .val (.int (tchF u (2 : Int32) k)), .val (.int (ochF (tchF u (0 : Int32) k) o (0 : Int32) k)), .val (.int (ochF (tchF u (1 : Int32) k) o (1 : Int32) k)), .val (.int (ochF (tchF u (2 : Int32) k) o (2 : Int32) k)), .unset, .unset, .unset] []
        refine Go.iload H at_86 rfl rfl ?_
        refine Go.iload H at_88 rfl rfl ?_
        refine Go.iload H at_90 rfl rfl ?_
        refine Go.iload H at_92 rfl rfl ?_
        refine Go.callS (rest := []) 0 [(.int (3 : Int32)), (.int (tchF u (0 : Int32) k)), (.int (tchF u (1 : Int32) k)), (.int (tchF u (2 : Int32) k))] H at_94 rfl w8 w9 w2 w10 pd_N27 (ct_make3 l W (tchF u (0 : Int32) k) (tchF u (1 : Int32) k) (tchF u (2 : Int32) k) h (tchF_k _ _ _) (tchF_k _ _ _) (tchF_k _ _ _)) all0 rfl rfl rfl (Nat.le_of_eq rfl) (by decide) (by decide) (by decide) (by decide) nh_N23 ?_
        rintro _ h265 _ ⟨a263, b264, rfl, E266, g267, S268, rfl⟩
        show Go _ _ _ _ _ _ h265 [] 6 16 97 #[.val (.long u), .second, .val (.long o), .second, .val (.int k), .val (.int (3 : Int32)), .val (.int (2 : Int32)), .val (.int (tchF u (0 : Int32) k)), .val (.int (tchF u (1 : Int32) k)), .val (.int (tchF u (2 : Int32) k)), .val (.int (ochF (tchF u (0 : Int32) k) o (0 : Int32) k)), .val (.int (ochF (tchF u (1 : Int32) k) o (1 : Int32) k)), .val (.int (ochF (tchF u (2 : Int32) k) o (2 : Int32) k)), .unset, .unset, .unset] [(.ref a263)]
        refine Go.astore (ls' := #[.val (.long u), .second, .val (.long o), .second, .val (.int k), .val (.int (3 : Int32)), .val (.int (2 : Int32)), .val (.int (tchF u (0 : Int32) k)), .val (.int (tchF u (1 : Int32) k)), .val (.int (tchF u (2 : Int32) k)), .val (.int (ochF (tchF u (0 : Int32) k) o (0 : Int32) k)), .val (.int (ochF (tchF u (1 : Int32) k) o (1 : Int32) k)), .val (.int (ochF (tchF u (2 : Int32) k) o (2 : Int32) k)), .val (.ref a263), .unset, .unset]) H at_97 rfl rfl rfl ?_
        refine Go.iload H at_99 rfl rfl ?_
        refine Go.iload H at_101 rfl rfl ?_
        refine Go.iload H at_103 rfl rfl ?_
        refine Go.iload H at_105 rfl rfl ?_
        refine Go.callS (rest := []) 0 [(.int (2 : Int32)), (.int (ochF (tchF u (0 : Int32) k) o (0 : Int32) k)), (.int (ochF (tchF u (1 : Int32) k) o (1 : Int32) k)), (.int (ochF (tchF u (2 : Int32) k) o (2 : Int32) k))] H at_107 rfl w8 w9 w2 w10 pd_N27 (ct_make2 l W (ochF (tchF u (0 : Int32) k) o (0 : Int32) k) (ochF (tchF u (1 : Int32) k) o (1 : Int32) k) (ochF (tchF u (2 : Int32) k) o (2 : Int32) k) h265 (ochF_k _ _ _ _) (ochF_k _ _ _ _) (ochF_k _ _ _ _)) all0 rfl rfl rfl (Nat.le_of_eq rfl) (by decide) (by decide) (by decide) (by decide) nh_N23 ?_
        rintro _ h271 _ ⟨a269, b270, rfl, E272, g273, S274, rfl⟩
        have ne275 : a263 ≠ a269 := Nat.ne_of_lt (Nat.lt_of_lt_of_le S268.lt g273)
        have ne276 : b264 ≠ a269 := Nat.ne_of_lt (Nat.lt_of_lt_of_le S268.ltb g273)
        replace S268 := S268.ext E272
        show Go _ _ _ _ _ _ h271 [] 12 31 110 #[.val (.long u), .second, .val (.long o), .second, .val (.int k), .val (.int (3 : Int32)), .val (.int (2 : Int32)), .val (.int (tchF u (0 : Int32) k)), .val (.int (tchF u (1 : Int32) k)), .val (.int (tchF u (2 : Int32) k)), .val (.int (ochF (tchF u (0 : Int32) k) o (0 : Int32) k)), .val (.int (ochF (tchF u (1 : Int32) k) o (1 : Int32) k)), .val (.int (ochF (tchF u (2 : Int32) k) o (2 : Int32) k)), .val (.ref a263), .unset, .unset] [(.ref a269)]
        refine Go.astore (ls' := #[.val (.long u), .second, .val (.long o), .second, .val (.int k), .val (.int (3 : Int32)), .val (.int (2 : Int32)), .val (.int (tchF u (0 : Int32) k)), .val (.int (tchF u (1 : Int32) k)), .val (.int (tchF u (2 : Int32) k)), .val (.int (ochF (tchF u (0 : Int32) k) o (0 : Int32) k)), .val (.int (ochF (tchF u (1 : Int32) k) o (1 : Int32) k)), .val (.int (ochF (tchF u (2 : Int32) k) o (2 : Int32) k)), .val (.ref a263), .val (.ref a269), .unset]) H at_110 rfl rfl rfl ?_
        refine Go.iload H at_112 rfl rfl ?_
        refine Go.iload H at_114 rfl rfl ?_
        refine Go.icmpY (pc' := 171) H at_116 (by decide) (by decide) (by decide) ?_
        refine Go.iconst (0 : Int32) H at_171 rfl rfl ?_
        refine Go.istore (ls' := #[.val (.long u), .second, .val (.long o), .second, .val (.int k), .val (.int (3 : Int32)), .val (.int (2 : Int32)), .val (.int (tchF u (0 : Int32) k)), .val (.int (tchF u (1 : Int32) k)), .val (.int (tchF u (2 : Int32) k)), .val (.int (ochF (tchF u (0 : Int32) k) o (0 : Int32) k)), .val (.int (ochF (tchF u (1 : Int32) k) o (1 : Int32) k)), .val (.int (ochF (tchF u (2 : Int32) k) o (2 : Int32) k)), .val (.ref a263), .val (.ref a269), .val (.int (0 : Int32))]) H at_172 rfl rfl ?_
        refine Go.aload H at_174 rfl rfl rfl ?_
        refine Go.aload H at_176 rfl rfl rfl ?_
        refine Go.callS (rest := []) 0 [(.ref a263), (.ref a269)] H at_178 rfl w33 w34 w35 w36 pd_N26 (ct_eic l W a263 b264 a269 b270 [(tchF u (0 : Int32) k), (tchF u (1 : Int32) k), (tchF u (2 : Int32) k)] [(ochF (tchF u (0 : Int32) k) o (0 : Int32) k), (ochF (tchF u (1 : Int32) k) o (1 : Int32) k)] h271 S268 S274 (Nat.le_of_ble_eq_true rfl) (Nat.le_of_ble_eq_true rfl)) all0 rfl rfl rfl (Nat.le_of_eq rfl) (by decide) (by decide) (by decide) (by decide) nh_N25 ?_
        rintro _ _ _ ⟨rfl, rfl, rfl⟩
        show Go _ _ _ _ _ _ h271 [] 12 31 181 #[.val (.long u), .second, .val (.long o), .second, .val (.int k), .val (.int (3 : Int32)), .val (.int (2 : Int32)), .val (.int (tchF u (0 : Int32) k)), .val (.int (tchF u (1 : Int32) k)), .val (.int (tchF u (2 : Int32) k)), .val (.int (ochF (tchF u (0 : Int32) k) o (0 : Int32) k)), .val (.int (ochF (tchF u (1 : Int32) k) o (1 : Int32) k)), .val (.int (ochF (tchF u (2 : Int32) k) o (2 : Int32) k)), .val (.ref a263), .val (.ref a269), .val (.int (0 : Int32))] [(.int (eicF [(tchF u (0 : Int32) k), (tchF u (1 : Int32) k), (tchF u (2 : Int32) k)] [(ochF (tchF u (0 : Int32) k) o (0 : Int32) k), (ochF (tchF u (1 : Int32) k) o (1 : Int32) k)]))]
        refine Go.iload H at_181 rfl rfl ?_
        refine Go.icmpN H at_183 (teq (by simp [eicF])).2 rfl ?_
        refine Go.iconst (1 : Int32) H at_186 rfl rfl ?_
        refine Go.goto (pc' := 191) H at_187 (by decide) (by decide) ?_
        exact Go.ireturn 1 [] H at_191 (by simp) (by decide) ⟨rfl, trivial⟩ all0 (by decide) (by decide)
      ·
        show Go _ _ _ _ _ _ h [] 0 0 86 #[.val (.long u), .second, .val (.long o), .second, .val (.int k), .val (.int (3 : Int32)), .val (.int (3 : Int32)), .val (.int (tchF u (0 : Int32) k)), .val (.int (tchF u (1 : Int32) k)), .val (.int (tchF u (2 : Int32) k)), .val (.int (ochF (tchF u (0 : Int32) k) o (0 : Int32) k)), .val (.int (ochF (tchF u (1 : Int32) k) o (1 : Int32) k)), .val (.int (ochF (tchF u (2 : Int32) k) o (2 : Int32) k)), .unset, .unset, .unset] []
        refine Go.iload H at_86 rfl rfl ?_
        refine Go.iload H at_88 rfl rfl ?_
        refine Go.iload H at_90 rfl rfl ?_
        refine Go.iload H at_92 rfl rfl ?_
        refine Go.callS (rest := []) 0 [(.int (3 : Int32)), (.int (tchF u (0 : Int32) k)), (.int (tchF u (1 : Int32) k)), (.int (tchF u (2 : Int32) k))] H at_94 rfl w8 w9 w2 w10 pd_N27 (ct_make3 l W (tchF u (0 : Int32) k) (tchF u (1 : Int32) k) (tchF u (2 : Int32) k) h (tchF_k _ _ _) (tchF_k _ _ _) (tchF_k _ _ _)) all0 rfl rfl rfl (Nat.le_of_eq rfl) (by decide) (by decide) (by decide) (by decide) nh_N23 ?_
        rintro _ h279 _ ⟨a277, b278, rfl, E280, g281, S282, rfl⟩
        show Go _ _ _ _ _ _ h279 [] 6 16 97 #[.val (.long u), .second, .val (.long o), .second, .val (.int k), .val (.int (3 : Int32)), .val (.int (3 : Int32)), .val (.int (tchF u (0 : Int32) k)), .val (.int (tchF u (1 : Int32) k)), .val (.int (tchF u (2 : Int32) k)), .val (.int (ochF (tchF u (0 : Int32) k) o (0 : Int32) k)), .val (.int (ochF (tchF u (1 : Int32) k) o (1 : Int32) k)), .val (.int (ochF (tchF u (2 : Int32) k) o (2 : Int32) k)), .unset, .unset, .unset] [(.ref a277)]
        refine Go.astore (ls' := #[.val (.long u), .second, .val (.long o), .second, .val (.int k), .val (.int (3 : Int32)), .val (.int (3 : Int32)), .val (.int (tchF u (0 : Int32) k)), .val (.int (tchF u (1 : Int32) k)), .val (.int (tchF u (2 : Int32) k)), .val (.int (ochF (tchF u (0 : Int32) k) o (0 : Int32) k)), .val (.int (ochF (tchF u (1 : Int32) k) o (1 : Int32) k)), .val (.int (ochF (tchF u (2 : Int32) k) o (2 : Int32) k)), .val (.ref a277), .unset, .unset]) H at_97 rfl rfl rfl ?_
        refine Go.iload H at_99 rfl rfl ?_
        refine Go.iload H at_101 rfl rfl ?_
        refine Go.iload H at_103 rfl rfl ?_
        refine Go.iload H at_105 rfl rfl ?_
        refine Go.callS (rest := []) 0 [(.int (3 : Int32)), (.int (ochF (tchF u (0 : Int32) k) o (0 : Int32) k)), (.int (ochF (tchF u (1 : Int32) k) o (1 : Int32) k)), (.int (ochF (tchF u (2 : Int32) k) o (2 : Int32) k))] H at_107 rfl w8 w9 w2 w10 pd_N27 (ct_make3 l W (ochF (tchF u (0 : Int32) k) o (0 : Int32) k) (ochF (tchF u (1 : Int32) k) o (1 : Int32) k) (ochF (tchF u (2 : Int32) k) o (2 : Int32) k) h279 (ochF_k _ _ _ _) (ochF_k _ _ _ _) (ochF_k _ _ _ _)) all0 rfl rfl rfl (Nat.le_of_eq rfl) (by decide) (by decide) (by decide) (by decide) nh_N23 ?_
        rintro _ h285 _ ⟨a283, b284, rfl, E286, g287, S288, rfl⟩
        have ne289 : a277 ≠ a283 := Nat.ne_of_lt (Nat.lt_of_lt_of_le S282.lt g287)
        have ne290 : b278 ≠ a283 := Nat.ne_of_lt (Nat.lt_of_lt_of_le S282.ltb g287)
        replace S282 := S282.ext E286
        show Go _ _ _ _ _ _ h285 [] 12 32 110 #[.val (.long u), .second, .val (.long o), .second, .val (.int k), .val (.int (3 : Int32)), .val (.int (3 : Int32)), .val (.int (tchF u (0 : Int32) k)), .val (.int (tchF u (1 : Int32) k)), .val (.int (tchF u (2 : Int32) k)), .val (.int (ochF (tchF u (0 : Int32) k) o (0 : Int32) k)), .val (.int (ochF (tchF u (1 : Int32) k) o (1 : Int32) k)), .val (.int (ochF (tchF u (2 : Int32) k) o (2 : Int32) k)), .val (.ref a277), .unset, .unset] [(.ref a283)]
        refine Go.astore (ls' := #[.val (.long u), .second, .val (.long o), .second, .val (.int k), .val (.int (3 : Int32)), .val (.int (3 : Int32)), .val (.int (tchF u (0 : Int32) k)), .val (.int (tchF u (1 : Int32) k)), .val (.int (tchF u (2 : Int32) k)), .val (.int (ochF (tchF u (0 : Int32) k) o (0 : Int32) k)), .val (.int (ochF (tchF u (1 : Int32) k) o (1 : Int32) k)), .val (.int (ochF (tchF u (2 : Int32) k) o (2 : Int32) k)), .val (.ref a277), .val (.ref a283), .unset]) H at_110 rfl rfl rfl ?_
        refine Go.iload H at_112 rfl rfl ?_
        refine Go.iload H at_114 rfl rfl ?_
        refine Go.icmpN H at_116 (by decide) rfl ?_
        refine Go.iload H at_119 rfl rfl ?_
        refine Go.iconst (1 : Int32) H at_121 rfl rfl ?_
        refine Go.icmpN H at_122 (by decide) rfl ?_
        refine Go.iload H at_125 rfl rfl ?_
        refine Go.iload H at_127 rfl rfl ?_
        refine Go.callS (rest := []) 0 [(.int (tchF u (0 : Int32) k)), (.int (ochF (tchF u (0 : Int32) k) o (0 : Int32) k))] H at_129 rfl w77 w78 w2 w79 pd_N24 (ct_mat l W (tchF u (0 : Int32) k) (ochF (tchF u (0 : Int32) k) o (0 : Int32) k) h285) all0 rfl rfl rfl (Nat.le_of_eq rfl) (by decide) (by decide) (by decide) (by decide) nh_N23 ?_
        rintro _ _ _ ⟨rfl, rfl, rfl⟩
        show Go _ _ _ _ _ _ h285 [] 12 32 132 #[.val (.long u), .second, .val (.long o), .second, .val (.int k), .val (.int (3 : Int32)), .val (.int (3 : Int32)), .val (.int (tchF u (0 : Int32) k)), .val (.int (tchF u (1 : Int32) k)), .val (.int (tchF u (2 : Int32) k)), .val (.int (ochF (tchF u (0 : Int32) k) o (0 : Int32) k)), .val (.int (ochF (tchF u (1 : Int32) k) o (1 : Int32) k)), .val (.int (ochF (tchF u (2 : Int32) k) o (2 : Int32) k)), .val (.ref a277), .val (.ref a283), .unset] [(.int (mF (tchF u (0 : Int32) k) (ochF (tchF u (0 : Int32) k) o (0 : Int32) k)))]
        by_cases c291 : (mF (tchF u (0 : Int32) k) (ochF (tchF u (0 : Int32) k) o (0 : Int32) k)) = (0 : Int32)
        ·
          refine Go.ifY (pc' := 171) H at_132 (teq c291).1 (by decide) (by decide) ?_
          refine Go.iconst (0 : Int32) H at_171 rfl rfl ?_
          refine Go.istore (ls' := #[.val (.long u), .second, .val (.long o), .second, .val (.int k), .val (.int (3 : Int32)), .val (.int (3 : Int32)), .val (.int (tchF u (0 : Int32) k)), .val (.int (tchF u (1 : Int32) k)), .val (.int (tchF u (2 : Int32) k)), .val (.int (ochF (tchF u (0 : Int32) k) o (0 : Int32) k)), .val (.int (ochF (tchF u (1 : Int32) k) o (1 : Int32) k)), .val (.int (ochF (tchF u (2 : Int32) k) o (2 : Int32) k)), .val (.ref a277), .val (.ref a283), .val (.int (0 : Int32))]) H at_172 rfl rfl ?_
          refine Go.aload H at_174 rfl rfl rfl ?_
          refine Go.aload H at_176 rfl rfl rfl ?_
          refine Go.callS (rest := []) 0 [(.ref a277), (.ref a283)] H at_178 rfl w33 w34 w35 w36 pd_N26 (ct_eic l W a277 b278 a283 b284 [(tchF u (0 : Int32) k), (tchF u (1 : Int32) k), (tchF u (2 : Int32) k)] [(ochF (tchF u (0 : Int32) k) o (0 : Int32) k), (ochF (tchF u (1 : Int32) k) o (1 : Int32) k), (ochF (tchF u (2 : Int32) k) o (2 : Int32) k)] h285 S282 S288 (Nat.le_of_ble_eq_true rfl) (Nat.le_of_ble_eq_true rfl)) all0 rfl rfl rfl (Nat.le_of_eq rfl) (by decide) (by decide) (by decide) (by decide) nh_N25 ?_
          rintro _ _ _ ⟨rfl, rfl, rfl⟩
          show Go _ _ _ _ _ _ h285 [] 12 32 181 #[.val (.long u), .second, .val (.long o), .second, .val (.int k), .val (.int (3 : Int32)), .val (.int (3 : Int32)), .val (.int (tchF u (0 : Int32) k)), .val (.int (tchF u (1 : Int32) k)), .val (.int (tchF u (2 : Int32) k)), .val (.int (ochF (tchF u (0 : Int32) k) o (0 : Int32) k)), .val (.int (ochF (tchF u (1 : Int32) k) o (1 : Int32) k)), .val (.int (ochF (tchF u (2 : Int32) k) o (2 : Int32) k)), .val (.ref a277), .val (.ref a283), .val (.int (0 : Int32))] [(.int (eicF [(tchF u (0 : Int32) k), (tchF u (1 : Int32) k), (tchF u (2 : Int32) k)] [(ochF (tchF u (0 : Int32) k) o (0 : Int32) k), (ochF (tchF u (1 : Int32) k) o (1 : Int32) k), (ochF (tchF u (2 : Int32) k) o (2 : Int32) k)]))]
          refine Go.iload H at_181 rfl rfl ?_
          refine Go.icmpN H at_183 (teq (by simp [eicF, (mF_i (tchF_k _ _ _) (ochF_k _ _ _ _)).mp c291])).2 rfl ?_
          refine Go.iconst (1 : Int32) H at_186 rfl rfl ?_
          refine Go.goto (pc' := 191) H at_187 (by decide) (by decide) ?_
          exact Go.ireturn 1 [] H at_191 (by simp) (by decide) ⟨rfl, trivial⟩ all0 (by decide) (by decide)
        ·
          refine Go.ifN H at_132 (feq c291).1 rfl ?_
          refine Go.iload H at_135 rfl rfl ?_
          refine Go.iconst (2 : Int32) H at_137 rfl rfl ?_
          refine Go.icmpN H at_138 (by decide) rfl ?_
          refine Go.iload H at_141 rfl rfl ?_
          refine Go.iload H at_143 rfl rfl ?_
          refine Go.callS (rest := []) 0 [(.int (tchF u (1 : Int32) k)), (.int (ochF (tchF u (1 : Int32) k) o (1 : Int32) k))] H at_145 rfl w77 w78 w2 w79 pd_N24 (ct_mat l W (tchF u (1 : Int32) k) (ochF (tchF u (1 : Int32) k) o (1 : Int32) k) h285) all0 rfl rfl rfl (Nat.le_of_eq rfl) (by decide) (by decide) (by decide) (by decide) nh_N23 ?_
          rintro _ _ _ ⟨rfl, rfl, rfl⟩
          show Go _ _ _ _ _ _ h285 [] 12 32 148 #[.val (.long u), .second, .val (.long o), .second, .val (.int k), .val (.int (3 : Int32)), .val (.int (3 : Int32)), .val (.int (tchF u (0 : Int32) k)), .val (.int (tchF u (1 : Int32) k)), .val (.int (tchF u (2 : Int32) k)), .val (.int (ochF (tchF u (0 : Int32) k) o (0 : Int32) k)), .val (.int (ochF (tchF u (1 : Int32) k) o (1 : Int32) k)), .val (.int (ochF (tchF u (2 : Int32) k) o (2 : Int32) k)), .val (.ref a277), .val (.ref a283), .unset] [(.int (mF (tchF u (1 : Int32) k) (ochF (tchF u (1 : Int32) k) o (1 : Int32) k)))]
          by_cases c292 : (mF (tchF u (1 : Int32) k) (ochF (tchF u (1 : Int32) k) o (1 : Int32) k)) = (0 : Int32)
          ·
            refine Go.ifY (pc' := 171) H at_148 (teq c292).1 (by decide) (by decide) ?_
            refine Go.iconst (0 : Int32) H at_171 rfl rfl ?_
            refine Go.istore (ls' := #[.val (.long u), .second, .val (.long o), .second, .val (.int k), .val (.int (3 : Int32)), .val (.int (3 : Int32)), .val (.int (tchF u (0 : Int32) k)), .val (.int (tchF u (1 : Int32) k)), .val (.int (tchF u (2 : Int32) k)), .val (.int (ochF (tchF u (0 : Int32) k) o (0 : Int32) k)), .val (.int (ochF (tchF u (1 : Int32) k) o (1 : Int32) k)), .val (.int (ochF (tchF u (2 : Int32) k) o (2 : Int32) k)), .val (.ref a277), .val (.ref a283), .val (.int (0 : Int32))]) H at_172 rfl rfl ?_
            refine Go.aload H at_174 rfl rfl rfl ?_
            refine Go.aload H at_176 rfl rfl rfl ?_
            refine Go.callS (rest := []) 0 [(.ref a277), (.ref a283)] H at_178 rfl w33 w34 w35 w36 pd_N26 (ct_eic l W a277 b278 a283 b284 [(tchF u (0 : Int32) k), (tchF u (1 : Int32) k), (tchF u (2 : Int32) k)] [(ochF (tchF u (0 : Int32) k) o (0 : Int32) k), (ochF (tchF u (1 : Int32) k) o (1 : Int32) k), (ochF (tchF u (2 : Int32) k) o (2 : Int32) k)] h285 S282 S288 (Nat.le_of_ble_eq_true rfl) (Nat.le_of_ble_eq_true rfl)) all0 rfl rfl rfl (Nat.le_of_eq rfl) (by decide) (by decide) (by decide) (by decide) nh_N25 ?_
            rintro _ _ _ ⟨rfl, rfl, rfl⟩
            show Go _ _ _ _ _ _ h285 [] 12 32 181 #[.val (.long u), .second, .val (.long o), .second, .val (.int k), .val (.int (3 : Int32)), .val (.int (3 : Int32)), .val (.int (tchF u (0 : Int32) k)), .val (.int (tchF u (1 : Int32) k)), .val (.int (tchF u (2 : Int32) k)), .val (.int (ochF (tchF u (0 : Int32) k) o (0 : Int32) k)), .val (.int (ochF (tchF u (1 : Int32) k) o (1 : Int32) k)), .val (.int (ochF (tchF u (2 : Int32) k) o (2 : Int32) k)), .val (.ref a277), .val (.ref a283), .val (.int (0 : Int32))] [(.int (eicF [(tchF u (0 : Int32) k), (tchF u (1 : Int32) k), (tchF u (2 : Int32) k)] [(ochF (tchF u (0 : Int32) k) o (0 : Int32) k), (ochF (tchF u (1 : Int32) k) o (1 : Int32) k), (ochF (tchF u (2 : Int32) k) o (2 : Int32) k)]))]
            refine Go.iload H at_181 rfl rfl ?_
            refine Go.icmpN H at_183 (teq (by simp [eicF, Decidable.byContradiction (fun e => c291 ((mF_i (tchF_k _ _ _) (ochF_k _ _ _ _)).mpr e)), (mF_i (tchF_k _ _ _) (ochF_k _ _ _ _)).mp c292])).2 rfl ?_
            refine Go.iconst (1 : Int32) H at_186 rfl rfl ?_
            refine Go.goto (pc' := 191) H at_187 (by decide) (by decide) ?_
            exact Go.ireturn 1 [] H at_191 (by simp) (by decide) ⟨rfl, trivial⟩ all0 (by decide) (by decide)
          ·
            refine Go.ifN H at_148 (feq c292).1 rfl ?_
            refine Go.iload H at_151 rfl rfl ?_
            refine Go.iconst (3 : Int32) H at_153 rfl rfl ?_
            refine Go.icmpN H at_154 (by decide) rfl ?_
            refine Go.iload H at_157 rfl rfl ?_
            refine Go.iload H at_159 rfl rfl ?_
            refine Go.callS (rest := []) 0 [(.int (tchF u (2 : Int32) k)), (.int (ochF (tchF u (2 : Int32) k) o (2 : Int32) k))] H at_161 rfl w77 w78 w2 w79 pd_N24 (ct_mat l W (tchF u (2 : Int32) k) (ochF (tchF u (2 : Int32) k) o (2 : Int32) k) h285) all0 rfl rfl rfl (Nat.le_of_eq rfl) (by decide) (by decide) (by decide) (by decide) nh_N23 ?_
            rintro _ _ _ ⟨rfl, rfl, rfl⟩
            show Go _ _ _ _ _ _ h285 [] 12 32 164 #[.val (.long u), .second, .val (.long o), .second, .val (.int k), .val (.int (3 : Int32)), .val (.int (3 : Int32)), .val (.int (tchF u (0 : Int32) k)), .val (.int (tchF u (1 : Int32) k)), .val (.int (tchF u (2 : Int32) k)), .val (.int (ochF (tchF u (0 : Int32) k) o (0 : Int32) k)), .val (.int (ochF (tchF u (1 : Int32) k) o (1 : Int32) k)), .val (.int (ochF (tchF u (2 : Int32) k) o (2 : Int32) k)), .val (.ref a277), .val (.ref a283), .unset] [(.int (mF (tchF u (2 : Int32) k) (ochF (tchF u (2 : Int32) k) o (2 : Int32) k)))]
            by_cases c293 : (mF (tchF u (2 : Int32) k) (ochF (tchF u (2 : Int32) k) o (2 : Int32) k)) = (0 : Int32)
            ·
              refine Go.ifY (pc' := 171) H at_164 (teq c293).1 (by decide) (by decide) ?_
              refine Go.iconst (0 : Int32) H at_171 rfl rfl ?_
              refine Go.istore (ls' := #[.val (.long u), .second, .val (.long o), .second, .val (.int k), .val (.int (3 : Int32)), .val (.int (3 : Int32)), .val (.int (tchF u (0 : Int32) k)), .val (.int (tchF u (1 : Int32) k)), .val (.int (tchF u (2 : Int32) k)), .val (.int (ochF (tchF u (0 : Int32) k) o (0 : Int32) k)), .val (.int (ochF (tchF u (1 : Int32) k) o (1 : Int32) k)), .val (.int (ochF (tchF u (2 : Int32) k) o (2 : Int32) k)), .val (.ref a277), .val (.ref a283), .val (.int (0 : Int32))]) H at_172 rfl rfl ?_
              refine Go.aload H at_174 rfl rfl rfl ?_
              refine Go.aload H at_176 rfl rfl rfl ?_
              refine Go.callS (rest := []) 0 [(.ref a277), (.ref a283)] H at_178 rfl w33 w34 w35 w36 pd_N26 (ct_eic l W a277 b278 a283 b284 [(tchF u (0 : Int32) k), (tchF u (1 : Int32) k), (tchF u (2 : Int32) k)] [(ochF (tchF u (0 : Int32) k) o (0 : Int32) k), (ochF (tchF u (1 : Int32) k) o (1 : Int32) k), (ochF (tchF u (2 : Int32) k) o (2 : Int32) k)] h285 S282 S288 (Nat.le_of_ble_eq_true rfl) (Nat.le_of_ble_eq_true rfl)) all0 rfl rfl rfl (Nat.le_of_eq rfl) (by decide) (by decide) (by decide) (by decide) nh_N25 ?_
              rintro _ _ _ ⟨rfl, rfl, rfl⟩
              show Go _ _ _ _ _ _ h285 [] 12 32 181 #[.val (.long u), .second, .val (.long o), .second, .val (.int k), .val (.int (3 : Int32)), .val (.int (3 : Int32)), .val (.int (tchF u (0 : Int32) k)), .val (.int (tchF u (1 : Int32) k)), .val (.int (tchF u (2 : Int32) k)), .val (.int (ochF (tchF u (0 : Int32) k) o (0 : Int32) k)), .val (.int (ochF (tchF u (1 : Int32) k) o (1 : Int32) k)), .val (.int (ochF (tchF u (2 : Int32) k) o (2 : Int32) k)), .val (.ref a277), .val (.ref a283), .val (.int (0 : Int32))] [(.int (eicF [(tchF u (0 : Int32) k), (tchF u (1 : Int32) k), (tchF u (2 : Int32) k)] [(ochF (tchF u (0 : Int32) k) o (0 : Int32) k), (ochF (tchF u (1 : Int32) k) o (1 : Int32) k), (ochF (tchF u (2 : Int32) k) o (2 : Int32) k)]))]
              refine Go.iload H at_181 rfl rfl ?_
              refine Go.icmpN H at_183 (teq (by simp [eicF, Decidable.byContradiction (fun e => c291 ((mF_i (tchF_k _ _ _) (ochF_k _ _ _ _)).mpr e)), Decidable.byContradiction (fun e => c292 ((mF_i (tchF_k _ _ _) (ochF_k _ _ _ _)).mpr e)), (mF_i (tchF_k _ _ _) (ochF_k _ _ _ _)).mp c293])).2 rfl ?_
              refine Go.iconst (1 : Int32) H at_186 rfl rfl ?_
              refine Go.goto (pc' := 191) H at_187 (by decide) (by decide) ?_
              exact Go.ireturn 1 [] H at_191 (by simp) (by decide) ⟨rfl, trivial⟩ all0 (by decide) (by decide)
            ·
              refine Go.ifN H at_164 (feq c293).1 rfl ?_
              refine Go.iconst (1 : Int32) H at_167 rfl rfl ?_
              refine Go.goto (pc' := 172) H at_168 (by decide) (by decide) ?_
              refine Go.istore (ls' := #[.val (.long u), .second, .val (.long o), .second, .val (.int k), .val (.int (3 : Int32)), .val (.int (3 : Int32)), .val (.int (tchF u (0 : Int32) k)), .val (.int (tchF u (1 : Int32) k)), .val (.int (tchF u (2 : Int32) k)), .val (.int (ochF (tchF u (0 : Int32) k) o (0 : Int32) k)), .val (.int (ochF (tchF u (1 : Int32) k) o (1 : Int32) k)), .val (.int (ochF (tchF u (2 : Int32) k) o (2 : Int32) k)), .val (.ref a277), .val (.ref a283), .val (.int (1 : Int32))]) H at_172 rfl rfl ?_
              refine Go.aload H at_174 rfl rfl rfl ?_
              refine Go.aload H at_176 rfl rfl rfl ?_
              refine Go.callS (rest := []) 0 [(.ref a277), (.ref a283)] H at_178 rfl w33 w34 w35 w36 pd_N26 (ct_eic l W a277 b278 a283 b284 [(tchF u (0 : Int32) k), (tchF u (1 : Int32) k), (tchF u (2 : Int32) k)] [(ochF (tchF u (0 : Int32) k) o (0 : Int32) k), (ochF (tchF u (1 : Int32) k) o (1 : Int32) k), (ochF (tchF u (2 : Int32) k) o (2 : Int32) k)] h285 S282 S288 (Nat.le_of_ble_eq_true rfl) (Nat.le_of_ble_eq_true rfl)) all0 rfl rfl rfl (Nat.le_of_eq rfl) (by decide) (by decide) (by decide) (by decide) nh_N25 ?_
              rintro _ _ _ ⟨rfl, rfl, rfl⟩
              show Go _ _ _ _ _ _ h285 [] 12 32 181 #[.val (.long u), .second, .val (.long o), .second, .val (.int k), .val (.int (3 : Int32)), .val (.int (3 : Int32)), .val (.int (tchF u (0 : Int32) k)), .val (.int (tchF u (1 : Int32) k)), .val (.int (tchF u (2 : Int32) k)), .val (.int (ochF (tchF u (0 : Int32) k) o (0 : Int32) k)), .val (.int (ochF (tchF u (1 : Int32) k) o (1 : Int32) k)), .val (.int (ochF (tchF u (2 : Int32) k) o (2 : Int32) k)), .val (.ref a277), .val (.ref a283), .val (.int (1 : Int32))] [(.int (eicF [(tchF u (0 : Int32) k), (tchF u (1 : Int32) k), (tchF u (2 : Int32) k)] [(ochF (tchF u (0 : Int32) k) o (0 : Int32) k), (ochF (tchF u (1 : Int32) k) o (1 : Int32) k), (ochF (tchF u (2 : Int32) k) o (2 : Int32) k)]))]
              refine Go.iload H at_181 rfl rfl ?_
              refine Go.icmpN H at_183 (teq (by simp [eicF, Decidable.byContradiction (fun e => c291 ((mF_i (tchF_k _ _ _) (ochF_k _ _ _ _)).mpr e)), Decidable.byContradiction (fun e => c292 ((mF_i (tchF_k _ _ _) (ochF_k _ _ _ _)).mpr e)), Decidable.byContradiction (fun e => c293 ((mF_i (tchF_k _ _ _) (ochF_k _ _ _ _)).mpr e))])).2 rfl ?_
              refine Go.iconst (1 : Int32) H at_186 rfl rfl ?_
              refine Go.goto (pc' := 191) H at_187 (by decide) (by decide) ?_
              exact Go.ireturn 1 [] H at_191 (by simp) (by decide) ⟨rfl, trivial⟩ all0 (by decide) (by decide)
theorem w29 : Jvm.Cond.soleField "java/lang/String" "value" ∈ tables_1 := List.mem_of_getElem? (i := 29) rfl
theorem w30 : Jvm.Cond.soleField "java/lang/String" "coder" ∈ tables_1 := List.mem_of_getElem? (i := 30) rfl
set_option maxRecDepth 65536 in
set_option maxHeartbeats 4000000 in
theorem comes_1 {Post : Tables → Env → Array Value → State → Outcome → State → Prop} (hpost : ∀ tb e args s v u, (limb_1_1.after args s (.returned v) u = true ∧ limb_1_2.after args s (.returned v) u = true ∧ True) → ReturnedEndW s (.returned v) u (Jvm.fieldLocs frame_1_writes args s ++ Jvm.arrayLocs frame_1_arrays args s ++ Jvm.staticLocs frame_1_statics s) 32 1216 → Post tb e args s (.returned v) u) :
    ArmFor flags0 classFile x code maxLocals ret World_1 tables_1 room_1 Calls_1 rest_1 Pre_1 Post := by
  intro l hfl _ _ p e ha hc hk s m args below hf hA hF happ hP
  obtain ⟨hcalls, hrest, hpre⟩ := hP
  obtain ⟨-, -, -, hnamed, -, -, -, hat⟩ := (Spec.applies_iff hf).mp happ
  obtain ⟨hg, hn⟩ := and_e (Cond.before_iff.mp (show (Jvm.Cond.and given_1 narrow_1).before args s = true from hpre))
  obtain ⟨h1, h2⟩ := and_e hg
  obtain ⟨k0, r0⟩ := and_e h2
  obtain ⟨k1, r1⟩ := and_e r0
  obtain ⟨w0, w1, w2, rfl⟩ : ∃ w0 w1 w2 : Value, args = #[w0, w1, w2] := by
    have hs : args.size = 3 := by simpa [Cond.value, given_1] using h1
    obtain ⟨L⟩ := args
    match L, hs with
    | [w0, w1, w2], _ => exact ⟨w0, w1, w2, rfl⟩
  have hw := fun d (hd : d ∈ tables_1) => atoms_spec (ws := Jvm.Cond.code x code maxLocals ret :: tables_1) hat d (List.mem_cons_of_mem _ hd)
  obtain ⟨hsets, hown0⟩ := atoms_of _ (rest_1_c_eq ▸ (show rest_1_c.before _ s = true from hrest))
  have hfit : Fit s := fun {y c} hc i hi => by
    obtain ⟨ha, rfl⟩ := Array.getElem?_eq_some_iff.mp hc
    have q := List.all_eq_true.mp ((Array.all_eq_true_iff_forall_mem.mp hF) _ (Array.getElem_mem ha)) i (List.mem_range.mpr hi)
    simpa [Array.getElem?_eq_getElem hi] using q
  obtain ⟨i0, e0⟩ := isL_v k0
  obtain rfl : w0 = (.long i0) := Option.some.inj e0
  obtain ⟨i1, e1⟩ := isL_v k1
  obtain rfl : w1 = (.long i1) := Option.some.inj e1
  obtain ⟨i2, e2⟩ := is_v r1
  obtain rfl : w2 = (.int i2) := Option.some.inj e2
  have n5 := not_v (Cond.before_iff.mp (hsets _ (List.mem_of_getElem? (i := 2) rfl)))
  obtain ⟨iz, ez⟩ := is_v (Cond.before_iff.mp (hsets _ (List.mem_of_getElem? (i := 1) rfl)))
  have Sz : Sta s s.heap "java/lang/String" "COMPACT_STRINGS" "Z" (.int iz) := Sta.start ez (Or.inl (hsets _ (List.mem_of_getElem? (i := 0) rfl)))
  obtain ⟨vf, ef, rf⟩ := isR_v (Cond.before_iff.mp (hsets _ (List.mem_of_getElem? (i := 8) rfl)))
  have Sf : Sta s s.heap "jdk/internal/util/Preconditions" "SIOOBE_FORMATTER" "Ljava/util/function/BiFunction;" vf := Sta.start ef (Or.inl (hsets _ (List.mem_of_getElem? (i := 7) rfl)))
  have cz : ¬ (iz = (0 : Int32)) := gotF (Cond.eq_ints ez (Term.int_eval (0))) n5
  obtain ⟨vu0, eu0, fu0⟩ := static_fit hfit (hsets _ (List.mem_of_getElem? (i := 10) rfl)) (ty := .boolean) (by decide)
  obtain ⟨iu0, rfl⟩ := fit_I fu0 (by simp)
  obtain rfl : iu0 = 1 := gotT (Cond.eq_ints eu0 (Term.int_eval (1))) (Cond.before_iff.mp (hsets _ (List.mem_of_getElem? (i := 12) rfl)))
  have Su0 : Sta s s.heap "java/lang/StringUTF16" "$assertionsDisabled" "Z" (.int 1) := Sta.start eu0 (Or.inl (hsets _ (List.mem_of_getElem? (i := 11) rfl)))
  obtain ⟨vu1, eu1, fu1⟩ := static_fit hfit (hsets _ (List.mem_of_getElem? (i := 13) rfl)) (ty := .int) (by decide)
  obtain ⟨iu1, rfl⟩ := fit_I fu1 (by simp)
  obtain rfl : iu1 = 0 := gotT (Cond.eq_ints eu1 (Term.int_eval (0))) (Cond.before_iff.mp (hsets _ (List.mem_of_getElem? (i := 15) rfl)))
  have Su1 : Sta s s.heap "java/lang/StringUTF16" "HI_BYTE_SHIFT" "I" (.int 0) := Sta.start eu1 (Or.inl (hsets _ (List.mem_of_getElem? (i := 14) rfl)))
  obtain ⟨vu2, eu2, fu2⟩ := static_fit hfit (hsets _ (List.mem_of_getElem? (i := 16) rfl)) (ty := .int) (by decide)
  obtain ⟨iu2, rfl⟩ := fit_I fu2 (by simp)
  obtain rfl : iu2 = 8 := gotT (Cond.eq_ints eu2 (Term.int_eval (8))) (Cond.before_iff.mp (hsets _ (List.mem_of_getElem? (i := 18) rfl)))
  have Su2 : Sta s s.heap "java/lang/StringUTF16" "LO_BYTE_SHIFT" "I" (.int 8) := Sta.start eu2 (Or.inl (hsets _ (List.mem_of_getElem? (i := 17) rfl)))
  have hEL : EW s _ consts_1 := (EW.cons (hw _ w25) (by decide) EW.nil)
  have hat7 : ∀ a ∈ Bundle.stringAtoms, a.before _ s = true := fun a ha => by
    simp only [Bundle.stringAtoms, List.mem_cons, List.not_mem_nil, or_false] at ha
    rcases ha with rfl | rfl | rfl | rfl | rfl | rfl | rfl
    · exact hw _ w13
    · exact hw _ w12
    · exact hw _ w26
    · exact hw _ w27
    · exact hw _ w28
    · exact hw _ w29
    · exact hw _ w30
  have hCH : CHv s consts_1 s.vm s.heap := CHv.start hEL (fun p hp => hcalls.1 p hp) (hsets _ (List.mem_of_getElem? (i := 2) rfl)) (hw _ w26) (hw _ w12)
  obtain ⟨n, o, h1, h2, h3, _, L, rfl, ⟨⟨sn, ⟨rfl, -⟩, -⟩, N, -⟩, -, hq⟩ := ct_law l (Z := s) (n0 := s.heap.size) ⟨⟨⟨_, hw, hEL, hat7⟩, cz, Sz, rf, Sf⟩, Su0, Su1, Su2⟩ i0 i1 i2 s.heap (Old.start s) tables_1 p e ha hc hk s m _ below hf ((Spec.applies_iff_loose hf).mp happ).1 ⟨rfl, State.Warmed39.refl s, rfl, hCH, fun x q => nomatch q⟩ trivial
  refine ⟨n, _, h1, h2, h3, hpost _ _ _ _ _ _ ⟨Cond.after_iff.mpr rfl, Cond.after_iff.mpr (eq_i res_at (Term.int_eval (1)) rfl), trivial⟩ ⟨hq.1, hq.2.1, hq.2.2.1, (hq.2.2.2.sift fun y hy => Or.inr (N y hy)).mono (by decide) (by decide)⟩⟩
theorem main_1_1 : Claimed_1_1 := comes_1 fun _ _ _ _ _ _ h hF => ⟨h.1, hF⟩
theorem main_1_2 : Claimed_1_2 := comes_1 fun _ _ _ _ _ _ h hF => ⟨h.2.1, hF⟩
end Jvm.Pilot.@@N@@
namespace Jvm.Pilot.@@N@@
open Jvm Jvm.ClassFile Sem Op Lib Jvm.Free Jvm.Stand Jvm.Pilot.@@N@@.Jvm.D
/-! MADE BY PROGRAM (witnessworld.py) out of the Statement's table words and the real class files: 18 classes; the members and pool entries that the words name. The judged class is class 1, her method 1. -/
namespace start1
open Jvm.ClassFile
def u (s : String) : CpInfo := .utf8 (stringToUtf16 s)
/-- a pool by its gaps: so many unusable entries, then the entry; so many at the end -/
def gap : Nat → List CpInfo → List CpInfo
  | 0, r => r
  | n + 1, r => .unusable :: gap n r
def poolList (es : List (Nat × CpInfo)) (last : Nat) : List CpInfo := es.foldr (fun e r => gap e.1 (e.2 :: r)) (gap last [])
def pool (es : List (Nat × CpInfo)) (last : Nat) : Array CpInfo := ⟨poolList es last⟩
def fileOf (pool : Array CpInfo) (this : Nat) (attrs : Array Attribute := #[]) (ms : Array MethodInfo := #[]) (fl : Nat := 33) (sup : Nat := 0) (ifs : Array Nat := #[]) (fds : Array FieldInfo := #[]) : ClassFile where
  minorVersion := 0
  majorVersion := 65
  constantPool := pool
  accessFlags := fl
  thisClass := this
  superClass := sup
  interfaces := ifs
  fields := fds
  methods := ms
  attributes := attrs
def plain (name : String) (sup : Option ClassId) : Class where
  name := name
  kind := .ordinary
  loader := none
  accessFlags := 33
  super := sup
  interfaces := #[]
  cf := none
  fields := #[]
  methods := #[]
  instanceTypes := #[]
  staticTypes := #[]
  resolved := #[]
  callSites := []
  init := .initialized
  statics := none
  mirror := none

def pool0 : Array CpInfo := pool [(5, u "<init>"), (0, u "()V"), (1, .class_ 10), (1, u "java/lang/Object")] 113

def k0c0 : Code := { maxStack := 0, maxLocals := 1, code := object_method_1_code, exceptionTable := #[], attributes := #[] }
def k0m0 : Method := { name := "<init>", desc := "()V", sig := { parameters := [], returnType := none }, accessFlags := 1, code := some k0c0 }
/-- java/lang/Object -/
def k0 : Class := { plain "java/lang/Object" none with
  accessFlags := 33
  interfaces := #[]
  cf := some (fileOf pool0 8 #[] #[{ accessFlags := 1, nameIndex := 5, descriptorIndex := 6, attributes := #[] }] 33 0 #[] #[])
  fields := #[]
  methods := #[k0m0]
  instanceTypes := #[]
  staticTypes := #[]
  resolved := Array.replicate 124 none
  statics := none }

def pool1 : Array CpInfo := pool [(2, .class_ 4), (1, u "java/lang/Object"), (0, u "<init>"), (0, u "()V"), (0, .methodref 8 9), (0, .class_ 10), (0, .nameAndType 11 12), (0, u "com/example/rendezpoint/rendezpoint/core/NameEqualIgnoringCasePinLaw"), (0, u "textChar"), (0, u "(JII)C"), (0, .methodref 8 14), (0, .nameAndType 15 16), (0, u "otherChar"), (0, u "(CJII)C"), (0, .methodref 8 18), (0, .nameAndType 19 20), (0, u "make"), (0, u "(ICCC)Ljava/lang/String;"), (0, .methodref 8 22), (0, .nameAndType 23 24), (0, u "match"), (0, u "(CC)Z"), (0, .methodref 26 27), (0, .class_ 28), (0, .nameAndType 29 30), (0, u "com/example/rendezpoint/rendezpoint/core/Name"), (0, u "equalIgnoringCase"), (0, u "(Ljava/lang/String;Ljava/lang/String;)Z"), (0, .long 65535), (1, .methodref 8 34), (0, .nameAndType 35 36), (0, u "isUpper"), (0, u "(C)Z"), (0, .class_ 38), (0, u "java/lang/String"), (0, .methodref 37 40), (0, .nameAndType 5 41), (0, u "([C)V"), (2, u "law"), (0, u "(JJI)Z")] 3

def k1m0 : Method := { name := "<init>", desc := "()V", sig := { parameters := [], returnType := none }, accessFlags := 1, code := none }
def k1c1 : Code := { maxStack := 5, maxLocals := 16, code := code, exceptionTable := #[], attributes := #[] }
def k1m1 : Method := { name := "law", desc := "(JJI)Z", sig := { parameters := [.long, .long, .int], returnType := some .boolean }, accessFlags := 9, code := some k1c1 }
def k1c2 : Code := { maxStack := 4, maxLocals := 5, code := method_3_code, exceptionTable := #[], attributes := #[] }
def k1m2 : Method := { name := "textChar", desc := "(JII)C", sig := { parameters := [.long, .int, .int], returnType := some .char }, accessFlags := 10, code := some k1c2 }
def k1c3 : Code := { maxStack := 4, maxLocals := 7, code := method_4_code, exceptionTable := #[], attributes := #[] }
def k1m3 : Method := { name := "otherChar", desc := "(CJII)C", sig := { parameters := [.char, .long, .int, .int], returnType := some .char }, accessFlags := 10, code := some k1c3 }
def k1c4 : Code := { maxStack := 2, maxLocals := 1, code := method_5_code, exceptionTable := #[], attributes := #[] }
def k1m4 : Method := { name := "isUpper", desc := "(C)Z", sig := { parameters := [.char], returnType := some .boolean }, accessFlags := 10, code := some k1c4 }
def k1c5 : Code := { maxStack := 3, maxLocals := 2, code := method_6_code, exceptionTable := #[], attributes := #[] }
def k1m5 : Method := { name := "match", desc := "(CC)Z", sig := { parameters := [.char, .char], returnType := some .boolean }, accessFlags := 10, code := some k1c5 }
def k1c6 : Code := { maxStack := 6, maxLocals := 4, code := method_7_code, exceptionTable := #[], attributes := #[] }
def k1m6 : Method := { name := "make", desc := "(ICCC)Ljava/lang/String;", sig := { parameters := [.int, .char, .char, .char], returnType := some (.object "java/lang/String") }, accessFlags := 10, code := some k1c6 }
/-- com/example/rendezpoint/rendezpoint/core/NameEqualIgnoringCasePinLaw -/
def k1 : Class := { plain "com/example/rendezpoint/rendezpoint/core/NameEqualIgnoringCasePinLaw" (some 0) with
  accessFlags := 49
  interfaces := #[]
  cf := some (fileOf pool1 8 #[] #[{ accessFlags := 1, nameIndex := 5, descriptorIndex := 6, attributes := #[] }, { accessFlags := 9, nameIndex := 44, descriptorIndex := 45, attributes := #[] }, { accessFlags := 10, nameIndex := 11, descriptorIndex := 12, attributes := #[] }, { accessFlags := 10, nameIndex := 15, descriptorIndex := 16, attributes := #[] }, { accessFlags := 10, nameIndex := 35, descriptorIndex := 36, attributes := #[] }, { accessFlags := 10, nameIndex := 23, descriptorIndex := 24, attributes := #[] }, { accessFlags := 10, nameIndex := 19, descriptorIndex := 20, attributes := #[] }] 49 2 #[] #[])
  fields := #[]
  methods := #[k1m0, k1m1, k1m2, k1m3, k1m4, k1m5, k1m6]
  instanceTypes := #[]
  staticTypes := #[]
  resolved := Array.replicate 49 none
  statics := none }

def pool2 : Array CpInfo := pool [(1, .class_ 2), (0, u "java/io/Serializable"), (0, .class_ 4), (0, u "java/lang/Object")] 2

/-- java/io/Serializable -/
def k2 : Class := { plain "java/io/Serializable" (some 0) with
  accessFlags := 1537
  interfaces := #[]
  cf := some (fileOf pool2 1 #[] #[] 1537 3 #[] #[])
  fields := #[]
  methods := #[]
  instanceTypes := #[]
  staticTypes := #[]
  resolved := Array.replicate 7 none
  statics := none }

def pool3 : Array CpInfo := pool [(1, .class_ 2), (0, u "java/lang/Comparable"), (0, .class_ 4), (0, u "java/lang/Object")] 7

/-- java/lang/Comparable -/
def k3 : Class := { plain "java/lang/Comparable" (some 0) with
  accessFlags := 1537
  interfaces := #[]
  cf := some (fileOf pool3 1 #[] #[] 1537 3 #[] #[])
  fields := #[]
  methods := #[]
  instanceTypes := #[]
  staticTypes := #[]
  resolved := Array.replicate 12 none
  statics := none }

def pool4 : Array CpInfo := pool [(2, .class_ 4), (1, u "java/lang/CharSequence"), (42, .class_ 48), (0, u "java/lang/CharSequence$1CodePointIterator"), (10, .class_ 60), (0, u "java/lang/CharSequence$1CharIterator"), (5, .class_ 67), (0, u "java/lang/Object")] 63

/-- java/lang/CharSequence -/
def k4 : Class := { plain "java/lang/CharSequence" (some 0) with
  accessFlags := 1537
  interfaces := #[]
  cf := some (fileOf pool4 2 #[.nestMembers #[47, 59]] #[] 1537 66 #[] #[])
  fields := #[]
  methods := #[]
  instanceTypes := #[]
  staticTypes := #[]
  resolved := Array.replicate 131 none
  statics := none }

def pool5 : Array CpInfo := pool [(1, .class_ 2), (0, u "java/lang/constant/Constable"), (0, .class_ 4), (0, u "java/lang/Object")] 6

/-- java/lang/constant/Constable -/
def k5 : Class := { plain "java/lang/constant/Constable" (some 0) with
  accessFlags := 1537
  interfaces := #[]
  cf := some (fileOf pool5 1 #[] #[] 1537 3 #[] #[])
  fields := #[]
  methods := #[]
  instanceTypes := #[]
  staticTypes := #[]
  resolved := Array.replicate 11 none
  statics := none }

def pool6 : Array CpInfo := pool [(1, .class_ 2), (0, u "java/lang/constant/ConstantDesc"), (0, .class_ 4), (0, u "java/lang/Object")] 32

/-- java/lang/constant/ConstantDesc -/
def k6 : Class := { plain "java/lang/constant/ConstantDesc" (some 0) with
  accessFlags := 1537
  interfaces := #[]
  cf := some (fileOf pool6 1 #[] #[] 1537 3 #[] #[])
  fields := #[]
  methods := #[]
  instanceTypes := #[]
  staticTypes := #[]
  resolved := Array.replicate 37 none
  statics := none }

def pool7 : Array CpInfo := pool [(1, .methodref 2 3), (0, .class_ 4), (0, .nameAndType 5 6), (0, u "java/lang/Object"), (0, u "<init>"), (0, u "()V"), (0, .string 8), (0, u ""), (0, .fieldref 10 11), (0, .class_ 12), (0, .nameAndType 13 14), (0, u "java/lang/String"), (0, u "value"), (0, u "[B"), (0, .fieldref 10 16), (0, .nameAndType 17 18), (0, u "coder"), (0, u "B"), (2, u "hash"), (0, u "I"), (2, u "hashIsZero"), (0, u "Z"), (0, .methodref 10 28), (0, .nameAndType 5 29), (0, u "([CIILjava/lang/Void;)V"), (8, .fieldref 10 39), (0, .nameAndType 40 26), (0, u "COMPACT_STRINGS"), (1, .class_ 44), (1, u "java/lang/StringUTF16"), (0, u "compress"), (1, .methodref 42 48), (0, .nameAndType 49 50), (0, u "coderFromArrayLen"), (0, u "([BI)B"), (56, .class_ 109), (1, u "java/lang/StringLatin1"), (32, u "()Z"), (34, .methodref 42 178), (0, .nameAndType 45 179), (0, u "([CII)[B"), (154, u "()I"), (0, .methodref 10 336), (0, .nameAndType 17 337), (0, u "()B"), (25, u "([BI)C"), (27, u "(II)V"), (35, u "(I)C"), (64, .methodref 10 493), (0, .nameAndType 494 142), (0, u "isLatin1"), (0, .methodref 107 496), (0, .nameAndType 497 363), (0, u "charAt"), (0, .methodref 42 496), (2, u "checkIndex"), (5, u "length"), (67, .class_ 576), (0, u "java/lang/CharSequence"), (22, u "CASE_INSENSITIVE_ORDER"), (0, u "Ljava/util/Comparator;"), (409, u "([C)V"), (42, .fieldref 1054 1055), (0, .class_ 1056), (0, .nameAndType 1057 1058), (0, u "jdk/internal/util/Preconditions"), (0, u "SIOOBE_FORMATTER"), (0, u "Ljava/util/function/BiFunction;"), (0, .methodref 1054 1060), (0, .nameAndType 501 1061), (0, u "(IILjava/util/function/BiFunction;)I"), (39, u "serialPersistentFields"), (0, u "[Ljava/io/ObjectStreamField;"), (0, .class_ 1104), (0, u "java/lang/String$CaseInsensitiveComparator"), (1, .class_ 1107), (0, u "java/io/Serializable"), (0, .class_ 1109), (0, u "java/lang/Comparable"), (0, .class_ 1111), (0, u "java/lang/constant/Constable"), (0, .class_ 1113), (0, u "java/lang/constant/ConstantDesc"), (2, u "serialVersionUID"), (0, u "J"), (3, u "REPL"), (0, u "C"), (2, u "LATIN1"), (1, u "UTF16")] 323

def k7m0 : Method := { name := "<init>", desc := "()V", sig := { parameters := [], returnType := none }, accessFlags := 1, code := none }
def k7c1 : Code := { maxStack := 5, maxLocals := 2, code := jdk_42_method_3_code, exceptionTable := #[], attributes := #[] }
def k7m1 : Method := { name := "<init>", desc := "([C)V", sig := { parameters := [(.array .char)], returnType := none }, accessFlags := 1, code := some k7c1 }
def k7c2 : Code := { maxStack := 2, maxLocals := 1, code := jdk_42_method_54_code, exceptionTable := #[], attributes := #[] }
def k7m2 : Method := { name := "length", desc := "()I", sig := { parameters := [], returnType := some .int }, accessFlags := 1, code := some k7c2 }
def k7c3 : Code := { maxStack := 2, maxLocals := 2, code := jdk_42_method_56_code, exceptionTable := #[], attributes := #[] }
def k7m3 : Method := { name := "charAt", desc := "(I)C", sig := { parameters := [.int], returnType := some .char }, accessFlags := 1, code := some k7c3 }
def k7c4 : Code := { maxStack := 4, maxLocals := 6, code := jdk_42_method_149_code, exceptionTable := #[], attributes := #[] }
def k7m4 : Method := { name := "<init>", desc := "([CIILjava/lang/Void;)V", sig := { parameters := [(.array .char), .int, .int, (.object "java/lang/Void")], returnType := none }, accessFlags := 2, code := some k7c4 }
def k7c5 : Code := { maxStack := 1, maxLocals := 1, code := jdk_42_method_152_code, exceptionTable := #[], attributes := #[] }
def k7m5 : Method := { name := "coder", desc := "()B", sig := { parameters := [], returnType := some .byte }, accessFlags := 0, code := some k7c5 }
def k7c6 : Code := { maxStack := 1, maxLocals := 1, code := jdk_42_method_154_code, exceptionTable := #[], attributes := #[] }
def k7m6 : Method := { name := "isLatin1", desc := "()Z", sig := { parameters := [], returnType := some .boolean }, accessFlags := 0, code := some k7c6 }
def k7c7 : Code := { maxStack := 3, maxLocals := 2, code := jdk_42_method_155_code, exceptionTable := #[], attributes := #[] }
def k7m7 : Method := { name := "checkIndex", desc := "(II)V", sig := { parameters := [.int, .int], returnType := none }, accessFlags := 8, code := some k7c7 }
/-- java/lang/String -/
def k7 : Class := { plain "java/lang/String" (some 0) with
  accessFlags := 49
  interfaces := #[2, 3, 4, 5, 6]
  cf := some (fileOf pool7 10 #[.nestMembers #[1103]] #[{ accessFlags := 1, nameIndex := 5, descriptorIndex := 6, attributes := #[] }, { accessFlags := 1, nameIndex := 5, descriptorIndex := 1010, attributes := #[] }, { accessFlags := 1, nameIndex := 507, descriptorIndex := 334, attributes := #[] }, { accessFlags := 1, nameIndex := 497, descriptorIndex := 427, attributes := #[] }, { accessFlags := 2, nameIndex := 5, descriptorIndex := 29, attributes := #[] }, { accessFlags := 0, nameIndex := 17, descriptorIndex := 337, attributes := #[] }, { accessFlags := 0, nameIndex := 494, descriptorIndex := 142, attributes := #[] }, { accessFlags := 8, nameIndex := 501, descriptorIndex := 391, attributes := #[] }] 49 2 #[1106, 1108, 575, 1110, 1112] #[{ accessFlags := 18, nameIndex := 13, descriptorIndex := 14, attributes := #[] }, { accessFlags := 18, nameIndex := 17, descriptorIndex := 18, attributes := #[] }, { accessFlags := 2, nameIndex := 21, descriptorIndex := 22, attributes := #[] }, { accessFlags := 2, nameIndex := 25, descriptorIndex := 26, attributes := #[] }, { accessFlags := 26, nameIndex := 1116, descriptorIndex := 1117, attributes := #[] }, { accessFlags := 24, nameIndex := 40, descriptorIndex := 26, attributes := #[] }, { accessFlags := 26, nameIndex := 1101, descriptorIndex := 1102, attributes := #[] }, { accessFlags := 26, nameIndex := 1121, descriptorIndex := 1122, attributes := #[] }, { accessFlags := 25, nameIndex := 599, descriptorIndex := 600, attributes := #[] }, { accessFlags := 24, nameIndex := 1125, descriptorIndex := 18, attributes := #[] }, { accessFlags := 24, nameIndex := 1127, descriptorIndex := 18, attributes := #[] }])
  fields := #[{ name := "value", type := (.array .byte), accessFlags := 18, slot := 0, constantValue := 0 }, { name := "coder", type := .byte, accessFlags := 18, slot := 1, constantValue := 0 }, { name := "hash", type := .int, accessFlags := 2, slot := 2, constantValue := 0 }, { name := "hashIsZero", type := .boolean, accessFlags := 2, slot := 3, constantValue := 0 }, { name := "serialVersionUID", type := .long, accessFlags := 26, slot := 0, constantValue := 0 }, { name := "COMPACT_STRINGS", type := .boolean, accessFlags := 24, slot := 1, constantValue := 0 }, { name := "serialPersistentFields", type := (.array (.object "java/io/ObjectStreamField")), accessFlags := 26, slot := 2, constantValue := 0 }, { name := "REPL", type := .char, accessFlags := 26, slot := 3, constantValue := 0 }, { name := "CASE_INSENSITIVE_ORDER", type := (.object "java/util/Comparator"), accessFlags := 25, slot := 4, constantValue := 0 }, { name := "LATIN1", type := .byte, accessFlags := 24, slot := 5, constantValue := 0 }, { name := "UTF16", type := .byte, accessFlags := 24, slot := 6, constantValue := 0 }]
  methods := #[k7m0, k7m1, k7m2, k7m3, k7m4, k7m5, k7m6, k7m7]
  instanceTypes := #[(.array .byte), .byte, .int, .boolean]
  staticTypes := #[.long, .boolean, (.array (.object "java/io/ObjectStreamField")), .char, (.object "java/util/Comparator"), .byte, .byte]
  resolved := Array.replicate 1451 none
  statics := some 0 }

def pool8 : Array CpInfo := pool [(2, .class_ 4), (1, u "java/lang/Object"), (3, .class_ 10), (1, u "com/example/rendezpoint/rendezpoint/core/Name"), (0, u "_spelling"), (0, u "Ljava/lang/String;"), (2, u "_key"), (1, .class_ 19), (1, u "java/lang/String"), (9, .methodref 17 30), (0, .nameAndType 31 32), (0, u "length"), (0, u "()I"), (4, .methodref 17 38), (0, .nameAndType 39 40), (0, u "charAt"), (0, u "(I)C"), (0, .methodref 8 42), (0, .nameAndType 43 44), (0, u "lowerCase"), (0, u "(C)C"), (42, u "MAX_LENGTH"), (0, u "I"), (11, u "equalIgnoringCase"), (0, u "(Ljava/lang/String;Ljava/lang/String;)Z")] 20

def k8c0 : Code := { maxStack := 3, maxLocals := 3, code := prog_6_method_4_code, exceptionTable := #[], attributes := #[] }
def k8m0 : Method := { name := "equalIgnoringCase", desc := "(Ljava/lang/String;Ljava/lang/String;)Z", sig := { parameters := [(.object "java/lang/String"), (.object "java/lang/String")], returnType := some .boolean }, accessFlags := 8, code := some k8c0 }
def k8c1 : Code := { maxStack := 2, maxLocals := 1, code := prog_6_method_5_code, exceptionTable := #[], attributes := #[] }
def k8m1 : Method := { name := "lowerCase", desc := "(C)C", sig := { parameters := [.char], returnType := some .char }, accessFlags := 10, code := some k8c1 }
/-- com/example/rendezpoint/rendezpoint/core/Name -/
def k8 : Class := { plain "com/example/rendezpoint/rendezpoint/core/Name" (some 0) with
  accessFlags := 49
  interfaces := #[]
  cf := some (fileOf pool8 8 #[] #[{ accessFlags := 8, nameIndex := 100, descriptorIndex := 101, attributes := #[] }, { accessFlags := 10, nameIndex := 43, descriptorIndex := 44, attributes := #[] }] 49 2 #[] #[{ accessFlags := 25, nameIndex := 87, descriptorIndex := 88, attributes := #[] }, { accessFlags := 18, nameIndex := 11, descriptorIndex := 12, attributes := #[] }, { accessFlags := 18, nameIndex := 15, descriptorIndex := 12, attributes := #[] }])
  fields := #[{ name := "MAX_LENGTH", type := .int, accessFlags := 25, slot := 0, constantValue := 0 }, { name := "_spelling", type := (.object "java/lang/String"), accessFlags := 18, slot := 0, constantValue := 0 }, { name := "_key", type := (.object "java/lang/String"), accessFlags := 18, slot := 1, constantValue := 0 }]
  methods := #[k8m0, k8m1]
  instanceTypes := #[(.object "java/lang/String"), (.object "java/lang/String")]
  staticTypes := #[.int]
  resolved := Array.replicate 122 none
  statics := none }

def pool9 : Array CpInfo := pool [(3, .class_ 4), (0, u "java/lang/String"), (1, .class_ 8), (1, u "java/lang/Object"), (0, u "<init>"), (0, u "()V"), (0, .methodref 12 13), (0, .class_ 14), (0, .nameAndType 15 16), (0, u "java/lang/StringUTF16"), (0, u "newBytesLength"), (0, u "(I)I"), (3, .integer 1073741823), (23, .fieldref 12 45), (0, .nameAndType 46 47), (0, u "$assertionsDisabled"), (0, u "Z"), (0, .methodref 12 49), (0, .nameAndType 50 51), (0, u "length"), (0, u "([B)I"), (7, .fieldref 12 60), (0, .nameAndType 61 62), (0, u "HI_BYTE_SHIFT"), (0, u "I"), (0, .fieldref 12 64), (0, .nameAndType 65 62), (0, u "LO_BYTE_SHIFT"), (1, .methodref 12 68), (0, .nameAndType 69 70), (0, u "checkIndex"), (0, u "(I[B)V"), (0, .methodref 12 72), (0, .nameAndType 73 74), (0, u "getChar"), (0, u "([BI)C"), (32, .methodref 12 108), (0, .nameAndType 109 110), (0, u "newBytesFor"), (0, u "(I)[B"), (0, .methodref 12 112), (0, .nameAndType 113 114), (0, u "putChar"), (0, u "([BII)V"), (0, .methodref 12 116), (0, .nameAndType 117 118), (0, u "compress"), (0, u "([CI[BII)I"), (0, .methodref 12 120), (0, .nameAndType 121 122), (0, u "toBytes"), (0, u "([CII)[B"), (138, u "coderFromArrayLen"), (0, u "([BI)B"), (106, .class_ 371), (1, u "java/lang/StringUTF16$LinesSpliterator"), (20, u "charAt"), (21, .methodref 3 415), (0, .nameAndType 69 416), (0, u "(II)V"), (13, u "MAX_LENGTH"), (196, .class_ 628), (0, u "java/lang/StringUTF16$CodePointsSpliterator"), (0, .class_ 630), (0, u "java/lang/StringUTF16$CharsSpliterator")] 4

def k9m0 : Method := { name := "<init>", desc := "()V", sig := { parameters := [], returnType := none }, accessFlags := 0, code := none }
def k9c1 : Code := { maxStack := 1, maxLocals := 1, code := jdk_52_method_2_code, exceptionTable := #[], attributes := #[] }
def k9m1 : Method := { name := "newBytesFor", desc := "(I)[B", sig := { parameters := [.int], returnType := some (.array .byte) }, accessFlags := 9, code := some k9c1 }
def k9c2 : Code := { maxStack := 4, maxLocals := 1, code := jdk_52_method_3_code, exceptionTable := #[], attributes := #[] }
def k9m2 : Method := { name := "newBytesLength", desc := "(I)I", sig := { parameters := [.int], returnType := some .int }, accessFlags := 9, code := some k9c2 }
def k9c3 : Code := { maxStack := 4, maxLocals := 3, code := jdk_52_method_4_code, exceptionTable := #[], attributes := #[] }
def k9m3 : Method := { name := "putChar", desc := "([BII)V", sig := { parameters := [(.array .byte), .int, .int], returnType := none }, accessFlags := 8, code := some k9c3 }
def k9c4 : Code := { maxStack := 3, maxLocals := 2, code := jdk_52_method_5_code, exceptionTable := #[], attributes := #[] }
def k9m4 : Method := { name := "getChar", desc := "([BI)C", sig := { parameters := [(.array .byte), .int], returnType := some .char }, accessFlags := 8, code := some k9c4 }
def k9c5 : Code := { maxStack := 2, maxLocals := 1, code := jdk_52_method_6_code, exceptionTable := #[], attributes := #[] }
def k9m5 : Method := { name := "length", desc := "([B)I", sig := { parameters := [(.array .byte)], returnType := some .int }, accessFlags := 9, code := some k9c5 }
def k9c6 : Code := { maxStack := 4, maxLocals := 5, code := jdk_52_method_14_code, exceptionTable := #[], attributes := #[] }
def k9m6 : Method := { name := "toBytes", desc := "([CII)[B", sig := { parameters := [(.array .char), .int, .int], returnType := some (.array .byte) }, accessFlags := 9, code := some k9c6 }
def k9c7 : Code := { maxStack := 2, maxLocals := 2, code := jdk_52_method_15_code, exceptionTable := #[], attributes := #[] }
def k9m7 : Method := { name := "coderFromArrayLen", desc := "([BI)B", sig := { parameters := [(.array .byte), .int], returnType := some .byte }, accessFlags := 8, code := some k9c7 }
def k9c8 : Code := { maxStack := 5, maxLocals := 6, code := jdk_52_method_16_code, exceptionTable := #[], attributes := #[] }
def k9m8 : Method := { name := "compress", desc := "([CII)[B", sig := { parameters := [(.array .char), .int, .int], returnType := some (.array .byte) }, accessFlags := 9, code := some k9c8 }
def k9c9 : Code := { maxStack := 3, maxLocals := 7, code := jdk_52_method_21_code, exceptionTable := #[], attributes := #[] }
def k9m9 : Method := { name := "compress", desc := "([CI[BII)I", sig := { parameters := [(.array .char), .int, (.array .byte), .int, .int], returnType := some .int }, accessFlags := 9, code := some k9c9 }
def k9c10 : Code := { maxStack := 2, maxLocals := 2, code := jdk_52_method_83_code, exceptionTable := #[], attributes := #[] }
def k9m10 : Method := { name := "charAt", desc := "([BI)C", sig := { parameters := [(.array .byte), .int], returnType := some .char }, accessFlags := 9, code := some k9c10 }
def k9c11 : Code := { maxStack := 2, maxLocals := 2, code := jdk_52_method_91_code, exceptionTable := #[], attributes := #[] }
def k9m11 : Method := { name := "checkIndex", desc := "(I[B)V", sig := { parameters := [.int, (.array .byte)], returnType := none }, accessFlags := 9, code := some k9c11 }
/-- java/lang/StringUTF16 -/
def k9 : Class := { plain "java/lang/StringUTF16" (some 0) with
  accessFlags := 48
  interfaces := #[]
  cf := some (fileOf pool9 12 #[.nestMembers #[627, 629, 369]] #[{ accessFlags := 0, nameIndex := 9, descriptorIndex := 10, attributes := #[] }, { accessFlags := 9, nameIndex := 109, descriptorIndex := 110, attributes := #[] }, { accessFlags := 9, nameIndex := 15, descriptorIndex := 16, attributes := #[] }, { accessFlags := 8, nameIndex := 113, descriptorIndex := 114, attributes := #[] }, { accessFlags := 8, nameIndex := 73, descriptorIndex := 74, attributes := #[] }, { accessFlags := 9, nameIndex := 50, descriptorIndex := 51, attributes := #[] }, { accessFlags := 9, nameIndex := 121, descriptorIndex := 122, attributes := #[] }, { accessFlags := 8, nameIndex := 261, descriptorIndex := 262, attributes := #[] }, { accessFlags := 9, nameIndex := 117, descriptorIndex := 122, attributes := #[] }, { accessFlags := 9, nameIndex := 117, descriptorIndex := 118, attributes := #[] }, { accessFlags := 9, nameIndex := 392, descriptorIndex := 74, attributes := #[] }, { accessFlags := 9, nameIndex := 69, descriptorIndex := 70, attributes := #[] }] 48 6 #[] #[{ accessFlags := 26, nameIndex := 61, descriptorIndex := 62, attributes := #[] }, { accessFlags := 26, nameIndex := 65, descriptorIndex := 62, attributes := #[] }, { accessFlags := 24, nameIndex := 430, descriptorIndex := 62, attributes := #[] }, { accessFlags := 4120, nameIndex := 46, descriptorIndex := 47, attributes := #[] }])
  fields := #[{ name := "HI_BYTE_SHIFT", type := .int, accessFlags := 26, slot := 0, constantValue := 0 }, { name := "LO_BYTE_SHIFT", type := .int, accessFlags := 26, slot := 1, constantValue := 0 }, { name := "MAX_LENGTH", type := .int, accessFlags := 24, slot := 2, constantValue := 0 }, { name := "$assertionsDisabled", type := .boolean, accessFlags := 4120, slot := 3, constantValue := 0 }]
  methods := #[k9m0, k9m1, k9m2, k9m3, k9m4, k9m5, k9m6, k9m7, k9m8, k9m9, k9m10, k9m11]
  instanceTypes := #[]
  staticTypes := #[.int, .int, .int, .boolean]
  resolved := Array.replicate 635 none
  statics := some 1 }

def pool10 : Array CpInfo := pool [(2, .class_ 4), (1, u "java/lang/Object"), (0, u "<init>"), (0, u "()V"), (17, .class_ 26), (1, u "jdk/internal/util/Preconditions"), (6, u "checkIndex"), (21, .class_ 56), (0, u "jdk/internal/util/Preconditions$4"), (57, .class_ 115), (0, u "jdk/internal/util/Preconditions$1"), (7, u "SIOOBE_FORMATTER"), (0, u "Ljava/util/function/BiFunction;"), (0, .class_ 126), (0, u "jdk/internal/util/Preconditions$2"), (3, u "AIOOBE_FORMATTER"), (0, .class_ 132), (0, u "jdk/internal/util/Preconditions$3"), (3, u "IOOBE_FORMATTER"), (41, u "(IILjava/util/function/BiFunction;)I")] 15

def k10m0 : Method := { name := "<init>", desc := "()V", sig := { parameters := [], returnType := none }, accessFlags := 1, code := none }
def k10c1 : Code := { maxStack := 3, maxLocals := 3, code := jdk_41_method_11_code, exceptionTable := #[], attributes := #[] }
def k10m1 : Method := { name := "checkIndex", desc := "(IILjava/util/function/BiFunction;)I", sig := { parameters := [.int, .int, (.object "java/util/function/BiFunction")], returnType := some .int }, accessFlags := 9, code := some k10c1 }
/-- jdk/internal/util/Preconditions -/
def k10 : Class := { plain "jdk/internal/util/Preconditions" (some 0) with
  accessFlags := 33
  interfaces := #[]
  cf := some (fileOf pool10 24 #[.nestMembers #[55, 131, 125, 114]] #[{ accessFlags := 1, nameIndex := 5, descriptorIndex := 6, attributes := #[] }, { accessFlags := 9, nameIndex := 33, descriptorIndex := 178, attributes := #[] }] 33 2 #[] #[{ accessFlags := 25, nameIndex := 123, descriptorIndex := 124, attributes := #[] }, { accessFlags := 25, nameIndex := 130, descriptorIndex := 124, attributes := #[] }, { accessFlags := 25, nameIndex := 136, descriptorIndex := 124, attributes := #[] }])
  fields := #[{ name := "SIOOBE_FORMATTER", type := (.object "java/util/function/BiFunction"), accessFlags := 25, slot := 0, constantValue := 0 }, { name := "AIOOBE_FORMATTER", type := (.object "java/util/function/BiFunction"), accessFlags := 25, slot := 1, constantValue := 0 }, { name := "IOOBE_FORMATTER", type := (.object "java/util/function/BiFunction"), accessFlags := 25, slot := 2, constantValue := 0 }]
  methods := #[k10m0, k10m1]
  instanceTypes := #[]
  staticTypes := #[(.object "java/util/function/BiFunction"), (.object "java/util/function/BiFunction"), (.object "java/util/function/BiFunction")]
  resolved := Array.replicate 194 none
  statics := some 2 }

def pool11 : Array CpInfo := pool [(1, .class_ 2), (0, u "java/lang/String"), (1, .class_ 6), (1, u "java/lang/Object"), (0, u "<init>"), (0, u "()V"), (0, .methodref 1 10), (0, .nameAndType 11 12), (0, u "checkIndex"), (0, u "(II)V"), (1, .class_ 16), (1, u "java/lang/StringLatin1"), (36, u "([BI)C"), (67, u "$assertionsDisabled"), (0, u "Z"), (98, .class_ 223), (1, u "java/lang/StringLatin1$LinesSpliterator"), (28, u "charAt"), (137, .class_ 391), (0, u "java/lang/StringLatin1$CharsSpliterator")] 3

def k11m0 : Method := { name := "<init>", desc := "()V", sig := { parameters := [], returnType := none }, accessFlags := 0, code := none }
def k11c1 : Code := { maxStack := 2, maxLocals := 2, code := jdk_43_method_2_code, exceptionTable := #[], attributes := #[] }
def k11m1 : Method := { name := "charAt", desc := "([BI)C", sig := { parameters := [(.array .byte), .int], returnType := some .char }, accessFlags := 9, code := some k11c1 }
/-- java/lang/StringLatin1 -/
def k11 : Class := { plain "java/lang/StringLatin1" (some 0) with
  accessFlags := 48
  interfaces := #[]
  cf := some (fileOf pool11 14 #[.nestMembers #[390, 221]] #[{ accessFlags := 0, nameIndex := 7, descriptorIndex := 8, attributes := #[] }, { accessFlags := 9, nameIndex := 252, descriptorIndex := 53, attributes := #[] }] 48 4 #[] #[{ accessFlags := 4120, nameIndex := 121, descriptorIndex := 122, attributes := #[] }])
  fields := #[{ name := "$assertionsDisabled", type := .boolean, accessFlags := 4120, slot := 0, constantValue := 0 }]
  methods := #[k11m0, k11m1]
  instanceTypes := #[]
  staticTypes := #[.boolean]
  resolved := Array.replicate 395 none
  statics := none }

def pool12 : Array CpInfo := pool [(9, u "<init>"), (6, .class_ 18), (1, u "java/lang/Object"), (0, u "()V"), (1, .class_ 23), (1, u "jdk/internal/util/ArraysSupport"), (0, u "LOG2_ARRAY_LONG_INDEX_SCALE"), (0, u "I"), (2, u "U"), (0, u "Ljdk/internal/misc/Unsafe;"), (8, u "BIG_ENDIAN"), (0, u "Z"), (8, u "LOG2_BYTE_BIT_SIZE"), (4, u "LOG2_ARRAY_INT_INDEX_SCALE"), (54, u "JLA"), (0, u "Ljdk/internal/access/JavaLangAccess;"), (11, u "LOG2_ARRAY_BOOLEAN_INDEX_SCALE"), (9, u "LOG2_ARRAY_BYTE_INDEX_SCALE"), (5, u "LOG2_ARRAY_CHAR_INDEX_SCALE"), (5, u "LOG2_ARRAY_SHORT_INDEX_SCALE"), (18, u "LOG2_ARRAY_FLOAT_INDEX_SCALE"), (24, u "LOG2_ARRAY_DOUBLE_INDEX_SCALE"), (89, u "T_BOOLEAN"), (2, u "T_CHAR"), (1, u "T_FLOAT"), (1, u "T_DOUBLE"), (1, u "T_BYTE"), (1, u "T_SHORT"), (1, u "T_INT"), (1, u "T_LONG"), (1, u "SOFT_MAX_ARRAY_LENGTH")] 83

def k12m0 : Method := { name := "<init>", desc := "()V", sig := { parameters := [], returnType := none }, accessFlags := 2, code := none }
/-- jdk/internal/util/ArraysSupport -/
def k12 : Class := { plain "jdk/internal/util/ArraysSupport" (some 0) with
  accessFlags := 33
  interfaces := #[]
  cf := some (fileOf pool12 21 #[] #[{ accessFlags := 2, nameIndex := 9, descriptorIndex := 19, attributes := #[] }] 33 16 #[] #[{ accessFlags := 24, nameIndex := 28, descriptorIndex := 29, attributes := #[] }, { accessFlags := 26, nameIndex := 38, descriptorIndex := 39, attributes := #[] }, { accessFlags := 25, nameIndex := 121, descriptorIndex := 25, attributes := #[] }, { accessFlags := 25, nameIndex := 131, descriptorIndex := 25, attributes := #[] }, { accessFlags := 25, nameIndex := 137, descriptorIndex := 25, attributes := #[] }, { accessFlags := 25, nameIndex := 143, descriptorIndex := 25, attributes := #[] }, { accessFlags := 25, nameIndex := 53, descriptorIndex := 25, attributes := #[] }, { accessFlags := 25, nameIndex := 24, descriptorIndex := 25, attributes := #[] }, { accessFlags := 25, nameIndex := 162, descriptorIndex := 25, attributes := #[] }, { accessFlags := 25, nameIndex := 187, descriptorIndex := 25, attributes := #[] }, { accessFlags := 26, nameIndex := 48, descriptorIndex := 25, attributes := #[] }, { accessFlags := 25, nameIndex := 277, descriptorIndex := 25, attributes := #[] }, { accessFlags := 25, nameIndex := 280, descriptorIndex := 25, attributes := #[] }, { accessFlags := 25, nameIndex := 282, descriptorIndex := 25, attributes := #[] }, { accessFlags := 25, nameIndex := 284, descriptorIndex := 25, attributes := #[] }, { accessFlags := 25, nameIndex := 286, descriptorIndex := 25, attributes := #[] }, { accessFlags := 25, nameIndex := 288, descriptorIndex := 25, attributes := #[] }, { accessFlags := 25, nameIndex := 290, descriptorIndex := 25, attributes := #[] }, { accessFlags := 25, nameIndex := 292, descriptorIndex := 25, attributes := #[] }, { accessFlags := 26, nameIndex := 108, descriptorIndex := 109, attributes := #[] }, { accessFlags := 25, nameIndex := 294, descriptorIndex := 25, attributes := #[] }])
  fields := #[{ name := "U", type := (.object "jdk/internal/misc/Unsafe"), accessFlags := 24, slot := 0, constantValue := 0 }, { name := "BIG_ENDIAN", type := .boolean, accessFlags := 26, slot := 1, constantValue := 0 }, { name := "LOG2_ARRAY_BOOLEAN_INDEX_SCALE", type := .int, accessFlags := 25, slot := 2, constantValue := 0 }, { name := "LOG2_ARRAY_BYTE_INDEX_SCALE", type := .int, accessFlags := 25, slot := 3, constantValue := 0 }, { name := "LOG2_ARRAY_CHAR_INDEX_SCALE", type := .int, accessFlags := 25, slot := 4, constantValue := 0 }, { name := "LOG2_ARRAY_SHORT_INDEX_SCALE", type := .int, accessFlags := 25, slot := 5, constantValue := 0 }, { name := "LOG2_ARRAY_INT_INDEX_SCALE", type := .int, accessFlags := 25, slot := 6, constantValue := 0 }, { name := "LOG2_ARRAY_LONG_INDEX_SCALE", type := .int, accessFlags := 25, slot := 7, constantValue := 0 }, { name := "LOG2_ARRAY_FLOAT_INDEX_SCALE", type := .int, accessFlags := 25, slot := 8, constantValue := 0 }, { name := "LOG2_ARRAY_DOUBLE_INDEX_SCALE", type := .int, accessFlags := 25, slot := 9, constantValue := 0 }, { name := "LOG2_BYTE_BIT_SIZE", type := .int, accessFlags := 26, slot := 10, constantValue := 0 }, { name := "T_BOOLEAN", type := .int, accessFlags := 25, slot := 11, constantValue := 0 }, { name := "T_CHAR", type := .int, accessFlags := 25, slot := 12, constantValue := 0 }, { name := "T_FLOAT", type := .int, accessFlags := 25, slot := 13, constantValue := 0 }, { name := "T_DOUBLE", type := .int, accessFlags := 25, slot := 14, constantValue := 0 }, { name := "T_BYTE", type := .int, accessFlags := 25, slot := 15, constantValue := 0 }, { name := "T_SHORT", type := .int, accessFlags := 25, slot := 16, constantValue := 0 }, { name := "T_INT", type := .int, accessFlags := 25, slot := 17, constantValue := 0 }, { name := "T_LONG", type := .int, accessFlags := 25, slot := 18, constantValue := 0 }, { name := "JLA", type := (.object "jdk/internal/access/JavaLangAccess"), accessFlags := 26, slot := 19, constantValue := 0 }, { name := "SOFT_MAX_ARRAY_LENGTH", type := .int, accessFlags := 25, slot := 20, constantValue := 0 }]
  methods := #[k12m0]
  instanceTypes := #[]
  staticTypes := #[(.object "jdk/internal/misc/Unsafe"), .boolean, .int, .int, .int, .int, .int, .int, .int, .int, .int, .int, .int, .int, .int, .int, .int, .int, .int, (.object "jdk/internal/access/JavaLangAccess"), .int]
  resolved := Array.replicate 378 none
  statics := none }

def pool13 : Array CpInfo := pool [(1, u "java/lang/Cloneable"), (0, .class_ 1), (0, u "java/lang/Object"), (0, .class_ 3)] 3

/-- java/lang/Cloneable -/
def k13 : Class := { plain "java/lang/Cloneable" (some 0) with
  accessFlags := 1537
  interfaces := #[]
  cf := some (fileOf pool13 2 #[] #[] 1537 4 #[] #[])
  fields := #[]
  methods := #[]
  instanceTypes := #[]
  staticTypes := #[]
  resolved := Array.replicate 8 none
  statics := none }

/-- the primitive byte -/
def k14 : Class := { plain "byte" none with kind := .primitive 'B', accessFlags := 0x411 }
/-- [B -/
def k15 : Class := { plain "[B" (some 0) with kind := .array 14 .byte, interfaces := #[13, 2], accessFlags := 1041 }

/-- the primitive char -/
def k16 : Class := { plain "char" none with kind := .primitive 'C', accessFlags := 0x411 }
/-- [C -/
def k17 : Class := { plain "[C" (some 0) with kind := .array 16 .char, interfaces := #[13, 2], accessFlags := 1041 }

def heap : Heap := #[{ cls := 7, slots := #[.long 0, .int 1, .null, .int 0, .null, .int 0, .int 0], vm := .statics 7 },
  { cls := 9, slots := #[.int 0, .int 8, .int 0, .int 1], vm := .statics 9 },
  { cls := 10, slots := #[.null, .null, .null], vm := .statics 10 }]
def classes : Array Class := #[k0, k1, k2, k3, k4, k5, k6, k7, k8, k9, k10, k11, k12, k13, k14, k15, k16, k17]
def interned : List (Array UInt16 × Addr) := []
def slotsUsed : Nat := 14
def theMethod : MethodId := ⟨1, 1⟩
def args0 : Array Value := #[.long 5, .long 6, .int 7]
def aboutOver (below : List Frame) : State where
  vm := { classes := classes, interned := interned.toArray }
  heap := heap
  slotsUsed := slotsUsed
  threads := #[{ frames := .invoking theMethod args0 :: below }]
def below0 : List Frame := [.native { method := ⟨0, 0⟩, args := #[] }]
def about1 : State := aboutOver below0
def p0 : Program := .bare "" "" ""
def e0 : Env := launch0.env 0 0 0
theorem w_frames : about1.frames = Frame.invoking theMethod args0 :: below0 := rfl
set_option maxRecDepth 65536 in
theorem w_args : argsFit about1.vm theMethod args0 = true := by decide +kernel
set_option maxRecDepth 65536 in
theorem w_heap : heapFits about1 = true := by decide +kernel
set_option maxRecDepth 65536 in
theorem w_runnable : about1.curStatus? = some .runnable := by decide +kernel
set_option maxRecDepth 65536 in
theorem w_alone : about1.alone = true := by decide +kernel
set_option maxRecDepth 65536 in
theorem w_named : about1.methodNamed? x = some theMethod := by decide +kernel
set_option maxRecDepth 65536 in
theorem w_hears : about1.hears theMethod below0 = true := by decide +kernel
set_option maxRecDepth 65536 in
theorem w_ripe : about1.ripe theMethod args0 below0 = true := by decide +kernel
theorem w_running : about1.status = .running := rfl
set_option maxRecDepth 65536 in
theorem w_room : about1.hasRoom e0.platform room_1 = true :=
  launch0.hasRoom_least _ room_1 (by decide +kernel) (by decide +kernel) (by decide +kernel) (by decide +kernel) (by decide +kernel) (by decide +kernel)
theorem allAtoms_all (ts : List Jvm.Cond) (a : Array Jvm.Value) (st : Jvm.State) : (allAtoms ts).before a st = ts.all (fun c => c.before a st) := by
  induction ts with
  | nil => rfl
  | cons c t ih =>
    show (Jvm.Cond.and c (allAtoms t)).before a st = _
    rw [Jvm.Cond.before_and, ih, List.all_cons]
def words1 : List Jvm.Cond := Jvm.Cond.code x code maxLocals ret :: tables_1
/-- a 'code' word, met by the world's own term for the bytes: nothing is compared byte by byte -/
theorem code_word {y : MethodName} {bytes : ByteArray} {mx : Nat} {rt : Option FieldType} {a : Array Value} {s : State} {m : MethodId} {meth : Method} {c : Code} (h1 : s.methodNamed? y = some m) (h2 : s.vm.method? m = some meth) (h3 : meth.code = some c) (h4 : c.code = bytes)
    (h5 : (c.maxLocals == mx && c.exceptionTable.isEmpty && decide (c.maxStack ≤ mostOperands) && decide (meth.sig.returnType = rt) && !meth.locks && decide (parseMethodDescriptor y.desc = some meth.sig)) = true) : (Jvm.Cond.code y bytes mx rt).before a s = true := by
  simp only [Bool.and_eq_true, beq_iff_eq, Bool.not_eq_true', decide_eq_true_eq] at h5
  obtain ⟨⟨⟨⟨⟨g1, g2⟩, g3⟩, g4⟩, g5⟩, g6⟩ := h5
  simp [Cond.before, Cond.holds, Cond.value, h1, h2, h3, h4, g1, g2, g3, g4, g5, g6]
def isCode : Jvm.Cond → Bool
  | .code _ _ _ _ => true
  | _ => false
theorem all_split {L : List Jvm.Cond} {P : Jvm.Cond → Bool} (h1 : L.all (fun c => isCode c || P c) = true) (h2 : ∀ c ∈ L.filter isCode, P c = true) : L.all P = true := by
  refine List.all_eq_true.mpr fun c hc => ?_
  have h := List.all_eq_true.mp h1 c hc
  rcases Bool.eq_false_or_eq_true (isCode c) with hi | hi
  · exact h2 c (List.mem_filter.mpr ⟨hc, hi⟩)
  · simpa [hi] using h
set_option maxRecDepth 65536 in
theorem w_c0 : (Jvm.Cond.code x code maxLocals ret).before args0 about1 = true := code_word (m := ⟨1, 1⟩) (meth := k1m1) (c := k1c1) (by decide +kernel) rfl rfl rfl (by decide +kernel)
set_option maxRecDepth 65536 in
theorem w_c1 : (Jvm.Cond.code ({ cls := "com/example/rendezpoint/rendezpoint/core/NameEqualIgnoringCasePinLaw", name := "textChar", desc := "(JII)C" } : Jvm.MethodName) method_3_code (5 : Nat) (Option.some Jvm.ClassFile.FieldType.char)).before args0 about1 = true := code_word (m := ⟨1, 2⟩) (meth := k1m2) (c := k1c2) (by decide +kernel) rfl rfl rfl (by decide +kernel)
set_option maxRecDepth 65536 in
theorem w_c2 : (Jvm.Cond.code ({ cls := "com/example/rendezpoint/rendezpoint/core/NameEqualIgnoringCasePinLaw", name := "otherChar", desc := "(CJII)C" } : Jvm.MethodName) method_4_code (7 : Nat) (Option.some Jvm.ClassFile.FieldType.char)).before args0 about1 = true := code_word (m := ⟨1, 3⟩) (meth := k1m3) (c := k1c3) (by decide +kernel) rfl rfl rfl (by decide +kernel)
set_option maxRecDepth 65536 in
theorem w_c3 : (Jvm.Cond.code ({ cls := "com/example/rendezpoint/rendezpoint/core/NameEqualIgnoringCasePinLaw", name := "make", desc := "(ICCC)Ljava/lang/String;" } : Jvm.MethodName) method_7_code (4 : Nat) (Option.some (Jvm.ClassFile.FieldType.object "java/lang/String"))).before args0 about1 = true := code_word (m := ⟨1, 6⟩) (meth := k1m6) (c := k1c6) (by decide +kernel) rfl rfl rfl (by decide +kernel)
set_option maxRecDepth 65536 in
theorem w_c4 : (Jvm.Cond.code ({ cls := "java/lang/String", name := "<init>", desc := "([C)V" } : Jvm.MethodName) jdk_42_method_3_code (2 : Nat) (Option.none : Option Jvm.ClassFile.FieldType)).before args0 about1 = true := code_word (m := ⟨7, 1⟩) (meth := k7m1) (c := k7c1) (by decide +kernel) rfl rfl rfl (by decide +kernel)
set_option maxRecDepth 65536 in
theorem w_c5 : (Jvm.Cond.code ({ cls := "java/lang/String", name := "<init>", desc := "([CIILjava/lang/Void;)V" } : Jvm.MethodName) jdk_42_method_149_code (6 : Nat) (Option.none : Option Jvm.ClassFile.FieldType)).before args0 about1 = true := code_word (m := ⟨7, 4⟩) (meth := k7m4) (c := k7c4) (by decide +kernel) rfl rfl rfl (by decide +kernel)
set_option maxRecDepth 65536 in
theorem w_c6 : (Jvm.Cond.code ({ cls := "java/lang/Object", name := "<init>", desc := "()V" } : Jvm.MethodName) object_method_1_code (1 : Nat) (Option.none : Option Jvm.ClassFile.FieldType)).before args0 about1 = true := code_word (m := ⟨0, 0⟩) (meth := k0m0) (c := k0c0) (by decide +kernel) rfl rfl rfl (by decide +kernel)
set_option maxRecDepth 65536 in
theorem w_c7 : (Jvm.Cond.code ({ cls := "com/example/rendezpoint/rendezpoint/core/Name", name := "equalIgnoringCase", desc := "(Ljava/lang/String;Ljava/lang/String;)Z" } : Jvm.MethodName) prog_6_method_4_code (3 : Nat) (Option.some Jvm.ClassFile.FieldType.boolean)).before args0 about1 = true := code_word (m := ⟨8, 0⟩) (meth := k8m0) (c := k8c0) (by decide +kernel) rfl rfl rfl (by decide +kernel)
set_option maxRecDepth 65536 in
theorem w_c8 : (Jvm.Cond.code ({ cls := "java/lang/String", name := "length", desc := "()I" } : Jvm.MethodName) jdk_42_method_54_code (1 : Nat) (Option.some Jvm.ClassFile.FieldType.int)).before args0 about1 = true := code_word (m := ⟨7, 2⟩) (meth := k7m2) (c := k7c2) (by decide +kernel) rfl rfl rfl (by decide +kernel)
set_option maxRecDepth 65536 in
theorem w_c9 : (Jvm.Cond.code ({ cls := "java/lang/String", name := "coder", desc := "()B" } : Jvm.MethodName) jdk_42_method_152_code (1 : Nat) (Option.some Jvm.ClassFile.FieldType.byte)).before args0 about1 = true := code_word (m := ⟨7, 5⟩) (meth := k7m5) (c := k7c5) (by decide +kernel) rfl rfl rfl (by decide +kernel)
set_option maxRecDepth 65536 in
theorem w_c10 : (Jvm.Cond.code ({ cls := "java/lang/StringUTF16", name := "compress", desc := "([CII)[B" } : Jvm.MethodName) jdk_52_method_16_code (6 : Nat) (Option.some (Jvm.ClassFile.FieldType.array Jvm.ClassFile.FieldType.byte))).before args0 about1 = true := code_word (m := ⟨9, 8⟩) (meth := k9m8) (c := k9c8) (by decide +kernel) rfl rfl rfl (by decide +kernel)
set_option maxRecDepth 65536 in
theorem w_c11 : (Jvm.Cond.code ({ cls := "java/lang/StringUTF16", name := "compress", desc := "([CI[BII)I" } : Jvm.MethodName) jdk_52_method_21_code (7 : Nat) (Option.some Jvm.ClassFile.FieldType.int)).before args0 about1 = true := code_word (m := ⟨9, 9⟩) (meth := k9m9) (c := k9c9) (by decide +kernel) rfl rfl rfl (by decide +kernel)
set_option maxRecDepth 65536 in
theorem w_c12 : (Jvm.Cond.code ({ cls := "java/lang/StringUTF16", name := "coderFromArrayLen", desc := "([BI)B" } : Jvm.MethodName) jdk_52_method_15_code (2 : Nat) (Option.some Jvm.ClassFile.FieldType.byte)).before args0 about1 = true := code_word (m := ⟨9, 7⟩) (meth := k9m7) (c := k9c7) (by decide +kernel) rfl rfl rfl (by decide +kernel)
set_option maxRecDepth 65536 in
theorem w_c13 : (Jvm.Cond.code ({ cls := "java/lang/StringUTF16", name := "toBytes", desc := "([CII)[B" } : Jvm.MethodName) jdk_52_method_14_code (5 : Nat) (Option.some (Jvm.ClassFile.FieldType.array Jvm.ClassFile.FieldType.byte))).before args0 about1 = true := code_word (m := ⟨9, 6⟩) (meth := k9m6) (c := k9c6) (by decide +kernel) rfl rfl rfl (by decide +kernel)
set_option maxRecDepth 65536 in
theorem w_c14 : (Jvm.Cond.code ({ cls := "java/lang/StringUTF16", name := "newBytesFor", desc := "(I)[B" } : Jvm.MethodName) jdk_52_method_2_code (1 : Nat) (Option.some (Jvm.ClassFile.FieldType.array Jvm.ClassFile.FieldType.byte))).before args0 about1 = true := code_word (m := ⟨9, 1⟩) (meth := k9m1) (c := k9c1) (by decide +kernel) rfl rfl rfl (by decide +kernel)
set_option maxRecDepth 65536 in
theorem w_c15 : (Jvm.Cond.code ({ cls := "java/lang/StringUTF16", name := "newBytesLength", desc := "(I)I" } : Jvm.MethodName) jdk_52_method_3_code (1 : Nat) (Option.some Jvm.ClassFile.FieldType.int)).before args0 about1 = true := code_word (m := ⟨9, 2⟩) (meth := k9m2) (c := k9c2) (by decide +kernel) rfl rfl rfl (by decide +kernel)
set_option maxRecDepth 65536 in
theorem w_c16 : (Jvm.Cond.code ({ cls := "java/lang/StringUTF16", name := "putChar", desc := "([BII)V" } : Jvm.MethodName) jdk_52_method_4_code (3 : Nat) (Option.none : Option Jvm.ClassFile.FieldType)).before args0 about1 = true := code_word (m := ⟨9, 3⟩) (meth := k9m3) (c := k9c3) (by decide +kernel) rfl rfl rfl (by decide +kernel)
set_option maxRecDepth 65536 in
theorem w_c17 : (Jvm.Cond.code ({ cls := "java/lang/StringUTF16", name := "getChar", desc := "([BI)C" } : Jvm.MethodName) jdk_52_method_5_code (2 : Nat) (Option.some Jvm.ClassFile.FieldType.char)).before args0 about1 = true := code_word (m := ⟨9, 4⟩) (meth := k9m4) (c := k9c4) (by decide +kernel) rfl rfl rfl (by decide +kernel)
set_option maxRecDepth 65536 in
theorem w_c18 : (Jvm.Cond.code ({ cls := "com/example/rendezpoint/rendezpoint/core/NameEqualIgnoringCasePinLaw", name := "match", desc := "(CC)Z" } : Jvm.MethodName) method_6_code (2 : Nat) (Option.some Jvm.ClassFile.FieldType.boolean)).before args0 about1 = true := code_word (m := ⟨1, 5⟩) (meth := k1m5) (c := k1c5) (by decide +kernel) rfl rfl rfl (by decide +kernel)
set_option maxRecDepth 65536 in
theorem w_c19 : (Jvm.Cond.code ({ cls := "com/example/rendezpoint/rendezpoint/core/NameEqualIgnoringCasePinLaw", name := "isUpper", desc := "(C)Z" } : Jvm.MethodName) method_5_code (1 : Nat) (Option.some Jvm.ClassFile.FieldType.boolean)).before args0 about1 = true := code_word (m := ⟨1, 4⟩) (meth := k1m4) (c := k1c4) (by decide +kernel) rfl rfl rfl (by decide +kernel)
set_option maxRecDepth 65536 in
theorem w_c20 : (Jvm.Cond.code ({ cls := "java/lang/String", name := "charAt", desc := "(I)C" } : Jvm.MethodName) jdk_42_method_56_code (2 : Nat) (Option.some Jvm.ClassFile.FieldType.char)).before args0 about1 = true := code_word (m := ⟨7, 3⟩) (meth := k7m3) (c := k7c3) (by decide +kernel) rfl rfl rfl (by decide +kernel)
set_option maxRecDepth 65536 in
theorem w_c21 : (Jvm.Cond.code ({ cls := "java/lang/String", name := "isLatin1", desc := "()Z" } : Jvm.MethodName) jdk_42_method_154_code (1 : Nat) (Option.some Jvm.ClassFile.FieldType.boolean)).before args0 about1 = true := code_word (m := ⟨7, 6⟩) (meth := k7m6) (c := k7c6) (by decide +kernel) rfl rfl rfl (by decide +kernel)
set_option maxRecDepth 65536 in
theorem w_c22 : (Jvm.Cond.code ({ cls := "java/lang/StringUTF16", name := "charAt", desc := "([BI)C" } : Jvm.MethodName) jdk_52_method_83_code (2 : Nat) (Option.some Jvm.ClassFile.FieldType.char)).before args0 about1 = true := code_word (m := ⟨9, 10⟩) (meth := k9m10) (c := k9c10) (by decide +kernel) rfl rfl rfl (by decide +kernel)
set_option maxRecDepth 65536 in
theorem w_c23 : (Jvm.Cond.code ({ cls := "java/lang/StringUTF16", name := "checkIndex", desc := "(I[B)V" } : Jvm.MethodName) jdk_52_method_91_code (2 : Nat) (Option.none : Option Jvm.ClassFile.FieldType)).before args0 about1 = true := code_word (m := ⟨9, 11⟩) (meth := k9m11) (c := k9c11) (by decide +kernel) rfl rfl rfl (by decide +kernel)
set_option maxRecDepth 65536 in
theorem w_c24 : (Jvm.Cond.code ({ cls := "java/lang/StringUTF16", name := "length", desc := "([B)I" } : Jvm.MethodName) jdk_52_method_6_code (1 : Nat) (Option.some Jvm.ClassFile.FieldType.int)).before args0 about1 = true := code_word (m := ⟨9, 5⟩) (meth := k9m5) (c := k9c5) (by decide +kernel) rfl rfl rfl (by decide +kernel)
set_option maxRecDepth 65536 in
theorem w_c25 : (Jvm.Cond.code ({ cls := "java/lang/String", name := "checkIndex", desc := "(II)V" } : Jvm.MethodName) jdk_42_method_155_code (2 : Nat) (Option.none : Option Jvm.ClassFile.FieldType)).before args0 about1 = true := code_word (m := ⟨7, 7⟩) (meth := k7m7) (c := k7c7) (by decide +kernel) rfl rfl rfl (by decide +kernel)
set_option maxRecDepth 65536 in
theorem w_c26 : (Jvm.Cond.code ({ cls := "jdk/internal/util/Preconditions", name := "checkIndex", desc := "(IILjava/util/function/BiFunction;)I" } : Jvm.MethodName) jdk_41_method_11_code (3 : Nat) (Option.some Jvm.ClassFile.FieldType.int)).before args0 about1 = true := code_word (m := ⟨10, 1⟩) (meth := k10m1) (c := k10c1) (by decide +kernel) rfl rfl rfl (by decide +kernel)
set_option maxRecDepth 65536 in
theorem w_c27 : (Jvm.Cond.code ({ cls := "com/example/rendezpoint/rendezpoint/core/Name", name := "lowerCase", desc := "(C)C" } : Jvm.MethodName) prog_6_method_5_code (1 : Nat) (Option.some Jvm.ClassFile.FieldType.char)).before args0 about1 = true := code_word (m := ⟨8, 1⟩) (meth := k8m1) (c := k8c1) (by decide +kernel) rfl rfl rfl (by decide +kernel)
set_option maxRecDepth 65536 in
theorem w_c28 : (Jvm.Cond.code ({ cls := "java/lang/StringLatin1", name := "charAt", desc := "([BI)C" } : Jvm.MethodName) jdk_43_method_2_code (2 : Nat) (Option.some Jvm.ClassFile.FieldType.char)).before args0 about1 = true := code_word (m := ⟨11, 1⟩) (meth := k11m1) (c := k11c1) (by decide +kernel) rfl rfl rfl (by decide +kernel)
def codes1 : List Jvm.Cond := [Jvm.Cond.code x code maxLocals ret, Jvm.Cond.code ({ cls := "com/example/rendezpoint/rendezpoint/core/NameEqualIgnoringCasePinLaw", name := "textChar", desc := "(JII)C" } : Jvm.MethodName) method_3_code (5 : Nat) (Option.some Jvm.ClassFile.FieldType.char), Jvm.Cond.code ({ cls := "com/example/rendezpoint/rendezpoint/core/NameEqualIgnoringCasePinLaw", name := "otherChar", desc := "(CJII)C" } : Jvm.MethodName) method_4_code (7 : Nat) (Option.some Jvm.ClassFile.FieldType.char), Jvm.Cond.code ({ cls := "com/example/rendezpoint/rendezpoint/core/NameEqualIgnoringCasePinLaw", name := "make", desc := "(ICCC)Ljava/lang/String;" } : Jvm.MethodName) method_7_code (4 : Nat) (Option.some (Jvm.ClassFile.FieldType.object "java/lang/String")), Jvm.Cond.code ({ cls := "java/lang/String", name := "<init>", desc := "([C)V" } : Jvm.MethodName) jdk_42_method_3_code (2 : Nat) (Option.none : Option Jvm.ClassFile.FieldType), Jvm.Cond.code ({ cls := "java/lang/String", name := "<init>", desc := "([CIILjava/lang/Void;)V" } : Jvm.MethodName) jdk_42_method_149_code (6 : Nat) (Option.none : Option Jvm.ClassFile.FieldType), Jvm.Cond.code ({ cls := "java/lang/Object", name := "<init>", desc := "()V" } : Jvm.MethodName) object_method_1_code (1 : Nat) (Option.none : Option Jvm.ClassFile.FieldType), Jvm.Cond.code ({ cls := "com/example/rendezpoint/rendezpoint/core/Name", name := "equalIgnoringCase", desc := "(Ljava/lang/String;Ljava/lang/String;)Z" } : Jvm.MethodName) prog_6_method_4_code (3 : Nat) (Option.some Jvm.ClassFile.FieldType.boolean), Jvm.Cond.code ({ cls := "java/lang/String", name := "length", desc := "()I" } : Jvm.MethodName) jdk_42_method_54_code (1 : Nat) (Option.some Jvm.ClassFile.FieldType.int), Jvm.Cond.code ({ cls := "java/lang/String", name := "coder", desc := "()B" } : Jvm.MethodName) jdk_42_method_152_code (1 : Nat) (Option.some Jvm.ClassFile.FieldType.byte), Jvm.Cond.code ({ cls := "java/lang/StringUTF16", name := "compress", desc := "([CII)[B" } : Jvm.MethodName) jdk_52_method_16_code (6 : Nat) (Option.some (Jvm.ClassFile.FieldType.array Jvm.ClassFile.FieldType.byte)), Jvm.Cond.code ({ cls := "java/lang/StringUTF16", name := "compress", desc := "([CI[BII)I" } : Jvm.MethodName) jdk_52_method_21_code (7 : Nat) (Option.some Jvm.ClassFile.FieldType.int), Jvm.Cond.code ({ cls := "java/lang/StringUTF16", name := "coderFromArrayLen", desc := "([BI)B" } : Jvm.MethodName) jdk_52_method_15_code (2 : Nat) (Option.some Jvm.ClassFile.FieldType.byte), Jvm.Cond.code ({ cls := "java/lang/StringUTF16", name := "toBytes", desc := "([CII)[B" } : Jvm.MethodName) jdk_52_method_14_code (5 : Nat) (Option.some (Jvm.ClassFile.FieldType.array Jvm.ClassFile.FieldType.byte)), Jvm.Cond.code ({ cls := "java/lang/StringUTF16", name := "newBytesFor", desc := "(I)[B" } : Jvm.MethodName) jdk_52_method_2_code (1 : Nat) (Option.some (Jvm.ClassFile.FieldType.array Jvm.ClassFile.FieldType.byte)), Jvm.Cond.code ({ cls := "java/lang/StringUTF16", name := "newBytesLength", desc := "(I)I" } : Jvm.MethodName) jdk_52_method_3_code (1 : Nat) (Option.some Jvm.ClassFile.FieldType.int), Jvm.Cond.code ({ cls := "java/lang/StringUTF16", name := "putChar", desc := "([BII)V" } : Jvm.MethodName) jdk_52_method_4_code (3 : Nat) (Option.none : Option Jvm.ClassFile.FieldType), Jvm.Cond.code ({ cls := "java/lang/StringUTF16", name := "getChar", desc := "([BI)C" } : Jvm.MethodName) jdk_52_method_5_code (2 : Nat) (Option.some Jvm.ClassFile.FieldType.char), Jvm.Cond.code ({ cls := "com/example/rendezpoint/rendezpoint/core/NameEqualIgnoringCasePinLaw", name := "match", desc := "(CC)Z" } : Jvm.MethodName) method_6_code (2 : Nat) (Option.some Jvm.ClassFile.FieldType.boolean), Jvm.Cond.code ({ cls := "com/example/rendezpoint/rendezpoint/core/NameEqualIgnoringCasePinLaw", name := "isUpper", desc := "(C)Z" } : Jvm.MethodName) method_5_code (1 : Nat) (Option.some Jvm.ClassFile.FieldType.boolean), Jvm.Cond.code ({ cls := "java/lang/String", name := "charAt", desc := "(I)C" } : Jvm.MethodName) jdk_42_method_56_code (2 : Nat) (Option.some Jvm.ClassFile.FieldType.char), Jvm.Cond.code ({ cls := "java/lang/String", name := "isLatin1", desc := "()Z" } : Jvm.MethodName) jdk_42_method_154_code (1 : Nat) (Option.some Jvm.ClassFile.FieldType.boolean), Jvm.Cond.code ({ cls := "java/lang/StringUTF16", name := "charAt", desc := "([BI)C" } : Jvm.MethodName) jdk_52_method_83_code (2 : Nat) (Option.some Jvm.ClassFile.FieldType.char), Jvm.Cond.code ({ cls := "java/lang/StringUTF16", name := "checkIndex", desc := "(I[B)V" } : Jvm.MethodName) jdk_52_method_91_code (2 : Nat) (Option.none : Option Jvm.ClassFile.FieldType), Jvm.Cond.code ({ cls := "java/lang/StringUTF16", name := "length", desc := "([B)I" } : Jvm.MethodName) jdk_52_method_6_code (1 : Nat) (Option.some Jvm.ClassFile.FieldType.int), Jvm.Cond.code ({ cls := "java/lang/String", name := "checkIndex", desc := "(II)V" } : Jvm.MethodName) jdk_42_method_155_code (2 : Nat) (Option.none : Option Jvm.ClassFile.FieldType), Jvm.Cond.code ({ cls := "jdk/internal/util/Preconditions", name := "checkIndex", desc := "(IILjava/util/function/BiFunction;)I" } : Jvm.MethodName) jdk_41_method_11_code (3 : Nat) (Option.some Jvm.ClassFile.FieldType.int), Jvm.Cond.code ({ cls := "com/example/rendezpoint/rendezpoint/core/Name", name := "lowerCase", desc := "(C)C" } : Jvm.MethodName) prog_6_method_5_code (1 : Nat) (Option.some Jvm.ClassFile.FieldType.char), Jvm.Cond.code ({ cls := "java/lang/StringLatin1", name := "charAt", desc := "([BI)C" } : Jvm.MethodName) jdk_43_method_2_code (2 : Nat) (Option.some Jvm.ClassFile.FieldType.char)]
set_option maxRecDepth 65536 in
theorem codes_eq : words1.filter isCode = codes1 := rfl
theorem w_codes : ∀ c ∈ words1.filter isCode, c.before args0 about1 = true := by
  rw [codes_eq]
  intro c hc
  simp only [codes1, List.mem_cons, List.not_mem_nil, or_false] at hc
  rcases hc with rfl | rfl | rfl | rfl | rfl | rfl | rfl | rfl | rfl | rfl | rfl | rfl | rfl | rfl | rfl | rfl | rfl | rfl | rfl | rfl | rfl | rfl | rfl | rfl | rfl | rfl | rfl | rfl | rfl
  · exact w_c0
  · exact w_c1
  · exact w_c2
  · exact w_c3
  · exact w_c4
  · exact w_c5
  · exact w_c6
  · exact w_c7
  · exact w_c8
  · exact w_c9
  · exact w_c10
  · exact w_c11
  · exact w_c12
  · exact w_c13
  · exact w_c14
  · exact w_c15
  · exact w_c16
  · exact w_c17
  · exact w_c18
  · exact w_c19
  · exact w_c20
  · exact w_c21
  · exact w_c22
  · exact w_c23
  · exact w_c24
  · exact w_c25
  · exact w_c26
  · exact w_c27
  · exact w_c28
set_option maxRecDepth 65536 in
theorem w_t1 : (words1.take 24).all (fun c => isCode c || c.before args0 about1) = true := by decide +kernel
set_option maxRecDepth 65536 in
theorem w_t2 : ((words1.drop 24).take 24).all (fun c => isCode c || c.before args0 about1) = true := by decide +kernel
set_option maxRecDepth 65536 in
theorem w_t3 : (((words1.drop 24).drop 24).take 24).all (fun c => isCode c || c.before args0 about1) = true := by decide +kernel
set_option maxRecDepth 65536 in
theorem w_t4 : ((((words1.drop 24).drop 24).drop 24).take 24).all (fun c => isCode c || c.before args0 about1) = true := by decide +kernel
set_option maxRecDepth 65536 in
theorem w_t5 : ((((words1.drop 24).drop 24).drop 24).drop 24).all (fun c => isCode c || c.before args0 about1) = true := by decide +kernel
theorem w_tables : (allAtoms (Jvm.Cond.code x code maxLocals ret :: tables_1)).before args0 about1 = true := by
  rw [allAtoms_all]
  show words1.all (fun c => c.before args0 about1) = true
  refine all_split ?_ w_codes
  rw [← List.take_append_drop 24 words1, List.all_append, w_t1, ← List.take_append_drop 24 (words1.drop 24), List.all_append, w_t2, ← List.take_append_drop 24 ((words1.drop 24).drop 24), List.all_append, w_t3, ← List.take_append_drop 24 (((words1.drop 24).drop 24).drop 24), List.all_append, w_t4, w_t5]
  rfl
set_option maxRecDepth 65536 in
theorem w_rest : rest_1_c.before args0 about1 = true := by decide +kernel
set_option maxRecDepth 65536 in
theorem w_case : (Jvm.Cond.and given_1 narrow_1).before args0 about1 = true := by decide +kernel
set_option maxRecDepth 65536 in
theorem w_consts : constsHeld consts_1 about1 := Jvm.Lit.constsHeldB_iff.mp (by decide +kernel)
theorem w_applies : (headSpec (Jvm.Cond.code x code maxLocals ret :: tables_1) room_1).applies x e0.platform about1 = true :=
  (Spec.applies_iff w_frames).mpr ⟨w_running, w_runnable, w_alone, w_named, w_hears, w_ripe, w_room, w_tables⟩
theorem atStart : AtStart classFile x code maxLocals ret World_1 tables_1 room_1 Calls_1 rest_1 Pre_1 launch0 p0 e0 about1 theMethod args0 below0 :=
  ⟨lists_1, trivial, launch0.admits_env _ _ _, launch0.least_env, fairChoices_fair.cas, fairChoices_fair.clock, w_frames, w_args, w_heap, w_applies, ⟨w_consts, trivial⟩, w_rest, w_case⟩
end start1
theorem witness_1 : WitnessClaimed_1 := ⟨start1.p0, start1.e0, start1.about1, start1.theMethod, start1.args0, start1.below0, start1.atStart⟩
end Jvm.Pilot.@@N@@
