import JvmDerived
import JvmDerived.Pilot.@@N@@Statement
import JvmDerived.Pilot.@@N@@Code
set_option linter.unusedVariables false
set_option linter.unusedSimpArgs false
namespace Jvm.Pilot.@@N@@
open Jvm Jvm.ClassFile Sem Op Lib Jvm.Free Jvm.Stand Jvm.LawKit Jvm.RoadKit Bundle Jvm.Pilot.@@N@@.Jvm.D
def consts_1 : List (String × Nat) := []
/-! the walk's own layer (wide form): Go = "from here the body returns, and Q"; String constants may be loaded on the way -/
abbrev Cx : Type := Program × Env × State × MethodId × Array Value × List Frame × Method × Code
def Wds (Z : State) : Prop := ∃ a0 : Array Value, (∀ d ∈ tables_1, d.before a0 Z = true) ∧ EW Z a0 consts_1 ∧ ∀ a ∈ Bundle.stringAtoms, a.before a0 Z = true
theorem Wds.w {Z : State} (W : Wds Z) : ∃ a0 : Array Value, ∀ d ∈ tables_1, d.before a0 Z = true := by obtain ⟨a0, h, -⟩ := W; exact ⟨a0, h⟩
def Ok (Z : State) (K : Cx) (own : String) (bytes : ByteArray) (maxL : Nat) (ret : Option FieldType) (nm : String) : Prop :=
  match K with
  | (p, e, s, m, args, below, meth, c) => p.tables.exec = Jvm.exec ∧ c.code = bytes ∧ c.maxLocals = maxL ∧ meth.sig.returnType = ret ∧ s.vm.findClass own = some m.cls ∧ Z.Warmed39 s.vm ∧ meth.name = nm ∧ meth.locks = false ∧ Wds Z
abbrev Sfs (Z : State) (vm : Vm) (h : Heap) (sf : List Addr) : Prop := ∀ x ∈ sf, x < h.size ∧ Safe Z consts_1 vm h x
abbrev Fnl (Z : State) (n0 : Nat) (Q : Option Value → Heap → List Addr → Prop) (v : Option Value) (t : State) (L : List Loc) : Prop := (∃ sn, Q v t.heap sn ∧ Sfs Z t.vm t.heap sn) ∧ Fr n0 L ∧ Old Z n0 t.heap
def Go (l : Launch) (Z : State) (n0 : Nat) (R : Room) (K : Cx) (Q : Option Value → Heap → List Addr → Prop) (h : Heap) (sf : List Addr) (k j : Nat) (pc : Nat) (ls : Array Slot) (st : List Value) : Prop :=
  match K with
  | (p, e, s, m, args, below, meth, c) => ∀ (vm0 : Vm) (k0 : Nat) (T : State) (locs : List Loc), Stand p l e R (s.setVm vm0) m args below meth c T locs k j → T.heap = h → s.Since vm0 k0 → k0 ≤ h.size → CHr Z consts_1 s.vm s.heap vm0 h → Sfs Z vm0 h sf → Fr n0 locs → Old Z n0 h →
      ∃ (s₂ : State) (o : Outcome), Steps p.tables e below (T.setTop (mkF m pc ls st)) s₂ ∧ s₂.status = .running ∧ Ended s₂ below o ∧ ∃ (v : Option Value) (L : List Loc), o = .returned v ∧ Fnl Z n0 Q v s₂ L ∧ CHr Z consts_1 s.vm s.heap s₂.vm s₂.heap ∧ ReturnedEndW s o s₂ L R.cells R.slots
def Ctr (l : Launch) (Z : State) (n0 : Nat) (y : MethodName) (bytes : ByteArray) (maxL : Nat) (ret : Option FieldType) (rm : Room) (as : Array Value) (h : Heap) (sf : List Addr) (Q : Option Value → Heap → List Addr → Prop) : Prop :=
  Old Z n0 h → ∀ ws : List Jvm.Cond, MetFree l y (head1 (Jvm.Cond.code y bytes maxL ret :: ws) rm) (fun a U => a = as ∧ Z.Warmed39 U.vm ∧ U.heap = h ∧ CHv Z consts_1 U.vm h ∧ Sfs Z U.vm h sf) (fun _ _ _ _ _ => True) (fun _ U o U' => ∃ v L, o = .returned v ∧ Fnl Z n0 Q v U' L ∧ CHr Z consts_1 U.vm U.heap U'.vm U'.heap ∧ ReturnedEndW U o U' L rm.cells rm.slots)
section Kit
variable {l : Launch} {Z : State} {n0 : Nat} {R : Room} {K : Cx} {Q : Option Value → Heap → List Addr → Prop} {h : Heap} {sf : List Addr} {k j pc pc' : Nat} {ls : Array Slot} {st : List Value} {own : String} {bytes : ByteArray} {maxL : Nat} {ret : Option FieldType} {nm : String}
theorem Sfs.ext {vm : Vm} {h' : Heap} (E : Ext h h') (H : CHv Z consts_1 vm h) (S : Sfs Z vm h sf) : Sfs Z vm h' sf := fun x q => ⟨Nat.lt_of_lt_of_le (S x q).1 E.1, Safe.ext E H (S x q).2⟩
theorem Sfs.cons {vm : Vm} {a : Addr} (q : a < h.size) (Sa : Safe Z consts_1 vm h a) (S : Sfs Z vm h sf) : Sfs Z vm h (a :: sf) := fun x hx => by
  rcases List.mem_cons.mp hx with rfl | hx
  · exact ⟨q, Sa⟩
  · exact S x hx
theorem Sfs.chr {vm vm' : Vm} {h' : Heap} (A : CHr Z consts_1 vm h vm' h') (S : Sfs Z vm h sf) : Sfs Z vm' h' sf := fun x q => ⟨Nat.lt_of_lt_of_le (S x q).1 A.2.1, A.safe (S x q).1 (S x q).2⟩
theorem Sfs.app {vm : Vm} {sn : List Addr} (S : Sfs Z vm h sn) (S' : Sfs Z vm h sf) : Sfs Z vm h (sn ++ sf) := fun x q => (List.mem_append.mp q).elim (S x) (S' x)
theorem Ctr.of_go {y : MethodName} {rm : Room} {as : Array Value} (W : Wds Z) (hp : plainFor y = true) (hef : ∀ m, entryFrame m as maxL = mkF m 0 ls []) (hgo : ∀ K, Ok Z K y.cls bytes maxL ret y.name → Go l Z n0 rm K Q h sf 0 0 0 ls []) : Ctr l Z n0 y bytes maxL ret rm as h sf Q := fun hO ws => by
  refine MetFree.of_bodySF hp hisR ?_
  intro p e s m args below meth c s₁ Bd hml0 hP hK
  obtain ⟨rfl, hZ, hh, hC, hS⟩ := hP
  have X0 : Stand p l e rm (s.setVm s.vm) m args below meth c s₁ [] 0 0 := Stand.of_body Bd
  have e0 : s₁.heap = h := by rw [← hh, Bd.state]; rfl
  have hnm := (name_of_methodNamed Bd.named Bd.method).1
  have hlk : meth.locks = false := BodyLoose.notSynchronized Bd
  have hS0 : s.Since s.vm 0 := (State.WarmedH.refl s).since _
  obtain ⟨s₂, o, h1, h2⟩ := hgo (p, e, s, m, args, below, meth, c) ⟨Bd.exec, Bd.bytes, hml0, Bd.returns, findClass_of_methodNamed Bd.named, hZ, hnm, hlk, W⟩ s.vm 0 s₁ [] X0 e0 hS0 (Nat.zero_le _) (by rw [hh]; exact CHr.refl hC) hS (Fr.nil n0) hO
  exact ⟨s₂, o, castTop (hef m) h1, h2⟩
theorem Go.of {ls' : Array Slot} {st' : List Value} (H : Ok Z K own bytes maxL ret nm) (step : ∀ (p : Program) (e : Env) (below : List Frame) (T target : State) (m : MethodId) (c : Code), At T m c below → p.tables.exec = Jvm.exec → c.code = bytes → Steps p.tables e below (T.setTop (mkF m pc' ls' st')) target → Steps p.tables e below (T.setTop (mkF m pc ls st)) target) (r : Go l Z n0 R K Q h sf k j pc' ls' st') : Go l Z n0 R K Q h sf k j pc ls st := by
  obtain ⟨p, e, s, m, args, below, meth, c⟩ := K
  intro vm0 k0 T locs X eT hS hk hC hSf hF hO
  obtain ⟨s₂, o, h1, h2⟩ := r vm0 k0 T locs X eT hS hk hC hSf hF hO
  exact ⟨s₂, o, step p e below T s₂ m c X.here H.1 H.2.1 h1, h2⟩
/-- a step that keeps the heap and may warm the tables -/
theorem Go.of2 {st' : List Value} (H : Ok Z K own bytes maxL ret nm) (step : ∀ (p : Program) (e : Env) (s : State) (m : MethodId) (args : Array Value) (below : List Frame) (meth : Method) (c : Code) (T : State) (locs : List Loc) (a0 : Array Value), (∀ d ∈ tables_1, d.before a0 Z = true) → Stand p l e R s m args below meth c T locs k j → p.tables.exec = Jvm.exec → c.code = bytes → c.maxLocals = maxL → Z.Warmed39 s.vm → s.vm.findClass own = some m.cls → T.heap = h → Old Z n0 h →
      ∃ T', Stand p l e R s m args below meth c T' locs k j ∧ T'.heap = h ∧ ∀ target, Steps p.tables e below (T'.setTop (mkF m pc' ls st')) target → Steps p.tables e below (T.setTop (mkF m pc ls st)) target) (r : Go l Z n0 R K Q h sf k j pc' ls st') : Go l Z n0 R K Q h sf k j pc ls st := by
  obtain ⟨p, e, s, m, args, below, meth, c⟩ := K
  intro vm0 k0 T locs X eT hS hk hC hSf hF hO
  obtain ⟨H1, H2, H3, H4, H5, H6, H7, H8, a0, hw, hEL, hat⟩ := H
  obtain ⟨T', X', eT', st⟩ := step p e (s.setVm vm0) m args below meth c T locs a0 hw X H1 H2 H3 (State.Warmed39.trans H6 hS.1) ((hS.1.alike.findClass _ _).trans H5) eT hO
  obtain ⟨s₂, o, h1, h2⟩ := r vm0 k0 T' locs X' eT' hS hk hC hSf hF hO
  exact ⟨s₂, o, st _ h1, h2⟩
/-- a step that makes cells -/
theorem Go.ofNew {st' : List Value} {dk dj : Nat} {P : Addr → Heap → Prop} (H : Ok Z K own bytes maxL ret nm) (step : ∀ (p : Program) (e : Env) (s : State) (m : MethodId) (args : Array Value) (below : List Frame) (meth : Method) (c : Code) (T : State) (locs : List Loc) (a0 : Array Value), (∀ d ∈ tables_1, d.before a0 Z = true) → Stand p l e R s m args below meth c T locs k j → p.tables.exec = Jvm.exec → c.code = bytes → Z.Warmed39 s.vm → s.vm.findClass own = some m.cls → T.heap = h →
      ∃ T' h', Stand p l e R s m args below meth c T' locs (k + dk) (j + dj) ∧ T'.heap = h' ∧ Ext h h' ∧ P h.size h' ∧ ∀ target, Steps p.tables e below (T'.setTop (mkF m pc' ls (.ref h.size :: st'))) target → Steps p.tables e below (T.setTop (mkF m pc ls st)) target)
    (hnew : ∀ a h', P a h' → a < h'.size)
    (r : ∀ (a : Addr) (h' : Heap), a = h.size → n0 ≤ a → Ext h h' → P a h' → Go l Z n0 R K Q h' (a :: sf) (k + dk) (j + dj) pc' ls (.ref a :: st')) : Go l Z n0 R K Q h sf k j pc ls st := by
  obtain ⟨p, e, s, m, args, below, meth, c⟩ := K
  intro vm0 k0 T locs X eT hS hk hC hSf hF hO
  obtain ⟨H1, H2, H3, H4, H5, H6, H7, H8, a0, hw, hEL, hat⟩ := H
  obtain ⟨T', h', X', eT', E, hP, st⟩ := step p e (s.setVm vm0) m args below meth c T locs a0 hw X H1 H2 (State.Warmed39.trans H6 hS.1) ((hS.1.alike.findClass _ _).trans H5) eT
  obtain ⟨s₂, o, h1, h2⟩ := r h.size h' rfl (hO.1 ▸ hO.2.1) E hP vm0 k0 T' locs X' eT' hS (Nat.le_trans hk E.1) (hC.trans (CHr.ext E hC.1)) ((hSf.ext E hC.1).cons (hnew _ _ hP) (Safe.ext E hC.1 (Safe.new (Nat.le_refl _)))) hF (hO.ext E)
  exact ⟨s₂, o, st _ h1, h2⟩
/-- a step that writes one slot of a cell that is new since n0 -/
theorem Go.ofWr {st' : List Value} {a : Addr} {sl : Nat} {v : Value} (H : Ok Z K own bytes maxL ret nm) (ha : n0 ≤ a) (hs : a ∈ sf) (step : ∀ (p : Program) (e : Env) (s : State) (m : MethodId) (args : Array Value) (below : List Frame) (meth : Method) (c : Code) (T : State) (locs : List Loc) (a0 : Array Value), (∀ d ∈ tables_1, d.before a0 Z = true) → Stand p l e R s m args below meth c T locs k j → p.tables.exec = Jvm.exec → c.code = bytes → Z.Warmed39 s.vm → s.vm.findClass own = some m.cls → meth.name = nm → T.heap = h →
      ∃ T' h', Stand p l e R s m args below meth c T' (locs ++ [⟨a, sl⟩]) k j ∧ T'.heap = h' ∧ Wr h h' a sl v ∧ ∀ target, Steps p.tables e below (T'.setTop (mkF m pc' ls st')) target → Steps p.tables e below (T.setTop (mkF m pc ls st)) target)
    (r : ∀ (h' : Heap), Wr h h' a sl v → Go l Z n0 R K Q h' sf k j pc' ls st') : Go l Z n0 R K Q h sf k j pc ls st := by
  obtain ⟨p, e, s, m, args, below, meth, c⟩ := K
  intro vm0 k0 T locs X eT hS hk hC hSf hF hO
  obtain ⟨H1, H2, H3, H4, H5, H6, H7, H8, a0, hw, hEL, hat⟩ := H
  obtain ⟨T', h', X', eT', W, st⟩ := step p e (s.setVm vm0) m args below meth c T locs a0 hw X H1 H2 (State.Warmed39.trans H6 hS.1) ((hS.1.alike.findClass _ _).trans H5) H7 eT
  have hsz := W.size
  obtain ⟨s₂, o, h1, h2⟩ := r h' W vm0 k0 T' _ X' eT' hS (by rw [hsz]; exact hk) (hC.trans (CHr.wr W (hSf a hs).2 hC.1)) (fun x q => ⟨by rw [hsz]; exact (hSf x q).1, Safe.wr W (hSf a hs).2 hC.1 (hSf x q).2⟩) (Fr.snoc X' hF ha) (hO.wr W ha)
  exact ⟨s₂, o, st _ h1, h2⟩
/-- a step that may write any slots of one cell that is new since n0 -/
theorem Go.ofKeep {st' : List Value} {b : Addr} {P : Heap → Prop} (H : Ok Z K own bytes maxL ret nm) (ha : n0 ≤ b) (hs : b ∈ sf) (step : ∀ (p : Program) (e : Env) (s : State) (m : MethodId) (args : Array Value) (below : List Frame) (meth : Method) (c : Code) (T : State) (locs : List Loc) (a0 : Array Value), (∀ d ∈ tables_1, d.before a0 Z = true) → Stand p l e R s m args below meth c T locs k j → p.tables.exec = Jvm.exec → c.code = bytes → c.maxLocals = maxL → Z.Warmed39 s.vm → s.vm.findClass own = some m.cls → T.heap = h → Fr n0 locs →
      ∃ T' h' L, Stand p l e R s m args below meth c T' L k j ∧ T'.heap = h' ∧ Fr n0 L ∧ Keep h h' [b] ∧ P h' ∧ ∀ target, Steps p.tables e below (T'.setTop (mkF m pc' ls st')) target → Steps p.tables e below (T.setTop (mkF m pc ls st)) target)
    (r : ∀ (h' : Heap), Keep h h' [b] → P h' → Go l Z n0 R K Q h' sf k j pc' ls st') : Go l Z n0 R K Q h sf k j pc ls st := by
  obtain ⟨p, e, s, m, args, below, meth, c⟩ := K
  intro vm0 k0 T locs X eT hS hk hC hSf hF hO
  obtain ⟨H1, H2, H3, H4, H5, H6, H7, H8, a0, hw, hEL, hat⟩ := H
  obtain ⟨T', h', L, X', eT', hL, hK, hP, st⟩ := step p e (s.setVm vm0) m args below meth c T locs a0 hw X H1 H2 H3 (State.Warmed39.trans H6 hS.1) ((hS.1.alike.findClass _ _).trans H5) eT hF
  have hsafe : ∀ x ∈ [b], Safe Z consts_1 vm0 h x := allS (hSf b hs).2 all0
  obtain ⟨s₂, o, h1, h2⟩ := r h' hK hP vm0 k0 T' L X' eT' hS (Nat.le_trans hk hK.1) (hC.trans (CHr.keep hK hsafe hC.1)) (fun x q => ⟨Nat.lt_of_lt_of_le (hSf x q).1 hK.1, Safe.keep hK hsafe hC.1 (hSf x q).2⟩) hL (hO.keep hK (allS ha all0))
  exact ⟨s₂, o, st _ h1, h2⟩
theorem Ctr.backS {p : Program} {e : Env} {s : State} {args : Array Value} {below : List Frame} {vm0 : Vm} {a0 : Array Value} {y : MethodName} {ybytes : ByteArray} {ymaxL : Nat} {yret : Option FieldType} {rm : Room} {as : Array Value} {Qc : Option Value → Heap → List Addr → Prop} {sfc : List Addr} {W : Nat} (ct : Ctr l Z n0 y ybytes ymaxL yret rm as h sfc Qc) (hO : Old Z n0 h)
    (hZ : Z.Warmed39 vm0) (hEL : EW Z a0 consts_1) (hC : CHv Z consts_1 vm0 h) (hSf : Sfs Z vm0 h sfc) (wc : (Jvm.Cond.code y ybytes ymaxL yret).before a0 Z = true) (wz : (Jvm.Cond.initialized y.cls).before a0 Z = true) (hfr : rm.frames + 1 ≤ R.frames) (hlo : W + (ymaxL + 11) + rm.locals ≤ R.locals) :
    BackS l R p e below (s.setVm vm0) args y 3 W (fun A a => a = as ∧ A.U.heap = h ∧ A.cells + rm.cells ≤ R.cells ∧ A.slots + rm.slots ≤ R.slots)
      (fun A _ v B => ∃ L, Fnl Z n0 Qc v B.U L ∧ B.locs = A.locs ++ L ∧ B.cells = A.cells + rm.cells ∧ B.slots = A.slots + rm.slots ∧ CHr Z consts_1 vm0 h B.U.vm B.U.heap) := by
  refine BackS.of_freeW (bytes := ybytes) (maxL := ymaxL) (ret := yret) (E := fun _ U o t L k n => (k = rm.cells ∧ n = rm.slots) ∧ (∃ v, o = .returned v ∧ Fnl Z n0 Qc v t L) ∧ CHr Z consts_1 U.vm U.heap t.vm t.heap) (ct hO []) hfr hlo ?_ ?_ (fun _ _ _ _ _ _ _ _ _ => trivial) ?_ ?_
  · intro m meth c A a Y hp
    have hU : Z.Warmed39 A.U.vm := wtrans (s := s.setVm vm0) hZ Y.warmed
    exact ⟨by show (Jvm.Cond.and _ .tt).before a A.U = true; rw [Cond.before_and, mv hU wc]; rfl, mv hU wc, mv hU wz, hp.2.2.1, hp.2.2.2⟩
  · intro m meth c A a g mk Y hp
    have q := CHv.at Y hZ hEL hC
    exact ⟨hp.1, wtrans (s := s.setVm vm0) hZ Y.warmed, hp.2.1, q.1, hSf.chr q⟩
  · rintro a U o t ⟨v, L, h1, h2, h3, h4⟩
    exact ⟨L, _, _, h4, ⟨rfl, rfl⟩, ⟨v, h1, h2⟩, h3⟩
  · rintro m meth c A a g mk v t L k n Y hp - - ⟨⟨rfl, rfl⟩, ⟨v', e3, e4⟩, e5⟩
    cases e3
    refine ⟨L, e4, rfl, rfl, rfl, (CHv.at Y hZ hEL hC).trans ?_⟩
    rw [← hp.2.1]; exact e5
/-- a call, by whatever law of calls -/
theorem Go.ofCall {y : MethodName} {ybytes : ByteArray} {ymaxL : Nat} {yret : Option FieldType} {rm : Room} {as : Array Value} {Qc : Option Value → Heap → List Addr → Prop} {sfc : List Addr} {rest : List Value} {W : Nat} (H : Ok Z K own bytes maxL ret nm) (ct : Ctr l Z n0 y ybytes ymaxL yret rm as h sfc Qc) (hsf : ∀ x ∈ sfc, x ∈ sf)
    (hc : Jvm.Cond.code y ybytes ymaxL yret ∈ tables_1) (hi : Jvm.Cond.initialized y.cls ∈ tables_1) (hfr : rm.frames + 1 ≤ R.frames) (hlo : W + (ymaxL + 11) + rm.locals ≤ R.locals) (hce : k + rm.cells ≤ R.cells) (hsl : j + rm.slots ≤ R.slots)
    (law : ∀ (p : Program) (e : Env) (s : State) (m : MethodId) (args : Array Value) (below : List Frame) (meth : Method) (c : Code) (T : State) (locs : List Loc) (a0 : Array Value), (∀ d ∈ tables_1, d.before a0 Z = true) → Stand p l e R s m args below meth c T locs k j → p.tables.exec = Jvm.exec → c.code = bytes → c.maxLocals = maxL → Z.Warmed39 s.vm → s.vm.findClass own = some m.cls → T.heap = h →
      ∀ (Pre : Pt → Array Value → Prop) (Post : Pt → Array Value → Option Value → Pt → Prop), BackS l R p e below s args y 3 W Pre Post → (∀ vm₁, s.WarmedH vm₁ → Pre ⟨T.setVm vm₁, locs, k, j⟩ as) →
      ∃ (v : Option Value) (vm₁ : Vm) (B : Pt), Stand p l e R (s.setVm B.U.vm) m args below meth c B.U B.locs B.cells B.slots ∧ s.Since B.U.vm B.U.heap.size ∧ T.heap.size ≤ B.U.heap.size ∧ Post ⟨T.setVm vm₁, locs, k, j⟩ as v B ∧ ∀ target, Steps p.tables e below (B.U.setTop (mkF m pc' ls (v.toList ++ rest))) target → Steps p.tables e below (T.setTop (mkF m pc ls st)) target)
    (r : ∀ (v : Option Value) (h' : Heap) (sn : List Addr), Qc v h' sn → Go l Z n0 R K Q h' (sn ++ sf) (k + rm.cells) (j + rm.slots) pc' ls (v.toList ++ rest)) : Go l Z n0 R K Q h sf k j pc ls st := by
  obtain ⟨p, e, s, m, args, below, meth, c⟩ := K
  intro vm0 k0 T locs X eT hS hk hC hSf hF hO
  obtain ⟨H1, H2, H3, H4, H5, H6, H7, H8, a0, hw, hEL, hat⟩ := H
  have hZ0 : Z.Warmed39 (s.setVm vm0).vm := State.Warmed39.trans H6 hS.1
  have hown0 : (s.setVm vm0).vm.findClass own = some m.cls := (hS.1.alike.findClass _ _).trans H5
  have hB := Ctr.backS (p := p) (e := e) (s := s) (args := args) (below := below) (R := R) (W := W) (vm0 := vm0) ct hO hZ0 hEL hC.1 (fun x q => hSf x (hsf x q)) (hw _ hc) (hw _ hi) hfr hlo
  obtain ⟨v, vm₁, B, X', hS2, hgr, ⟨L, ⟨⟨sn, hq, hsn⟩, hFL, hO'⟩, e1, e2, e3, e4⟩, stp⟩ := law p e (s.setVm vm0) m args below meth c T locs a0 hw X H1 H2 H3 hZ0 hown0 eT _ _ hB (fun vm₁ _ => ⟨rfl, eT, hce, hsl⟩)
  obtain ⟨U, Lc, kc, jc⟩ := B
  dsimp only [Pt.U, Pt.locs, Pt.cells, Pt.slots] at X' hS2 hgr hq hsn hO' e1 e2 e3 e4 stp
  subst e1 e2 e3
  rw [eT] at hgr
  obtain ⟨X2, hS3, -, -⟩ := rebS hS hk X' hS2 hgr hZ0 hown0
  obtain ⟨s₂, o, h1, h2⟩ := r v _ sn hq U.vm _ U _ X2 rfl hS3 (Nat.le_refl _) (hC.trans e4) (hsn.app (hSf.chr e4)) (hF.app hFL) hO'
  exact ⟨s₂, o, stp _ h1, h2⟩
theorem Go.callS {y : MethodName} {ybytes : ByteArray} {ymaxL : Nat} {yret : Option FieldType} {rm : Room} {Qc : Option Value → Heap → List Addr → Prop} {sfc : List Addr} {rest : List Value} (W : Nat) {idx : Nat} (argsL : List Value) {ps : List FieldType} {rt : Option FieldType} (H : Ok Z K own bytes maxL ret nm) (d : decode bytes pc = .ok (.invokestatic idx, 3)) (hp : pc + 3 = pc')
    (hl : Jvm.Cond.methodLink own idx y ∈ tables_1) (hst : Jvm.Cond.static y ∈ tables_1) (hi : Jvm.Cond.initialized y.cls ∈ tables_1) (hc : Jvm.Cond.code y ybytes ymaxL yret ∈ tables_1) (hpd : parseMethodDescriptor y.desc = some ⟨ps, rt⟩)
    (ct : Ctr l Z n0 y ybytes ymaxL yret rm argsL.toArray h sfc Qc) (hsf : ∀ x ∈ sfc, x ∈ sf) (hlen : argsL.length = ps.length) (hsz : ls.size = maxL) (hstk : st = argsL.reverse ++ rest) (hW : (rest.map fun v => v.category).sum ≤ W)
    (hfr : rm.frames + 1 ≤ R.frames) (hlo : W + (ymaxL + 11) + rm.locals ≤ R.locals) (hce : k + rm.cells ≤ R.cells) (hsl : j + rm.slots ≤ R.slots) (hy : y.cls ≠ "java/lang/invoke/MethodHandle" ∧ y.cls ≠ "java/lang/invoke/VarHandle")
    (r : ∀ (v : Option Value) (h' : Heap) (sn : List Addr), Qc v h' sn → Go l Z n0 R K Q h' (sn ++ sf) (k + rm.cells) (j + rm.slots) pc' ls (v.toList ++ rest)) : Go l Z n0 R K Q h sf k j pc ls st := by
  subst hp
  refine Go.ofCall (W := W) (rest := rest) H ct hsf hc hi hfr hlo hce hsl ?_ r
  intro p e s m args below meth c T locs a0 hw X hx hby hml hZ hown eT Pre Post hB hpre
  obtain ⟨v, vm₁, B, -, X', hS2, hgr, hpost, stp⟩ := Jvm.RoadKit.callSS X hx (y := y) hown (mvT hZ (hw _ hl)) (mvT hZ (hw _ hst)) (mvT hZ (hw _ hi)) (mvT hZ (hw _ hc)) hy hB (g := mkF m pc ls st) rfl (by rw [hml]; exact hsz) (argsL := argsL) (rest := rest) (lenOf hpd hlen) hstk (by show 2 * 0 + _ ≤ _; simpa using hW) (hb hby d) hpre
  exact ⟨v, vm₁, B, X', hS2, hgr, hpost, fun t ht => stp.trans ht⟩
theorem Go.callI {y : MethodName} {ybytes : ByteArray} {ymaxL : Nat} {rm : Room} {Qc : Option Value → Heap → List Addr → Prop} {sfc : List Addr} {rest : List Value} (W : Nat) {idx : Nat} {a : Addr} (argsL : List Value) {ps : List FieldType} {rt : Option FieldType} (H : Ok Z K own bytes maxL ret nm) (d : decode bytes pc = .ok (.invokespecial idx, 3)) (hp : pc + 3 = pc') (hy1 : y.name = "<init>")
    (hl : Jvm.Cond.methodLink own idx y ∈ tables_1) (hst : Jvm.Cond.instanceMethod y ∈ tables_1) (hi : Jvm.Cond.initialized y.cls ∈ tables_1) (hc : Jvm.Cond.code y ybytes ymaxL none ∈ tables_1) (hpd : parseMethodDescriptor y.desc = some ⟨ps, rt⟩)
    (ct : Ctr l Z n0 y ybytes ymaxL none rm (.ref a :: argsL).toArray h sfc Qc) (hsf : ∀ x ∈ sfc, x ∈ sf) (hlen : argsL.length = ps.length) (hsz : ls.size = maxL) (hstk : st = argsL.reverse ++ .ref a :: rest) (hW : (rest.map fun v => v.category).sum ≤ W)
    (hfr : rm.frames + 1 ≤ R.frames) (hlo : W + (ymaxL + 11) + rm.locals ≤ R.locals) (hce : k + rm.cells ≤ R.cells) (hsl : j + rm.slots ≤ R.slots) (hy : y.cls ≠ "java/lang/invoke/MethodHandle" ∧ y.cls ≠ "java/lang/invoke/VarHandle")
    (r : ∀ (v : Option Value) (h' : Heap) (sn : List Addr), Qc v h' sn → Go l Z n0 R K Q h' (sn ++ sf) (k + rm.cells) (j + rm.slots) pc' ls (v.toList ++ rest)) : Go l Z n0 R K Q h sf k j pc ls st := by
  subst hp
  refine Go.ofCall (W := W) (rest := rest) H ct hsf hc hi hfr hlo hce hsl ?_ r
  intro p e s m args below meth c T locs a0 hw X hx hby hml hZ hown eT Pre Post hB hpre
  obtain ⟨v, vm₁, B, -, X', hS2, hgr, hpost, stp⟩ := X.specialBackS hx (y := y) hy1 hown (mvT hZ (hw _ hl)) (mvT hZ (hw _ hst)) (mvT hZ (hw _ hc)) hy hB (g := mkF m pc ls st) rfl (by rw [hml]; exact hsz) (Steps.refl _) (a := a) (argsL := argsL) (rest := rest) (lenOf hpd hlen) hstk (by show 2 * 0 + _ ≤ _; simpa using hW) (hb hby d) hpre
  exact ⟨v, vm₁, B, X', hS2, hgr, hpost, fun t ht => stp.trans ht⟩
theorem Go.callV {y : MethodName} {C : String} {ybytes : ByteArray} {ymaxL : Nat} {yret : Option FieldType} {rm : Room} {Qc : Option Value → Heap → List Addr → Prop} {sfc : List Addr} {rest : List Value} (W : Nat) {idx : Nat} {a : Addr} (argsL : List Value) {ps : List FieldType} {rt : Option FieldType} (H : Ok Z K own bytes maxL ret nm) (d : decode bytes pc = .ok (.invokevirtual idx, 3)) (hp : pc + 3 = pc') (E : Exa Z h a C)
    (hl : Jvm.Cond.methodLink own idx y ∈ tables_1) (hde : Jvm.Cond.declares y ∈ tables_1) (hse : Jvm.Cond.selects C y y ∈ tables_1) (hst : Jvm.Cond.instanceMethod y ∈ tables_1) (hi : Jvm.Cond.initialized y.cls ∈ tables_1) (hc : Jvm.Cond.code y ybytes ymaxL yret ∈ tables_1) (hpd : parseMethodDescriptor y.desc = some ⟨ps, rt⟩)
    (ct : Ctr l Z n0 y ybytes ymaxL yret rm (.ref a :: argsL).toArray h sfc Qc) (hsf : ∀ x ∈ sfc, x ∈ sf) (hlen : argsL.length = ps.length) (hsz : ls.size = maxL) (hstk : st = argsL.reverse ++ .ref a :: rest) (hW : (rest.map fun v => v.category).sum ≤ W)
    (hfr : rm.frames + 1 ≤ R.frames) (hlo : W + (ymaxL + 11) + rm.locals ≤ R.locals) (hce : k + rm.cells ≤ R.cells) (hsl : j + rm.slots ≤ R.slots) (hy : y.cls ≠ "java/lang/invoke/MethodHandle" ∧ y.cls ≠ "java/lang/invoke/VarHandle")
    (r : ∀ (v : Option Value) (h' : Heap) (sn : List Addr), Qc v h' sn → Go l Z n0 R K Q h' (sn ++ sf) (k + rm.cells) (j + rm.slots) pc' ls (v.toList ++ rest)) : Go l Z n0 R K Q h sf k j pc ls st := by
  subst hp
  refine Go.ofCall (W := W) (rest := rest) H ct hsf hc hi hfr hlo hce hsl ?_ r
  intro p e s m args below meth c T locs a0 hw X hx hby hml hZ hown eT Pre Post hB hpre
  obtain ⟨cq, kq, qa, qb, qc⟩ := isOf hZ eT E
  obtain ⟨v, vm₁, B, -, X', hS2, hgr, hpost, stp⟩ := X.virtualBackS hx (y := y) (z := y) hown (mvT hZ (hw _ hl)) (mvT hZ (hw _ hde)) (notFace_of_selects (args := #[]) (mvT hZ (hw _ hse))) (mvT hZ (hw _ hse)) (mvT hZ (hw _ hst)) hy hB qa qc (g := mkF m pc ls st) rfl (by rw [hml]; exact hsz) (Steps.refl _) (argsL := argsL) (rest := rest) (lenOf hpd hlen) hstk (by show 2 * 0 + _ ≤ _; simpa using hW) (hb hby d) hpre
  exact ⟨v, vm₁, B, X', hS2, hgr, hpost, fun t ht => stp.trans ht⟩
theorem Go.ret0 {sn : List Addr} {v : Option Value} (H : Ok Z K own bytes maxL ret nm) (hv : ret = none → v = none) (hq : Q v h sn) (hs : ∀ x ∈ sn, x ∈ sf) (hk : k ≤ R.cells) (hj : j ≤ R.slots)
    (step : ∀ (p : Program) (e : Env) (s : State) (m : MethodId) (args : Array Value) (below : List Frame) (meth : Method) (c : Code) (T : State) (locs : List Loc) (fs : List Frame), Stand p l e R s m args below meth c T locs k j → p.tables.exec = Jvm.exec → c.code = bytes → meth.sig.returnType = ret →
      (∀ (f : JFrame) (acts : List Action), f.method = m → f.locked = none → f.entered = [] → (doReturn e (T.setTop f) acts v).1 = T.setFrames fs) → Steps p.tables e below (T.setTop (mkF m pc ls st)) (T.setFrames fs)) : Go l Z n0 R K Q h sf k j pc ls st := by
  obtain ⟨p, e, s, m, args, below, meth, c⟩ := K
  intro vm0 k0 T locs X eT hS hk0 hC hSf hF hO
  obtain ⟨H1, H2, H3, H4, H5, H6, H7, H8, a0, hw, hEL, hat⟩ := H
  have hZ0 : Z.Warmed39 vm0 := State.Warmed39.trans H6 hS.1
  obtain ⟨fs, hr, hrun, hended, g1, g2, g3, g4⟩ := X.leaveW hS (by rw [eT]; exact hk0) (v := v) (fun q => hv (H4.symm.trans q)) H8
  have q := CHv.at X hZ0 hEL hC.1
  have hCe : CHr Z consts_1 s.vm s.heap T.vm T.heap := by rw [eT]; exact hC.trans q
  refine ⟨_, _, step p e (s.setVm vm0) m args below meth c T locs fs X H1 H2 H4 hr, hrun, hended, v, locs, rfl, ⟨⟨sn, ?_, ?_⟩, hF, ?_⟩, hCe, ⟨g1, g2, g3, g4.mono hk hj⟩⟩
  · show Q v T.heap sn
    rw [eT]; exact hq
  · show Sfs Z T.vm T.heap sn
    rw [eT]; exact Sfs.chr q (fun x hx => hSf x (hs x hx))
  · show Old Z n0 T.heap
    rw [eT]; exact hO
end Kit
section Steps1
variable {l : Launch} {Z : State} {n0 : Nat} {R : Room} {K : Cx} {Q : Option Value → Heap → List Addr → Prop} {h : Heap} {sf : List Addr} {k j pc pc' : Nat} {ls ls' : Array Slot} {st : List Value} {own : String} {bytes : ByteArray} {maxL : Nat} {ret : Option FieldType} {nm : String}
theorem Go.aload {i : Nat} {v : Value} (H : Ok Z K own bytes maxL ret nm) (d : decode bytes pc = .ok (.aload i, 2)) (hp : pc + 2 = pc') (hl : ls[i]? = some (.val v)) (hv : v.isRef = true) (r : Go l Z n0 R K Q h sf k j pc' ls (v :: st)) : Go l Z n0 R K Q h sf k j pc ls st := by
  subst hp
  exact Go.of H (fun p e below T t m c hA hx hby hr => XS.aload hA hx rfl (hb hby d) hl hv hr) r
theorem Go.aloadN {i : Fin 4} {v : Value} (H : Ok Z K own bytes maxL ret nm) (d : decode bytes pc = .ok (.aload_n i, 1)) (hp : pc + 1 = pc') (hl : ls[i.val]? = some (.val v)) (hv : v.isRef = true) (r : Go l Z n0 R K Q h sf k j pc' ls (v :: st)) : Go l Z n0 R K Q h sf k j pc ls st := by
  subst hp
  exact Go.of H (fun p e below T t m c hA hx hby hr => XS.aloadN hA hx rfl (hb hby d) hl hv hr) r
theorem Go.iload {i : Nat} {v : Int32} (H : Ok Z K own bytes maxL ret nm) (d : decode bytes pc = .ok (.iload i, 2)) (hp : pc + 2 = pc') (hl : ls[i]? = some (.val (.int v))) (r : Go l Z n0 R K Q h sf k j pc' ls (.int v :: st)) : Go l Z n0 R K Q h sf k j pc ls st := by
  subst hp
  exact Go.of H (fun p e below T t m c hA hx hby hr => XS.iload hA hx rfl (hb hby d) hl hr) r
theorem Go.iloadN {i : Fin 4} {v : Int32} (H : Ok Z K own bytes maxL ret nm) (d : decode bytes pc = .ok (.iload_n i, 1)) (hp : pc + 1 = pc') (hl : ls[i.val]? = some (.val (.int v))) (r : Go l Z n0 R K Q h sf k j pc' ls (.int v :: st)) : Go l Z n0 R K Q h sf k j pc ls st := by
  subst hp
  exact Go.of H (fun p e below T t m c hA hx hby hr => XS.iloadN hA hx rfl (hb hby d) hl hr) r
theorem Go.lload {i : Nat} {v : Int64} (H : Ok Z K own bytes maxL ret nm) (d : decode bytes pc = .ok (.lload i, 2)) (hp : pc + 2 = pc') (hl : ls[i]? = some (.val (.long v))) (r : Go l Z n0 R K Q h sf k j pc' ls (.long v :: st)) : Go l Z n0 R K Q h sf k j pc ls st := by
  subst hp
  exact Go.of H (fun p e below T t m c hA hx hby hr => XS.lload hA hx rfl (hb hby d) hl hr) r
theorem Go.lloadN {i : Fin 4} {v : Int64} (H : Ok Z K own bytes maxL ret nm) (d : decode bytes pc = .ok (.lload_n i, 1)) (hp : pc + 1 = pc') (hl : ls[i.val]? = some (.val (.long v))) (r : Go l Z n0 R K Q h sf k j pc' ls (.long v :: st)) : Go l Z n0 R K Q h sf k j pc ls st := by
  subst hp
  exact Go.of H (fun p e below T t m c hA hx hby hr => XS.lloadN hA hx rfl (hb hby d) hl hr) r
theorem Go.istore {i : Nat} {x : Int32} (H : Ok Z K own bytes maxL ret nm) (d : decode bytes pc = .ok (.istore i, 2)) (hp : pc + 2 = pc') (hl : storeLocals ls i (.int x) = some ls') (r : Go l Z n0 R K Q h sf k j pc' ls' st) : Go l Z n0 R K Q h sf k j pc ls (.int x :: st) := by
  subst hp
  exact Go.of H (fun p e below T t m c hA hx hby hr => XS.istore hA hx rfl (hb hby d) rfl hl hr) r
theorem Go.istoreN {i : Fin 4} {x : Int32} (H : Ok Z K own bytes maxL ret nm) (d : decode bytes pc = .ok (.istore_n i, 1)) (hp : pc + 1 = pc') (hl : storeLocals ls i.val (.int x) = some ls') (r : Go l Z n0 R K Q h sf k j pc' ls' st) : Go l Z n0 R K Q h sf k j pc ls (.int x :: st) := by
  subst hp
  exact Go.of H (fun p e below T t m c hA hx hby hr => XS.istoreN hA hx rfl (hb hby d) rfl hl hr) r
theorem Go.lstore {i : Nat} {x : Int64} (H : Ok Z K own bytes maxL ret nm) (d : decode bytes pc = .ok (.lstore i, 2)) (hp : pc + 2 = pc') (hl : storeLocals ls i (.long x) = some ls') (r : Go l Z n0 R K Q h sf k j pc' ls' st) : Go l Z n0 R K Q h sf k j pc ls (.long x :: st) := by
  subst hp
  exact Go.of H (fun p e below T t m c hA hx hby hr => XS.lstore hA hx rfl (hb hby d) rfl hl hr) r
theorem Go.lstoreN {i : Fin 4} {x : Int64} (H : Ok Z K own bytes maxL ret nm) (d : decode bytes pc = .ok (.lstore_n i, 1)) (hp : pc + 1 = pc') (hl : storeLocals ls i.val (.long x) = some ls') (r : Go l Z n0 R K Q h sf k j pc' ls' st) : Go l Z n0 R K Q h sf k j pc ls (.long x :: st) := by
  subst hp
  exact Go.of H (fun p e below T t m c hA hx hby hr => XS.lstoreN hA hx rfl (hb hby d) rfl hl hr) r
theorem Go.astore {i : Nat} {x : Value} (H : Ok Z K own bytes maxL ret nm) (d : decode bytes pc = .ok (.astore i, 2)) (hp : pc + 2 = pc') (hv : x.isRef = true) (hl : storeLocals ls i x = some ls') (r : Go l Z n0 R K Q h sf k j pc' ls' st) : Go l Z n0 R K Q h sf k j pc ls (x :: st) := by
  subst hp
  exact Go.of H (fun p e below T t m c hA hx hby hr => XS.astore hA hx rfl (hb hby d) rfl hv hl hr) r
theorem Go.astoreN {i : Fin 4} {x : Value} (H : Ok Z K own bytes maxL ret nm) (d : decode bytes pc = .ok (.astore_n i, 1)) (hp : pc + 1 = pc') (hv : x.isRef = true) (hl : storeLocals ls i.val x = some ls') (r : Go l Z n0 R K Q h sf k j pc' ls' st) : Go l Z n0 R K Q h sf k j pc ls (x :: st) := by
  subst hp
  exact Go.of H (fun p e below T t m c hA hx hby hr => XS.astoreN hA hx rfl (hb hby d) rfl hv hl hr) r
theorem Go.iconst {i : Int} (v : Int32) (H : Ok Z K own bytes maxL ret nm) (d : decode bytes pc = .ok (.iconst i, 1)) (hp : pc + 1 = pc') (hv : Int32.ofInt i = v) (r : Go l Z n0 R K Q h sf k j pc' ls (.int v :: st)) : Go l Z n0 R K Q h sf k j pc ls st := by
  subst hp
  exact Go.of H (fun p e below T t m c hA hx hby hr => XS.iconst hA hx rfl (hb hby d) (hv ▸ hr)) r
theorem Go.bipush {i : Int} (v : Int32) (H : Ok Z K own bytes maxL ret nm) (d : decode bytes pc = .ok (.bipush i, 2)) (hp : pc + 2 = pc') (hv : (Int8.ofInt i).toInt32 = v) (r : Go l Z n0 R K Q h sf k j pc' ls (.int v :: st)) : Go l Z n0 R K Q h sf k j pc ls st := by
  subst hp
  exact Go.of H (fun p e below T t m c hA hx hby hr => XS.bipush hA hx rfl (hb hby d) (hv ▸ hr)) r
theorem Go.sipush {i : Int} (v : Int32) (H : Ok Z K own bytes maxL ret nm) (d : decode bytes pc = .ok (.sipush i, 3)) (hp : pc + 3 = pc') (hv : (Int16.ofInt i).toInt32 = v) (r : Go l Z n0 R K Q h sf k j pc' ls (.int v :: st)) : Go l Z n0 R K Q h sf k j pc ls st := by
  subst hp
  exact Go.of H (fun p e below T t m c hA hx hby hr => XS.sipush hA hx rfl (hb hby d) (hv ▸ hr)) r
theorem Go.lconst {i : Fin 2} (v : Int64) (H : Ok Z K own bytes maxL ret nm) (d : decode bytes pc = .ok (.lconst i, 1)) (hp : pc + 1 = pc') (hv : Int64.ofNat i.val = v) (r : Go l Z n0 R K Q h sf k j pc' ls (.long v :: st)) : Go l Z n0 R K Q h sf k j pc ls st := by
  subst hp
  exact Go.of H (fun p e below T t m c hA hx hby hr => XS.lconst hA hx rfl (hb hby d) (hv ▸ hr)) r
theorem Go.aconstNull  (H : Ok Z K own bytes maxL ret nm) (d : decode bytes pc = .ok (.aconst_null, 1)) (hp : pc + 1 = pc')  (r : Go l Z n0 R K Q h sf k j pc' ls (.null :: st)) : Go l Z n0 R K Q h sf k j pc ls st := by
  subst hp
  exact Go.of H (fun p e below T t m c hA hx hby hr => XS.aconstNull hA hx rfl (hb hby d) hr) r
theorem Go.iadd {x y : Int32} (H : Ok Z K own bytes maxL ret nm) (d : decode bytes pc = .ok (.iadd, 1)) (hp : pc + 1 = pc')  (r : Go l Z n0 R K Q h sf k j pc' ls (.int (x + y) :: st)) : Go l Z n0 R K Q h sf k j pc ls (.int y :: .int x :: st) := by
  subst hp
  exact Go.of H (fun p e below T t m c hA hx hby hr => XS.iadd hA hx rfl (hb hby d) rfl hr) r
theorem Go.isub {x y : Int32} (H : Ok Z K own bytes maxL ret nm) (d : decode bytes pc = .ok (.isub, 1)) (hp : pc + 1 = pc')  (r : Go l Z n0 R K Q h sf k j pc' ls (.int (x - y) :: st)) : Go l Z n0 R K Q h sf k j pc ls (.int y :: .int x :: st) := by
  subst hp
  exact Go.of H (fun p e below T t m c hA hx hby hr => XS.isub hA hx rfl (hb hby d) rfl hr) r
theorem Go.imul {x y : Int32} (H : Ok Z K own bytes maxL ret nm) (d : decode bytes pc = .ok (.imul, 1)) (hp : pc + 1 = pc')  (r : Go l Z n0 R K Q h sf k j pc' ls (.int (x * y) :: st)) : Go l Z n0 R K Q h sf k j pc ls (.int y :: .int x :: st) := by
  subst hp
  exact Go.of H (fun p e below T t m c hA hx hby hr => XS.imul hA hx rfl (hb hby d) rfl hr) r
theorem Go.iand {x y : Int32} (H : Ok Z K own bytes maxL ret nm) (d : decode bytes pc = .ok (.iand, 1)) (hp : pc + 1 = pc')  (r : Go l Z n0 R K Q h sf k j pc' ls (.int (x &&& y) :: st)) : Go l Z n0 R K Q h sf k j pc ls (.int y :: .int x :: st) := by
  subst hp
  exact Go.of H (fun p e below T t m c hA hx hby hr => XS.iand hA hx rfl (hb hby d) rfl hr) r
theorem Go.ior {x y : Int32} (H : Ok Z K own bytes maxL ret nm) (d : decode bytes pc = .ok (.ior, 1)) (hp : pc + 1 = pc')  (r : Go l Z n0 R K Q h sf k j pc' ls (.int (x ||| y) :: st)) : Go l Z n0 R K Q h sf k j pc ls (.int y :: .int x :: st) := by
  subst hp
  exact Go.of H (fun p e below T t m c hA hx hby hr => XS.ior hA hx rfl (hb hby d) rfl hr) r
theorem Go.ixor {x y : Int32} (H : Ok Z K own bytes maxL ret nm) (d : decode bytes pc = .ok (.ixor, 1)) (hp : pc + 1 = pc')  (r : Go l Z n0 R K Q h sf k j pc' ls (.int (x ^^^ y) :: st)) : Go l Z n0 R K Q h sf k j pc ls (.int y :: .int x :: st) := by
  subst hp
  exact Go.of H (fun p e below T t m c hA hx hby hr => XS.ixor hA hx rfl (hb hby d) rfl hr) r
theorem Go.ladd {x y : Int64} (H : Ok Z K own bytes maxL ret nm) (d : decode bytes pc = .ok (.ladd, 1)) (hp : pc + 1 = pc')  (r : Go l Z n0 R K Q h sf k j pc' ls (.long (x + y) :: st)) : Go l Z n0 R K Q h sf k j pc ls (.long y :: .long x :: st) := by
  subst hp
  exact Go.of H (fun p e below T t m c hA hx hby hr => XS.ladd hA hx rfl (hb hby d) rfl hr) r
theorem Go.lsub {x y : Int64} (H : Ok Z K own bytes maxL ret nm) (d : decode bytes pc = .ok (.lsub, 1)) (hp : pc + 1 = pc')  (r : Go l Z n0 R K Q h sf k j pc' ls (.long (x - y) :: st)) : Go l Z n0 R K Q h sf k j pc ls (.long y :: .long x :: st) := by
  subst hp
  exact Go.of H (fun p e below T t m c hA hx hby hr => XS.lsub hA hx rfl (hb hby d) rfl hr) r
theorem Go.lmul {x y : Int64} (H : Ok Z K own bytes maxL ret nm) (d : decode bytes pc = .ok (.lmul, 1)) (hp : pc + 1 = pc')  (r : Go l Z n0 R K Q h sf k j pc' ls (.long (x * y) :: st)) : Go l Z n0 R K Q h sf k j pc ls (.long y :: .long x :: st) := by
  subst hp
  exact Go.of H (fun p e below T t m c hA hx hby hr => XS.lmul hA hx rfl (hb hby d) rfl hr) r
theorem Go.land {x y : Int64} (H : Ok Z K own bytes maxL ret nm) (d : decode bytes pc = .ok (.land, 1)) (hp : pc + 1 = pc')  (r : Go l Z n0 R K Q h sf k j pc' ls (.long (x &&& y) :: st)) : Go l Z n0 R K Q h sf k j pc ls (.long y :: .long x :: st) := by
  subst hp
  exact Go.of H (fun p e below T t m c hA hx hby hr => XS.land hA hx rfl (hb hby d) rfl hr) r
theorem Go.lor {x y : Int64} (H : Ok Z K own bytes maxL ret nm) (d : decode bytes pc = .ok (.lor, 1)) (hp : pc + 1 = pc')  (r : Go l Z n0 R K Q h sf k j pc' ls (.long (x ||| y) :: st)) : Go l Z n0 R K Q h sf k j pc ls (.long y :: .long x :: st) := by
  subst hp
  exact Go.of H (fun p e below T t m c hA hx hby hr => XS.lor hA hx rfl (hb hby d) rfl hr) r
theorem Go.lxor {x y : Int64} (H : Ok Z K own bytes maxL ret nm) (d : decode bytes pc = .ok (.lxor, 1)) (hp : pc + 1 = pc')  (r : Go l Z n0 R K Q h sf k j pc' ls (.long (x ^^^ y) :: st)) : Go l Z n0 R K Q h sf k j pc ls (.long y :: .long x :: st) := by
  subst hp
  exact Go.of H (fun p e below T t m c hA hx hby hr => XS.lxor hA hx rfl (hb hby d) rfl hr) r
theorem Go.ishl {x y : Int32} (H : Ok Z K own bytes maxL ret nm) (d : decode bytes pc = .ok (.ishl, 1)) (hp : pc + 1 = pc')  (r : Go l Z n0 R K Q h sf k j pc' ls (.int (x <<< (y &&& 31)) :: st)) : Go l Z n0 R K Q h sf k j pc ls (.int y :: .int x :: st) := by
  subst hp
  exact Go.of H (fun p e below T t m c hA hx hby hr => XS.ishl hA hx rfl (hb hby d) rfl hr) r
theorem Go.ishr {x y : Int32} (H : Ok Z K own bytes maxL ret nm) (d : decode bytes pc = .ok (.ishr, 1)) (hp : pc + 1 = pc')  (r : Go l Z n0 R K Q h sf k j pc' ls (.int (x >>> (y &&& 31)) :: st)) : Go l Z n0 R K Q h sf k j pc ls (.int y :: .int x :: st) := by
  subst hp
  exact Go.of H (fun p e below T t m c hA hx hby hr => XS.ishr hA hx rfl (hb hby d) rfl hr) r
theorem Go.iushr {x y : Int32} (H : Ok Z K own bytes maxL ret nm) (d : decode bytes pc = .ok (.iushr, 1)) (hp : pc + 1 = pc')  (r : Go l Z n0 R K Q h sf k j pc' ls (.int ((x.toUInt32 >>> (y &&& 31).toUInt32).toInt32) :: st)) : Go l Z n0 R K Q h sf k j pc ls (.int y :: .int x :: st) := by
  subst hp
  exact Go.of H (fun p e below T t m c hA hx hby hr => XS.iushr hA hx rfl (hb hby d) rfl hr) r
theorem Go.lshl {x : Int64} {y : Int32} (H : Ok Z K own bytes maxL ret nm) (d : decode bytes pc = .ok (.lshl, 1)) (hp : pc + 1 = pc')  (r : Go l Z n0 R K Q h sf k j pc' ls (.long (x <<< (y &&& 0x3f).toInt64) :: st)) : Go l Z n0 R K Q h sf k j pc ls (.int y :: .long x :: st) := by
  subst hp
  exact Go.of H (fun p e below T t m c hA hx hby hr => XS.lshl hA hx rfl (hb hby d) rfl hr) r
theorem Go.lshr {x : Int64} {y : Int32} (H : Ok Z K own bytes maxL ret nm) (d : decode bytes pc = .ok (.lshr, 1)) (hp : pc + 1 = pc')  (r : Go l Z n0 R K Q h sf k j pc' ls (.long (x >>> (y &&& 0x3f).toInt64) :: st)) : Go l Z n0 R K Q h sf k j pc ls (.int y :: .long x :: st) := by
  subst hp
  exact Go.of H (fun p e below T t m c hA hx hby hr => XS.lshr hA hx rfl (hb hby d) rfl hr) r
theorem Go.lushr {x : Int64} {y : Int32} (H : Ok Z K own bytes maxL ret nm) (d : decode bytes pc = .ok (.lushr, 1)) (hp : pc + 1 = pc')  (r : Go l Z n0 R K Q h sf k j pc' ls (.long ((x.toUInt64 >>> (y &&& 0x3f).toInt64.toUInt64).toInt64) :: st)) : Go l Z n0 R K Q h sf k j pc ls (.int y :: .long x :: st) := by
  subst hp
  exact Go.of H (fun p e below T t m c hA hx hby hr => XS.lushr hA hx rfl (hb hby d) rfl hr) r
theorem Go.idiv {x y : Int32} (H : Ok Z K own bytes maxL ret nm) (d : decode bytes pc = .ok (.idiv, 1)) (hp : pc + 1 = pc') (hy : y ≠ 0) (r : Go l Z n0 R K Q h sf k j pc' ls (.int (x / y) :: st)) : Go l Z n0 R K Q h sf k j pc ls (.int y :: .int x :: st) := by
  subst hp
  exact Go.of H (fun p e below T t m c hA hx hby hr => XS.idiv hA hx rfl (hb hby d) rfl hy hr) r
theorem Go.irem {x y : Int32} (H : Ok Z K own bytes maxL ret nm) (d : decode bytes pc = .ok (.irem, 1)) (hp : pc + 1 = pc') (hy : y ≠ 0) (r : Go l Z n0 R K Q h sf k j pc' ls (.int (x % y) :: st)) : Go l Z n0 R K Q h sf k j pc ls (.int y :: .int x :: st) := by
  subst hp
  exact Go.of H (fun p e below T t m c hA hx hby hr => XS.irem hA hx rfl (hb hby d) rfl hy (by rw [irem_eq_mod x y]; exact hr)) r
theorem Go.ldiv {x y : Int64} (H : Ok Z K own bytes maxL ret nm) (d : decode bytes pc = .ok (.ldiv, 1)) (hp : pc + 1 = pc') (hy : y ≠ 0) (r : Go l Z n0 R K Q h sf k j pc' ls (.long (x / y) :: st)) : Go l Z n0 R K Q h sf k j pc ls (.long y :: .long x :: st) := by
  subst hp
  exact Go.of H (fun p e below T t m c hA hx hby hr => XS.ldiv hA hx rfl (hb hby d) rfl hy hr) r
theorem Go.lrem {x y : Int64} (H : Ok Z K own bytes maxL ret nm) (d : decode bytes pc = .ok (.lrem, 1)) (hp : pc + 1 = pc') (hy : y ≠ 0) (r : Go l Z n0 R K Q h sf k j pc' ls (.long (x % y) :: st)) : Go l Z n0 R K Q h sf k j pc ls (.long y :: .long x :: st) := by
  subst hp
  exact Go.of H (fun p e below T t m c hA hx hby hr => XS.lrem hA hx rfl (hb hby d) rfl hy (by rw [lrem_mod x y]; exact hr)) r
theorem Go.ineg {x : Int32} (H : Ok Z K own bytes maxL ret nm) (d : decode bytes pc = .ok (.ineg, 1)) (hp : pc + 1 = pc')  (r : Go l Z n0 R K Q h sf k j pc' ls (.int (-x) :: st)) : Go l Z n0 R K Q h sf k j pc ls (.int x :: st) := by
  subst hp
  exact Go.of H (fun p e below T t m c hA hx hby hr => XS.ineg hA hx rfl (hb hby d) rfl hr) r
theorem Go.lneg {x : Int64} (H : Ok Z K own bytes maxL ret nm) (d : decode bytes pc = .ok (.lneg, 1)) (hp : pc + 1 = pc')  (r : Go l Z n0 R K Q h sf k j pc' ls (.long (-x) :: st)) : Go l Z n0 R K Q h sf k j pc ls (.long x :: st) := by
  subst hp
  exact Go.of H (fun p e below T t m c hA hx hby hr => XS.lneg hA hx rfl (hb hby d) rfl hr) r
theorem Go.i2c {x : Int32} (H : Ok Z K own bytes maxL ret nm) (d : decode bytes pc = .ok (.i2c, 1)) (hp : pc + 1 = pc')  (r : Go l Z n0 R K Q h sf k j pc' ls (.int (nar .char x) :: st)) : Go l Z n0 R K Q h sf k j pc ls (.int x :: st) := by
  subst hp
  exact Go.of H (fun p e below T t m c hA hx hby hr => XS.i2c hA hx rfl (hb hby d) rfl hr) r
theorem Go.i2b {x : Int32} (H : Ok Z K own bytes maxL ret nm) (d : decode bytes pc = .ok (.i2b, 1)) (hp : pc + 1 = pc')  (r : Go l Z n0 R K Q h sf k j pc' ls (.int (nar .byte x) :: st)) : Go l Z n0 R K Q h sf k j pc ls (.int x :: st) := by
  subst hp
  exact Go.of H (fun p e below T t m c hA hx hby hr => XS.i2b hA hx rfl (hb hby d) rfl hr) r
theorem Go.i2s {x : Int32} (H : Ok Z K own bytes maxL ret nm) (d : decode bytes pc = .ok (.i2s, 1)) (hp : pc + 1 = pc')  (r : Go l Z n0 R K Q h sf k j pc' ls (.int (nar .short x) :: st)) : Go l Z n0 R K Q h sf k j pc ls (.int x :: st) := by
  subst hp
  exact Go.of H (fun p e below T t m c hA hx hby hr => XS.i2s hA hx rfl (hb hby d) rfl hr) r
theorem Go.i2l {x : Int32} (H : Ok Z K own bytes maxL ret nm) (d : decode bytes pc = .ok (.i2l, 1)) (hp : pc + 1 = pc')  (r : Go l Z n0 R K Q h sf k j pc' ls (.long x.toInt64 :: st)) : Go l Z n0 R K Q h sf k j pc ls (.int x :: st) := by
  subst hp
  exact Go.of H (fun p e below T t m c hA hx hby hr => XS.i2l hA hx rfl (hb hby d) rfl hr) r
theorem Go.l2i {x : Int64} (H : Ok Z K own bytes maxL ret nm) (d : decode bytes pc = .ok (.l2i, 1)) (hp : pc + 1 = pc')  (r : Go l Z n0 R K Q h sf k j pc' ls (.int x.toInt32 :: st)) : Go l Z n0 R K Q h sf k j pc ls (.long x :: st) := by
  subst hp
  exact Go.of H (fun p e below T t m c hA hx hby hr => XS.l2i hA hx rfl (hb hby d) rfl hr) r
theorem Go.lcmp {x y : Int64} (H : Ok Z K own bytes maxL ret nm) (d : decode bytes pc = .ok (.lcmp, 1)) (hp : pc + 1 = pc')  (r : Go l Z n0 R K Q h sf k j pc' ls (.int (lcmpW x y) :: st)) : Go l Z n0 R K Q h sf k j pc ls (.long y :: .long x :: st) := by
  subst hp
  exact Go.of H (fun p e below T t m c hA hx hby hr => XS.lcmp hA hx rfl (hb hby d) rfl hr) r
theorem Go.iinc {i : Nat} {cst : Int} {x : Int32} (v : Int32) (H : Ok Z K own bytes maxL ret nm) (d : decode bytes pc = .ok (.iinc i cst, 3)) (hp : pc + 3 = pc') (hl : ls[i]? = some (.val (.int x))) (hv : Int32.ofInt cst = v) (hl' : storeLocals ls i (.int (x + v)) = some ls') (r : Go l Z n0 R K Q h sf k j pc' ls' st) : Go l Z n0 R K Q h sf k j pc ls st := by
  subst hp
  exact Go.of H (fun p e below T t m c hA hx hby hr => XS.iinc hA hx rfl (hb hby d) hl (by rw [hv]; exact hl') hr) r
theorem Go.dup {x : Value} (H : Ok Z K own bytes maxL ret nm) (d : decode bytes pc = .ok (.dup, 1)) (hp : pc + 1 = pc') (hc : x.category = 1) (r : Go l Z n0 R K Q h sf k j pc' ls (x :: x :: st)) : Go l Z n0 R K Q h sf k j pc ls (x :: st) := by
  subst hp
  exact Go.of H (fun p e below T t m c hA hx hby hr => XS.dup hA hx rfl (hb hby d) rfl hc hr) r
theorem Go.pop {x : Value} (H : Ok Z K own bytes maxL ret nm) (d : decode bytes pc = .ok (.pop, 1)) (hp : pc + 1 = pc') (hc : x.category = 1) (r : Go l Z n0 R K Q h sf k j pc' ls st) : Go l Z n0 R K Q h sf k j pc ls (x :: st) := by
  subst hp
  exact Go.of H (fun p e below T t m c hA hx hby hr => XS.pop hA hx rfl (hb hby d) rfl hc hr) r
theorem Go.dupX1 {x y : Value} (H : Ok Z K own bytes maxL ret nm) (d : decode bytes pc = .ok (.dup_x1, 1)) (hp : pc + 1 = pc') (hc : x.category = 1) (hc' : y.category = 1) (r : Go l Z n0 R K Q h sf k j pc' ls (x :: y :: x :: st)) : Go l Z n0 R K Q h sf k j pc ls (x :: y :: st) := by
  subst hp
  exact Go.of H (fun p e below T t m c hA hx hby hr => XT.dupX1 hA hx rfl (hb hby d) rfl hc hc' hr) r
theorem Go.dup2 {x y : Value} (H : Ok Z K own bytes maxL ret nm) (d : decode bytes pc = .ok (.dup2, 1)) (hp : pc + 1 = pc') (hc : x.category = 1) (hc' : y.category = 1) (r : Go l Z n0 R K Q h sf k j pc' ls (x :: y :: x :: y :: st)) : Go l Z n0 R K Q h sf k j pc ls (x :: y :: st) := by
  subst hp
  exact Go.of H (fun p e below T t m c hA hx hby hr => XT.dup2 hA hx rfl (hb hby d) rfl hc hc' hr) r
theorem Go.goto {o : Int} (H : Ok Z K own bytes maxL ret nm) (d : decode bytes pc = .ok (.goto o, 3)) (ho : 0 ≤ (pc : Int) + o) (hp : ((pc : Int) + o).toNat = pc') (r : Go l Z n0 R K Q h sf k j pc' ls st) : Go l Z n0 R K Q h sf k j pc ls st := Go.of H (fun p e below T t m c hA hx hby hr => XS.goto hA hx rfl (pc0 := pc) (pc' := pc') rfl (hb hby d) ho hp hr) r
theorem Go.icmpY {cd : ClassFile.Cond} {x y : Int32} {o : Int} (H : Ok Z K own bytes maxL ret nm) (d : decode bytes pc = .ok (.if_icmp cd o, 3)) (hc : if_icmp.holds cd x y = true) (ho : 0 ≤ (pc : Int) + o) (hp : ((pc : Int) + o).toNat = pc') (r : Go l Z n0 R K Q h sf k j pc' ls st) : Go l Z n0 R K Q h sf k j pc ls (.int y :: .int x :: st) := Go.of H (fun p e below T t m c hA hx hby hr => XS.icmpYes hA hx rfl (pc0 := pc) (pc' := pc') rfl (hb hby d) rfl hc ho hp hr) r
theorem Go.icmpN {cd : ClassFile.Cond} {x y : Int32} {o : Int} (H : Ok Z K own bytes maxL ret nm) (d : decode bytes pc = .ok (.if_icmp cd o, 3)) (hc : if_icmp.holds cd x y = false) (hp : pc + 3 = pc') (r : Go l Z n0 R K Q h sf k j pc' ls st) : Go l Z n0 R K Q h sf k j pc ls (.int y :: .int x :: st) := by
  subst hp
  exact Go.of H (fun p e below T t m c hA hx hby hr => XS.icmpNo hA hx rfl (hb hby d) rfl hc hr) r
theorem Go.ifY {cd : ClassFile.Cond} {x : Int32} {o : Int} (H : Ok Z K own bytes maxL ret nm) (d : decode bytes pc = .ok (.ifCond cd o, 3)) (hc : if_icmp.holds cd x 0 = true) (ho : 0 ≤ (pc : Int) + o) (hp : ((pc : Int) + o).toNat = pc') (r : Go l Z n0 R K Q h sf k j pc' ls st) : Go l Z n0 R K Q h sf k j pc ls (.int x :: st) := Go.of H (fun p e below T t m c hA hx hby hr => XS.ifYes hA hx rfl (pc0 := pc) (pc' := pc') rfl (hb hby d) rfl ((if0 _ _).trans hc) ho hp hr) r
theorem Go.ifN {cd : ClassFile.Cond} {x : Int32} {o : Int} (H : Ok Z K own bytes maxL ret nm) (d : decode bytes pc = .ok (.ifCond cd o, 3)) (hc : if_icmp.holds cd x 0 = false) (hp : pc + 3 = pc') (r : Go l Z n0 R K Q h sf k j pc' ls st) : Go l Z n0 R K Q h sf k j pc ls (.int x :: st) := by
  subst hp
  exact Go.of H (fun p e below T t m c hA hx hby hr => XS.ifNo hA hx rfl (hb hby d) rfl ((if0 _ _).trans hc) hr) r
theorem Go.ifnullY {o : Int} (H : Ok Z K own bytes maxL ret nm) (d : decode bytes pc = .ok (.ifnull o, 3)) (ho : 0 ≤ (pc : Int) + o) (hp : ((pc : Int) + o).toNat = pc') (r : Go l Z n0 R K Q h sf k j pc' ls st) : Go l Z n0 R K Q h sf k j pc ls (.null :: st) := Go.of H (fun p e below T t m c hA hx hby hr => XS.ifnullYes hA hx rfl (pc0 := pc) (pc' := pc') rfl (hb hby d) rfl ho hp hr) r
theorem Go.ifnullN {b : Addr} {o : Int} (H : Ok Z K own bytes maxL ret nm) (d : decode bytes pc = .ok (.ifnull o, 3)) (hp : pc + 3 = pc') (r : Go l Z n0 R K Q h sf k j pc' ls st) : Go l Z n0 R K Q h sf k j pc ls (.ref b :: st) := by
  subst hp
  exact Go.of H (fun p e below T t m c hA hx hby hr => XS.ifnullNo hA hx rfl (hb hby d) rfl hr) r
theorem Go.ifnonnullY {b : Addr} {o : Int} (H : Ok Z K own bytes maxL ret nm) (d : decode bytes pc = .ok (.ifnonnull o, 3)) (ho : 0 ≤ (pc : Int) + o) (hp : ((pc : Int) + o).toNat = pc') (r : Go l Z n0 R K Q h sf k j pc' ls st) : Go l Z n0 R K Q h sf k j pc ls (.ref b :: st) := Go.of H (fun p e below T t m c hA hx hby hr => XS.ifnonnullYes hA hx rfl (pc0 := pc) (pc' := pc') rfl (hb hby d) rfl ho hp hr) r
theorem Go.ifnonnullN {o : Int} (H : Ok Z K own bytes maxL ret nm) (d : decode bytes pc = .ok (.ifnonnull o, 3)) (hp : pc + 3 = pc') (r : Go l Z n0 R K Q h sf k j pc' ls st) : Go l Z n0 R K Q h sf k j pc ls (.null :: st) := by
  subst hp
  exact Go.of H (fun p e below T t m c hA hx hby hr => XS.ifnonnullNo hA hx rfl (hb hby d) rfl hr) r
theorem Go.acmpY {cd : ClassFile.ACond} {x y : Value} {o : Int} (H : Ok Z K own bytes maxL ret nm) (d : decode bytes pc = .ok (.if_acmp cd o, 3)) (h1 : x.isRef = true) (h2 : y.isRef = true) (hc : XT.acmp cd x y = true) (ho : 0 ≤ (pc : Int) + o) (hp : ((pc : Int) + o).toNat = pc') (r : Go l Z n0 R K Q h sf k j pc' ls st) : Go l Z n0 R K Q h sf k j pc ls (y :: x :: st) := Go.of H (fun p e below T t m c hA hx hby hr => XT.acmpYes hA hx rfl (pc0 := pc) (pc' := pc') rfl (hb hby d) rfl h1 h2 hc ho hp hr) r
theorem Go.acmpN {cd : ClassFile.ACond} {x y : Value} {o : Int} (H : Ok Z K own bytes maxL ret nm) (d : decode bytes pc = .ok (.if_acmp cd o, 3)) (h1 : x.isRef = true) (h2 : y.isRef = true) (hc : XT.acmp cd x y = false) (hp : pc + 3 = pc') (r : Go l Z n0 R K Q h sf k j pc' ls st) : Go l Z n0 R K Q h sf k j pc ls (y :: x :: st) := by
  subst hp
  exact Go.of H (fun p e below T t m c hA hx hby hr => XT.acmpNo hA hx rfl (hb hby d) rfl h1 h2 hc hr) r
theorem Go.ldcInt {idx : Nat} {v : Int32} (H : Ok Z K own bytes maxL ret nm) (d : decode bytes pc = .ok (.ldc idx, 2)) (hp : pc + 2 = pc') (w : Jvm.Cond.constant own idx v ∈ tables_1) (r : Go l Z n0 R K Q h sf k j pc' ls (.int v :: st)) : Go l Z n0 R K Q h sf k j pc ls st := by
  subst hp
  refine Go.of2 H ?_ r
  intro p e s m args below meth c T locs a0 hw X hx hby hml hZ hown eT hO
  exact ⟨T, X, eT, fun t hr => X.ldcInt hx hown (mvT hZ (hw _ w)) (g := mkF m pc ls st) rfl (hb hby d) t hr⟩
theorem Go.ldcWInt {idx : Nat} {v : Int32} (H : Ok Z K own bytes maxL ret nm) (d : decode bytes pc = .ok (.ldc_w idx, 3)) (hp : pc + 3 = pc') (w : Jvm.Cond.constant own idx v ∈ tables_1) (r : Go l Z n0 R K Q h sf k j pc' ls (.int v :: st)) : Go l Z n0 R K Q h sf k j pc ls st := by
  subst hp
  refine Go.of2 H ?_ r
  intro p e s m args below meth c T locs a0 hw X hx hby hml hZ hown eT hO
  exact ⟨T, X, eT, fun t hr => X.ldcwInt hx hown (mvT hZ (hw _ w)) (g := mkF m pc ls st) rfl (hb hby d) t hr⟩
theorem Go.ldc2 {idx : Nat} {v : Int64} (H : Ok Z K own bytes maxL ret nm) (d : decode bytes pc = .ok (.ldc2_w idx, 3)) (hp : pc + 3 = pc') (w : Jvm.Cond.constantLong own idx v ∈ tables_1) (r : Go l Z n0 R K Q h sf k j pc' ls (.long v :: st)) : Go l Z n0 R K Q h sf k j pc ls st := by
  subst hp
  refine Go.of2 H ?_ r
  intro p e s m args below meth c T locs a0 hw X hx hby hml hZ hown eT hO
  exact ⟨T, X, eT, fun t hr => X.ldc2Long hx hown (mvT hZ (hw _ w)) (g := mkF m pc ls st) rfl (hb hby d) t hr⟩
theorem Go.getfield {idx : Nat} {O n d' : String} {a : Addr} {v : Value} (H : Ok Z K own bytes maxL ret nm) (d : decode bytes pc = .ok (.getfield idx, 3)) (hp : pc + 3 = pc') (w : Jvm.Cond.fieldLink own idx O n d' ∈ tables_1) (F : Fld Z h a O n d' v) (r : Go l Z n0 R K Q h sf k j pc' ls (v :: st)) : Go l Z n0 R K Q h sf k j pc ls (.ref a :: st) := by
  subst hp
  refine Go.of2 H ?_ r
  intro p e s m args below meth c T locs a0 hw X hx hby hml hZ hown eT hO
  exact getF X hx hZ hown (host := "") (Or.inl (hw _ w)) Via.refl eT F (g := mkF m pc ls (.ref a :: st)) rfl rfl (hb hby d)
theorem Go.getstatic {idx : Nat} {O n d' : String} {v : Value} (H : Ok Z K own bytes maxL ret nm) (d : decode bytes pc = .ok (.getstatic idx, 3)) (hp : pc + 3 = pc') (w : Jvm.Cond.fieldLink own idx O n d' ∈ tables_1) (F : Sta Z Z.heap O n d' v) (r : Go l Z n0 R K Q h sf k j pc' ls (v :: st)) : Go l Z n0 R K Q h sf k j pc ls st := by
  subst hp
  refine Go.of2 H ?_ r
  intro p e s m args below meth c T locs a0 hw X hx hby hml hZ hown eT hO
  exact getS (host := "") X hx hZ hown (hw _ w) Via.refl eT (F.ext hO.2) (g := mkF m pc ls st) rfl (hb hby d)
theorem Go.checkcast {idx : Nat} {C : String} {a : Addr} (H : Ok Z K own bytes maxL ret nm) (d : decode bytes pc = .ok (.checkcast idx, 3)) (hp : pc + 3 = pc') (w : Jvm.Cond.classLink own idx C ∈ tables_1) (F : Ins Z h a C true) (r : Go l Z n0 R K Q h sf k j pc' ls (.ref a :: st)) : Go l Z n0 R K Q h sf k j pc ls (.ref a :: st) := by
  subst hp
  refine Go.of2 H ?_ r
  intro p e s m args below meth c T locs a0 hw X hx hby hml hZ hown eT hO
  exact castY X hx hZ hown (hw _ w) eT F (g := mkF m pc ls (.ref a :: st)) rfl rfl (hb hby d)
theorem Go.instanceofY {idx : Nat} {C : String} {a : Addr} (H : Ok Z K own bytes maxL ret nm) (d : decode bytes pc = .ok (.instanceof idx, 3)) (hp : pc + 3 = pc') (w : Jvm.Cond.classLink own idx C ∈ tables_1) (F : Ins Z h a C true) (r : Go l Z n0 R K Q h sf k j pc' ls (.int 1 :: st)) : Go l Z n0 R K Q h sf k j pc ls (.ref a :: st) := by
  subst hp
  refine Go.of2 H ?_ r
  intro p e s m args below meth c T locs a0 hw X hx hby hml hZ hown eT hO
  exact instY X hx hZ hown (hw _ w) eT F (g := mkF m pc ls (.ref a :: st)) rfl rfl (hb hby d)
theorem Go.initObj {idx : Nat} {a : Addr} (H : Ok Z K own bytes maxL ret nm) (d : decode bytes pc = .ok (.invokespecial idx, 3)) (hp : pc + 3 = pc') (w1 : Jvm.Cond.methodLink own idx Lib.objectInit ∈ tables_1) (w2 : Jvm.Cond.instanceMethod Lib.objectInit ∈ tables_1) (w3 : Jvm.Cond.code Lib.objectInit ⟨#[0xb1]⟩ 1 none ∈ tables_1) (W : Nat) (hsz : ls.size = maxL) (hW : (st.map fun v => v.category).sum ≤ W) (hf : 1 ≤ R.frames) (hlo : W + 12 ≤ R.locals) (r : Go l Z n0 R K Q h sf k j pc' ls st) : Go l Z n0 R K Q h sf k j pc ls (.ref a :: st) := by
  subst hp
  refine Go.of2 H ?_ r
  intro p e s m args below meth c T locs a0 hw X hx hby hml hZ hown eT hO
  exact initO X hx hZ hown (hw _ w1) (hw _ w2) (hw _ w3) eT (g := mkF m pc ls (.ref a :: st)) rfl (by rw [hml]; exact hsz) rfl (hb hby d) hf (W := W) (by show 2 * 0 + _ ≤ _; simpa using hW) hlo
end Steps1
/-- an array whose components are just these ints -/
def Vec (Z : State) (h : Heap) (a : Addr) (ty : FieldType) (vs : List Int32) : Prop := ∃ c : Cell, Arr Z h a c ty ∧ c.slots.toList = vs.map Value.int ∧ ∀ v ∈ vs, fits ty (.int v) = true
section Vecs
variable {Z : State} {h h' : Heap} {a b : Addr} {ty : FieldType} {vs : List Int32} {ws : List Addr}
theorem Vec.lt (F : Vec Z h a ty vs) : a < h.size := by obtain ⟨c, A, -⟩ := F; exact A.lt
theorem Vec.ext (F : Vec Z h a ty vs) (E : Ext h h') : Vec Z h' a ty vs := by obtain ⟨c, A, q⟩ := F; exact ⟨c, A.ext E, q⟩
theorem Vec.keep (F : Vec Z h a ty vs) (K : Keep h h' ws) (q : a ∉ ws) : Vec Z h' a ty vs := by obtain ⟨c, A, r⟩ := F; exact ⟨c, ⟨K.2.1 a c A.1 q, A.2⟩, r⟩
theorem Vec.size {c : Cell} (q : c.slots.toList = vs.map Value.int) : c.slots.size = vs.length := by rw [← Array.length_toList, q, List.length_map]
theorem Vec.get {c : Cell} (q : c.slots.toList = vs.map Value.int) {i : Nat} {v : Int32} (hv : vs[i]? = some v) : c.slots[i]? = some (.int v) := by
  rw [← Array.getElem?_toList, q, List.getElem?_map, hv]; rfl
theorem Vec.set {i : Nat} {v : Int32} (F : Vec Z h a ty vs) (W : Wr h h' a i (.int v)) (hv : fits ty (.int v) = true) : Vec Z h' a ty (vs.set i v) := by
  obtain ⟨c, A, q, hf⟩ := F
  refine ⟨_, A.same W, ?_, fun u hu => (List.mem_or_eq_of_mem_set hu).elim (hf u) (fun e => e ▸ hv)⟩
  rw [List.map_set, ← q]
  show (c.slots.setIfInBounds i _).toList = _
  rw [Array.toList_setIfInBounds]
theorem Vec.ne {ty' : FieldType} {vs' : List Int32} (F : Vec Z h a ty vs) (G : Vec Z h b ty' vs') (hn : ty ≠ ty') : a ≠ b := fun e => by
  subst e
  obtain ⟨c, ⟨h1, ⟨-, k, g1, comp, g2⟩, -⟩, -, -⟩ := F
  obtain ⟨c', ⟨h1', ⟨-, k', g1', comp', g2'⟩, -⟩, -, -⟩ := G
  cases h1.symm.trans h1'
  cases g1.symm.trans g1'
  rw [g2] at g2'
  cases g2'
  exact hn rfl
theorem Vec.neExa {C : String} {x : Addr} {n : Nat} (F : Vec Z h a ty vs) (G : Exa Z h x C) (w : Wds Z) (hi : Jvm.Cond.instantiable C n ∈ tables_1) : a ≠ x := by
  obtain ⟨c, A, -⟩ := F
  obtain ⟨a0, hw⟩ := w.w
  exact (ne_arr G (hw _ hi) A).symm
end Vecs
section Steps2
variable {l : Launch} {Z : State} {n0 : Nat} {R : Room} {K : Cx} {Q : Option Value → Heap → List Addr → Prop} {h : Heap} {sf : List Addr} {k j pc pc' : Nat} {ls ls' : Array Slot} {st : List Value} {own : String} {bytes : ByteArray} {maxL : Nat} {ret : Option FieldType} {nm : String}
theorem Go.caload {a : Addr} {i : Int32} {v : Int32} {vs : List Int32} (H : Ok Z K own bytes maxL ret nm) (d : decode bytes pc = .ok (.caload, 1)) (hp : pc + 1 = pc') (F : Vec Z h a .char vs) (n : Nat) (hi : i.toNatClampNeg = n) (h0 : ¬ i < 0) (hv : vs[n]? = some v) (r : Go l Z n0 R K Q h sf k j pc' ls (.int v :: st)) : Go l Z n0 R K Q h sf k j pc ls (.int i :: .ref a :: st) := by
  subst hp
  refine Go.of2 H ?_ r
  intro p e s m args below meth c T locs a0 hw X hx hby hml hZ hown eT hO
  obtain ⟨c', A, q, -⟩ := F
  refine ⟨T, X, eT, fun t hr => X.caload hx (j := i) (v := .int v) (by rw [eT]; exact A.1) (State.isArrayOf_alike hZ.alike A.2.1) A.2.2 ?_ (by rw [hi]; exact Vec.get q hv) (g := mkF m pc ls (.int i :: .ref a :: st)) rfl rfl (hb hby d) t hr⟩
  rw [Vec.size q, hi]
  have := (List.getElem?_eq_some_iff.mp hv).1
  rintro (q | q)
  · exact h0 q
  · omega
theorem Go.baload {a : Addr} {i : Int32} {v : Int32} {vs : List Int32} (H : Ok Z K own bytes maxL ret nm) (d : decode bytes pc = .ok (.baload, 1)) (hp : pc + 1 = pc') (F : Vec Z h a .byte vs) (n : Nat) (hi : i.toNatClampNeg = n) (h0 : ¬ i < 0) (hv : vs[n]? = some v) (r : Go l Z n0 R K Q h sf k j pc' ls (.int v :: st)) : Go l Z n0 R K Q h sf k j pc ls (.int i :: .ref a :: st) := by
  subst hp
  refine Go.of2 H ?_ r
  intro p e s m args below meth c T locs a0 hw X hx hby hml hZ hown eT hO
  obtain ⟨c', A, q, -⟩ := F
  refine ⟨T, X, eT, fun t hr => X.baloadBytes hx (j := i) (v := .int v) (by rw [eT]; exact A.1) (State.isArrayOf_alike hZ.alike A.2.1) A.2.2 ?_ (by rw [hi]; exact Vec.get q hv) (g := mkF m pc ls (.int i :: .ref a :: st)) rfl rfl (hb hby d) t hr⟩
  rw [Vec.size q, hi]
  have := (List.getElem?_eq_some_iff.mp hv).1
  rintro (q | q)
  · exact h0 q
  · omega
theorem Go.iaload {a : Addr} {i : Int32} {v : Int32} {vs : List Int32} (H : Ok Z K own bytes maxL ret nm) (d : decode bytes pc = .ok (.iaload, 1)) (hp : pc + 1 = pc') (F : Vec Z h a .int vs) (n : Nat) (hi : i.toNatClampNeg = n) (h0 : ¬ i < 0) (hv : vs[n]? = some v) (r : Go l Z n0 R K Q h sf k j pc' ls (.int v :: st)) : Go l Z n0 R K Q h sf k j pc ls (.int i :: .ref a :: st) := by
  subst hp
  refine Go.of2 H ?_ r
  intro p e s m args below meth c T locs a0 hw X hx hby hml hZ hown eT hO
  obtain ⟨c', A, q, -⟩ := F
  refine ⟨T, X, eT, fun t hr => X.iaload hx (j := i) (v := .int v) (by rw [eT]; exact A.1) (State.isArrayOf_alike hZ.alike A.2.1) A.2.2 ?_ (by rw [hi]; exact Vec.get q hv) (g := mkF m pc ls (.int i :: .ref a :: st)) rfl rfl (hb hby d) t hr⟩
  rw [Vec.size q, hi]
  have := (List.getElem?_eq_some_iff.mp hv).1
  rintro (q | q)
  · exact h0 q
  · omega
theorem Go.arraylength {a : Addr} {ty : FieldType} {vs : List Int32} (v : Int32) (H : Ok Z K own bytes maxL ret nm) (d : decode bytes pc = .ok (.arraylength, 1)) (hp : pc + 1 = pc') (F : Vec Z h a ty vs) (hv : vs.length.toInt32 = v) (r : Go l Z n0 R K Q h sf k j pc' ls (.int v :: st)) : Go l Z n0 R K Q h sf k j pc ls (.ref a :: st) := by
  subst hp
  refine Go.of2 H ?_ r
  intro p e s m args below meth c T locs a0 hw X hx hby hml hZ hown eT hO
  obtain ⟨c', A, q, -⟩ := F
  refine ⟨T, X, eT, fun t hr => X.arraylength hx (by rw [eT]; exact A.1) (State.isArrayOf_alike hZ.alike A.2.1) (g := mkF m pc ls (.ref a :: st)) rfl rfl (hb hby d) t ?_⟩
  rw [Vec.size q, hv]; exact hr
theorem Go.castore {a : Addr} {i x : Int32} {vs : List Int32} (v : Int32) (H : Ok Z K own bytes maxL ret nm) (d : decode bytes pc = .ok (.castore, 1)) (hp : pc + 1 = pc') (F : Vec Z h a .char vs) (n : Nat) (hi : i.toNatClampNeg = n) (h0 : ¬ i < 0) (hn : n < vs.length) (hx : nar .char x = v) (ha : n0 ≤ a) (hs : a ∈ sf) (r : ∀ h', Keep h h' [a] → Vec Z h' a .char (vs.set n v) → Go l Z n0 R K Q h' sf k j pc' ls st) : Go l Z n0 R K Q h sf k j pc ls (.int x :: .int i :: .ref a :: st) := by
  subst hp hx
  refine Go.ofWr (a := a) (sl := i.toNatClampNeg) (v := .int (nar .char x)) H ha hs ?_ (fun h' W => r h' (Keep.of_wr W) (by rw [← hi]; exact F.set W (fits_nar_char _)))
  intro p e s m args below meth c T locs a0 hw X hx hby hZ hown hnm eT
  obtain ⟨c', A, q, -⟩ := F
  refine stC X hx hZ eT A (j := i) ?_ (g := mkF m pc ls (.int x :: .int i :: .ref a :: st)) rfl rfl (hb hby d)
  rw [Vec.size q, hi]
  rintro (q | q)
  · exact h0 q
  · omega
theorem Go.bastore {a : Addr} {i x : Int32} {vs : List Int32} (v : Int32) (H : Ok Z K own bytes maxL ret nm) (d : decode bytes pc = .ok (.bastore, 1)) (hp : pc + 1 = pc') (F : Vec Z h a .byte vs) (n : Nat) (hi : i.toNatClampNeg = n) (h0 : ¬ i < 0) (hn : n < vs.length) (hx : nar .byte x = v) (ha : n0 ≤ a) (hs : a ∈ sf) (r : ∀ h', Keep h h' [a] → Vec Z h' a .byte (vs.set n v) → Go l Z n0 R K Q h' sf k j pc' ls st) : Go l Z n0 R K Q h sf k j pc ls (.int x :: .int i :: .ref a :: st) := by
  subst hp hx
  refine Go.ofWr (a := a) (sl := i.toNatClampNeg) (v := .int (nar .byte x)) H ha hs ?_ (fun h' W => r h' (Keep.of_wr W) (by rw [← hi]; exact F.set W (fits_nar_byte _)))
  intro p e s m args below meth c T locs a0 hw X hx hby hZ hown hnm eT
  obtain ⟨c', A, q, -⟩ := F
  refine stB X hx hZ eT A (j := i) ?_ (g := mkF m pc ls (.int x :: .int i :: .ref a :: st)) rfl rfl (hb hby d)
  rw [Vec.size q, hi]
  rintro (q | q)
  · exact h0 q
  · omega
theorem Go.newarray {aty : ArrayType} {n : Int32} (N : Nat) (cap : Nat) (H : Ok Z K own bytes maxL ret nm) (d : decode bytes pc = .ok (.newarray aty, 2)) (hp : pc + 2 = pc') (w : Jvm.Cond.arrayClass (newarray.typeOf aty) ∈ tables_1) (hd : defaultValue (newarray.typeOf aty) = .int 0) (hft : fits (newarray.typeOf aty) (.int 0) = true) (hn : ¬ n < 0) (hN : n.toNatClampNeg = N) (hcap : N ≤ cap) (hb' : cap * 8 ≤ 536870912) (hce : k + 1 ≤ R.cells) (hsl : j + cap ≤ R.slots)
    (r : ∀ a h', a = h.size → n0 ≤ a → Ext h h' → Vec Z h' a (newarray.typeOf aty) (List.replicate N 0) → Go l Z n0 R K Q h' (a :: sf) (k + 1) (j + cap) pc' ls (.ref a :: st)) : Go l Z n0 R K Q h sf k j pc ls (.int n :: st) := by
  subst hp hN
  refine Go.ofNew (P := fun a h' => Vec Z h' a (newarray.typeOf aty) (List.replicate n.toNatClampNeg 0)) H ?_ (fun a h' F => F.lt) r
  intro p e s m args below meth c T locs a0 hw X hx hby hZ hown eT
  obtain ⟨T', h', cA, X', eT', E, A, stp⟩ := newP X hx hZ (hw _ w) eT (g := mkF m pc ls (.int n :: st)) rfl (hb hby d) rfl hn (cap := cap) hcap hb' hce hsl
  refine ⟨T', h', X', eT', E, ⟨_, A, ?_, fun v hv => by rw [List.eq_of_mem_replicate hv]; exact hft⟩, stp⟩
  simp [newA, hd]
theorem Go.new {C : String} {idx n : Nat} (H : Ok Z K own bytes maxL ret nm) (d : decode bytes pc = .ok (.new idx, 3)) (hp : pc + 3 = pc') (w : Jvm.Cond.classLink own idx C ∈ tables_1) (wi : Jvm.Cond.instantiable C n ∈ tables_1) (wz : Jvm.Cond.initialized C ∈ tables_1) (hce : k + 1 ≤ R.cells) (hsl : j + n ≤ R.slots)
    (r : ∀ a h', a = h.size → n0 ≤ a → Ext h h' → Exa Z h' a C → (∀ {O nm d : String} {ty : FieldType}, (Jvm.Cond.lays C O nm d ∈ tables_1 ∨ Jvm.Cond.laysFinal C O nm d ∈ tables_1) → parseFieldDescriptor d = some ty → Fld Z h' a O nm d (defaultValue ty)) → Go l Z n0 R K Q h' (a :: sf) (k + 1) (j + n) pc' ls (.ref a :: st)) : Go l Z n0 R K Q h sf k j pc ls st := by
  subst hp
  refine Go.ofNew (P := fun a h' => Exa Z h' a C ∧ (∀ {O nm d : String} {ty : FieldType}, (Jvm.Cond.lays C O nm d ∈ tables_1 ∨ Jvm.Cond.laysFinal C O nm d ∈ tables_1) → parseFieldDescriptor d = some ty → Fld Z h' a O nm d (defaultValue ty))) H ?_ (fun a h' F => F.1.lt) (fun a h' e1 e2 E hP => r a h' e1 e2 E hP.1 hP.2)
  intro p e s m args below meth c T locs a0 hw X hx hby hZ hown eT
  obtain ⟨T', h', X', eT', E, A, D, -, stp⟩ := newO X hx hZ hown (hw _ w) (hw _ wi) (hw _ wz) eT (g := mkF m pc ls st) rfl (hb hby d) hce hsl
  exact ⟨T', h', X', eT', E, ⟨A, fun L ht => D (L.imp (hw _) (hw _)) ht⟩, stp⟩
theorem Go.putfield {idx kk : Nat} {C O n d' : String} {ty : FieldType} {a : Addr} {x v old : Value} (H : Ok Z K own bytes maxL ret nm) (d : decode bytes pc = .ok (.putfield idx, 3)) (hp : pc + 3 = pc') (w : Jvm.Cond.fieldLink own idx O n d' ∈ tables_1) (F : Fld Z h a O n d' old) (E : Exa Z h a C) (L : Jvm.Cond.lays C O n d' ∈ tables_1 ∨ (Jvm.Cond.laysFinal C O n d' ∈ tables_1 ∧ own = O ∧ nm = "<init>")) (wi : Jvm.Cond.instantiable C kk ∈ tables_1) (hty : parseFieldDescriptor d' = some ty) (hn : narrow ty x = v) (hf : fits ty v = true) (ha : n0 ≤ a) (hs : a ∈ sf)
    (r : ∀ h', Wr h h' a (Jvm.RoadKit.slotOf Z O n d') v → Go l Z n0 R K Q h' sf k j pc' ls st) : Go l Z n0 R K Q h sf k j pc ls (x :: .ref a :: st) := by
  subst hp
  refine Go.ofWr (a := a) (sl := Jvm.RoadKit.slotOf Z O n d') (v := v) H ha hs ?_ r
  intro p e s m args below meth c T locs a0 hw X hx hby hZ hown hnm eT
  exact putFN X hx hZ hown (hw _ w) Via.refl eT F E (L.imp (hw _) (fun q => ⟨hw _ q.1, q.2.1, hnm.trans q.2.2⟩)) (hw _ wi) hty hn hf (g := mkF m pc ls (x :: .ref a :: st)) rfl rfl (hb hby d)
theorem Go.ireturn {x : Int32} {t : FieldType} (v : Int32) (sn : List Addr) (H : Ok Z K own bytes maxL (some t) nm) (d : decode bytes pc = .ok (.ireturn, 1)) (ht : t = .boolean ∨ t = .byte ∨ t = .char ∨ t = .short) (hv : nar t x = v) (hq : Q (some (.int v)) h sn) (hs : ∀ y ∈ sn, y ∈ sf) (hk : k ≤ R.cells) (hj : j ≤ R.slots) : Go l Z n0 R K Q h sf k j pc ls (.int x :: st) := by
  subst hv
  exact Go.ret0 H (v := some (.int (nar t x))) (fun q => nomatch q) hq hs hk hj (fun p e s m args below meth c T locs fs X hx hby hret hl => retN X hx hret ht (hb hby d) hl)
theorem Go.ireturnI {x : Int32} (sn : List Addr) (H : Ok Z K own bytes maxL (some .int) nm) (d : decode bytes pc = .ok (.ireturn, 1)) (hq : Q (some (.int x)) h sn) (hs : ∀ y ∈ sn, y ∈ sf) (hk : k ≤ R.cells) (hj : j ≤ R.slots) : Go l Z n0 R K Q h sf k j pc ls (.int x :: st) := by
  exact Go.ret0 H (v := some (.int x)) (fun q => nomatch q) hq hs hk hj (fun p e s m args below meth c T locs fs X hx hby hret hl => retOut X hx hret rfl (Or.inl ⟨rfl, Or.inl rfl, _, rfl⟩) (hb hby d) hl)
theorem Go.lreturn {x : Int64} (sn : List Addr) (H : Ok Z K own bytes maxL (some .long) nm) (d : decode bytes pc = .ok (.lreturn, 1)) (hq : Q (some (.long x)) h sn) (hs : ∀ y ∈ sn, y ∈ sf) (hk : k ≤ R.cells) (hj : j ≤ R.slots) : Go l Z n0 R K Q h sf k j pc ls (.long x :: st) := by
  exact Go.ret0 H (v := some (.long x)) (fun q => nomatch q) hq hs hk hj (fun p e s m args below meth c T locs fs X hx hby hret hl => retOut X hx hret rfl (Or.inr (Or.inl ⟨rfl, rfl, _, rfl⟩)) (hb hby d) hl)
theorem Go.areturn {x : Value} {t : FieldType} (sn : List Addr) (H : Ok Z K own bytes maxL (some t) nm) (d : decode bytes pc = .ok (.areturn, 1)) (ht : t.isReference = true) (hx : x.isRef = true) (hn : narrow t x = x) (hq : Q (some x) h sn) (hs : ∀ y ∈ sn, y ∈ sf) (hk : k ≤ R.cells) (hj : j ≤ R.slots) : Go l Z n0 R K Q h sf k j pc ls (x :: st) := by
  exact Go.ret0 H (v := some x) (fun q => nomatch q) hq hs hk hj (fun p e s m args below meth c T locs fs X hx' hby hret hl => retOut X hx' hret hn (Or.inr (Or.inr (Or.inr (Or.inr ⟨rfl, ht, hx⟩)))) (hb hby d) hl)
theorem Go.return_ (sn : List Addr) (H : Ok Z K own bytes maxL none nm) (d : decode bytes pc = .ok (.return_, 1)) (hq : Q none h sn) (hs : ∀ y ∈ sn, y ∈ sf) (hk : k ≤ R.cells) (hj : j ≤ R.slots) : Go l Z n0 R K Q h sf k j pc ls [] := by
  exact Go.ret0 H (v := none) (fun _ => rfl) hq hs hk hj (fun p e s m args below meth c T locs fs X hx hby hret hl => X.returnOut hx hret (hb hby d) hl)
theorem own_toarv {Z : State} {h : Heap} {a : Addr} {ty : FieldType} {vs : List Int32} (F : Vec Z h a ty vs) (hn : vs.length < 2 ^ 31) : ∃ kc, Arv Z h a kc ty vs.length.toInt32 (vs.map Value.int) (.int 0) := by
  obtain ⟨c, A, q, hf⟩ := F
  have hs := Vec.size q
  have e : vs.length.toInt32.toNatClampNeg = vs.length := by rw [Int32.toNatClampNeg, len_toInt hn]; simp
  have hg : ∀ i, i < vs.length → (vs.map Value.int).getD i (.int 0) = .int (vs.getD i 0) := fun i hi => by simp [List.getD, hi]
  refine ⟨c.cls, c, A, rfl, by rw [hs, e], by rw [Int32.lt_iff_toInt_lt, len_toInt hn]; simp, fun i hi => ?_, fun i hi => ?_⟩
  · rw [hg i (by omega)]
    exact Vec.get q (by simp [List.getD, show i < vs.length by omega])
  · rw [hg i (by omega)]
    exact hf _ (by have : i < vs.length := by omega
                   simp [List.getD, this])
theorem own_ofarv {Z : State} {h : Heap} {b : Addr} {k : ClassId} {ty : FieldType} {z : Int32} {bs : List Int32} (F : Arv Z h b k ty z (bs.map Value.int) (.int 0)) (hz : z.toNatClampNeg = bs.length) : Vec Z h b ty bs := by
  obtain ⟨c, A, -, S, -, H, G⟩ := F
  refine ⟨c, A, ?_, fun v hv => ?_⟩
  · apply List.ext_getElem?
    intro i
    rw [Array.getElem?_toList]
    by_cases hi : i < c.slots.size
    · have hb : i < bs.length := by omega
      rw [H i hi]; simp [List.getD, hb]
    · rw [Array.getElem?_eq_none (by omega), List.getElem?_eq_none (by simp; omega)]
  · obtain ⟨i, hi, rfl⟩ := List.mem_iff_getElem.mp hv
    have := G i (by omega)
    simpa [List.getD, hi] using this
/-- System.arraycopy between two arrays of one primitive kind; sp, dp, nn: the two places and how many -/
theorem Go.arraycopy {idx : Nat} {a b : Addr} {ty : FieldType} {us vs : List Int32} {sp dp nn : Int32} (S D N : Nat) (H : Ok Z K own bytes maxL ret nm) (d : decode bytes pc = .ok (.invokestatic idx, 3)) (hp : pc + 3 = pc') (w1 : Jvm.Cond.methodLink own idx Jvm.Stand.acN ∈ tables_1) (w2 : Jvm.Cond.native Jvm.Stand.acN ∈ tables_1) (w3 : Jvm.Cond.static Jvm.Stand.acN ∈ tables_1) (w4 : Jvm.Cond.initialized "java/lang/System" ∈ tables_1)
    (A : Vec Z h a ty us) (B : Vec Z h b ty vs) (hu : us.length < 2 ^ 31) (hv : vs.length < 2 ^ 31) (hty : refKind ty = false) (hS : sp.toNatClampNeg = S) (hD : dp.toNatClampNeg = D) (hN : nn.toNatClampNeg = N) (h1 : ¬ sp < 0) (h2 : ¬ dp < 0) (h3 : ¬ nn < 0) (h4 : S + N ≤ us.length) (h5 : D + N ≤ vs.length) (ha : n0 ≤ b) (hs : b ∈ sf) (W : Nat) (hsz : ls.size = maxL) (hW : (st.map fun v => v.category).sum ≤ W) (hf : 1 ≤ R.frames) (hlo : W + (nativeFrameWords "java/lang/System" "arraycopy" 5 + 11) ≤ R.locals)
    (r : ∀ h', Keep h h' [b] → Vec Z h' b ty (vs.take D ++ (us.drop S).take N ++ vs.drop (D + N)) → Go l Z n0 R K Q h' sf k j pc' ls st) : Go l Z n0 R K Q h sf k j pc ls (.int nn :: .int dp :: .ref b :: .int sp :: .ref a :: st) := by
  subst hp hS hD hN
  refine Go.ofKeep (b := b) (P := fun h' => Vec Z h' b ty (vs.take dp.toNatClampNeg ++ (us.drop sp.toNatClampNeg).take nn.toNatClampNeg ++ vs.drop (dp.toNatClampNeg + nn.toNatClampNeg))) H ha hs ?_ r
  intro p e s m args below meth c T locs a0 hw X hx hby hml hZ hown eT hF
  obtain ⟨ka, A'⟩ := own_toarv A hu
  obtain ⟨kb, B'⟩ := own_toarv B hv
  have eu : us.length.toInt32.toNatClampNeg = us.length := by rw [Int32.toNatClampNeg, len_toInt hu]; simp
  have ev : vs.length.toInt32.toNatClampNeg = vs.length := by rw [Int32.toNatClampNeg, len_toInt hv]; simp
  have hus : ((us.drop sp.toNatClampNeg).take nn.toNatClampNeg).map Value.int = (List.range nn.toNatClampNeg).map fun i => (us.map Value.int).getD (sp.toNatClampNeg + i) (.int 0) := by
    apply List.ext_getElem
    · simp; omega
    · intro i g1 g2
      simp only [List.length_map, List.length_take, List.length_drop] at g1
      have g3 : sp.toNatClampNeg + i < us.length := by omega
      simp [List.getD, g3]
  obtain ⟨T', h', L, X', eT', hL, hK, V, stp⟩ := cpA X hx hZ hown (hw _ w1) (hw _ w2) (hw _ w3) (hw _ w4) eT A' B' (Or.inl ⟨rfl, hty⟩) h1 h2 h3 (by rw [eu]; exact h4) (by rw [ev]; exact h5) hus (by simpa using h5) hF ha (g := mkF m pc ls (.int nn :: .int dp :: .ref b :: .int sp :: .ref a :: st)) rfl (by rw [hml]; exact hsz) rfl (hb hby d) hf (W := W) (by show 2 * 0 + _ ≤ _; simpa using hW) hlo
  refine ⟨T', h', L, X', eT', hL, hK, own_ofarv (by rw [List.map_append, List.map_append, List.map_take, List.map_drop]; exact V) ?_, stp⟩
  rw [ev]; simp; omega
end Steps2
/-! numbers and strings -/
theorem own_ins {Z : State} {h : Heap} {a : Addr} {C D : String} (W : Wds Z) (F : Exa Z h a C) (w : Jvm.Cond.castable C D ∈ tables_1) : Ins Z h a D true := by
  obtain ⟨a0, hw⟩ := W.w; exact Ins.of_exa F (hw _ w)
theorem own_sne {Z : State} {C O n d O' n' d' : String} {t t' : FieldType} (W : Wds Z) (L : Jvm.Cond.lays C O n d ∈ tables_1 ∨ Jvm.Cond.laysFinal C O n d ∈ tables_1) (L' : Jvm.Cond.lays C O' n' d' ∈ tables_1 ∨ Jvm.Cond.laysFinal C O' n' d' ∈ tables_1) (hn : n ≠ n') (ht : parseFieldDescriptor d = some t) (ht' : parseFieldDescriptor d' = some t') : Jvm.RoadKit.slotOf Z O n d ≠ Jvm.RoadKit.slotOf Z O' n' d' := by
  obtain ⟨a0, hw⟩ := W.w
  exact slot_ne (a0 := a0) (C := C) (L.imp (hw _) (hw _)) (L'.imp (hw _) (hw _)) hn ht ht'
theorem own_len {n : Nat} (h : n < 2 ^ 31) : n.toInt32.toInt = n := len_toInt h
theorem own_lt {i n : Nat} (hn : n < 2 ^ 31) (h : i < n) : i.toInt32 < n.toInt32 := by
  rw [Int32.lt_iff_toInt_lt, own_len hn, own_len (by omega)]; omega
theorem own_nlt {i n : Nat} (hi : i < 2 ^ 31) (h : n ≤ i) : ¬ i.toInt32 < n.toInt32 := by
  rw [Int32.lt_iff_toInt_lt, own_len hi, own_len (by omega)]; omega
theorem own_n0 {i : Nat} (h : i < 2 ^ 31) : ¬ i.toInt32 < 0 := by
  rw [Int32.lt_iff_toInt_lt, own_len h]; simp
theorem own_cl {i : Nat} (h : i < 2 ^ 31) : i.toInt32.toNatClampNeg = i := by
  rw [Int32.toNatClampNeg, own_len h]; simp
theorem own_s (i : Nat) : i.toInt32 + 1 = (i + 1).toInt32 := (Int32.ofNat_add i 1).symm
theorem own_ne0 {n : Nat} (hn : n < 2 ^ 31) (h : 0 < n) : ¬ n.toInt32 = 0 := fun e => by
  have := congrArg Int32.toInt e; rw [own_len hn] at this; simp at this; omega
def isL (c : Int32) : Prop := 0 ≤ c.toInt ∧ c.toInt ≤ 255
def isC (c : Int32) : Prop := 0 ≤ c.toInt ∧ c.toInt ≤ 65535
theorem isL.c {c : Int32} (h : isL c) : isC c := ⟨h.1, by have := h.2; omega⟩
theorem own_char {x : Int32} (h : isC x) : nar .char x = x := Int32.toInt_inj.mp (by have := c_i2c x; obtain ⟨h1, h2⟩ := h; simp only [nar]; omega)
theorem own_isC (x : Int32) : isC (nar .char x) := by have := c_i2c x; simp only [nar]; exact ⟨this.2.1, by omega⟩
theorem own_nn {x : Int32} : nar .char (nar .char x) = nar .char x := own_char (own_isC x)
theorem own_nb {x : Int32} : nar .byte (nar .byte x) = nar .byte x := by
  have h1 := c_i2b x
  have h2 := c_i2b (nar .byte x)
  simp only [nar] at *
  exact Int32.toInt_inj.mp (by omega)
theorem own_back {c : Int32} (h : isL c) : nar .char (nar .byte c &&& 255) = c := by
  have h1 := c_i2b c
  have h2 := c_mask (nar .byte c) 255 8 (by decide) (by decide)
  have h3 := c_i2c (nar .byte c &&& 255)
  obtain ⟨g1, g2⟩ := h
  simp only [nar] at *
  exact Int32.toInt_inj.mp (by omega)
theorem own_le255 {c : Int32} (h : isL c) : ¬ (255 : Int32) < c := by
  rw [Int32.lt_iff_toInt_lt]; have := h.2; simp only [Int32.reduceToInt]; omega
theorem own_cat {f : Value} (h : f.isRef = true) : f.category = 1 := by rcases ref_cases h with rfl | ⟨a, rfl⟩ <;> rfl
theorem own_ext {h h' : Heap} (K : Keep h h' []) : Ext h h' := ⟨K.1, fun a c q => K.2.1 a c q nin0⟩
theorem own_keep {h h' : Heap} {ws : List Addr} (E : Ext h h') : Keep h h' ws := (Keep.refl _ _).ext E
theorem Exa.ltb {Z : State} {h : Heap} {a : Addr} {C : String} (F : Exa Z h a C) : a < h.size := F.lt
/-- a Latin-1 String x whose bytes lie at b -/
def Str (Z : State) (h : Heap) (x b : Addr) (cs : List Int32) : Prop := Exa Z h x "java/lang/String" ∧ Fld Z h x "java/lang/String" "value" "[B" (.ref b) ∧ Fld Z h x "java/lang/String" "coder" "B" (.int 0) ∧ Vec Z h b .byte (cs.map (nar .byte)) ∧ (∀ c ∈ cs, isL c) ∧ cs.length < 2 ^ 31
section StrF
variable {Z : State} {h h' : Heap} {x b : Addr} {cs : List Int32} {ws : List Addr}
theorem Str.lt (F : Str Z h x b cs) : x < h.size := F.1.lt
theorem Str.ltb (F : Str Z h x b cs) : b < h.size := F.2.2.2.1.lt
theorem Str.ext (F : Str Z h x b cs) (E : Ext h h') : Str Z h' x b cs := ⟨F.1.ext E, F.2.1.ext E, F.2.2.1.ext E, F.2.2.2.1.ext E, F.2.2.2.2⟩
theorem Str.keep (F : Str Z h x b cs) (K : Keep h h' ws) (q : x ∉ ws) (q' : b ∉ ws) : Str Z h' x b cs := ⟨F.1.keep K, F.2.1.keep K q, F.2.2.1.keep K q, F.2.2.2.1.keep K q', F.2.2.2.2⟩
end StrF
theorem own_and255 (y : Int32) : isL (nar .char (y &&& 255)) := by
  have h1 := c_and y 255 (by decide)
  have h2 : (255 : Int32).toInt = 255 := by decide
  have h3 : nar .char (y &&& 255) = y &&& 255 := own_char ⟨h1.1, by omega⟩
  rw [h3]; exact ⟨h1.1, by omega⟩
theorem own_an {P : Int32 → Prop} : ∀ c ∈ ([] : List Int32), P c := fun _ q => nomatch q
theorem own_ac {P : Int32 → Prop} {a : Int32} {t : List Int32} (h : P a) (r : ∀ c ∈ t, P c) : ∀ c ∈ a :: t, P c := fun c q => by
  rcases List.mem_cons.mp q with rfl | q
  · exact h
  · exact r c q
theorem own_narR {t : FieldType} {v : Value} (h : v.isRef = true) : narrow t v = v := by rcases ref_cases h with rfl | ⟨a, rfl⟩ <;> cases t <;> rfl
theorem own_fitR {t : FieldType} {v : Value} (h : v.isRef = true) (ht : t.isReference = true) : fits t v = true := by rcases ref_cases h with rfl | ⟨a, rfl⟩ <;> cases t <;> first | rfl | (cases ht)
theorem Fld.det {Z : State} {h : Heap} {a : Addr} {C n d : String} {v w : Value} (F : Fld Z h a C n d v) (G : Fld Z h a C n d w) : v = w := Decidable.byContradiction fun q => (F.ne G q) rfl
theorem Vec.det {Z : State} {h : Heap} {a : Addr} {ty ty' : FieldType} {vs ws : List Int32} (F : Vec Z h a ty vs) (G : Vec Z h a ty' ws) : vs = ws := by
  obtain ⟨c, A, q, -⟩ := F
  obtain ⟨c', A', q', -⟩ := G
  cases A.1.symm.trans A'.1
  have e := q.symm.trans q'
  exact (List.map_inj_right (fun a b e => by cases e; rfl)).mp e
theorem own_inj {c d : Int32} (h : isL c) (g : isL d) (e : nar .byte c = nar .byte d) : c = d := by rw [← own_back h, ← own_back g, e]
theorem own_mapinj : ∀ {cs ds : List Int32}, (∀ c ∈ cs, isL c) → (∀ d ∈ ds, isL d) → cs.map (nar .byte) = ds.map (nar .byte) → cs = ds
  | [], [], _, _, _ => rfl
  | [], _ :: _, _, _, e => by cases e
  | _ :: _, [], _, _, e => by cases e
  | c :: cs, d :: ds, h, g, e => by
    simp only [List.map_cons, List.cons.injEq] at e
    rw [own_inj (h c (by simp)) (g d (by simp)) e.1, own_mapinj (fun c q => h c (by simp [q])) (fun c q => g c (by simp [q])) e.2]
theorem Str.det {Z : State} {h : Heap} {x b b' : Addr} {cs ds : List Int32} (F : Str Z h x b cs) (G : Str Z h x b' ds) : cs = ds := by
  have e := Fld.det F.2.1 G.2.1
  cases e
  exact own_mapinj F.2.2.2.2.1 G.2.2.2.2.1 (F.2.2.2.1.det G.2.2.2.1)
theorem own_ofinj {i n : Nat} (hi : i < 2 ^ 31) (hn : n < 2 ^ 31) (e : i.toInt32 = n.toInt32) : i = n := by
  have := congrArg Int32.toInt e; rw [own_len hi, own_len hn] at this; omega
theorem Go.ldcS {l : Launch} {Z : State} {n0 : Nat} {R : Room} {K : Cx} {Q : Option Value → Heap → List Addr → Prop} {h : Heap} {sf : List Addr} {k j pc pc' : Nat} {ls : Array Slot} {st : List Value} {own : String} {bytes : ByteArray} {maxL : Nat} {ret : Option FieldType} {nm : String} {idx : Nat} {text : String} (cs : List Int32) (zl : Int32) (n : Nat)
    (H : Ok Z K own bytes maxL ret nm) (d : decode bytes pc = .ok (.ldc idx, 2)) (hp : pc + 2 = pc') (w : Jvm.Cond.stringLink own idx text ∈ tables_1) (hm : (own, idx) ∈ consts_1) (ht : (∀ c ∈ text.toList, c.toNat < 256) ∧ text.toList.map (fun c => Value.int (Jvm.Lit.byteI c.toNat.toUInt16)) = (cs.map (nar .byte)).map Value.int) (hL : ∀ c ∈ cs, isL c) (hz : ¬ zl < 0) (hl : zl.toNatClampNeg = cs.length) (hn : 4 * text.toList.length ≤ n) (hbig : n ≤ 536870912) (hc : k + 2 ≤ R.cells) (hsl : j + (n + 4) ≤ R.slots)
    (r : ∀ a b h', Ext h h' → Str Z h' a b cs → (∀ x ∈ sf, x ≠ a ∧ x ≠ b) → Go l Z n0 R K Q h' sf (k + 2) (j + (n + 4)) pc' ls (.ref a :: st)) : Go l Z n0 R K Q h sf k j pc ls st := by
  subst hp
  obtain ⟨p, e, s, m, args, below, meth, c⟩ := K
  intro vm0 k0 T locs X eT hS hk hC hSf hF hO
  obtain ⟨H1, H2, H3, H4, H5, H6, H7, H8, a0, hw, hEL, hat⟩ := H
  have hZ0 : Z.Warmed39 vm0 := State.Warmed39.trans H6 hS.1
  have hown0 : vm0.findClass own = some m.cls := (hS.1.alike.findClass _ _).trans H5
  obtain ⟨a, T', h', k1, b, kc, X', eT', E, hS', hk', hZ', hown', A, Fc, Fv, V, la, lb, hC', -, hne, stp⟩ := ldcCH X H1 hZ0 hown0 (hw _ w) hat eT hS hk hEL hm hC.1 (vs := (cs.map (nar .byte)).map Value.int) (z := zl) ht hz (by simp [hl]) (g := mkF m pc ls st) rfl (hb H2 d) hn hbig hc hsl
  have hS2 := hSf.chr hC'
  have hlen := (back32 hz).2
  obtain ⟨s₂, o, h1, h2⟩ := r a b h' E ⟨A, Fv, Fc, own_ofarv V (by simp [hl]), hL, by omega⟩ (fun x hx => hne x (hS2 x hx).2) T'.vm k1 T' locs X' eT' hS' hk' (hC.trans hC') hS2 hF (hO.ext E)
  exact ⟨s₂, o, stp _ h1, h2⟩
section StepsY
variable {l : Launch} {Z : State} {n0 : Nat} {R : Room} {K : Cx} {Q : Option Value → Heap → List Addr → Prop} {h : Heap} {sf : List Addr} {k j pc pc' : Nat} {ls ls' : Array Slot} {st : List Value} {own : String} {bytes : ByteArray} {maxL : Nat} {ret : Option FieldType} {nm : String}
theorem own_nfs {s : State} {args : Array Value} {C : String} {y y' : MethodName} (hc : y'.cls = y.cls) (w : (Jvm.Cond.selects C y' y').before args s = true) (wi : (Jvm.Cond.instanceMethod y').before args s = true) : NotFace s y := fun r0 h0 => by
  obtain ⟨mk, methM, hnamed, -⟩ := Cond.instanceMethod_spec wi
  obtain ⟨kr, h1, h2⟩ := notFace_of_selects w mk hnamed
  have e1 := findClass_of_methodNamed hnamed
  have e2 := findClass_of_methodNamed h0
  rw [hc] at e1
  have e3 : mk.cls = r0.cls := Option.some.inj (e1.symm.trans e2)
  exact ⟨kr, e3 ▸ h1, h2⟩
theorem own_same {s : State} {args : Array Value} {C : String} {y y' : MethodName} (hc : y'.cls = y.cls) (w : (Jvm.Cond.selects C y' y').before args s = true) (wi : (Jvm.Cond.instanceMethod y').before args s = true) (wy : (Jvm.Cond.instanceMethod y).before args s = true) (hy : y.cls ≠ "java/lang/invoke/MethodHandle" ∧ y.cls ≠ "java/lang/invoke/VarHandle") : (Jvm.Cond.sameMethod y.cls y.cls y.name y.desc).before args s = true := by
  obtain ⟨mk, methM, hnamed, -⟩ := Cond.instanceMethod_spec wy
  have hfound := State.methodFound?_of_named hnamed hy
  have hcl := findClass_of_methodNamed hnamed
  obtain ⟨kr, h1, h2⟩ := own_nfs hc w wi mk hnamed
  have hn' : s.methodNamed? ⟨y.cls, y.name, y.desc⟩ = some mk := hnamed
  simp only [Cond.before, Cond.holds, Cond.value, hcl, hfound, hn', h1]
  simp [h2]
theorem Go.callU {y y' : MethodName} {C' : String} {C : String} {ybytes : ByteArray} {ymaxL : Nat} {yret : Option FieldType} {rm : Room} {Qc : Option Value → Heap → List Addr → Prop} {sfc : List Addr} {rest : List Value} (W : Nat) {idx : Nat} {a : Addr} (argsL : List Value) {ps : List FieldType} {rt : Option FieldType} (H : Ok Z K own bytes maxL ret nm) (d : decode bytes pc = .ok (.invokespecial idx, 3)) (hp : pc + 3 = pc') (E : Exa Z h a C) (hn : y.name ≠ "<init>")
    (hl : Jvm.Cond.methodLink own idx y ∈ tables_1) (hnf : y'.cls = y.cls ∧ Jvm.Cond.selects C' y' y' ∈ tables_1 ∧ Jvm.Cond.instanceMethod y' ∈ tables_1) (hsu : Jvm.Cond.superclass own y.cls ∈ tables_1) (hst : Jvm.Cond.instanceMethod y ∈ tables_1) (hi : Jvm.Cond.initialized y.cls ∈ tables_1) (hc : Jvm.Cond.code y ybytes ymaxL yret ∈ tables_1) (hpd : parseMethodDescriptor y.desc = some ⟨ps, rt⟩)
    (ct : Ctr l Z n0 y ybytes ymaxL yret rm (.ref a :: argsL).toArray h sfc Qc) (hsf : ∀ x ∈ sfc, x ∈ sf) (hlen : argsL.length = ps.length) (hsz : ls.size = maxL) (hstk : st = argsL.reverse ++ .ref a :: rest) (hW : (rest.map fun v => v.category).sum ≤ W)
    (hfr : rm.frames + 1 ≤ R.frames) (hlo : W + (ymaxL + 11) + rm.locals ≤ R.locals) (hce : k + rm.cells ≤ R.cells) (hsl : j + rm.slots ≤ R.slots) (hy : y.cls ≠ "java/lang/invoke/MethodHandle" ∧ y.cls ≠ "java/lang/invoke/VarHandle")
    (r : ∀ (v : Option Value) (h' : Heap) (sn : List Addr), Qc v h' sn → Go l Z n0 R K Q h' (sn ++ sf) (k + rm.cells) (j + rm.slots) pc' ls (v.toList ++ rest)) : Go l Z n0 R K Q h sf k j pc ls st := by
  subst hp
  refine Go.ofCall (W := W) (rest := rest) H ct hsf hc hi hfr hlo hce hsl ?_ r
  intro p e s m args below meth c T locs a0 hw X hx hby hml hZ hown eT Pre Post hB hpre
  obtain ⟨v, vm₁, B, -, X', hS2, hgr, hpost, stp⟩ := Jvm.RoadKit.superBackS X hx hZ (y := y) hown (hw _ hl) (own_same hnf.1 (hw _ hnf.2.1) (hw _ hnf.2.2) (hw _ hst) hy) (hw _ hst) (hw _ hsu) hn hB eT (Ins.self E) (g := mkF m pc ls st) rfl (by rw [hml]; exact hsz) (hw _ hc) (argsL := argsL) (rest := rest) (lenOf hpd hlen) hstk (by show 2 * 0 + _ ≤ _; simpa using hW) (hb hby d) hpre
  exact ⟨v, vm₁, B, X', hS2, hgr, hpost, fun t ht => stp.trans ht⟩
theorem Go.callV2 {y z y' : MethodName} {C C' : String} {ybytes : ByteArray} {ymaxL : Nat} {yret : Option FieldType} {rm : Room} {Qc : Option Value → Heap → List Addr → Prop} {sfc : List Addr} {rest : List Value} (W : Nat) {idx : Nat} {a : Addr} (argsL : List Value) {ps : List FieldType} {rt : Option FieldType} (H : Ok Z K own bytes maxL ret nm) (d : decode bytes pc = .ok (.invokevirtual idx, 3)) (hp : pc + 3 = pc') (E : Exa Z h a C)
    (hl : Jvm.Cond.methodLink own idx y ∈ tables_1) (hde : Jvm.Cond.declares y ∈ tables_1) (hnf : y'.cls = y.cls ∧ Jvm.Cond.selects C' y' y' ∈ tables_1 ∧ Jvm.Cond.instanceMethod y' ∈ tables_1) (hse : Jvm.Cond.selects C y z ∈ tables_1) (hst : Jvm.Cond.instanceMethod z ∈ tables_1) (hi : Jvm.Cond.initialized z.cls ∈ tables_1) (hc : Jvm.Cond.code z ybytes ymaxL yret ∈ tables_1) (hpd : parseMethodDescriptor y.desc = some ⟨ps, rt⟩)
    (ct : Ctr l Z n0 z ybytes ymaxL yret rm (.ref a :: argsL).toArray h sfc Qc) (hsf : ∀ x ∈ sfc, x ∈ sf) (hlen : argsL.length = ps.length) (hsz : ls.size = maxL) (hstk : st = argsL.reverse ++ .ref a :: rest) (hW : (rest.map fun v => v.category).sum ≤ W)
    (hfr : rm.frames + 1 ≤ R.frames) (hlo : W + (ymaxL + 11) + rm.locals ≤ R.locals) (hce : k + rm.cells ≤ R.cells) (hsl : j + rm.slots ≤ R.slots) (hy : y.cls ≠ "java/lang/invoke/MethodHandle" ∧ y.cls ≠ "java/lang/invoke/VarHandle")
    (r : ∀ (v : Option Value) (h' : Heap) (sn : List Addr), Qc v h' sn → Go l Z n0 R K Q h' (sn ++ sf) (k + rm.cells) (j + rm.slots) pc' ls (v.toList ++ rest)) : Go l Z n0 R K Q h sf k j pc ls st := by
  subst hp
  refine Go.ofCall (W := W) (rest := rest) H ct hsf hc hi hfr hlo hce hsl ?_ r
  intro p e s m args below meth c T locs a0 hw X hx hby hml hZ hown eT Pre Post hB hpre
  obtain ⟨cq, kq, qa, qb, qc⟩ := isOf hZ eT E
  obtain ⟨v, vm₁, B, -, X', hS2, hgr, hpost, stp⟩ := X.virtualBackS hx (y := y) (z := z) hown (mvT hZ (hw _ hl)) (mvT hZ (hw _ hde)) (own_nfs (args := #[]) hnf.1 (mvT hZ (hw _ hnf.2.1)) (mvT hZ (hw _ hnf.2.2))) (mvT hZ (hw _ hse)) (mvT hZ (hw _ hst)) hy hB qa qc (g := mkF m pc ls st) rfl (by rw [hml]; exact hsz) (Steps.refl _) (argsL := argsL) (rest := rest) (lenOf hpd hlen) hstk (by show 2 * 0 + _ ≤ _; simpa using hW) (hb hby d) hpre
  exact ⟨v, vm₁, B, X', hS2, hgr, hpost, fun t ht => stp.trans ht⟩
theorem Go.callP {y : MethodName} {C : String} {ybytes : ByteArray} {ymaxL : Nat} {yret : Option FieldType} {rm : Room} {Qc : Option Value → Heap → List Addr → Prop} {sfc : List Addr} {rest : List Value} (W : Nat) {idx : Nat} {a : Addr} (argsL : List Value) {ps : List FieldType} {rt : Option FieldType} (H : Ok Z K own bytes maxL ret nm) (d : decode bytes pc = .ok (.invokevirtual idx, 3)) (hp : pc + 3 = pc') (E : Exa Z h a C)
    (hl : Jvm.Cond.methodLink own idx y ∈ tables_1) (hpr : Jvm.Cond.privateMethod y ∈ tables_1) (hse : Jvm.Cond.selects C y y ∈ tables_1) (hst : Jvm.Cond.instanceMethod y ∈ tables_1) (hi : Jvm.Cond.initialized y.cls ∈ tables_1) (hc : Jvm.Cond.code y ybytes ymaxL yret ∈ tables_1) (hpd : parseMethodDescriptor y.desc = some ⟨ps, rt⟩)
    (ct : Ctr l Z n0 y ybytes ymaxL yret rm (.ref a :: argsL).toArray h sfc Qc) (hsf : ∀ x ∈ sfc, x ∈ sf) (hlen : argsL.length = ps.length) (hsz : ls.size = maxL) (hstk : st = argsL.reverse ++ .ref a :: rest) (hW : (rest.map fun v => v.category).sum ≤ W)
    (hfr : rm.frames + 1 ≤ R.frames) (hlo : W + (ymaxL + 11) + rm.locals ≤ R.locals) (hce : k + rm.cells ≤ R.cells) (hsl : j + rm.slots ≤ R.slots) (hy : y.cls ≠ "java/lang/invoke/MethodHandle" ∧ y.cls ≠ "java/lang/invoke/VarHandle")
    (r : ∀ (v : Option Value) (h' : Heap) (sn : List Addr), Qc v h' sn → Go l Z n0 R K Q h' (sn ++ sf) (k + rm.cells) (j + rm.slots) pc' ls (v.toList ++ rest)) : Go l Z n0 R K Q h sf k j pc ls st := by
  subst hp
  refine Go.ofCall (W := W) (rest := rest) H ct hsf hc hi hfr hlo hce hsl ?_ r
  intro p e s m args below meth c T locs a0 hw X hx hby hml hZ hown eT Pre Post hB hpre
  obtain ⟨cell, kq, q1, q2, q3, q4, -⟩ := E
  have hin : (Jvm.Cond.instanceMethod y).before args s = true := mvT hZ (hw _ hst)
  have hP : s.PrivateAt y := Cond.privateMethod_at (mvP (args := args) hZ (hw _ hpr))
  obtain ⟨mk, methM, hnamed, -⟩ := Cond.instanceMethod_spec hin
  obtain ⟨kr, n1, n2⟩ := notFace_of_selects (args := args) (mvT hZ (hw _ hse)) mk hnamed
  have hsel : (Jvm.Cond.selects y.cls y y).before args s = true := Jvm.Stand.selects_self_of_private (findClass_of_methodNamed hnamed) n1 n2 hP hin hy
  obtain ⟨v, vm₁, B, -, X', hS2, hgr, hpost, stp⟩ := X.privateBackS hx (y := y) hown (mvT hZ (hw _ hl)) hin hsel hP (mvT hZ (hw _ hc)) hy hB (g := mkF m pc ls st) rfl (by rw [hml]; exact hsz) (Steps.refl _) (a := a) (by rw [eT]; exact q1) (fun q e => by rw [e] at q4; cases q4) (argsL := argsL) (rest := rest) (lenOf hpd hlen) hstk (by show 2 * 0 + _ ≤ _; simpa using hW) (hb hby d) hpre
  exact ⟨v, vm₁, B, X', hS2, hgr, hpost, fun t ht => stp.trans ht⟩
end StepsY
section StepsF
variable {l : Launch} {Z : State} {n0 : Nat} {R : Room} {K : Cx} {Q : Option Value → Heap → List Addr → Prop} {h : Heap} {sf : List Addr} {k j pc pc' : Nat} {ls : Array Slot} {st : List Value} {own : String} {bytes : ByteArray} {maxL : Nat} {ret : Option FieldType} {nm : String}
theorem Go.ldcFloat {idx : Nat} {b : UInt32} (H : Ok Z K own bytes maxL ret nm) (d : decode bytes pc = .ok (.ldc idx, 2)) (hp : pc + 2 = pc') (w : Jvm.Cond.constantFloat own idx b ∈ tables_1) (r : Go l Z n0 R K Q h sf k j pc' ls (.float b :: st)) : Go l Z n0 R K Q h sf k j pc ls st := by
  subst hp
  refine Go.of2 H ?_ r
  intro p e s m args below meth c T locs a0 hw X hx hby hml hZ hown eT hO
  exact ⟨T, X, eT, fun t hr => X.ldcFloatC hx hown (mvT hZ (hw _ w)) (g := mkF m pc ls st) rfl (hb hby d) t hr⟩
/-- a String constant of which nothing is asked -/
theorem Go.ldc0 {idx : Nat} {text : String} (n : Nat) (H : Ok Z K own bytes maxL ret nm) (d : decode bytes pc = .ok (.ldc idx, 2)) (hp : pc + 2 = pc') (w : Jvm.Cond.stringLink own idx text ∈ tables_1) (hE : consts_1 = []) (hn : 4 * text.toList.length ≤ n) (hbig : n ≤ 536870912) (hc : k + 2 ≤ R.cells) (hsl : j + (n + 4) ≤ R.slots)
    (r : ∀ a h', Ext h h' → Go l Z n0 R K Q h' sf (k + 2) (j + (n + 4)) pc' ls (.ref a :: st)) : Go l Z n0 R K Q h sf k j pc ls st := by
  subst hp
  obtain ⟨p, e, s, m, args, below, meth, c⟩ := K
  intro vm0 k0 T locs X eT hS hk hC hSf hF hO
  obtain ⟨H1, H2, H3, H4, H5, H6, H7, H8, a0, hw, hEL, hat⟩ := H
  have hZ0 : Z.Warmed39 vm0 := State.Warmed39.trans H6 hS.1
  have hown0 : vm0.findClass own = some m.cls := (hS.1.alike.findClass _ _).trans H5
  obtain ⟨a, T', h', k1, X', eT', E, hS', hk', -, -, stp⟩ := Jvm.RoadKit.ldcS X H1 hZ0 hown0 (hw _ w) hat eT hS hk (g := mkF m pc ls st) rfl (hb H2 d) hn hbig hc hsl
  have hno : ∀ p : String × Nat, p ∈ consts_1 → False := fun p hp => by rw [hE] at hp; exact absurd hp (List.not_mem_nil)
  have hC' : CHr Z consts_1 vm0 h T'.vm h' := ⟨fun p hp => (hno p hp).elim, E.1, fun y B => (hno _ B.choose_spec.1).elim⟩
  obtain ⟨s₂, o, h1, h2⟩ := r a h' E T'.vm k1 T' locs X' eT' hS' hk' (hC.trans hC') (hSf.chr hC') hF (hO.ext E)
  exact ⟨s₂, o, stp _ h1, h2⟩
end StepsF
def Sx0 (Z : State) (z : Int32) (f : Value) : Prop := Wds Z ∧ ¬ z = 0 ∧ Sta Z Z.heap "java/lang/String" "COMPACT_STRINGS" "Z" (.int z) ∧ f.isRef = true ∧ Sta Z Z.heap "jdk/internal/util/Preconditions" "SIOOBE_FORMATTER" "Ljava/util/function/BiFunction;" f
def SxU (Z : State) (z : Int32) (f : Value) : Prop := Sx0 Z z f ∧ Sta Z Z.heap "java/lang/StringUTF16" "$assertionsDisabled" "Z" (.int 1) ∧ Sta Z Z.heap "java/lang/StringUTF16" "HI_BYTE_SHIFT" "I" (.int 0) ∧ Sta Z Z.heap "java/lang/StringUTF16" "LO_BYTE_SHIFT" "I" (.int 8)
/-! UTF-16 strings -/
def enc16 : List Int32 → List Int32
  | [] => []
  | c :: t => nar .byte (c >>> ((0 : Int32) &&& 31)) :: nar .byte (c >>> ((8 : Int32) &&& 31)) :: enc16 t
theorem enc16_len : ∀ cs : List Int32, (enc16 cs).length = 2 * cs.length
  | [] => rfl
  | c :: t => by simp only [enc16, List.length_cons, enc16_len t]; omega
theorem enc16_app : ∀ a b : List Int32, enc16 (a ++ b) = enc16 a ++ enc16 b
  | [], b => rfl
  | c :: t, b => by simp only [enc16, List.cons_append, enc16_app t b]
theorem enc16_0 : ∀ {cs : List Int32} {i : Nat} {c : Int32}, cs[i]? = some c → (enc16 cs)[2 * i]? = some (nar .byte (c >>> ((0 : Int32) &&& 31)))
  | [], _, _, h => by simp at h
  | d :: t, 0, c, h => by cases h; rfl
  | d :: t, i + 1, c, h => by
    have q := enc16_0 (cs := t) (i := i) (c := c) (by simpa using h)
    rw [show 2 * (i + 1) = 2 * i + 1 + 1 from by omega]; simpa [enc16] using q
theorem enc16_1 : ∀ {cs : List Int32} {i : Nat} {c : Int32}, cs[i]? = some c → (enc16 cs)[2 * i + 1]? = some (nar .byte (c >>> ((8 : Int32) &&& 31)))
  | [], _, _, h => by simp at h
  | d :: t, 0, c, h => by cases h; rfl
  | d :: t, i + 1, c, h => by
    have q := enc16_1 (cs := t) (i := i) (c := c) (by simpa using h)
    rw [show 2 * (i + 1) + 1 = 2 * i + 1 + 1 + 1 from by omega]; simpa [enc16] using q
theorem own_fill16 {cs : List Int32} {i m : Nat} {c : Int32} (hc : cs[i]? = some c) : ((enc16 (cs.take i) ++ List.replicate (2 * (m + 1)) 0).set (2 * i) (nar .byte (c >>> ((0 : Int32) &&& 31)))).set (2 * i + 1) (nar .byte (c >>> ((8 : Int32) &&& 31))) = enc16 (cs.take (i + 1)) ++ List.replicate (2 * m) 0 := by
  have hl : i < cs.length := (List.getElem?_eq_some_iff.mp hc).1
  have h1 : (enc16 (cs.take i)).length = 2 * i := by rw [enc16_len, List.length_take]; omega
  rw [show 2 * (m + 1) = 2 * m + 1 + 1 from by omega, List.replicate_succ, List.replicate_succ, List.set_append_right _ _ (by omega), h1, Nat.sub_self, List.set_cons_zero, List.set_append_right _ _ (by omega), h1, show 2 * i + 1 - 2 * i = 1 from by omega, List.set_cons_succ, List.set_cons_zero, List.take_add_one, hc, enc16_app]
  simp [enc16]
theorem own_shl1 {n : Nat} (hn : n < 2 ^ 30) : n.toInt32 <<< ((1 : Int32) &&& 31) = (2 * n).toInt32 := by
  have h := c_ishl n.toInt32 1 1 (by decide)
  have h2 := rng32 (n.toInt32 <<< ((1 : Int32) &&& 31))
  apply Int32.toInt_inj.mp
  rw [own_len (by omega)]
  rw [own_len (by omega)] at h
  omega
theorem own_ul {n : Nat} (hn : n < 2 ^ 30) : (2 * n).toInt32 >>> ((1 : Int32) &&& 31) = n.toInt32 := by
  apply Int32.toInt_inj.mp
  rw [c_ishr (2 * n).toInt32 1 1 (by decide), own_len (by omega), own_len (by omega)]
  omega
theorem own_back16 {c : Int32} (h : isC c) : nar .char (((nar .byte (c >>> ((0 : Int32) &&& 31)) &&& (255 : Int32)) <<< ((0 : Int32) &&& 31)) ||| ((nar .byte (c >>> ((8 : Int32) &&& 31)) &&& (255 : Int32)) <<< ((8 : Int32) &&& 31))) = c := by
  have a1 := c_ishr c 0 0 (by decide)
  have a2 := c_ishr c 8 8 (by decide)
  have b1 := c_i2b (c >>> ((0 : Int32) &&& 31))
  have b2 := c_i2b (c >>> ((8 : Int32) &&& 31))
  simp only [nar]
  generalize (c >>> ((0 : Int32) &&& 31)).toInt8.toInt32 = p at *
  generalize (c >>> ((8 : Int32) &&& 31)).toInt8.toInt32 = q at *
  have m1 := c_mask p 255 8 (by decide) (by decide)
  have m2 := c_mask q 255 8 (by decide) (by decide)
  generalize p &&& (255 : Int32) = p' at *
  generalize q &&& (255 : Int32) = q' at *
  have s1 := c_ishl p' 0 0 (by decide)
  have s2 := c_ishl q' 8 8 (by decide)
  have r1 := rng32 (p' <<< ((0 : Int32) &&& 31))
  have r2 := rng32 (q' <<< ((8 : Int32) &&& 31))
  generalize p' <<< ((0 : Int32) &&& 31) = p2 at *
  generalize q' <<< ((8 : Int32) &&& 31) = q2 at *
  obtain ⟨h1, h2⟩ := h
  have o := c_or' p2 q2 8 (by decide) 256 (by decide) (by omega) (by omega) (by omega)
  have r3 := rng32 (p2 ||| q2)
  generalize p2 ||| q2 = w at *
  have f := c_i2c w
  exact Int32.toInt_inj.mp (by omega)
theorem own_ltk {n : Nat} (h : n < 1073741823) : n.toInt32 < (1073741823 : Int32) := by
  rw [Int32.lt_iff_toInt_lt, own_len (by omega)]; simp only [Int32.reduceToInt]; omega
theorem own_codU {n : Nat} (hp : 0 < n) (hn : n < 2 ^ 30) : nar .byte (((n.toInt32 - (2 * n).toInt32).toUInt32 >>> ((31 : Int32) &&& 31).toUInt32).toInt32) = 1 := by
  have h := c_iushr (n.toInt32 - (2 * n).toInt32) 31 31 (by decide) (by decide)
  rw [Int32.toInt_sub, own_len (by omega), own_len (by omega), Int.bmod_eq_of_le (by omega) (by omega)] at h
  have e : ((n.toInt32 - (2 * n).toInt32).toUInt32 >>> ((31 : Int32) &&& 31).toUInt32).toInt32 = 1 := Int32.toInt_inj.mp (by rw [h]; simp only [Int32.reduceToInt]; omega)
  rw [e]; decide
theorem own_gt255 {c : Int32} (h : (255 : Int32) < c) : ¬ isL c := fun q => by
  rw [Int32.lt_iff_toInt_lt] at h; have := q.2; simp only [Int32.reduceToInt] at h; omega
theorem own_isL {c : Int32} (hC : isC c) (h : ¬ (255 : Int32) < c) : isL c := by
  rw [Int32.lt_iff_toInt_lt] at h; simp only [Int32.reduceToInt] at h; exact ⟨hC.1, by omega⟩
theorem own_nL {c : Int32} (hC : isC c) (h : ¬ isL c) : (255 : Int32) < c := Decidable.byContradiction fun q => h (own_isL hC q)
theorem own_takeL {cs : List Int32} {i : Nat} {c : Int32} (hc : cs[i]? = some c) (h : ∀ c ∈ cs.take i, isL c) (g : isL c) : ∀ c ∈ cs.take (i + 1), isL c := by
  rw [List.take_add_one, hc]; intro d q; rcases List.mem_append.mp q with q | q
  · exact h d q
  · simp at q; exact q ▸ g
/-- a UTF-16 String x whose bytes lie at b -/
def StrU (Z : State) (h : Heap) (x b : Addr) (cs : List Int32) : Prop := Exa Z h x "java/lang/String" ∧ Fld Z h x "java/lang/String" "value" "[B" (.ref b) ∧ Fld Z h x "java/lang/String" "coder" "B" (.int 1) ∧ Vec Z h b .byte (enc16 cs) ∧ (∀ c ∈ cs, isC c) ∧ cs.length < 2 ^ 30 ∧ ∃ c ∈ cs, ¬ isL c
/-- a String x, by either coder -/
def Stg (Z : State) (h : Heap) (x b : Addr) (cs : List Int32) : Prop := Str Z h x b cs ∨ StrU Z h x b cs
section StrG
variable {Z : State} {h h' : Heap} {x b : Addr} {cs : List Int32} {ws : List Addr}
theorem StrU.lt (F : StrU Z h x b cs) : x < h.size := F.1.lt
theorem StrU.ltb (F : StrU Z h x b cs) : b < h.size := F.2.2.2.1.lt
theorem StrU.ext (F : StrU Z h x b cs) (E : Ext h h') : StrU Z h' x b cs := ⟨F.1.ext E, F.2.1.ext E, F.2.2.1.ext E, F.2.2.2.1.ext E, F.2.2.2.2⟩
theorem StrU.keep (F : StrU Z h x b cs) (K : Keep h h' ws) (q : x ∉ ws) (q' : b ∉ ws) : StrU Z h' x b cs := ⟨F.1.keep K, F.2.1.keep K q, F.2.2.1.keep K q, F.2.2.2.1.keep K q', F.2.2.2.2⟩
theorem Stg.exa (F : Stg Z h x b cs) : Exa Z h x "java/lang/String" := F.elim (fun q => q.1) (fun q => q.1)
theorem Stg.lt (F : Stg Z h x b cs) : x < h.size := F.exa.lt
theorem Stg.ltb (F : Stg Z h x b cs) : b < h.size := F.elim (fun q => q.ltb) (fun q => q.ltb)
theorem Stg.ext (F : Stg Z h x b cs) (E : Ext h h') : Stg Z h' x b cs := F.imp (fun q => q.ext E) (fun q => q.ext E)
theorem Stg.keep (F : Stg Z h x b cs) (K : Keep h h' ws) (q : x ∉ ws) (q' : b ∉ ws) : Stg Z h' x b cs := F.imp (fun w => w.keep K q q') (fun w => w.keep K q q')
theorem Stg.isC (F : Stg Z h x b cs) : ∀ c ∈ cs, isC c := F.elim (fun q c m => (q.2.2.2.2.1 c m).c) (fun q => q.2.2.2.2.1)
end StrG
def CmpQ (Z : State) (d : Addr) (cs : List Int32) (h : Heap) (v : Option Value) (h' : Heap) (sn : List Addr) : Prop := ∃ r : Int32, v = some (.int r) ∧ Keep h h' [d] ∧ ((r = cs.length.toInt32 ∧ (∀ c ∈ cs, isL c) ∧ Vec Z h' d .byte (cs.map (nar .byte))) ∨ ∃ (i : Nat) (c : Int32), r = i.toInt32 ∧ cs[i]? = some c ∧ ¬ isL c) ∧ sn = []
theorem own_full {Z : State} {h : Heap} {d : Addr} {cs : List Int32} {i : Nat} (e : i = cs.length) (F : Vec Z h d .byte ((cs.take i).map (nar .byte) ++ List.replicate 0 0)) : Vec Z h d .byte (cs.map (nar .byte)) := by
  subst e; simpa using F
theorem own_fill {cs : List Int32} {g : Int32 → Int32} {i m : Nat} {c : Int32} (hc : cs[i]? = some c) : ((cs.take i).map g ++ List.replicate (m + 1) 0).set i (g c) = (cs.take (i + 1)).map g ++ List.replicate m 0 := by
  have hl : i < cs.length := (List.getElem?_eq_some_iff.mp hc).1
  have h1 : ((cs.take i).map g).length = i := by simp; omega
  rw [List.set_append_right _ _ (by omega), h1, Nat.sub_self, List.replicate_succ, List.set_cons_zero, List.take_add_one, hc]; simp
theorem own_allT {cs : List Int32} {i : Nat} (e : i = cs.length) (h : ∀ c ∈ cs.take i, isL c) : ∀ c ∈ cs, isL c := by
  subst e; simpa using h
theorem own_full16 {Z : State} {h : Heap} {d : Addr} {cs : List Int32} {i : Nat} (e : i = cs.length) (F : Vec Z h d .byte (enc16 (cs.take i) ++ List.replicate (2 * 0) 0)) : Vec Z h d .byte (enc16 cs) := by
  subst e; simpa using F
theorem own_cod (x : Int32) : nar .byte (((x - x).toUInt32 >>> ((31 : Int32) &&& 31).toUInt32).toInt32) = 0 := by rw [Int32.sub_self]; decide
theorem own_shr0 (x : Int32) : x >>> ((0 : Int32) &&& 31) = x := Int32.toInt_inj.mp (by rw [c_ishr x 0 0 (by decide)]; simp)
theorem own_ltn {i : Int32} {n ni : Nat} (h0 : ¬ i < 0) (hi : i.toNatClampNeg = ni) (hn : n < 2 ^ 31) (h : ni < n) : i < n.toInt32 := by
  rw [Int32.lt_iff_toInt_lt] at h0 ⊢; rw [own_len hn]; simp only [Int32.toNatClampNeg] at hi; simp only [Int32.reduceToInt] at h0; omega
theorem own_oflt {i : Int32} {ni : Nat} (h0 : ¬ i < 0) (hi : i.toNatClampNeg = ni) : i = ni.toInt32 ∧ ni < 2 ^ 31 := by
  have r := rng32 i
  rw [Int32.lt_iff_toInt_lt] at h0; simp only [Int32.toNatClampNeg] at hi; simp only [Int32.reduceToInt] at h0
  have h2 : ni < 2 ^ 31 := by omega
  exact ⟨Int32.toInt_inj.mp (by rw [own_len h2]; omega), h2⟩
theorem own_getm {cs : List Int32} {ni : Nat} {c : Int32} (hc : cs[ni]? = some c) : (cs.map (nar .byte))[ni]? = some (nar .byte c) := by rw [List.getElem?_map, hc]; rfl
theorem own_lenlt {cs : List Int32} {i : Nat} {c : Int32} (hc : cs[i]? = some c) : i < cs.length := (List.getElem?_eq_some_iff.mp hc).1
theorem own_chpos {cs : List Int32} (h : ∃ c ∈ cs, ¬ isL c) : cs ≠ [] := fun e => by subst e; obtain ⟨c, q, -⟩ := h; cases q
theorem Stg.neO {Z : State} {h : Heap} {x b y : Addr} {kk : Nat} {cs : List Int32} {C : String} (S : Stg Z h x b cs) (A : Exa Z h y C) (W : Wds Z) (wi : Jvm.Cond.instantiable C kk ∈ tables_1) : b ≠ y := by
  rcases S with S | S <;> exact Vec.neExa S.2.2.2.1 A W wi

def Sx (Z : State) (z : Int32) (f g : Value) (dv : Addr) : Prop := SxU Z z f ∧ g.isRef = true ∧ Sta Z Z.heap "jdk/internal/util/Preconditions" "IOOBE_FORMATTER" "Ljava/util/function/BiFunction;" g ∧ Sta Z Z.heap "java/util/ArrayList" "DEFAULTCAPACITY_EMPTY_ELEMENTDATA" "[Ljava/lang/Object;" (.ref dv)
theorem w8 : Jvm.Cond.instantiable "java/lang/String" (4 : Nat) ∈ tables_1 := List.mem_of_getElem? (i := 8) rfl
theorem d41_0 : decode jdk_52_method_3_code 0 = .ok (.iload_n 0, 1) := by decide +kernel
theorem d41_1 : decode jdk_52_method_3_code 1 = .ok (.ifCond .ge 11, 3) := by decide +kernel
theorem d41_12 : decode jdk_52_method_3_code 12 = .ok (.iload_n 0, 1) := by decide +kernel
theorem d41_13 : decode jdk_52_method_3_code 13 = .ok (.ldc 20, 2) := by decide +kernel
theorem w252 : Jvm.Cond.constant "java/lang/StringUTF16" (20 : Nat) (1073741823 : Int32) ∈ tables_1 := List.mem_of_getElem? (i := 252) rfl
theorem d41_15 : decode jdk_52_method_3_code 15 = .ok (.if_icmp .lt 40, 3) := by decide +kernel
theorem d41_55 : decode jdk_52_method_3_code 55 = .ok (.iload_n 0, 1) := by decide +kernel
theorem d41_56 : decode jdk_52_method_3_code 56 = .ok (.iconst 1, 1) := by decide +kernel
theorem d41_57 : decode jdk_52_method_3_code 57 = .ok (.ishl, 1) := by decide +kernel
theorem d41_58 : decode jdk_52_method_3_code 58 = .ok (.ireturn, 1) := by decide +kernel
abbrev N0 : MethodName := ⟨"java/lang/StringUTF16", "newBytesLength", "(I)I"⟩
theorem pn_N0 : plainName N0.cls = true := by first | (simp [plainName, overriddenIn]; done) | decide +kernel

abbrev rm_nbl : Room := { frames := 0, cells := 0, slots := 0, locals := 0 }
set_option maxRecDepth 65536 in
set_option maxHeartbeats 4000000 in
theorem ct_nbl (l : Launch) {Z : State} {n0 : Nat} {z : Int32} {f g : Value} {dv : Addr} (W : Sx Z z f g dv) (n : Nat) (h : Heap) (hn : n < 1073741823) :
    Ctr l Z n0 N0 jdk_52_method_3_code 1 (some .int) rm_nbl #[(.int n.toInt32)] h [] (fun v h' sn => v = some (.int (2 * n).toInt32) ∧ h = h' ∧ sn = []) := by
  refine Ctr.of_go (ls := #[.val (.int n.toInt32)]) W.1.1.1 (plainFor_of_name pn_N0) (fun m => by first | (simp [entryFrame, mkF, argsToLocals, Value.category]; done) | rfl) (fun K H => ?_)
  refine Go.iloadN H d41_0 rfl rfl ?_
  refine Go.ifY (pc' := 12) H d41_1 (flt (own_n0 (by omega))).2.1 (by decide) (by decide) ?_
  refine Go.iloadN H d41_12 rfl rfl ?_
  refine Go.ldcInt H d41_13 rfl w252 ?_
  refine Go.icmpY (pc' := 55) H d41_15 (tlt (own_ltk hn)).1 (by decide) (by decide) ?_
  refine Go.iloadN H d41_55 rfl rfl ?_
  refine Go.iconst (1 : Int32) H d41_56 rfl rfl ?_
  refine Go.ishl H d41_57 rfl ?_
  exact Go.ireturnI [] H d41_58 ⟨by rw [own_shl1 (by omega)], rfl, rfl⟩ all0 (by decide) (by decide)
theorem d40_0 : decode jdk_52_method_2_code 0 = .ok (.iload_n 0, 1) := by decide +kernel
theorem d40_1 : decode jdk_52_method_2_code 1 = .ok (.invokestatic 11, 3) := by decide +kernel
theorem w251 : Jvm.Cond.code N0 jdk_52_method_3_code (1 : Nat) (Option.some Jvm.ClassFile.FieldType.int) ∈ tables_1 := List.mem_of_getElem? (i := 251) rfl
theorem w247 : Jvm.Cond.initialized "java/lang/StringUTF16" ∈ tables_1 := List.mem_of_getElem? (i := 247) rfl
theorem pd_N0 : parseMethodDescriptor N0.desc = some ⟨[.int], (some .int)⟩ := by decide +kernel
theorem nh_N0 : N0.cls ≠ "java/lang/invoke/MethodHandle" ∧ N0.cls ≠ "java/lang/invoke/VarHandle" := by decide
theorem w249 : Jvm.Cond.methodLink "java/lang/StringUTF16" (11 : Nat) N0 ∈ tables_1 := List.mem_of_getElem? (i := 249) rfl
theorem w250 : Jvm.Cond.static N0 ∈ tables_1 := List.mem_of_getElem? (i := 250) rfl
theorem d40_4 : decode jdk_52_method_2_code 4 = .ok (.newarray .byte, 2) := by decide +kernel
theorem w9 : Jvm.Cond.arrayClass Jvm.ClassFile.FieldType.byte ∈ tables_1 := List.mem_of_getElem? (i := 9) rfl
theorem d40_6 : decode jdk_52_method_2_code 6 = .ok (.areturn, 1) := by decide +kernel
abbrev N1 : MethodName := ⟨"java/lang/StringUTF16", "newBytesFor", "(I)[B"⟩

abbrev rm_nbf : Room := { frames := 1, cells := 1, slots := 68, locals := 12 }
set_option maxRecDepth 65536 in
set_option maxHeartbeats 4000000 in
theorem ct_nbf (l : Launch) {Z : State} {n0 : Nat} {z : Int32} {f g : Value} {dv : Addr} (W : Sx Z z f g dv) (n : Nat) (h : Heap) (hn : n ≤ 34) :
    Ctr l Z n0 N1 jdk_52_method_2_code 1 (some (.array .byte)) rm_nbf #[(.int n.toInt32)] h [] (fun v h' sn => ∃ b, v = some (.ref b) ∧ Ext h h' ∧ h.size ≤ b ∧ n0 ≤ b ∧ Vec Z h' b .byte (List.replicate (2 * n) 0) ∧ sn = [b]) := by
  refine Ctr.of_go (ls := #[.val (.int n.toInt32)]) W.1.1.1 (plainFor_of_name pn_N0) (fun m => by first | (simp [entryFrame, mkF, argsToLocals, Value.category]; done) | rfl) (fun K H => ?_)
  have KK : Keep h h [] := Keep.refl _ _
  refine Go.iloadN H d40_0 rfl rfl ?_
  refine Go.callS (rest := []) 0 [(.int n.toInt32)] H d40_1 rfl w249 w250 w247 w251 pd_N0 (ct_nbl l W n h (by omega)) all0 rfl rfl rfl (Nat.le_of_eq rfl) (by decide) (by decide) (by decide) (by decide) nh_N0 ?_
  rintro _ _ _ ⟨rfl, rfl, rfl⟩
  show Go _ _ _ _ _ _ h [] 0 0 4 #[.val (.int n.toInt32)] [(.int (2 * n).toInt32)]
  refine Go.newarray (2 * n) 68 H d40_4 rfl w9 rfl (by decide) (own_n0 (by omega)) (own_cl (by omega)) (by omega) (by decide) (by decide) (by decide) ?_
  intro a1 h2 g3 z4 E5 F6
  have sz7 := Nat.le_trans KK.1 (Nat.le_of_eq g3.symm)
  replace KK := KK.ext E5
  show Go _ _ _ _ _ _ h2 [a1] 1 68 6 #[.val (.int n.toInt32)] [(.ref a1)]
  exact Go.areturn [a1] H d40_6 rfl rfl (own_narR rfl) ⟨_, rfl, own_ext KK, Nat.le_of_eq g3.symm, z4, F6, rfl⟩ (by simp) (by decide) (by decide)
theorem d52_0 : decode jdk_52_method_4_code 0 = .ok (.getstatic 44, 3) := by decide +kernel
theorem w287 : Jvm.Cond.fieldLink "java/lang/StringUTF16" (44 : Nat) "java/lang/StringUTF16" "$assertionsDisabled" "Z" ∈ tables_1 := List.mem_of_getElem? (i := 287) rfl
theorem d52_3 : decode jdk_52_method_4_code 3 = .ok (.ifCond .ne 25, 3) := by decide +kernel
theorem d52_28 : decode jdk_52_method_4_code 28 = .ok (.iload_n 1, 1) := by decide +kernel
theorem d52_29 : decode jdk_52_method_4_code 29 = .ok (.iconst 1, 1) := by decide +kernel
theorem d52_30 : decode jdk_52_method_4_code 30 = .ok (.ishl, 1) := by decide +kernel
theorem d52_31 : decode jdk_52_method_4_code 31 = .ok (.istore_n 1, 1) := by decide +kernel
theorem d52_32 : decode jdk_52_method_4_code 32 = .ok (.aload_n 0, 1) := by decide +kernel
theorem d52_33 : decode jdk_52_method_4_code 33 = .ok (.iload_n 1, 1) := by decide +kernel
theorem d52_34 : decode jdk_52_method_4_code 34 = .ok (.iinc 1 1, 3) := by decide +kernel
theorem d52_37 : decode jdk_52_method_4_code 37 = .ok (.iload_n 2, 1) := by decide +kernel
theorem d52_38 : decode jdk_52_method_4_code 38 = .ok (.getstatic 59, 3) := by decide +kernel
theorem w288 : Jvm.Cond.fieldLink "java/lang/StringUTF16" (59 : Nat) "java/lang/StringUTF16" "HI_BYTE_SHIFT" "I" ∈ tables_1 := List.mem_of_getElem? (i := 288) rfl
theorem d52_41 : decode jdk_52_method_4_code 41 = .ok (.ishr, 1) := by decide +kernel
theorem d52_42 : decode jdk_52_method_4_code 42 = .ok (.i2b, 1) := by decide +kernel
theorem d52_43 : decode jdk_52_method_4_code 43 = .ok (.bastore, 1) := by decide +kernel
theorem d52_44 : decode jdk_52_method_4_code 44 = .ok (.aload_n 0, 1) := by decide +kernel
theorem d52_45 : decode jdk_52_method_4_code 45 = .ok (.iload_n 1, 1) := by decide +kernel
theorem d52_46 : decode jdk_52_method_4_code 46 = .ok (.iload_n 2, 1) := by decide +kernel
theorem d52_47 : decode jdk_52_method_4_code 47 = .ok (.getstatic 63, 3) := by decide +kernel
theorem w289 : Jvm.Cond.fieldLink "java/lang/StringUTF16" (63 : Nat) "java/lang/StringUTF16" "LO_BYTE_SHIFT" "I" ∈ tables_1 := List.mem_of_getElem? (i := 289) rfl
theorem d52_50 : decode jdk_52_method_4_code 50 = .ok (.ishr, 1) := by decide +kernel
theorem d52_51 : decode jdk_52_method_4_code 51 = .ok (.i2b, 1) := by decide +kernel
theorem d52_52 : decode jdk_52_method_4_code 52 = .ok (.bastore, 1) := by decide +kernel
theorem d52_53 : decode jdk_52_method_4_code 53 = .ok (.return_, 1) := by decide +kernel
abbrev N2 : MethodName := ⟨"java/lang/StringUTF16", "putChar", "([BII)V"⟩

abbrev rm_putc : Room := { frames := 0, cells := 0, slots := 0, locals := 0 }
set_option maxRecDepth 65536 in
set_option maxHeartbeats 4000000 in
theorem ct_putc (l : Launch) {Z : State} {n0 : Nat} {z : Int32} {f g : Value} {dv : Addr} (W : Sx Z z f g dv) (b : Addr) (bs : List Int32) (n : Nat) (c : Int32) (h : Heap) (Fb : Vec Z h b .byte bs) (hl : 2 * n + 1 < bs.length) (hn : n < 2 ^ 30) (zb : n0 ≤ b) :
    Ctr l Z n0 N2 jdk_52_method_4_code 3 none rm_putc #[(.ref b), (.int n.toInt32), (.int c)] h [b] (fun v h' sn => v = none ∧ Keep h h' [b] ∧ Vec Z h' b .byte ((bs.set (2 * n) (nar .byte (c >>> ((0 : Int32) &&& 31)))).set (2 * n + 1) (nar .byte (c >>> ((8 : Int32) &&& 31)))) ∧ sn = []) := by
  refine Ctr.of_go (ls := #[.val (.ref b), .val (.int n.toInt32), .val (.int c)]) W.1.1.1 (plainFor_of_name pn_N0) (fun m => by first | (simp [entryFrame, mkF, argsToLocals, Value.category]; done) | rfl) (fun K H => ?_)
  have KK : Keep h h [b] := Keep.refl _ _
  refine Go.getstatic H d52_0 rfl w287 W.1.2.1 ?_
  refine Go.ifY (pc' := 28) H d52_3 (by decide) (by decide) (by decide) ?_
  refine Go.iloadN H d52_28 rfl rfl ?_
  refine Go.iconst (1 : Int32) H d52_29 rfl rfl ?_
  refine Go.ishl H d52_30 rfl ?_
  rw [own_shl1 hn]
  refine Go.istoreN (ls' := #[.val (.ref b), .val (.int (2 * n).toInt32), .val (.int c)]) H d52_31 rfl rfl ?_
  refine Go.aloadN H d52_32 rfl rfl rfl ?_
  refine Go.iloadN H d52_33 rfl rfl ?_
  refine Go.iinc (ls' := #[.val (.ref b), .val (.int ((2 * n).toInt32 + (1 : Int32))), .val (.int c)]) (1 : Int32) H d52_34 rfl rfl rfl rfl ?_
  refine Go.iloadN H d52_37 rfl rfl ?_
  refine Go.getstatic H d52_38 rfl w288 W.1.2.2.1 ?_
  refine Go.ishr H d52_41 rfl ?_
  refine Go.i2b H d52_42 rfl ?_
  refine Go.bastore (nar .byte (c >>> ((0 : Int32) &&& 31))) H d52_43 rfl Fb (2 * n) (own_cl (by omega)) (own_n0 (by omega)) (by omega) own_nb zb (by simp) ?_
  intro h1 K2 F3
  replace KK := KK.trans K2 (allS (Or.inl (by simp)) all0)
  refine Go.aloadN H d52_44 rfl rfl rfl ?_
  refine Go.iloadN H d52_45 rfl rfl ?_
  refine Go.iloadN H d52_46 rfl rfl ?_
  refine Go.getstatic H d52_47 rfl w289 W.1.2.2.2 ?_
  refine Go.ishr H d52_50 rfl ?_
  refine Go.i2b H d52_51 rfl ?_
  refine Go.bastore (nar .byte (c >>> ((8 : Int32) &&& 31))) H d52_52 rfl F3 (2 * n + 1) (by rw [own_s]; exact own_cl (by omega)) (by rw [own_s]; exact own_n0 (by omega)) (by rw [List.length_set]; omega) own_nb zb (by simp) ?_
  intro h4 K5 F6
  replace KK := KK.trans K5 (allS (Or.inl (by simp)) all0)
  exact Go.return_ [] H d52_53 ⟨rfl, KK, F6, rfl⟩ all0 (by decide) (by decide)
theorem d55_0 : decode jdk_52_method_5_code 0 = .ok (.getstatic 44, 3) := by decide +kernel
theorem d55_3 : decode jdk_52_method_5_code 3 = .ok (.ifCond .ne 25, 3) := by decide +kernel
theorem d55_28 : decode jdk_52_method_5_code 28 = .ok (.iload_n 1, 1) := by decide +kernel
theorem d55_29 : decode jdk_52_method_5_code 29 = .ok (.iconst 1, 1) := by decide +kernel
theorem d55_30 : decode jdk_52_method_5_code 30 = .ok (.ishl, 1) := by decide +kernel
theorem d55_31 : decode jdk_52_method_5_code 31 = .ok (.istore_n 1, 1) := by decide +kernel
theorem d55_32 : decode jdk_52_method_5_code 32 = .ok (.aload_n 0, 1) := by decide +kernel
theorem d55_33 : decode jdk_52_method_5_code 33 = .ok (.iload_n 1, 1) := by decide +kernel
theorem d55_34 : decode jdk_52_method_5_code 34 = .ok (.iinc 1 1, 3) := by decide +kernel
theorem d55_37 : decode jdk_52_method_5_code 37 = .ok (.baload, 1) := by decide +kernel
theorem d55_38 : decode jdk_52_method_5_code 38 = .ok (.sipush 255, 3) := by decide +kernel
theorem d55_41 : decode jdk_52_method_5_code 41 = .ok (.iand, 1) := by decide +kernel
theorem d55_42 : decode jdk_52_method_5_code 42 = .ok (.getstatic 59, 3) := by decide +kernel
theorem d55_45 : decode jdk_52_method_5_code 45 = .ok (.ishl, 1) := by decide +kernel
theorem d55_46 : decode jdk_52_method_5_code 46 = .ok (.aload_n 0, 1) := by decide +kernel
theorem d55_47 : decode jdk_52_method_5_code 47 = .ok (.iload_n 1, 1) := by decide +kernel
theorem d55_48 : decode jdk_52_method_5_code 48 = .ok (.baload, 1) := by decide +kernel
theorem d55_49 : decode jdk_52_method_5_code 49 = .ok (.sipush 255, 3) := by decide +kernel
theorem d55_52 : decode jdk_52_method_5_code 52 = .ok (.iand, 1) := by decide +kernel
theorem d55_53 : decode jdk_52_method_5_code 53 = .ok (.getstatic 63, 3) := by decide +kernel
theorem d55_56 : decode jdk_52_method_5_code 56 = .ok (.ishl, 1) := by decide +kernel
theorem d55_57 : decode jdk_52_method_5_code 57 = .ok (.ior, 1) := by decide +kernel
theorem d55_58 : decode jdk_52_method_5_code 58 = .ok (.i2c, 1) := by decide +kernel
theorem d55_59 : decode jdk_52_method_5_code 59 = .ok (.ireturn, 1) := by decide +kernel
abbrev N3 : MethodName := ⟨"java/lang/StringUTF16", "getChar", "([BI)C"⟩

abbrev rm_getc : Room := { frames := 0, cells := 0, slots := 0, locals := 0 }
set_option maxRecDepth 65536 in
set_option maxHeartbeats 4000000 in
theorem ct_getc (l : Launch) {Z : State} {n0 : Nat} {z : Int32} {f g : Value} {dv : Addr} (W : Sx Z z f g dv) (b : Addr) (cs : List Int32) (n : Nat) (c : Int32) (h : Heap) (Fb : Vec Z h b .byte (enc16 cs)) (hc : cs[n]? = some c) (hC : isC c) (hn : n < 2 ^ 30) :
    Ctr l Z n0 N3 jdk_52_method_5_code 2 (some .char) rm_getc #[(.ref b), (.int n.toInt32)] h [] (fun v h' sn => v = some (.int c) ∧ h = h' ∧ sn = []) := by
  refine Ctr.of_go (ls := #[.val (.ref b), .val (.int n.toInt32)]) W.1.1.1 (plainFor_of_name pn_N0) (fun m => by first | (simp [entryFrame, mkF, argsToLocals, Value.category]; done) | rfl) (fun K H => ?_)
  refine Go.getstatic H d55_0 rfl w287 W.1.2.1 ?_
  refine Go.ifY (pc' := 28) H d55_3 (by decide) (by decide) (by decide) ?_
  refine Go.iloadN H d55_28 rfl rfl ?_
  refine Go.iconst (1 : Int32) H d55_29 rfl rfl ?_
  refine Go.ishl H d55_30 rfl ?_
  rw [own_shl1 hn]
  refine Go.istoreN (ls' := #[.val (.ref b), .val (.int (2 * n).toInt32)]) H d55_31 rfl rfl ?_
  refine Go.aloadN H d55_32 rfl rfl rfl ?_
  refine Go.iloadN H d55_33 rfl rfl ?_
  refine Go.iinc (ls' := #[.val (.ref b), .val (.int ((2 * n).toInt32 + (1 : Int32)))]) (1 : Int32) H d55_34 rfl rfl rfl rfl ?_
  refine Go.baload (v := (nar .byte (c >>> ((0 : Int32) &&& 31)))) H d55_37 rfl Fb (2 * n) (own_cl (by omega)) (own_n0 (by omega)) (enc16_0 hc) ?_
  refine Go.sipush (255 : Int32) H d55_38 rfl rfl ?_
  refine Go.iand H d55_41 rfl ?_
  refine Go.getstatic H d55_42 rfl w288 W.1.2.2.1 ?_
  refine Go.ishl H d55_45 rfl ?_
  refine Go.aloadN H d55_46 rfl rfl rfl ?_
  refine Go.iloadN H d55_47 rfl rfl ?_
  refine Go.baload (v := (nar .byte (c >>> ((8 : Int32) &&& 31)))) H d55_48 rfl Fb (2 * n + 1) (by rw [own_s]; exact own_cl (by omega)) (by rw [own_s]; exact own_n0 (by omega)) (enc16_1 hc) ?_
  refine Go.sipush (255 : Int32) H d55_49 rfl rfl ?_
  refine Go.iand H d55_52 rfl ?_
  refine Go.getstatic H d55_53 rfl w289 W.1.2.2.2 ?_
  refine Go.ishl H d55_56 rfl ?_
  refine Go.ior H d55_57 rfl ?_
  refine Go.i2c H d55_58 rfl ?_
  exact Go.ireturn c [] H d55_59 (by simp) (own_nn.trans (own_back16 hC)) ⟨rfl, rfl, rfl⟩ all0 (by decide) (by decide)
theorem d35_0 : decode jdk_42_method_154_code 0 = .ok (.getstatic 38, 3) := by decide +kernel
theorem w215 : Jvm.Cond.fieldLink "java/lang/String" (38 : Nat) "java/lang/String" "COMPACT_STRINGS" "Z" ∈ tables_1 := List.mem_of_getElem? (i := 215) rfl
theorem d35_3 : decode jdk_42_method_154_code 3 = .ok (.ifCond .eq 14, 3) := by decide +kernel
theorem d35_6 : decode jdk_42_method_154_code 6 = .ok (.aload_n 0, 1) := by decide +kernel
theorem d35_7 : decode jdk_42_method_154_code 7 = .ok (.getfield 15, 3) := by decide +kernel
theorem w145 : Jvm.Cond.fieldLink "java/lang/String" (15 : Nat) "java/lang/String" "coder" "B" ∈ tables_1 := List.mem_of_getElem? (i := 145) rfl
theorem d35_10 : decode jdk_42_method_154_code 10 = .ok (.ifCond .ne 7, 3) := by decide +kernel
theorem d35_13 : decode jdk_42_method_154_code 13 = .ok (.iconst 1, 1) := by decide +kernel
theorem d35_14 : decode jdk_42_method_154_code 14 = .ok (.goto 4, 3) := by decide +kernel
theorem d35_18 : decode jdk_42_method_154_code 18 = .ok (.ireturn, 1) := by decide +kernel
abbrev N4 : MethodName := ⟨"java/lang/String", "isLatin1", "()Z"⟩
theorem pn_N4 : plainName N4.cls = true := by first | (simp [plainName, overriddenIn]; done) | decide +kernel

abbrev rm_isl0 : Room := { frames := 0, cells := 0, slots := 0, locals := 0 }
set_option maxRecDepth 65536 in
set_option maxHeartbeats 4000000 in
theorem ct_isl0 (l : Launch) {Z : State} {n0 : Nat} {z : Int32} {f g : Value} {dv : Addr} (W : Sx Z z f g dv) (x : Addr) (h : Heap) (A : Exa Z h x "java/lang/String") (Fc : Fld Z h x "java/lang/String" "coder" "B" (.int 0)) :
    Ctr l Z n0 N4 jdk_42_method_154_code 1 (some .boolean) rm_isl0 #[(.ref x)] h [] (fun v h' sn => v = some (.int 1) ∧ h = h' ∧ sn = []) := by
  refine Ctr.of_go (ls := #[.val (.ref x)]) W.1.1.1 (plainFor_of_name pn_N4) (fun m => by first | (simp [entryFrame, mkF, argsToLocals, Value.category]; done) | rfl) (fun K H => ?_)
  refine Go.getstatic H d35_0 rfl w215 W.1.1.2.2.1 ?_
  refine Go.ifN H d35_3 (feq W.1.1.2.1).1 rfl ?_
  refine Go.aloadN H d35_6 rfl rfl rfl ?_
  refine Go.getfield H d35_7 rfl w145 Fc ?_
  refine Go.ifN H d35_10 (by decide) rfl ?_
  refine Go.iconst (1 : Int32) H d35_13 rfl rfl ?_
  refine Go.goto (pc' := 18) H d35_14 (by decide) (by decide) ?_
  exact Go.ireturn (1 : Int32) [] H d35_18 (by simp) (by decide) ⟨rfl, rfl, rfl⟩ all0 (by decide) (by decide)
theorem d35_17 : decode jdk_42_method_154_code 17 = .ok (.iconst 0, 1) := by decide +kernel

abbrev rm_isl1 : Room := { frames := 0, cells := 0, slots := 0, locals := 0 }
set_option maxRecDepth 65536 in
set_option maxHeartbeats 4000000 in
theorem ct_isl1 (l : Launch) {Z : State} {n0 : Nat} {z : Int32} {f g : Value} {dv : Addr} (W : Sx Z z f g dv) (x : Addr) (h : Heap) (A : Exa Z h x "java/lang/String") (Fc : Fld Z h x "java/lang/String" "coder" "B" (.int 1)) :
    Ctr l Z n0 N4 jdk_42_method_154_code 1 (some .boolean) rm_isl1 #[(.ref x)] h [] (fun v h' sn => v = some (.int 0) ∧ h = h' ∧ sn = []) := by
  refine Ctr.of_go (ls := #[.val (.ref x)]) W.1.1.1 (plainFor_of_name pn_N4) (fun m => by first | (simp [entryFrame, mkF, argsToLocals, Value.category]; done) | rfl) (fun K H => ?_)
  refine Go.getstatic H d35_0 rfl w215 W.1.1.2.2.1 ?_
  refine Go.ifN H d35_3 (feq W.1.1.2.1).1 rfl ?_
  refine Go.aloadN H d35_6 rfl rfl rfl ?_
  refine Go.getfield H d35_7 rfl w145 Fc ?_
  refine Go.ifY (pc' := 17) H d35_10 (by decide) (by decide) (by decide) ?_
  refine Go.iconst (0 : Int32) H d35_17 rfl rfl ?_
  exact Go.ireturn (0 : Int32) [] H d35_18 (by simp) (by decide) ⟨rfl, rfl, rfl⟩ all0 (by decide) (by decide)
theorem d32_0 : decode jdk_42_method_152_code 0 = .ok (.getstatic 38, 3) := by decide +kernel
theorem d32_3 : decode jdk_42_method_152_code 3 = .ok (.ifCond .eq 10, 3) := by decide +kernel
theorem d32_6 : decode jdk_42_method_152_code 6 = .ok (.aload_n 0, 1) := by decide +kernel
theorem d32_7 : decode jdk_42_method_152_code 7 = .ok (.getfield 15, 3) := by decide +kernel
theorem d32_10 : decode jdk_42_method_152_code 10 = .ok (.goto 4, 3) := by decide +kernel
theorem d32_14 : decode jdk_42_method_152_code 14 = .ok (.ireturn, 1) := by decide +kernel
abbrev N5 : MethodName := ⟨"java/lang/String", "coder", "()B"⟩

abbrev rm_cod0 : Room := { frames := 0, cells := 0, slots := 0, locals := 0 }
set_option maxRecDepth 65536 in
set_option maxHeartbeats 4000000 in
theorem ct_cod0 (l : Launch) {Z : State} {n0 : Nat} {z : Int32} {f g : Value} {dv : Addr} (W : Sx Z z f g dv) (x : Addr) (h : Heap) (A : Exa Z h x "java/lang/String") (Fc : Fld Z h x "java/lang/String" "coder" "B" (.int 0)) :
    Ctr l Z n0 N5 jdk_42_method_152_code 1 (some .byte) rm_cod0 #[(.ref x)] h [] (fun v h' sn => v = some (.int 0) ∧ h = h' ∧ sn = []) := by
  refine Ctr.of_go (ls := #[.val (.ref x)]) W.1.1.1 (plainFor_of_name pn_N4) (fun m => by first | (simp [entryFrame, mkF, argsToLocals, Value.category]; done) | rfl) (fun K H => ?_)
  refine Go.getstatic H d32_0 rfl w215 W.1.1.2.2.1 ?_
  refine Go.ifN H d32_3 (feq W.1.1.2.1).1 rfl ?_
  refine Go.aloadN H d32_6 rfl rfl rfl ?_
  refine Go.getfield H d32_7 rfl w145 Fc ?_
  refine Go.goto (pc' := 14) H d32_10 (by decide) (by decide) ?_
  exact Go.ireturn (0 : Int32) [] H d32_14 (by simp) (by decide) ⟨rfl, rfl, rfl⟩ all0 (by decide) (by decide)

abbrev rm_cod1 : Room := { frames := 0, cells := 0, slots := 0, locals := 0 }
set_option maxRecDepth 65536 in
set_option maxHeartbeats 4000000 in
theorem ct_cod1 (l : Launch) {Z : State} {n0 : Nat} {z : Int32} {f g : Value} {dv : Addr} (W : Sx Z z f g dv) (x : Addr) (h : Heap) (A : Exa Z h x "java/lang/String") (Fc : Fld Z h x "java/lang/String" "coder" "B" (.int 1)) :
    Ctr l Z n0 N5 jdk_42_method_152_code 1 (some .byte) rm_cod1 #[(.ref x)] h [] (fun v h' sn => v = some (.int 1) ∧ h = h' ∧ sn = []) := by
  refine Ctr.of_go (ls := #[.val (.ref x)]) W.1.1.1 (plainFor_of_name pn_N4) (fun m => by first | (simp [entryFrame, mkF, argsToLocals, Value.category]; done) | rfl) (fun K H => ?_)
  refine Go.getstatic H d32_0 rfl w215 W.1.1.2.2.1 ?_
  refine Go.ifN H d32_3 (feq W.1.1.2.1).1 rfl ?_
  refine Go.aloadN H d32_6 rfl rfl rfl ?_
  refine Go.getfield H d32_7 rfl w145 Fc ?_
  refine Go.goto (pc' := 14) H d32_10 (by decide) (by decide) ?_
  exact Go.ireturn (1 : Int32) [] H d32_14 (by simp) (by decide) ⟨rfl, rfl, rfl⟩ all0 (by decide) (by decide)
theorem d31_0 : decode jdk_42_method_54_code 0 = .ok (.aload_n 0, 1) := by decide +kernel
theorem d31_1 : decode jdk_42_method_54_code 1 = .ok (.getfield 9, 3) := by decide +kernel
theorem w164 : Jvm.Cond.fieldLink "java/lang/String" (9 : Nat) "java/lang/String" "value" "[B" ∈ tables_1 := List.mem_of_getElem? (i := 164) rfl
theorem d31_4 : decode jdk_42_method_54_code 4 = .ok (.arraylength, 1) := by decide +kernel
theorem d31_5 : decode jdk_42_method_54_code 5 = .ok (.aload_n 0, 1) := by decide +kernel
theorem d31_6 : decode jdk_42_method_54_code 6 = .ok (.invokevirtual 335, 3) := by decide +kernel
theorem w214 : Jvm.Cond.code N5 jdk_42_method_152_code (1 : Nat) (Option.some Jvm.ClassFile.FieldType.byte) ∈ tables_1 := List.mem_of_getElem? (i := 214) rfl
theorem w7 : Jvm.Cond.initialized "java/lang/String" ∈ tables_1 := List.mem_of_getElem? (i := 7) rfl
theorem pd_N5 : parseMethodDescriptor N5.desc = some ⟨[], (some .byte)⟩ := by decide +kernel
theorem nh_N5 : N5.cls ≠ "java/lang/invoke/MethodHandle" ∧ N5.cls ≠ "java/lang/invoke/VarHandle" := by decide
theorem w210 : Jvm.Cond.methodLink "java/lang/String" (335 : Nat) N5 ∈ tables_1 := List.mem_of_getElem? (i := 210) rfl
theorem w211 : Jvm.Cond.declares N5 ∈ tables_1 := List.mem_of_getElem? (i := 211) rfl
theorem w213 : Jvm.Cond.selects "java/lang/String" N5 N5 ∈ tables_1 := List.mem_of_getElem? (i := 213) rfl
theorem w212 : Jvm.Cond.instanceMethod N5 ∈ tables_1 := List.mem_of_getElem? (i := 212) rfl
theorem d31_9 : decode jdk_42_method_54_code 9 = .ok (.ishr, 1) := by decide +kernel
theorem d31_10 : decode jdk_42_method_54_code 10 = .ok (.ireturn, 1) := by decide +kernel
abbrev N6 : MethodName := ⟨"java/lang/String", "length", "()I"⟩

abbrev rm_len : Room := { frames := 1, cells := 0, slots := 0, locals := 13 }
set_option maxRecDepth 65536 in
set_option maxHeartbeats 4000000 in
theorem ct_len (l : Launch) {Z : State} {n0 : Nat} {z : Int32} {f g : Value} {dv : Addr} (W : Sx Z z f g dv) (x b : Addr) (cs : List Int32) (h : Heap) (S : Stg Z h x b cs) :
    Ctr l Z n0 N6 jdk_42_method_54_code 1 (some .int) rm_len #[(.ref x)] h [] (fun v h' sn => v = some (.int cs.length.toInt32) ∧ h = h' ∧ sn = []) := by
  refine Ctr.of_go (ls := #[.val (.ref x)]) W.1.1.1 (plainFor_of_name pn_N4) (fun m => by first | (simp [entryFrame, mkF, argsToLocals, Value.category]; done) | rfl) (fun K H => ?_)
  rcases S with ⟨A, Fv, Fc, Fb, hL, hn⟩ | ⟨A, Fv, Fc, Fb, hC, hn, hX⟩
  ·
    refine Go.aloadN H d31_0 rfl rfl rfl ?_
    refine Go.getfield H d31_1 rfl w164 Fv ?_
    refine Go.arraylength cs.length.toInt32 H d31_4 rfl Fb (by rw [List.length_map]) ?_
    refine Go.aloadN H d31_5 rfl rfl rfl ?_
    refine Go.callV (rest := [(.int cs.length.toInt32)]) 1 [] H d31_6 rfl A w210 w211 w213 w212 w7 w214 pd_N5 (ct_cod0 l W x h A Fc) all0 rfl rfl rfl (Nat.le_of_eq rfl) (by decide) (by decide) (by decide) (by decide) nh_N5 ?_
    rintro _ _ _ ⟨rfl, rfl, rfl⟩
    show Go _ _ _ _ _ _ h [] 0 0 9 #[.val (.ref x)] [(.int (0 : Int32)), (.int cs.length.toInt32)]
    refine Go.ishr H d31_9 rfl ?_
    exact Go.ireturnI [] H d31_10 ⟨by rw [own_shr0], rfl, rfl⟩ all0 (by decide) (by decide)
  ·
    refine Go.aloadN H d31_0 rfl rfl rfl ?_
    refine Go.getfield H d31_1 rfl w164 Fv ?_
    refine Go.arraylength (2 * cs.length).toInt32 H d31_4 rfl Fb (by rw [enc16_len]) ?_
    refine Go.aloadN H d31_5 rfl rfl rfl ?_
    refine Go.callV (rest := [(.int (2 * cs.length).toInt32)]) 1 [] H d31_6 rfl A w210 w211 w213 w212 w7 w214 pd_N5 (ct_cod1 l W x h A Fc) all0 rfl rfl rfl (Nat.le_of_eq rfl) (by decide) (by decide) (by decide) (by decide) nh_N5 ?_
    rintro _ _ _ ⟨rfl, rfl, rfl⟩
    show Go _ _ _ _ _ _ h [] 0 0 9 #[.val (.ref x)] [(.int (1 : Int32)), (.int (2 * cs.length).toInt32)]
    refine Go.ishr H d31_9 rfl ?_
    exact Go.ireturnI [] H d31_10 ⟨by rw [own_ul hn], rfl, rfl⟩ all0 (by decide) (by decide)
theorem d38_0 : decode jdk_41_method_11_code 0 = .ok (.iload_n 0, 1) := by decide +kernel
theorem d38_1 : decode jdk_41_method_11_code 1 = .ok (.ifCond .lt 8, 3) := by decide +kernel
theorem d38_4 : decode jdk_41_method_11_code 4 = .ok (.iload_n 0, 1) := by decide +kernel
theorem d38_5 : decode jdk_41_method_11_code 5 = .ok (.iload_n 1, 1) := by decide +kernel
theorem d38_6 : decode jdk_41_method_11_code 6 = .ok (.if_icmp .lt 10, 3) := by decide +kernel
theorem d38_16 : decode jdk_41_method_11_code 16 = .ok (.iload_n 0, 1) := by decide +kernel
theorem d38_17 : decode jdk_41_method_11_code 17 = .ok (.ireturn, 1) := by decide +kernel
abbrev N7 : MethodName := ⟨"jdk/internal/util/Preconditions", "checkIndex", "(IILjava/util/function/BiFunction;)I"⟩
theorem pn_N7 : plainName N7.cls = true := by first | (simp [plainName, overriddenIn]; done) | decide +kernel

abbrev rm_pre : Room := { frames := 0, cells := 0, slots := 0, locals := 0 }
set_option maxRecDepth 65536 in
set_option maxHeartbeats 4000000 in
theorem ct_pre (l : Launch) {Z : State} {n0 : Nat} {z : Int32} {f g : Value} {dv : Addr} (W : Sx Z z f g dv) (i n : Int32) (h : Heap) (h0 : ¬ i < 0) (hi : i < n) :
    Ctr l Z n0 N7 jdk_41_method_11_code 3 (some .int) rm_pre #[(.int i), (.int n), f] h [] (fun v h' sn => v = some (.int i) ∧ h = h' ∧ sn = []) := by
  refine Ctr.of_go (ls := #[.val (.int i), .val (.int n), .val f]) W.1.1.1 (plainFor_of_name pn_N7) (fun m => (by rcases ref_cases W.1.1.2.2.2.1 with q | ⟨fa, q⟩ <;> rw [q] <;> rfl)) (fun K H => ?_)
  refine Go.iloadN H d38_0 rfl rfl ?_
  refine Go.ifN H d38_1 (flt h0).1 rfl ?_
  refine Go.iloadN H d38_4 rfl rfl ?_
  refine Go.iloadN H d38_5 rfl rfl ?_
  refine Go.icmpY (pc' := 16) H d38_6 (tlt hi).1 (by decide) (by decide) ?_
  refine Go.iloadN H d38_16 rfl rfl ?_
  exact Go.ireturnI [] H d38_17 ⟨rfl, rfl, rfl⟩ all0 (by decide) (by decide)
theorem d37_0 : decode jdk_42_method_155_code 0 = .ok (.iload_n 0, 1) := by decide +kernel
theorem d37_1 : decode jdk_42_method_155_code 1 = .ok (.iload_n 1, 1) := by decide +kernel
theorem d37_2 : decode jdk_42_method_155_code 2 = .ok (.getstatic 1053, 3) := by decide +kernel
theorem w236 : Jvm.Cond.fieldLink "java/lang/String" (1053 : Nat) "jdk/internal/util/Preconditions" "SIOOBE_FORMATTER" "Ljava/util/function/BiFunction;" ∈ tables_1 := List.mem_of_getElem? (i := 236) rfl
theorem d37_5 : decode jdk_42_method_155_code 5 = .ok (.invokestatic 1059, 3) := by decide +kernel
theorem w239 : Jvm.Cond.code N7 jdk_41_method_11_code (3 : Nat) (Option.some Jvm.ClassFile.FieldType.int) ∈ tables_1 := List.mem_of_getElem? (i := 239) rfl
theorem w180 : Jvm.Cond.initialized "jdk/internal/util/Preconditions" ∈ tables_1 := List.mem_of_getElem? (i := 180) rfl
theorem pd_N7 : parseMethodDescriptor N7.desc = some ⟨[.int, .int, (.object "java/util/function/BiFunction")], (some .int)⟩ := by decide +kernel
theorem nh_N7 : N7.cls ≠ "java/lang/invoke/MethodHandle" ∧ N7.cls ≠ "java/lang/invoke/VarHandle" := by decide
theorem w237 : Jvm.Cond.methodLink "java/lang/String" (1059 : Nat) N7 ∈ tables_1 := List.mem_of_getElem? (i := 237) rfl
theorem w238 : Jvm.Cond.static N7 ∈ tables_1 := List.mem_of_getElem? (i := 238) rfl
theorem d37_8 : decode jdk_42_method_155_code 8 = .ok (.pop, 1) := by decide +kernel
theorem d37_9 : decode jdk_42_method_155_code 9 = .ok (.return_, 1) := by decide +kernel
abbrev N8 : MethodName := ⟨"java/lang/String", "checkIndex", "(II)V"⟩

abbrev rm_chk : Room := { frames := 1, cells := 0, slots := 0, locals := 14 }
set_option maxRecDepth 65536 in
set_option maxHeartbeats 4000000 in
theorem ct_chk (l : Launch) {Z : State} {n0 : Nat} {z : Int32} {f g : Value} {dv : Addr} (W : Sx Z z f g dv) (i n : Int32) (h : Heap) (h0 : ¬ i < 0) (hi : i < n) :
    Ctr l Z n0 N8 jdk_42_method_155_code 2 none rm_chk #[(.int i), (.int n)] h [] (fun v h' sn => v = none ∧ h = h' ∧ sn = []) := by
  refine Ctr.of_go (ls := #[.val (.int i), .val (.int n)]) W.1.1.1 (plainFor_of_name pn_N4) (fun m => by first | (simp [entryFrame, mkF, argsToLocals, Value.category]; done) | rfl) (fun K H => ?_)
  refine Go.iloadN H d37_0 rfl rfl ?_
  refine Go.iloadN H d37_1 rfl rfl ?_
  refine Go.getstatic H d37_2 rfl w236 W.1.1.2.2.2.2 ?_
  refine Go.callS (rest := []) 0 [(.int i), (.int n), f] H d37_5 rfl w237 w238 w180 w239 pd_N7 (ct_pre l W i n h h0 hi) all0 rfl rfl rfl (Nat.le_of_eq rfl) (by decide) (by decide) (by decide) (by decide) nh_N7 ?_
  rintro _ _ _ ⟨rfl, rfl, rfl⟩
  show Go _ _ _ _ _ _ h [] 0 0 8 #[.val (.int i), .val (.int n)] [(.int i)]
  refine Go.pop H d37_8 rfl rfl ?_
  exact Go.return_ [] H d37_9 ⟨rfl, rfl, rfl⟩ all0 (by decide) (by decide)
theorem d36_0 : decode jdk_43_method_2_code 0 = .ok (.iload_n 1, 1) := by decide +kernel
theorem d36_1 : decode jdk_43_method_2_code 1 = .ok (.aload_n 0, 1) := by decide +kernel
theorem d36_2 : decode jdk_43_method_2_code 2 = .ok (.arraylength, 1) := by decide +kernel
theorem d36_3 : decode jdk_43_method_2_code 3 = .ok (.invokestatic 9, 3) := by decide +kernel
theorem w235 : Jvm.Cond.code N8 jdk_42_method_155_code (2 : Nat) (Option.none : Option Jvm.ClassFile.FieldType) ∈ tables_1 := List.mem_of_getElem? (i := 235) rfl
theorem pd_N8 : parseMethodDescriptor N8.desc = some ⟨[.int, .int], none⟩ := by decide +kernel
theorem w233 : Jvm.Cond.methodLink "java/lang/StringLatin1" (9 : Nat) N8 ∈ tables_1 := List.mem_of_getElem? (i := 233) rfl
theorem w234 : Jvm.Cond.static N8 ∈ tables_1 := List.mem_of_getElem? (i := 234) rfl
theorem d36_6 : decode jdk_43_method_2_code 6 = .ok (.aload_n 0, 1) := by decide +kernel
theorem d36_7 : decode jdk_43_method_2_code 7 = .ok (.iload_n 1, 1) := by decide +kernel
theorem d36_8 : decode jdk_43_method_2_code 8 = .ok (.baload, 1) := by decide +kernel
theorem d36_9 : decode jdk_43_method_2_code 9 = .ok (.sipush 255, 3) := by decide +kernel
theorem d36_12 : decode jdk_43_method_2_code 12 = .ok (.iand, 1) := by decide +kernel
theorem d36_13 : decode jdk_43_method_2_code 13 = .ok (.i2c, 1) := by decide +kernel
theorem d36_14 : decode jdk_43_method_2_code 14 = .ok (.ireturn, 1) := by decide +kernel
abbrev N9 : MethodName := ⟨"java/lang/StringLatin1", "charAt", "([BI)C"⟩
theorem pn_N9 : plainName N9.cls = true := by first | (simp [plainName, overriddenIn]; done) | decide +kernel

abbrev rm_lch : Room := { frames := 2, cells := 0, slots := 0, locals := 27 }
set_option maxRecDepth 65536 in
set_option maxHeartbeats 4000000 in
theorem ct_lch (l : Launch) {Z : State} {n0 : Nat} {z : Int32} {f g : Value} {dv : Addr} (W : Sx Z z f g dv) (b : Addr) (cs : List Int32) (i c : Int32) (ni : Nat) (h : Heap) (Fb : Vec Z h b .byte (cs.map (nar .byte))) (hL : ∀ c ∈ cs, isL c) (hn : cs.length < 2 ^ 31) (h0 : ¬ i < 0) (hi : i.toNatClampNeg = ni) (hc : cs[ni]? = some c) :
    Ctr l Z n0 N9 jdk_43_method_2_code 2 (some .char) rm_lch #[(.ref b), (.int i)] h [] (fun v h' sn => v = some (.int c) ∧ h = h' ∧ sn = []) := by
  refine Ctr.of_go (ls := #[.val (.ref b), .val (.int i)]) W.1.1.1 (plainFor_of_name pn_N9) (fun m => by first | (simp [entryFrame, mkF, argsToLocals, Value.category]; done) | rfl) (fun K H => ?_)
  refine Go.iloadN H d36_0 rfl rfl ?_
  refine Go.aloadN H d36_1 rfl rfl rfl ?_
  refine Go.arraylength cs.length.toInt32 H d36_2 rfl Fb (by rw [List.length_map]) ?_
  refine Go.callS (rest := []) 0 [(.int i), (.int cs.length.toInt32)] H d36_3 rfl w233 w234 w7 w235 pd_N8 (ct_chk l W i cs.length.toInt32 h h0 (own_ltn h0 hi hn (own_lenlt hc))) all0 rfl rfl rfl (Nat.le_of_eq rfl) (by decide) (by decide) (by decide) (by decide) nh_N5 ?_
  rintro _ _ _ ⟨rfl, rfl, rfl⟩
  show Go _ _ _ _ _ _ h [] 0 0 6 #[.val (.ref b), .val (.int i)] []
  refine Go.aloadN H d36_6 rfl rfl rfl ?_
  refine Go.iloadN H d36_7 rfl rfl ?_
  refine Go.baload (v := (nar .byte c)) H d36_8 rfl Fb ni hi h0 (own_getm hc) ?_
  refine Go.sipush (255 : Int32) H d36_9 rfl rfl ?_
  refine Go.iand H d36_12 rfl ?_
  refine Go.i2c H d36_13 rfl ?_
  exact Go.ireturn c [] H d36_14 (by simp) (own_nn.trans (own_back (hL c (List.mem_of_getElem? hc)))) ⟨rfl, rfl, rfl⟩ all0 (by decide) (by decide)
theorem d45_0 : decode jdk_52_method_6_code 0 = .ok (.aload_n 0, 1) := by decide +kernel
theorem d45_1 : decode jdk_52_method_6_code 1 = .ok (.arraylength, 1) := by decide +kernel
theorem d45_2 : decode jdk_52_method_6_code 2 = .ok (.iconst 1, 1) := by decide +kernel
theorem d45_3 : decode jdk_52_method_6_code 3 = .ok (.ishr, 1) := by decide +kernel
theorem d45_4 : decode jdk_52_method_6_code 4 = .ok (.ireturn, 1) := by decide +kernel
abbrev N10 : MethodName := ⟨"java/lang/StringUTF16", "length", "([B)I"⟩

abbrev rm_ulen : Room := { frames := 0, cells := 0, slots := 0, locals := 0 }
set_option maxRecDepth 65536 in
set_option maxHeartbeats 4000000 in
theorem ct_ulen (l : Launch) {Z : State} {n0 : Nat} {z : Int32} {f g : Value} {dv : Addr} (W : Sx Z z f g dv) (b : Addr) (cs : List Int32) (h : Heap) (Fb : Vec Z h b .byte (enc16 cs)) (hn : cs.length < 2 ^ 30) :
    Ctr l Z n0 N10 jdk_52_method_6_code 1 (some .int) rm_ulen #[(.ref b)] h [] (fun v h' sn => v = some (.int cs.length.toInt32) ∧ h = h' ∧ sn = []) := by
  refine Ctr.of_go (ls := #[.val (.ref b)]) W.1.1.1 (plainFor_of_name pn_N0) (fun m => by first | (simp [entryFrame, mkF, argsToLocals, Value.category]; done) | rfl) (fun K H => ?_)
  refine Go.aloadN H d45_0 rfl rfl rfl ?_
  refine Go.arraylength (2 * cs.length).toInt32 H d45_1 rfl Fb (by rw [enc16_len]) ?_
  refine Go.iconst (1 : Int32) H d45_2 rfl rfl ?_
  refine Go.ishr H d45_3 rfl ?_
  exact Go.ireturnI [] H d45_4 ⟨by rw [own_ul hn], rfl, rfl⟩ all0 (by decide) (by decide)
theorem d54_0 : decode jdk_52_method_91_code 0 = .ok (.iload_n 0, 1) := by decide +kernel
theorem d54_1 : decode jdk_52_method_91_code 1 = .ok (.aload_n 1, 1) := by decide +kernel
theorem d54_2 : decode jdk_52_method_91_code 2 = .ok (.invokestatic 48, 3) := by decide +kernel
theorem w264 : Jvm.Cond.code N10 jdk_52_method_6_code (1 : Nat) (Option.some Jvm.ClassFile.FieldType.int) ∈ tables_1 := List.mem_of_getElem? (i := 264) rfl
theorem pd_N10 : parseMethodDescriptor N10.desc = some ⟨[(.array .byte)], (some .int)⟩ := by decide +kernel
theorem w262 : Jvm.Cond.methodLink "java/lang/StringUTF16" (48 : Nat) N10 ∈ tables_1 := List.mem_of_getElem? (i := 262) rfl
theorem w263 : Jvm.Cond.static N10 ∈ tables_1 := List.mem_of_getElem? (i := 263) rfl
theorem d54_5 : decode jdk_52_method_91_code 5 = .ok (.invokestatic 414, 3) := by decide +kernel
theorem w298 : Jvm.Cond.methodLink "java/lang/StringUTF16" (414 : Nat) N8 ∈ tables_1 := List.mem_of_getElem? (i := 298) rfl
theorem d54_8 : decode jdk_52_method_91_code 8 = .ok (.return_, 1) := by decide +kernel
abbrev N11 : MethodName := ⟨"java/lang/StringUTF16", "checkIndex", "(I[B)V"⟩

abbrev rm_uchk : Room := { frames := 2, cells := 0, slots := 0, locals := 27 }
set_option maxRecDepth 65536 in
set_option maxHeartbeats 4000000 in
theorem ct_uchk (l : Launch) {Z : State} {n0 : Nat} {z : Int32} {f g : Value} {dv : Addr} (W : Sx Z z f g dv) (b : Addr) (cs : List Int32) (i c : Int32) (ni : Nat) (h : Heap) (Fb : Vec Z h b .byte (enc16 cs)) (hn : cs.length < 2 ^ 30) (h0 : ¬ i < 0) (hi : i.toNatClampNeg = ni) (hc : cs[ni]? = some c) :
    Ctr l Z n0 N11 jdk_52_method_91_code 2 none rm_uchk #[(.int i), (.ref b)] h [] (fun v h' sn => v = none ∧ h = h' ∧ sn = []) := by
  refine Ctr.of_go (ls := #[.val (.int i), .val (.ref b)]) W.1.1.1 (plainFor_of_name pn_N0) (fun m => by first | (simp [entryFrame, mkF, argsToLocals, Value.category]; done) | rfl) (fun K H => ?_)
  refine Go.iloadN H d54_0 rfl rfl ?_
  refine Go.aloadN H d54_1 rfl rfl rfl ?_
  refine Go.callS (rest := [(.int i)]) 1 [(.ref b)] H d54_2 rfl w262 w263 w247 w264 pd_N10 (ct_ulen l W b cs h Fb hn) all0 rfl rfl rfl (Nat.le_of_eq rfl) (by decide) (by decide) (by decide) (by decide) nh_N0 ?_
  rintro _ _ _ ⟨rfl, rfl, rfl⟩
  show Go _ _ _ _ _ _ h [] 0 0 5 #[.val (.int i), .val (.ref b)] [(.int cs.length.toInt32), (.int i)]
  refine Go.callS (rest := []) 0 [(.int i), (.int cs.length.toInt32)] H d54_5 rfl w298 w234 w7 w235 pd_N8 (ct_chk l W i cs.length.toInt32 h h0 (own_ltn h0 hi (by omega) (own_lenlt hc))) all0 rfl rfl rfl (Nat.le_of_eq rfl) (by decide) (by decide) (by decide) (by decide) nh_N5 ?_
  rintro _ _ _ ⟨rfl, rfl, rfl⟩
  show Go _ _ _ _ _ _ h [] 0 0 8 #[.val (.int i), .val (.ref b)] []
  exact Go.return_ [] H d54_8 ⟨rfl, rfl, rfl⟩ all0 (by decide) (by decide)
theorem d53_0 : decode jdk_52_method_83_code 0 = .ok (.iload_n 1, 1) := by decide +kernel
theorem d53_1 : decode jdk_52_method_83_code 1 = .ok (.aload_n 0, 1) := by decide +kernel
theorem d53_2 : decode jdk_52_method_83_code 2 = .ok (.invokestatic 67, 3) := by decide +kernel
theorem w297 : Jvm.Cond.code N11 jdk_52_method_91_code (2 : Nat) (Option.none : Option Jvm.ClassFile.FieldType) ∈ tables_1 := List.mem_of_getElem? (i := 297) rfl
theorem pd_N11 : parseMethodDescriptor N11.desc = some ⟨[.int, (.array .byte)], none⟩ := by decide +kernel
theorem w295 : Jvm.Cond.methodLink "java/lang/StringUTF16" (67 : Nat) N11 ∈ tables_1 := List.mem_of_getElem? (i := 295) rfl
theorem w296 : Jvm.Cond.static N11 ∈ tables_1 := List.mem_of_getElem? (i := 296) rfl
theorem d53_5 : decode jdk_52_method_83_code 5 = .ok (.aload_n 0, 1) := by decide +kernel
theorem d53_6 : decode jdk_52_method_83_code 6 = .ok (.iload_n 1, 1) := by decide +kernel
theorem d53_7 : decode jdk_52_method_83_code 7 = .ok (.invokestatic 71, 3) := by decide +kernel
theorem w301 : Jvm.Cond.code N3 jdk_52_method_5_code (2 : Nat) (Option.some Jvm.ClassFile.FieldType.char) ∈ tables_1 := List.mem_of_getElem? (i := 301) rfl
theorem pd_N3 : parseMethodDescriptor N3.desc = some ⟨[(.array .byte), .int], (some .char)⟩ := by decide +kernel
theorem w299 : Jvm.Cond.methodLink "java/lang/StringUTF16" (71 : Nat) N3 ∈ tables_1 := List.mem_of_getElem? (i := 299) rfl
theorem w300 : Jvm.Cond.static N3 ∈ tables_1 := List.mem_of_getElem? (i := 300) rfl
theorem d53_10 : decode jdk_52_method_83_code 10 = .ok (.ireturn, 1) := by decide +kernel
abbrev N12 : MethodName := ⟨"java/lang/StringUTF16", "charAt", "([BI)C"⟩

abbrev rm_ucha : Room := { frames := 3, cells := 0, slots := 0, locals := 40 }
set_option maxRecDepth 65536 in
set_option maxHeartbeats 4000000 in
theorem ct_ucha (l : Launch) {Z : State} {n0 : Nat} {z : Int32} {f g : Value} {dv : Addr} (W : Sx Z z f g dv) (b : Addr) (cs : List Int32) (i c : Int32) (ni : Nat) (h : Heap) (Fb : Vec Z h b .byte (enc16 cs)) (hn : cs.length < 2 ^ 30) (h0 : ¬ i < 0) (hi : i.toNatClampNeg = ni) (hc : cs[ni]? = some c) (hC : ∀ c ∈ cs, isC c) :
    Ctr l Z n0 N12 jdk_52_method_83_code 2 (some .char) rm_ucha #[(.ref b), (.int i)] h [] (fun v h' sn => v = some (.int c) ∧ h = h' ∧ sn = []) := by
  refine Ctr.of_go (ls := #[.val (.ref b), .val (.int i)]) W.1.1.1 (plainFor_of_name pn_N0) (fun m => by first | (simp [entryFrame, mkF, argsToLocals, Value.category]; done) | rfl) (fun K H => ?_)
  obtain ⟨rfl, hi2⟩ := own_oflt h0 hi
  refine Go.iloadN H d53_0 rfl rfl ?_
  refine Go.aloadN H d53_1 rfl rfl rfl ?_
  refine Go.callS (rest := []) 0 [(.int ni.toInt32), (.ref b)] H d53_2 rfl w295 w296 w247 w297 pd_N11 (ct_uchk l W b cs ni.toInt32 c ni h Fb hn h0 hi hc) all0 rfl rfl rfl (Nat.le_of_eq rfl) (by decide) (by decide) (by decide) (by decide) nh_N0 ?_
  rintro _ _ _ ⟨rfl, rfl, rfl⟩
  show Go _ _ _ _ _ _ h [] 0 0 5 #[.val (.ref b), .val (.int ni.toInt32)] []
  refine Go.aloadN H d53_5 rfl rfl rfl ?_
  refine Go.iloadN H d53_6 rfl rfl ?_
  refine Go.callS (rest := []) 0 [(.ref b), (.int ni.toInt32)] H d53_7 rfl w299 w300 w247 w301 pd_N3 (ct_getc l W b cs ni c h Fb hc (hC c (List.mem_of_getElem? hc)) (by have := own_lenlt hc; omega)) all0 rfl rfl rfl (Nat.le_of_eq rfl) (by decide) (by decide) (by decide) (by decide) nh_N0 ?_
  rintro _ _ _ ⟨rfl, rfl, rfl⟩
  show Go _ _ _ _ _ _ h [] 0 0 10 #[.val (.ref b), .val (.int ni.toInt32)] [(.int c)]
  exact Go.ireturn c [] H d53_10 (by simp) (own_char (hC c (List.mem_of_getElem? hc))) ⟨rfl, rfl, rfl⟩ all0 (by decide) (by decide)
theorem d34_0 : decode jdk_42_method_56_code 0 = .ok (.aload_n 0, 1) := by decide +kernel
theorem d34_1 : decode jdk_42_method_56_code 1 = .ok (.invokevirtual 492, 3) := by decide +kernel
theorem w229 : Jvm.Cond.code N4 jdk_42_method_154_code (1 : Nat) (Option.some Jvm.ClassFile.FieldType.boolean) ∈ tables_1 := List.mem_of_getElem? (i := 229) rfl
theorem pd_N4 : parseMethodDescriptor N4.desc = some ⟨[], (some .boolean)⟩ := by decide +kernel
theorem w225 : Jvm.Cond.methodLink "java/lang/String" (492 : Nat) N4 ∈ tables_1 := List.mem_of_getElem? (i := 225) rfl
theorem w226 : Jvm.Cond.declares N4 ∈ tables_1 := List.mem_of_getElem? (i := 226) rfl
theorem w228 : Jvm.Cond.selects "java/lang/String" N4 N4 ∈ tables_1 := List.mem_of_getElem? (i := 228) rfl
theorem w227 : Jvm.Cond.instanceMethod N4 ∈ tables_1 := List.mem_of_getElem? (i := 227) rfl
theorem d34_4 : decode jdk_42_method_56_code 4 = .ok (.ifCond .eq 12, 3) := by decide +kernel
theorem d34_7 : decode jdk_42_method_56_code 7 = .ok (.aload_n 0, 1) := by decide +kernel
theorem d34_8 : decode jdk_42_method_56_code 8 = .ok (.getfield 9, 3) := by decide +kernel
theorem d34_11 : decode jdk_42_method_56_code 11 = .ok (.iload_n 1, 1) := by decide +kernel
theorem d34_12 : decode jdk_42_method_56_code 12 = .ok (.invokestatic 495, 3) := by decide +kernel
theorem w232 : Jvm.Cond.code N9 jdk_43_method_2_code (2 : Nat) (Option.some Jvm.ClassFile.FieldType.char) ∈ tables_1 := List.mem_of_getElem? (i := 232) rfl
theorem w198 : Jvm.Cond.initialized "java/lang/StringLatin1" ∈ tables_1 := List.mem_of_getElem? (i := 198) rfl
theorem pd_N9 : parseMethodDescriptor N9.desc = some ⟨[(.array .byte), .int], (some .char)⟩ := by decide +kernel
theorem nh_N9 : N9.cls ≠ "java/lang/invoke/MethodHandle" ∧ N9.cls ≠ "java/lang/invoke/VarHandle" := by decide
theorem w230 : Jvm.Cond.methodLink "java/lang/String" (495 : Nat) N9 ∈ tables_1 := List.mem_of_getElem? (i := 230) rfl
theorem w231 : Jvm.Cond.static N9 ∈ tables_1 := List.mem_of_getElem? (i := 231) rfl
theorem d34_15 : decode jdk_42_method_56_code 15 = .ok (.ireturn, 1) := by decide +kernel
theorem d34_16 : decode jdk_42_method_56_code 16 = .ok (.aload_n 0, 1) := by decide +kernel
theorem d34_17 : decode jdk_42_method_56_code 17 = .ok (.getfield 9, 3) := by decide +kernel
theorem d34_20 : decode jdk_42_method_56_code 20 = .ok (.iload_n 1, 1) := by decide +kernel
theorem d34_21 : decode jdk_42_method_56_code 21 = .ok (.invokestatic 498, 3) := by decide +kernel
theorem w294 : Jvm.Cond.code N12 jdk_52_method_83_code (2 : Nat) (Option.some Jvm.ClassFile.FieldType.char) ∈ tables_1 := List.mem_of_getElem? (i := 294) rfl
theorem pd_N12 : parseMethodDescriptor N12.desc = some ⟨[(.array .byte), .int], (some .char)⟩ := by decide +kernel
theorem w292 : Jvm.Cond.methodLink "java/lang/String" (498 : Nat) N12 ∈ tables_1 := List.mem_of_getElem? (i := 292) rfl
theorem w293 : Jvm.Cond.static N12 ∈ tables_1 := List.mem_of_getElem? (i := 293) rfl
theorem d34_24 : decode jdk_42_method_56_code 24 = .ok (.ireturn, 1) := by decide +kernel
abbrev N13 : MethodName := ⟨"java/lang/String", "charAt", "(I)C"⟩

abbrev rm_cha : Room := { frames := 4, cells := 0, slots := 0, locals := 53 }
set_option maxRecDepth 65536 in
set_option maxHeartbeats 4000000 in
theorem ct_cha (l : Launch) {Z : State} {n0 : Nat} {z : Int32} {f g : Value} {dv : Addr} (W : Sx Z z f g dv) (x b : Addr) (cs : List Int32) (i c : Int32) (ni : Nat) (h : Heap) (S : Stg Z h x b cs) (h0 : ¬ i < 0) (hi : i.toNatClampNeg = ni) (hc : cs[ni]? = some c) :
    Ctr l Z n0 N13 jdk_42_method_56_code 2 (some .char) rm_cha #[(.ref x), (.int i)] h [] (fun v h' sn => v = some (.int c) ∧ h = h' ∧ sn = []) := by
  refine Ctr.of_go (ls := #[.val (.ref x), .val (.int i)]) W.1.1.1 (plainFor_of_name pn_N4) (fun m => by first | (simp [entryFrame, mkF, argsToLocals, Value.category]; done) | rfl) (fun K H => ?_)
  have hCc := S.isC c (List.mem_of_getElem? hc)
  rcases S with ⟨A, Fv, Fc, Fb, hL, hn⟩ | ⟨A, Fv, Fc, Fb, hC, hn, hX⟩
  ·
    refine Go.aloadN H d34_0 rfl rfl rfl ?_
    refine Go.callV (rest := []) 0 [] H d34_1 rfl A w225 w226 w228 w227 w7 w229 pd_N4 (ct_isl0 l W x h A Fc) all0 rfl rfl rfl (Nat.le_of_eq rfl) (by decide) (by decide) (by decide) (by decide) nh_N5 ?_
    rintro _ _ _ ⟨rfl, rfl, rfl⟩
    show Go _ _ _ _ _ _ h [] 0 0 4 #[.val (.ref x), .val (.int i)] [(.int (1 : Int32))]
    refine Go.ifN H d34_4 (by decide) rfl ?_
    refine Go.aloadN H d34_7 rfl rfl rfl ?_
    refine Go.getfield H d34_8 rfl w164 Fv ?_
    refine Go.iloadN H d34_11 rfl rfl ?_
    refine Go.callS (rest := []) 0 [(.ref b), (.int i)] H d34_12 rfl w230 w231 w198 w232 pd_N9 (ct_lch l W b cs i c ni h Fb hL hn h0 hi hc) all0 rfl rfl rfl (Nat.le_of_eq rfl) (by decide) (by decide) (by decide) (by decide) nh_N9 ?_
    rintro _ _ _ ⟨rfl, rfl, rfl⟩
    show Go _ _ _ _ _ _ h [] 0 0 15 #[.val (.ref x), .val (.int i)] [(.int c)]
    exact Go.ireturn c [] H d34_15 (by simp) (own_char hCc) ⟨rfl, rfl, rfl⟩ all0 (by decide) (by decide)
  ·
    refine Go.aloadN H d34_0 rfl rfl rfl ?_
    refine Go.callV (rest := []) 0 [] H d34_1 rfl A w225 w226 w228 w227 w7 w229 pd_N4 (ct_isl1 l W x h A Fc) all0 rfl rfl rfl (Nat.le_of_eq rfl) (by decide) (by decide) (by decide) (by decide) nh_N5 ?_
    rintro _ _ _ ⟨rfl, rfl, rfl⟩
    show Go _ _ _ _ _ _ h [] 0 0 4 #[.val (.ref x), .val (.int i)] [(.int (0 : Int32))]
    refine Go.ifY (pc' := 16) H d34_4 (by decide) (by decide) (by decide) ?_
    refine Go.aloadN H d34_16 rfl rfl rfl ?_
    refine Go.getfield H d34_17 rfl w164 Fv ?_
    refine Go.iloadN H d34_20 rfl rfl ?_
    refine Go.callS (rest := []) 0 [(.ref b), (.int i)] H d34_21 rfl w292 w293 w247 w294 pd_N12 (ct_ucha l W b cs i c ni h Fb hn h0 hi hc hC) all0 rfl rfl rfl (Nat.le_of_eq rfl) (by decide) (by decide) (by decide) (by decide) nh_N0 ?_
    rintro _ _ _ ⟨rfl, rfl, rfl⟩
    show Go _ _ _ _ _ _ h [] 0 0 24 #[.val (.ref x), .val (.int i)] [(.int c)]
    exact Go.ireturn c [] H d34_24 (by simp) (own_char hCc) ⟨rfl, rfl, rfl⟩ all0 (by decide) (by decide)
theorem d30_0 : decode jdk_42_method_55_code 0 = .ok (.aload_n 0, 1) := by decide +kernel
theorem d30_1 : decode jdk_42_method_55_code 1 = .ok (.getfield 9, 3) := by decide +kernel
theorem d30_4 : decode jdk_42_method_55_code 4 = .ok (.arraylength, 1) := by decide +kernel
theorem d30_5 : decode jdk_42_method_55_code 5 = .ok (.ifCond .ne 7, 3) := by decide +kernel
theorem d30_8 : decode jdk_42_method_55_code 8 = .ok (.iconst 1, 1) := by decide +kernel
theorem d30_9 : decode jdk_42_method_55_code 9 = .ok (.goto 4, 3) := by decide +kernel
theorem d30_13 : decode jdk_42_method_55_code 13 = .ok (.ireturn, 1) := by decide +kernel
theorem d30_12 : decode jdk_42_method_55_code 12 = .ok (.iconst 0, 1) := by decide +kernel
abbrev N14 : MethodName := ⟨"java/lang/String", "isEmpty", "()Z"⟩

abbrev rm_emp : Room := { frames := 0, cells := 0, slots := 0, locals := 0 }
set_option maxRecDepth 65536 in
set_option maxHeartbeats 4000000 in
theorem ct_emp (l : Launch) {Z : State} {n0 : Nat} {z : Int32} {f g : Value} {dv : Addr} (W : Sx Z z f g dv) (x b : Addr) (cs : List Int32) (h : Heap) (S : Stg Z h x b cs) :
    Ctr l Z n0 N14 jdk_42_method_55_code 1 (some .boolean) rm_emp #[(.ref x)] h [] (fun v h' sn => v = some (.int (if cs = [] then 1 else 0)) ∧ h = h' ∧ sn = []) := by
  refine Ctr.of_go (ls := #[.val (.ref x)]) W.1.1.1 (plainFor_of_name pn_N4) (fun m => by first | (simp [entryFrame, mkF, argsToLocals, Value.category]; done) | rfl) (fun K H => ?_)
  rcases S with ⟨A, Fv, Fc, Fb, hL, hn⟩ | ⟨A, Fv, Fc, Fb, hC, hn, hX⟩
  ·
    refine Go.aloadN H d30_0 rfl rfl rfl ?_
    refine Go.getfield H d30_1 rfl w164 Fv ?_
    refine Go.arraylength cs.length.toInt32 H d30_4 rfl Fb (by rw [List.length_map]) ?_
    by_cases c1 : cs = []
    ·
      refine Go.ifN H d30_5 (teq (by rw [c1]; rfl)).2 rfl ?_
      refine Go.iconst (1 : Int32) H d30_8 rfl rfl ?_
      refine Go.goto (pc' := 13) H d30_9 (by decide) (by decide) ?_
      exact Go.ireturn (1 : Int32) [] H d30_13 (by simp) (by decide) ⟨by rw [if_pos c1], rfl, rfl⟩ all0 (by decide) (by decide)
    ·
      refine Go.ifY (pc' := 12) H d30_5 (feq (own_ne0 hn (List.length_pos_iff.mpr c1))).2 (by decide) (by decide) ?_
      refine Go.iconst (0 : Int32) H d30_12 rfl rfl ?_
      exact Go.ireturn (0 : Int32) [] H d30_13 (by simp) (by decide) ⟨by rw [if_neg c1], rfl, rfl⟩ all0 (by decide) (by decide)
  ·
    refine Go.aloadN H d30_0 rfl rfl rfl ?_
    refine Go.getfield H d30_1 rfl w164 Fv ?_
    refine Go.arraylength (2 * cs.length).toInt32 H d30_4 rfl Fb (by rw [enc16_len]) ?_
    refine Go.ifY (pc' := 12) H d30_5 (feq (own_ne0 (by omega) (by have := List.length_pos_iff.mpr (own_chpos hX); omega))).2 (by decide) (by decide) ?_
    refine Go.iconst (0 : Int32) H d30_12 rfl rfl ?_
    exact Go.ireturn (0 : Int32) [] H d30_13 (by simp) (by decide) ⟨by rw [if_neg (own_chpos hX)], rfl, rfl⟩ all0 (by decide) (by decide)
/-! StringBuilder -/
theorem own_shl0 (x : Int32) : x <<< ((0 : Int32) &&& 31) = x := by
  have h := c_ishl x 0 0 (by decide)
  have h1 := rng32 x
  have h2 := rng32 (x <<< ((0 : Int32) &&& 31))
  exact Int32.toInt_inj.mp (by omega)
theorem own_b255 {c : Int32} (h : isL c) : (nar .byte c &&& (255 : Int32)) = c := by
  have h1 := c_i2b c
  have h2 := c_mask (nar .byte c) 255 8 (by decide) (by decide)
  obtain ⟨g1, g2⟩ := h
  simp only [nar] at *
  exact Int32.toInt_inj.mp (by omega)
theorem own_subn {m n : Nat} (hm : m < 2 ^ 31) (hn : n < 2 ^ 31) : (m.toInt32 - n.toInt32).toInt = (m : Int) - n := by
  rw [Int32.toInt_sub, own_len hm, own_len hn, Int.bmod_eq_of_le (by omega) (by omega)]
theorem own_subnp {m n : Nat} (hn : n < 2 ^ 31) (h : m ≤ n) : ¬ (0 : Int32) < m.toInt32 - n.toInt32 := by
  rw [Int32.lt_iff_toInt_lt, own_subn (by omega) hn]; simp only [Int32.reduceToInt]; omega
theorem own_add (a b : Nat) : a.toInt32 + b.toInt32 = (a + b).toInt32 := (Int32.ofNat_add a b).symm
theorem own_s16 {m : Nat} (h1 : 16 < m) (h2 : m ≤ 33) : (m.toInt32 - (16 : Int32)).toInt = (m : Int) - 16 := own_subn (n := 16) (by omega) (by decide)
theorem own_s32 {m : Nat} (h1 : 16 < m) (h2 : m ≤ 33) : ((2 * m).toInt32 - (32 : Int32)).toInt = ((2 * m : Nat) : Int) - 32 := own_subn (n := 32) (by omega) (by decide)
theorem own_g0 {m : Nat} (h1 : 16 < m) (h2 : m ≤ 33) : m.toInt32 - (16 : Int32) < (18 : Int32) := by
  rw [Int32.lt_iff_toInt_lt, own_s16 h1 h2]; simp only [Int32.reduceToInt]; omega
theorem own_g1 {m : Nat} (h1 : 16 < m) (h2 : m ≤ 33) : (2 * m).toInt32 - (32 : Int32) < (36 : Int32) := by
  rw [Int32.lt_iff_toInt_lt, own_s32 h1 h2]; simp only [Int32.reduceToInt]; omega
theorem own_g2 {m : Nat} (h1 : 16 < m) (h2 : m ≤ 33) : (0 : Int32) < m.toInt32 - (16 : Int32) := by
  rw [Int32.lt_iff_toInt_lt, own_s16 h1 h2]; simp only [Int32.reduceToInt]; omega
theorem own_drA (A pad : List Int32) (k : Nat) : (A ++ pad).drop (A.length + k) = pad.drop k := by
  rw [List.drop_append, List.drop_eq_nil_of_le (by omega), Nat.add_sub_cancel_left, List.nil_append]
theorem own_cpl {A B pad : List Int32} {D N : Nat} (hD : A.length = D) (hN : B.length = N) : ((A ++ pad).take D ++ (B.drop 0).take N ++ (A ++ pad).drop (D + N)) = A ++ B ++ pad.drop N := by
  subst hD hN
  rw [own_drA, List.drop_zero, List.take_length]; simp
theorem own_cof {bs : List Int32} {N L : Nat} (hb : bs.length = L) : ((List.replicate N (0 : Int32)).take 0 ++ (bs.drop 0).take L ++ (List.replicate N 0).drop (0 + L)) = bs ++ List.replicate (N - L) 0 := by
  subst hb; simp
theorem own_set2 {A R : List Int32} {n : Nat} (hA : A.length = n) (hR : 2 ≤ R.length) (u v : Int32) : ((A ++ R).set n u).set (n + 1) v = A ++ u :: v :: R.drop 2 := by
  match R, hR with
  | r0 :: r1 :: R', _ =>
    subst hA
    rw [List.set_append_right _ _ (Nat.le_refl _), Nat.sub_self, List.set_cons_zero, List.set_append_right _ _ (by omega), show A.length + 1 - A.length = 1 from by omega, List.set_cons_succ, List.set_cons_zero]; rfl
theorem own_enc1 {cs : List Int32} {i : Nat} {c : Int32} (hc : cs[i]? = some c) : enc16 (cs.take (i + 1)) = enc16 (cs.take i) ++ [nar .byte (c >>> ((0 : Int32) &&& 31)), nar .byte (c >>> ((8 : Int32) &&& 31))] := by
  rw [List.take_add_one, hc, enc16_app]; rfl
theorem own_inf {P cs R : List Int32} {k i : Nat} {c : Int32} (hP : P.length = 2 * k) (hc : cs[i]? = some c) (hR : 2 * cs.length ≤ R.length) : ((P ++ enc16 (cs.take i) ++ R.drop (2 * i)).set (2 * (k + i)) (nar .byte (c >>> ((0 : Int32) &&& 31)))).set (2 * (k + i) + 1) (nar .byte (c >>> ((8 : Int32) &&& 31))) = P ++ enc16 (cs.take (i + 1)) ++ R.drop (2 * (i + 1)) := by
  have hl : i < cs.length := own_lenlt hc
  rw [own_set2 (by rw [List.length_append, hP, enc16_len, List.length_take]; omega) (by rw [List.length_drop]; omega), own_enc1 hc, List.drop_drop, show 2 * i + 2 = 2 * (i + 1) from by omega]
  simp
theorem own_inf0 {P cs R : List Int32} {i : Nat} (e : i = cs.length) : P ++ enc16 (cs.take i) ++ R.drop (2 * i) = P ++ enc16 cs ++ R.drop (2 * cs.length) := by
  subst e; rw [List.take_length]
theorem own_or0 {a b : Int32} (ha : ¬ a < 0) (hb : ¬ b < 0) : ¬ (a ||| b) < 0 := by
  rw [Int32.lt_iff_toInt_lt] at *; simp only [Int32.reduceToInt] at *; have := (c_orS a b).1 (by omega) (by omega); omega
theorem own_sle {m k n : Nat} (hm : m < 2 ^ 31) (h : k + n ≤ m) : ¬ m.toInt32 - k.toInt32 < n.toInt32 := by
  rw [Int32.lt_iff_toInt_lt, own_subn hm (by omega), own_len (by omega)]; omega
theorem enc16_inj : ∀ {cs ds : List Int32}, (∀ c ∈ cs, isC c) → (∀ d ∈ ds, isC d) → enc16 cs = enc16 ds → cs = ds
  | [], [], _, _, _ => rfl
  | [], _ :: _, _, _, e => by cases e
  | _ :: _, [], _, _, e => by cases e
  | c :: cs, d :: ds, h, g, e => by
    simp only [enc16, List.cons.injEq] at e
    have q : c = d := by rw [← own_back16 (h c (by simp)), ← own_back16 (g d (by simp)), e.1, e.2.1]
    rw [q, enc16_inj (fun c q => h c (by simp [q])) (fun c q => g c (by simp [q])) e.2.2]

def SbF (Z : State) (h : Heap) (x b : Addr) (t n : Int32) : Prop := Exa Z h x "java/lang/StringBuilder" ∧ Fld Z h x "java/lang/AbstractStringBuilder" "value" "[B" (.ref b) ∧ Fld Z h x "java/lang/AbstractStringBuilder" "coder" "B" (.int t) ∧ Fld Z h x "java/lang/AbstractStringBuilder" "count" "I" (.int n) ∧ Fld Z h x "java/lang/AbstractStringBuilder" "maybeLatin1" "Z" (.int 0)
def SbL (Z : State) (h : Heap) (x b : Addr) (cap : Nat) (cs : List Int32) : Prop := SbF Z h x b 0 cs.length.toInt32 ∧ (∃ pad, Vec Z h b .byte (cs.map (nar .byte) ++ pad) ∧ cs.length + pad.length = cap) ∧ ∀ c ∈ cs, isL c
def SbU (Z : State) (h : Heap) (x b : Addr) (cap : Nat) (cs : List Int32) : Prop := SbF Z h x b 1 cs.length.toInt32 ∧ (∃ pad, Vec Z h b .byte (enc16 cs ++ pad) ∧ 2 * cs.length + pad.length = 2 * cap) ∧ (∀ c ∈ cs, isC c) ∧ ∃ c ∈ cs, ¬ isL c
def Sbg (Z : State) (h : Heap) (x b : Addr) (cap : Nat) (cs : List Int32) : Prop := SbL Z h x b cap cs ∨ SbU Z h x b cap cs
section SbS
variable {Z : State} {h h' : Heap} {x b : Addr} {t n : Int32} {cap : Nat} {cs : List Int32} {ws : List Addr}
theorem SbF.ext (F : SbF Z h x b t n) (E : Ext h h') : SbF Z h' x b t n := ⟨F.1.ext E, F.2.1.ext E, F.2.2.1.ext E, F.2.2.2.1.ext E, F.2.2.2.2.ext E⟩
theorem SbF.keep (F : SbF Z h x b t n) (K : Keep h h' ws) (q : x ∉ ws) : SbF Z h' x b t n := ⟨F.1.keep K, F.2.1.keep K q, F.2.2.1.keep K q, F.2.2.2.1.keep K q, F.2.2.2.2.keep K q⟩
theorem Sbg.exa (F : Sbg Z h x b cap cs) : Exa Z h x "java/lang/StringBuilder" := F.elim (fun q => q.1.1) (fun q => q.1.1)
theorem Sbg.lt (F : Sbg Z h x b cap cs) : x < h.size := F.exa.lt
theorem Sbg.ltb (F : Sbg Z h x b cap cs) : b < h.size := by
  rcases F with ⟨-, ⟨p, V, -⟩, -⟩ | ⟨-, ⟨p, V, -⟩, -⟩ <;> exact V.lt
theorem Sbg.ext (F : Sbg Z h x b cap cs) (E : Ext h h') : Sbg Z h' x b cap cs := by
  rcases F with ⟨f, ⟨p, V, q⟩, r⟩ | ⟨f, ⟨p, V, q⟩, r⟩
  · exact Or.inl ⟨f.ext E, ⟨p, V.ext E, q⟩, r⟩
  · exact Or.inr ⟨f.ext E, ⟨p, V.ext E, q⟩, r⟩
theorem Sbg.keep (F : Sbg Z h x b cap cs) (K : Keep h h' ws) (q1 : x ∉ ws) (q2 : b ∉ ws) : Sbg Z h' x b cap cs := by
  rcases F with ⟨f, ⟨p, V, q⟩, r⟩ | ⟨f, ⟨p, V, q⟩, r⟩
  · exact Or.inl ⟨f.keep K q1, ⟨p, V.keep K q2, q⟩, r⟩
  · exact Or.inr ⟨f.keep K q1, ⟨p, V.keep K q2, q⟩, r⟩
end SbS
def minF (a : Int32) (b : Int32) : Int32 := if b < a then b else a
theorem w82 : Jvm.Cond.instantiable "java/lang/StringBuilder" (4 : Nat) ∈ tables_1 := List.mem_of_getElem? (i := 82) rfl
theorem d22_0 : decode jdk_29_method_69_code 0 = .ok (.iload_n 0, 1) := by decide +kernel
theorem d22_1 : decode jdk_29_method_69_code 1 = .ok (.iload_n 1, 1) := by decide +kernel
theorem d22_2 : decode jdk_29_method_69_code 2 = .ok (.if_icmp .gt 7, 3) := by decide +kernel
theorem d22_9 : decode jdk_29_method_69_code 9 = .ok (.iload_n 1, 1) := by decide +kernel
theorem d22_10 : decode jdk_29_method_69_code 10 = .ok (.ireturn, 1) := by decide +kernel
theorem d22_5 : decode jdk_29_method_69_code 5 = .ok (.iload_n 0, 1) := by decide +kernel
theorem d22_6 : decode jdk_29_method_69_code 6 = .ok (.goto 4, 3) := by decide +kernel
abbrev N15 : MethodName := ⟨"java/lang/Math", "min", "(II)I"⟩
theorem pf_N15 : plainFor N15 = true := by decide +kernel

abbrev rm_min : Room := { frames := 0, cells := 0, slots := 0, locals := 0 }
set_option maxRecDepth 65536 in
set_option maxHeartbeats 4000000 in
theorem ct_min (l : Launch) {Z : State} {n0 : Nat} {z : Int32} {f g : Value} {dv : Addr} (W : Sx Z z f g dv) (a : Int32) (b : Int32) (h : Heap) :
    Ctr l Z n0 N15 jdk_29_method_69_code 2 (some .int) rm_min #[(.int a), (.int b)] h [] (fun v h' sn => v = some (.int (minF a b)) ∧ h = h' ∧ sn = []) := by
  refine Ctr.of_go (ls := #[.val (.int a), .val (.int b)]) W.1.1.1 pf_N15 (fun m => by first | (simp [entryFrame, mkF, argsToLocals, Value.category]; done) | rfl) (fun K H => ?_)
  refine Go.iloadN H d22_0 rfl rfl ?_
  refine Go.iloadN H d22_1 rfl rfl ?_
  by_cases c1 : b < a
  ·
    refine Go.icmpY (pc' := 9) H d22_2 (tlt c1).2.2.1 (by decide) (by decide) ?_
    refine Go.iloadN H d22_9 rfl rfl ?_
    exact Go.ireturnI [] H d22_10 ⟨congrArg (fun q => some (Value.int q)) (show b = minF a b from Eq.symm (by rw [minF, if_pos c1])), rfl, rfl⟩ all0 (by decide) (by decide)
  ·
    refine Go.icmpN H d22_2 (flt c1).2.2.1 rfl ?_
    refine Go.iloadN H d22_5 rfl rfl ?_
    refine Go.goto (pc' := 10) H d22_6 (by decide) (by decide) ?_
    exact Go.ireturnI [] H d22_10 ⟨congrArg (fun q => some (Value.int q)) (show a = minF a b from Eq.symm (by rw [minF, if_neg c1])), rfl, rfl⟩ all0 (by decide) (by decide)
theorem minF_0 : minF 16 34 = 16 := by decide
theorem minF_1 : minF 32 68 = 32 := by decide
theorem own_min {n k : Nat} (hn : n < 2 ^ 31) (hk : k < n) : minF n.toInt32 k.toInt32 = k.toInt32 := by
  unfold minF; rw [if_pos (own_lt hn hk)]
theorem lt_a : (2 : Int32) <<< ((0 : Int32) &&& 31) = 2 := by decide
theorem lt_b : (2 : Int32) <<< ((1 : Int32) &&& 31) = 4 := by decide
theorem lt_c : (34 : Int32) >>> ((0 : Int32) &&& 31) = 34 := by decide
theorem lt_d : (68 : Int32) >>> ((1 : Int32) &&& 31) = 34 := by decide
theorem lt_e : (16 : Int32) >>> ((0 : Int32) &&& 31) = 16 := by decide
theorem lt_f : (32 : Int32) >>> ((1 : Int32) &&& 31) = 16 := by decide
theorem lt_g : (34 : Int32) <<< ((0 : Int32) &&& 31) = 34 := by decide
theorem lt_h : (34 : Int32) <<< ((1 : Int32) &&& 31) = 68 := by decide
theorem d10_0 : decode jdk_68_method_2_code 0 = .ok (.aload_n 0, 1) := by decide +kernel
theorem d10_1 : decode jdk_68_method_2_code 1 = .ok (.invokespecial 3, 3) := by decide +kernel
abbrev N16 : MethodName := ⟨"java/lang/Object", "<init>", "()V"⟩
theorem w93 : Jvm.Cond.methodLink "java/lang/AbstractStringBuilder" (3 : Nat) N16 ∈ tables_1 := List.mem_of_getElem? (i := 93) rfl
theorem w18 : Jvm.Cond.instanceMethod N16 ∈ tables_1 := List.mem_of_getElem? (i := 18) rfl
theorem w19 : Jvm.Cond.code N16 object_method_1_code (1 : Nat) (Option.none : Option Jvm.ClassFile.FieldType) ∈ tables_1 := List.mem_of_getElem? (i := 19) rfl
theorem d10_4 : decode jdk_68_method_2_code 4 = .ok (.getstatic 18, 3) := by decide +kernel
theorem w94 : Jvm.Cond.fieldLink "java/lang/AbstractStringBuilder" (18 : Nat) "java/lang/String" "COMPACT_STRINGS" "Z" ∈ tables_1 := List.mem_of_getElem? (i := 94) rfl
theorem d10_7 : decode jdk_68_method_2_code 7 = .ok (.ifCond .eq 18, 3) := by decide +kernel
theorem d10_10 : decode jdk_68_method_2_code 10 = .ok (.aload_n 0, 1) := by decide +kernel
theorem d10_11 : decode jdk_68_method_2_code 11 = .ok (.iload_n 1, 1) := by decide +kernel
theorem d10_12 : decode jdk_68_method_2_code 12 = .ok (.newarray .byte, 2) := by decide +kernel
theorem d10_14 : decode jdk_68_method_2_code 14 = .ok (.putfield 15, 3) := by decide +kernel
theorem w95 : Jvm.Cond.fieldLink "java/lang/AbstractStringBuilder" (15 : Nat) "java/lang/AbstractStringBuilder" "value" "[B" ∈ tables_1 := List.mem_of_getElem? (i := 95) rfl
theorem w96 : Jvm.Cond.lays "java/lang/StringBuilder" "java/lang/AbstractStringBuilder" "value" "[B" ∈ tables_1 := List.mem_of_getElem? (i := 96) rfl
theorem w98 : Jvm.Cond.lays "java/lang/StringBuilder" "java/lang/AbstractStringBuilder" "coder" "B" ∈ tables_1 := List.mem_of_getElem? (i := 98) rfl
theorem w139 : Jvm.Cond.lays "java/lang/StringBuilder" "java/lang/AbstractStringBuilder" "count" "I" ∈ tables_1 := List.mem_of_getElem? (i := 139) rfl
theorem w291 : Jvm.Cond.lays "java/lang/StringBuilder" "java/lang/AbstractStringBuilder" "maybeLatin1" "Z" ∈ tables_1 := List.mem_of_getElem? (i := 291) rfl
theorem d10_17 : decode jdk_68_method_2_code 17 = .ok (.aload_n 0, 1) := by decide +kernel
theorem d10_18 : decode jdk_68_method_2_code 18 = .ok (.iconst 0, 1) := by decide +kernel
theorem d10_19 : decode jdk_68_method_2_code 19 = .ok (.putfield 22, 3) := by decide +kernel
theorem w97 : Jvm.Cond.fieldLink "java/lang/AbstractStringBuilder" (22 : Nat) "java/lang/AbstractStringBuilder" "coder" "B" ∈ tables_1 := List.mem_of_getElem? (i := 97) rfl
theorem d10_22 : decode jdk_68_method_2_code 22 = .ok (.goto 16, 3) := by decide +kernel
theorem d10_38 : decode jdk_68_method_2_code 38 = .ok (.return_, 1) := by decide +kernel
abbrev N17 : MethodName := ⟨"java/lang/AbstractStringBuilder", "<init>", "(I)V"⟩
theorem pn_N17 : plainName N17.cls = true := by first | (simp [plainName, overriddenIn]; done) | decide +kernel

abbrev rm_asbi : Room := { frames := 1, cells := 1, slots := 16, locals := 12 }
set_option maxRecDepth 65536 in
set_option maxHeartbeats 4000000 in
theorem ct_asbi (l : Launch) {Z : State} {n0 : Nat} {z : Int32} {f g : Value} {dv : Addr} (W : Sx Z z f g dv) (x : Addr) (h : Heap) (A : Exa Z h x "java/lang/StringBuilder") (Fv : Fld Z h x "java/lang/AbstractStringBuilder" "value" "[B" .null) (Fc : Fld Z h x "java/lang/AbstractStringBuilder" "coder" "B" (.int 0)) (Fn : Fld Z h x "java/lang/AbstractStringBuilder" "count" "I" (.int 0)) (Fm : Fld Z h x "java/lang/AbstractStringBuilder" "maybeLatin1" "Z" (.int 0)) (zx : n0 ≤ x) :
    Ctr l Z n0 N17 jdk_68_method_2_code 2 none rm_asbi #[(.ref x), (.int (16 : Int32))] h [x] (fun v h' sn => v = none ∧ Keep h h' [x] ∧ ∃ b, h.size ≤ b ∧ n0 ≤ b ∧ Sbg Z h' x b 16 [] ∧ sn = [b]) := by
  refine Ctr.of_go (ls := #[.val (.ref x), .val (.int (16 : Int32))]) W.1.1.1 (plainFor_of_name pn_N17) (fun m => by first | (simp [entryFrame, mkF, argsToLocals, Value.category]; done) | rfl) (fun K H => ?_)
  have KK : Keep h h [x] := Keep.refl _ _
  refine Go.aloadN H d10_0 rfl rfl rfl ?_
  refine Go.initObj H d10_1 rfl w93 w18 w19 0 rfl (Nat.le_of_eq rfl) (by decide) (by decide) ?_
  refine Go.getstatic H d10_4 rfl w94 W.1.1.2.2.1 ?_
  refine Go.ifN H d10_7 (feq W.1.1.2.1).1 rfl ?_
  refine Go.aloadN H d10_10 rfl rfl rfl ?_
  refine Go.iloadN H d10_11 rfl rfl ?_
  refine Go.newarray 16 16 H d10_12 rfl w9 rfl (by decide) (by decide) (by decide) (by decide) (by decide) (by decide) (by decide) ?_
  intro a1 h2 g3 z4 E5 F6
  have ne7 : x ≠ a1 := Nat.ne_of_lt (Nat.lt_of_lt_of_le A.lt (Nat.le_of_eq g3.symm))
  have sz8 := Nat.le_trans KK.1 (Nat.le_of_eq g3.symm)
  replace A := A.ext E5
  replace Fv := Fv.ext E5
  replace Fc := Fc.ext E5
  replace Fn := Fn.ext E5
  replace Fm := Fm.ext E5
  replace KK := KK.ext E5
  show Go _ _ _ _ _ _ h2 [a1, x] 1 16 14 #[.val (.ref x), .val (.int (16 : Int32))] [(.ref a1), (.ref x)]
  refine Go.putfield (v := (.ref a1)) H d10_14 rfl w95 Fv A (Or.inl w96) w82 (ty := (.array .byte)) (by decide) rfl rfl zx (by simp) ?_
  intro h9 Wr10
  have F11 := Fv.same Wr10
  have K12 := Keep.of_wr Wr10
  replace A := A.wr Wr10
  replace Fc := Fc.other Wr10 (Or.inr (own_sne W.1.1.1 (Or.inl w98) (Or.inl w96) (by decide) (t := .byte) (t' := (.array .byte)) (by decide) (by decide)))
  replace Fn := Fn.other Wr10 (Or.inr (own_sne W.1.1.1 (Or.inl w139) (Or.inl w96) (by decide) (t := .int) (t' := (.array .byte)) (by decide) (by decide)))
  replace Fm := Fm.other Wr10 (Or.inr (own_sne W.1.1.1 (Or.inl w291) (Or.inl w96) (by decide) (t := .boolean) (t' := (.array .byte)) (by decide) (by decide)))
  replace F6 := F6.keep K12 (ninS (Ne.symm ne7) nin0)
  replace KK := KK.wr Wr10 (Or.inl (by simp))
  refine Go.aloadN H d10_17 rfl rfl rfl ?_
  refine Go.iconst (0 : Int32) H d10_18 rfl rfl ?_
  refine Go.putfield (v := (.int (0 : Int32))) H d10_19 rfl w97 Fc A (Or.inl w98) w82 (ty := .byte) (by decide) (by decide) (by decide) zx (by simp) ?_
  intro h13 Wr14
  have F15 := Fc.same Wr14
  have K16 := Keep.of_wr Wr14
  replace A := A.wr Wr14
  replace Fn := Fn.other Wr14 (Or.inr (own_sne W.1.1.1 (Or.inl w139) (Or.inl w98) (by decide) (t := .int) (t' := .byte) (by decide) (by decide)))
  replace Fm := Fm.other Wr14 (Or.inr (own_sne W.1.1.1 (Or.inl w291) (Or.inl w98) (by decide) (t := .boolean) (t' := .byte) (by decide) (by decide)))
  replace F6 := F6.keep K16 (ninS (Ne.symm ne7) nin0)
  replace F11 := F11.other Wr14 (Or.inr (own_sne W.1.1.1 (Or.inl w96) (Or.inl w98) (by decide) (t := (.array .byte)) (t' := .byte) (by decide) (by decide)))
  replace KK := KK.wr Wr14 (Or.inl (by simp))
  refine Go.goto (pc' := 38) H d10_22 (by decide) (by decide) ?_
  exact Go.return_ [a1] H d10_38 ⟨rfl, KK, a1, sz8, z4, Or.inl ⟨⟨A, F11, F15, Fn, Fm⟩, ⟨_, F6, rfl⟩, own_an⟩, rfl⟩ (by simp) (by decide) (by decide)
theorem d9_0 : decode jdk_67_method_1_code 0 = .ok (.aload_n 0, 1) := by decide +kernel
theorem d9_1 : decode jdk_67_method_1_code 1 = .ok (.bipush 16, 2) := by decide +kernel
theorem d9_3 : decode jdk_67_method_1_code 3 = .ok (.invokespecial 1, 3) := by decide +kernel
theorem w92 : Jvm.Cond.code N17 jdk_68_method_2_code (2 : Nat) (Option.none : Option Jvm.ClassFile.FieldType) ∈ tables_1 := List.mem_of_getElem? (i := 92) rfl
theorem w91 : Jvm.Cond.initialized "java/lang/AbstractStringBuilder" ∈ tables_1 := List.mem_of_getElem? (i := 91) rfl
theorem pd_N17 : parseMethodDescriptor N17.desc = some ⟨[.int], none⟩ := by decide +kernel
theorem nh_N17 : N17.cls ≠ "java/lang/invoke/MethodHandle" ∧ N17.cls ≠ "java/lang/invoke/VarHandle" := by decide
theorem w87 : Jvm.Cond.methodLink "java/lang/StringBuilder" (1 : Nat) N17 ∈ tables_1 := List.mem_of_getElem? (i := 87) rfl
theorem w88 : Jvm.Cond.instanceMethod N17 ∈ tables_1 := List.mem_of_getElem? (i := 88) rfl
theorem d9_6 : decode jdk_67_method_1_code 6 = .ok (.return_, 1) := by decide +kernel
abbrev N18 : MethodName := ⟨"java/lang/StringBuilder", "<init>", "()V"⟩
theorem pn_N18 : plainName N18.cls = true := by first | (simp [plainName, overriddenIn]; done) | decide +kernel

abbrev rm_sbi : Room := { frames := 2, cells := 1, slots := 16, locals := 25 }
set_option maxRecDepth 65536 in
set_option maxHeartbeats 4000000 in
theorem ct_sbi (l : Launch) {Z : State} {n0 : Nat} {z : Int32} {f g : Value} {dv : Addr} (W : Sx Z z f g dv) (x : Addr) (h : Heap) (A : Exa Z h x "java/lang/StringBuilder") (Fv : Fld Z h x "java/lang/AbstractStringBuilder" "value" "[B" .null) (Fc : Fld Z h x "java/lang/AbstractStringBuilder" "coder" "B" (.int 0)) (Fn : Fld Z h x "java/lang/AbstractStringBuilder" "count" "I" (.int 0)) (Fm : Fld Z h x "java/lang/AbstractStringBuilder" "maybeLatin1" "Z" (.int 0)) (zx : n0 ≤ x) :
    Ctr l Z n0 N18 jdk_67_method_1_code 1 none rm_sbi #[(.ref x)] h [x] (fun v h' sn => v = none ∧ Keep h h' [x] ∧ ∃ b, h.size ≤ b ∧ n0 ≤ b ∧ Sbg Z h' x b 16 [] ∧ sn = [b]) := by
  refine Ctr.of_go (ls := #[.val (.ref x)]) W.1.1.1 (plainFor_of_name pn_N18) (fun m => by first | (simp [entryFrame, mkF, argsToLocals, Value.category]; done) | rfl) (fun K H => ?_)
  refine Go.aloadN H d9_0 rfl rfl rfl ?_
  refine Go.bipush (16 : Int32) H d9_1 rfl rfl ?_
  refine Go.callI (rest := []) 0 [(.int (16 : Int32))] H d9_3 rfl rfl w87 w88 w91 w92 pd_N17 (ct_asbi l W x h A Fv Fc Fn Fm zx) (by simp) rfl rfl rfl (Nat.le_of_eq rfl) (by decide) (by decide) (by decide) (by decide) nh_N17 ?_
  rintro _ h1 _ ⟨rfl, K2, b3, g4, z5, S6, rfl⟩
  have ne7 : x ≠ b3 := Nat.ne_of_lt (Nat.lt_of_lt_of_le A.lt g4)
  show Go _ _ _ _ _ _ h1 [b3, x] 1 16 6 #[.val (.ref x)] []
  exact Go.return_ [b3] H d9_6 ⟨rfl, K2, b3, g4, z5, S6, rfl⟩ (by simp) (by decide) (by decide)
theorem d27_0 : decode jdk_68_method_9_code 0 = .ok (.aload_n 0, 1) := by decide +kernel
theorem d27_1 : decode jdk_68_method_9_code 1 = .ok (.getfield 15, 3) := by decide +kernel
theorem d27_4 : decode jdk_68_method_9_code 4 = .ok (.arraylength, 1) := by decide +kernel
theorem d27_5 : decode jdk_68_method_9_code 5 = .ok (.aload_n 0, 1) := by decide +kernel
theorem d27_6 : decode jdk_68_method_9_code 6 = .ok (.getfield 22, 3) := by decide +kernel
theorem d27_9 : decode jdk_68_method_9_code 9 = .ok (.ishr, 1) := by decide +kernel
theorem d27_10 : decode jdk_68_method_9_code 10 = .ok (.istore_n 2, 1) := by decide +kernel
theorem d27_11 : decode jdk_68_method_9_code 11 = .ok (.iload_n 1, 1) := by decide +kernel
theorem d27_12 : decode jdk_68_method_9_code 12 = .ok (.iload_n 2, 1) := by decide +kernel
theorem d27_13 : decode jdk_68_method_9_code 13 = .ok (.isub, 1) := by decide +kernel
theorem d27_14 : decode jdk_68_method_9_code 14 = .ok (.ifCond .le 24, 3) := by decide +kernel
theorem d27_38 : decode jdk_68_method_9_code 38 = .ok (.return_, 1) := by decide +kernel
abbrev N19 : MethodName := ⟨"java/lang/AbstractStringBuilder", "ensureCapacityInternal", "(I)V"⟩

abbrev rm_ecf0 : Room := { frames := 0, cells := 0, slots := 0, locals := 0 }
set_option maxRecDepth 65536 in
set_option maxHeartbeats 4000000 in
theorem ct_ecf0 (l : Launch) {Z : State} {n0 : Nat} {z : Int32} {f g : Value} {dv : Addr} (W : Sx Z z f g dv) (x b : Addr) (bs : List Int32) (n : Int32) (m cap : Nat) (h : Heap) (F : SbF Z h x b 0 n) (Fb : Vec Z h b .byte bs) (hb : bs.length = cap) (h1 : m ≤ cap) (h2 : cap < 2 ^ 20) :
    Ctr l Z n0 N19 jdk_68_method_9_code 3 none rm_ecf0 #[(.ref x), (.int m.toInt32)] h [] (fun v h' sn => v = none ∧ h = h' ∧ sn = []) := by
  refine Ctr.of_go (ls := #[.val (.ref x), .val (.int m.toInt32), .unset]) W.1.1.1 (plainFor_of_name pn_N17) (fun m => by first | (simp [entryFrame, mkF, argsToLocals, Value.category]; done) | rfl) (fun K H => ?_)
  obtain ⟨A, Fv, Fc, Fn, Fm⟩ := F
  refine Go.aloadN H d27_0 rfl rfl rfl ?_
  refine Go.getfield H d27_1 rfl w95 Fv ?_
  refine Go.arraylength cap.toInt32 H d27_4 rfl Fb (by rw [hb]) ?_
  refine Go.aloadN H d27_5 rfl rfl rfl ?_
  refine Go.getfield H d27_6 rfl w97 Fc ?_
  refine Go.ishr H d27_9 rfl ?_
  rw [own_shr0]
  refine Go.istoreN (ls' := #[.val (.ref x), .val (.int m.toInt32), .val (.int cap.toInt32)]) H d27_10 rfl rfl ?_
  refine Go.iloadN H d27_11 rfl rfl ?_
  refine Go.iloadN H d27_12 rfl rfl ?_
  refine Go.isub H d27_13 rfl ?_
  refine Go.ifY (pc' := 38) H d27_14 (flt (own_subnp (by omega) h1)).2.2.2 (by decide) (by decide) ?_
  exact Go.return_ [] H d27_38 ⟨rfl, rfl, rfl⟩ all0 (by decide) (by decide)

abbrev rm_ecf1 : Room := { frames := 0, cells := 0, slots := 0, locals := 0 }
set_option maxRecDepth 65536 in
set_option maxHeartbeats 4000000 in
theorem ct_ecf1 (l : Launch) {Z : State} {n0 : Nat} {z : Int32} {f g : Value} {dv : Addr} (W : Sx Z z f g dv) (x b : Addr) (bs : List Int32) (n : Int32) (m cap : Nat) (h : Heap) (F : SbF Z h x b 1 n) (Fb : Vec Z h b .byte bs) (hb : bs.length = 2 * cap) (h1 : m ≤ cap) (h2 : cap < 2 ^ 20) :
    Ctr l Z n0 N19 jdk_68_method_9_code 3 none rm_ecf1 #[(.ref x), (.int m.toInt32)] h [] (fun v h' sn => v = none ∧ h = h' ∧ sn = []) := by
  refine Ctr.of_go (ls := #[.val (.ref x), .val (.int m.toInt32), .unset]) W.1.1.1 (plainFor_of_name pn_N17) (fun m => by first | (simp [entryFrame, mkF, argsToLocals, Value.category]; done) | rfl) (fun K H => ?_)
  obtain ⟨A, Fv, Fc, Fn, Fm⟩ := F
  refine Go.aloadN H d27_0 rfl rfl rfl ?_
  refine Go.getfield H d27_1 rfl w95 Fv ?_
  refine Go.arraylength (2 * cap).toInt32 H d27_4 rfl Fb (by rw [hb]) ?_
  refine Go.aloadN H d27_5 rfl rfl rfl ?_
  refine Go.getfield H d27_6 rfl w97 Fc ?_
  refine Go.ishr H d27_9 rfl ?_
  rw [own_ul (by omega)]
  refine Go.istoreN (ls' := #[.val (.ref x), .val (.int m.toInt32), .val (.int cap.toInt32)]) H d27_10 rfl rfl ?_
  refine Go.iloadN H d27_11 rfl rfl ?_
  refine Go.iloadN H d27_12 rfl rfl ?_
  refine Go.isub H d27_13 rfl ?_
  refine Go.ifY (pc' := 38) H d27_14 (flt (own_subnp (by omega) h1)).2.2.2 (by decide) (by decide) ?_
  exact Go.return_ [] H d27_38 ⟨rfl, rfl, rfl⟩ all0 (by decide) (by decide)
theorem d18_0 : decode jdk_68_method_68_code 0 = .ok (.getstatic 18, 3) := by decide +kernel
theorem d18_3 : decode jdk_68_method_68_code 3 = .ok (.ifCond .eq 14, 3) := by decide +kernel
theorem d18_6 : decode jdk_68_method_68_code 6 = .ok (.aload_n 0, 1) := by decide +kernel
theorem d18_7 : decode jdk_68_method_68_code 7 = .ok (.getfield 22, 3) := by decide +kernel
theorem d18_10 : decode jdk_68_method_68_code 10 = .ok (.ifCond .ne 7, 3) := by decide +kernel
theorem d18_13 : decode jdk_68_method_68_code 13 = .ok (.iconst 1, 1) := by decide +kernel
theorem d18_14 : decode jdk_68_method_68_code 14 = .ok (.goto 4, 3) := by decide +kernel
theorem d18_18 : decode jdk_68_method_68_code 18 = .ok (.ireturn, 1) := by decide +kernel
abbrev N20 : MethodName := ⟨"java/lang/AbstractStringBuilder", "isLatin1", "()Z"⟩

abbrev rm_asl0 : Room := { frames := 0, cells := 0, slots := 0, locals := 0 }
set_option maxRecDepth 65536 in
set_option maxHeartbeats 4000000 in
theorem ct_asl0 (l : Launch) {Z : State} {n0 : Nat} {z : Int32} {f g : Value} {dv : Addr} (W : Sx Z z f g dv) (x b : Addr) (n : Int32) (h : Heap) (F : SbF Z h x b 0 n) :
    Ctr l Z n0 N20 jdk_68_method_68_code 1 (some .boolean) rm_asl0 #[(.ref x)] h [] (fun v h' sn => v = some (.int 1) ∧ h = h' ∧ sn = []) := by
  refine Ctr.of_go (ls := #[.val (.ref x)]) W.1.1.1 (plainFor_of_name pn_N17) (fun m => by first | (simp [entryFrame, mkF, argsToLocals, Value.category]; done) | rfl) (fun K H => ?_)
  obtain ⟨A, Fv, Fc, Fn, Fm⟩ := F
  refine Go.getstatic H d18_0 rfl w94 W.1.1.2.2.1 ?_
  refine Go.ifN H d18_3 (feq W.1.1.2.1).1 rfl ?_
  refine Go.aloadN H d18_6 rfl rfl rfl ?_
  refine Go.getfield H d18_7 rfl w97 Fc ?_
  refine Go.ifN H d18_10 (by decide) rfl ?_
  refine Go.iconst (1 : Int32) H d18_13 rfl rfl ?_
  refine Go.goto (pc' := 18) H d18_14 (by decide) (by decide) ?_
  exact Go.ireturn (1 : Int32) [] H d18_18 (by simp) (by decide) ⟨rfl, rfl, rfl⟩ all0 (by decide) (by decide)
theorem d18_17 : decode jdk_68_method_68_code 17 = .ok (.iconst 0, 1) := by decide +kernel

abbrev rm_asl1 : Room := { frames := 0, cells := 0, slots := 0, locals := 0 }
set_option maxRecDepth 65536 in
set_option maxHeartbeats 4000000 in
theorem ct_asl1 (l : Launch) {Z : State} {n0 : Nat} {z : Int32} {f g : Value} {dv : Addr} (W : Sx Z z f g dv) (x b : Addr) (n : Int32) (h : Heap) (F : SbF Z h x b 1 n) :
    Ctr l Z n0 N20 jdk_68_method_68_code 1 (some .boolean) rm_asl1 #[(.ref x)] h [] (fun v h' sn => v = some (.int 0) ∧ h = h' ∧ sn = []) := by
  refine Ctr.of_go (ls := #[.val (.ref x)]) W.1.1.1 (plainFor_of_name pn_N17) (fun m => by first | (simp [entryFrame, mkF, argsToLocals, Value.category]; done) | rfl) (fun K H => ?_)
  obtain ⟨A, Fv, Fc, Fn, Fm⟩ := F
  refine Go.getstatic H d18_0 rfl w94 W.1.1.2.2.1 ?_
  refine Go.ifN H d18_3 (feq W.1.1.2.1).1 rfl ?_
  refine Go.aloadN H d18_6 rfl rfl rfl ?_
  refine Go.getfield H d18_7 rfl w97 Fc ?_
  refine Go.ifY (pc' := 17) H d18_10 (by decide) (by decide) (by decide) ?_
  refine Go.iconst (0 : Int32) H d18_17 rfl rfl ?_
  exact Go.ireturn (0 : Int32) [] H d18_18 (by simp) (by decide) ⟨rfl, rfl, rfl⟩ all0 (by decide) (by decide)
theorem d47_0 : decode jdk_41_method_13_code 0 = .ok (.iload_n 2, 1) := by decide +kernel
theorem d47_1 : decode jdk_41_method_13_code 1 = .ok (.iload_n 0, 1) := by decide +kernel
theorem d47_2 : decode jdk_41_method_13_code 2 = .ok (.ior, 1) := by decide +kernel
theorem d47_3 : decode jdk_41_method_13_code 3 = .ok (.iload_n 1, 1) := by decide +kernel
theorem d47_4 : decode jdk_41_method_13_code 4 = .ok (.ior, 1) := by decide +kernel
theorem d47_5 : decode jdk_41_method_13_code 5 = .ok (.ifCond .lt 10, 3) := by decide +kernel
theorem d47_8 : decode jdk_41_method_13_code 8 = .ok (.iload_n 1, 1) := by decide +kernel
theorem d47_9 : decode jdk_41_method_13_code 9 = .ok (.iload_n 2, 1) := by decide +kernel
theorem d47_10 : decode jdk_41_method_13_code 10 = .ok (.iload_n 0, 1) := by decide +kernel
theorem d47_11 : decode jdk_41_method_13_code 11 = .ok (.isub, 1) := by decide +kernel
theorem d47_12 : decode jdk_41_method_13_code 12 = .ok (.if_icmp .le 11, 3) := by decide +kernel
theorem d47_23 : decode jdk_41_method_13_code 23 = .ok (.iload_n 0, 1) := by decide +kernel
theorem d47_24 : decode jdk_41_method_13_code 24 = .ok (.ireturn, 1) := by decide +kernel
abbrev N21 : MethodName := ⟨"jdk/internal/util/Preconditions", "checkFromIndexSize", "(IIILjava/util/function/BiFunction;)I"⟩

abbrev rm_cfis : Room := { frames := 0, cells := 0, slots := 0, locals := 0 }
set_option maxRecDepth 65536 in
set_option maxHeartbeats 4000000 in
theorem ct_cfis (l : Launch) {Z : State} {n0 : Nat} {z : Int32} {f g : Value} {dv : Addr} (W : Sx Z z f g dv) (k n m : Nat) (h : Heap) (hm : m < 2 ^ 31) (hk : k + n ≤ m) :
    Ctr l Z n0 N21 jdk_41_method_13_code 4 (some .int) rm_cfis #[(.int k.toInt32), (.int n.toInt32), (.int m.toInt32), f] h [] (fun v h' sn => v = some (.int k.toInt32) ∧ h = h' ∧ sn = []) := by
  refine Ctr.of_go (ls := #[.val (.int k.toInt32), .val (.int n.toInt32), .val (.int m.toInt32), .val f]) W.1.1.1 (plainFor_of_name pn_N7) (fun m => (by rcases ref_cases W.1.1.2.2.2.1 with q | ⟨fa, q⟩ <;> rw [q] <;> rfl)) (fun K H => ?_)
  refine Go.iloadN H d47_0 rfl rfl ?_
  refine Go.iloadN H d47_1 rfl rfl ?_
  refine Go.ior H d47_2 rfl ?_
  refine Go.iloadN H d47_3 rfl rfl ?_
  refine Go.ior H d47_4 rfl ?_
  refine Go.ifN H d47_5 (flt (own_or0 (own_or0 (own_n0 (by omega)) (own_n0 (by omega))) (own_n0 (by omega)))).1 rfl ?_
  refine Go.iloadN H d47_8 rfl rfl ?_
  refine Go.iloadN H d47_9 rfl rfl ?_
  refine Go.iloadN H d47_10 rfl rfl ?_
  refine Go.isub H d47_11 rfl ?_
  refine Go.icmpY (pc' := 23) H d47_12 (flt (own_sle hm hk)).2.2.2 (by decide) (by decide) ?_
  refine Go.iloadN H d47_23 rfl rfl ?_
  exact Go.ireturnI [] H d47_24 ⟨rfl, rfl, rfl⟩ all0 (by decide) (by decide)
theorem d46_0 : decode jdk_42_method_157_code 0 = .ok (.iload_n 0, 1) := by decide +kernel
theorem d46_1 : decode jdk_42_method_157_code 1 = .ok (.iload_n 1, 1) := by decide +kernel
theorem d46_2 : decode jdk_42_method_157_code 2 = .ok (.iload_n 2, 1) := by decide +kernel
theorem d46_3 : decode jdk_42_method_157_code 3 = .ok (.getstatic 1053, 3) := by decide +kernel
theorem d46_6 : decode jdk_42_method_157_code 6 = .ok (.invokestatic 1065, 3) := by decide +kernel
theorem w270 : Jvm.Cond.code N21 jdk_41_method_13_code (4 : Nat) (Option.some Jvm.ClassFile.FieldType.int) ∈ tables_1 := List.mem_of_getElem? (i := 270) rfl
theorem pd_N21 : parseMethodDescriptor N21.desc = some ⟨[.int, .int, .int, (.object "java/util/function/BiFunction")], (some .int)⟩ := by decide +kernel
theorem w268 : Jvm.Cond.methodLink "java/lang/String" (1065 : Nat) N21 ∈ tables_1 := List.mem_of_getElem? (i := 268) rfl
theorem w269 : Jvm.Cond.static N21 ∈ tables_1 := List.mem_of_getElem? (i := 269) rfl
theorem d46_9 : decode jdk_42_method_157_code 9 = .ok (.ireturn, 1) := by decide +kernel
abbrev N22 : MethodName := ⟨"java/lang/String", "checkBoundsOffCount", "(III)I"⟩

abbrev rm_cboc : Room := { frames := 1, cells := 0, slots := 0, locals := 15 }
set_option maxRecDepth 65536 in
set_option maxHeartbeats 4000000 in
theorem ct_cboc (l : Launch) {Z : State} {n0 : Nat} {z : Int32} {f g : Value} {dv : Addr} (W : Sx Z z f g dv) (k n m : Nat) (h : Heap) (hm : m < 2 ^ 31) (hk : k + n ≤ m) :
    Ctr l Z n0 N22 jdk_42_method_157_code 3 (some .int) rm_cboc #[(.int k.toInt32), (.int n.toInt32), (.int m.toInt32)] h [] (fun v h' sn => v = some (.int k.toInt32) ∧ h = h' ∧ sn = []) := by
  refine Ctr.of_go (ls := #[.val (.int k.toInt32), .val (.int n.toInt32), .val (.int m.toInt32)]) W.1.1.1 (plainFor_of_name pn_N4) (fun m => by first | (simp [entryFrame, mkF, argsToLocals, Value.category]; done) | rfl) (fun K H => ?_)
  refine Go.iloadN H d46_0 rfl rfl ?_
  refine Go.iloadN H d46_1 rfl rfl ?_
  refine Go.iloadN H d46_2 rfl rfl ?_
  refine Go.getstatic H d46_3 rfl w236 W.1.1.2.2.2.2 ?_
  refine Go.callS (rest := []) 0 [(.int k.toInt32), (.int n.toInt32), (.int m.toInt32), f] H d46_6 rfl w268 w269 w180 w270 pd_N21 (ct_cfis l W k n m h hm hk) all0 rfl rfl rfl (Nat.le_of_eq rfl) (by decide) (by decide) (by decide) (by decide) nh_N7 ?_
  rintro _ _ _ ⟨rfl, rfl, rfl⟩
  show Go _ _ _ _ _ _ h [] 0 0 9 #[.val (.int k.toInt32), .val (.int n.toInt32), .val (.int m.toInt32)] [(.int k.toInt32)]
  exact Go.ireturnI [] H d46_9 ⟨rfl, rfl, rfl⟩ all0 (by decide) (by decide)

abbrev rm_ulenm : Room := { frames := 0, cells := 0, slots := 0, locals := 0 }
set_option maxRecDepth 65536 in
set_option maxHeartbeats 4000000 in
theorem ct_ulenm (l : Launch) {Z : State} {n0 : Nat} {z : Int32} {f g : Value} {dv : Addr} (W : Sx Z z f g dv) (b : Addr) (bs : List Int32) (m : Nat) (h : Heap) (Fb : Vec Z h b .byte bs) (hb : bs.length = 2 * m) (hm : m < 2 ^ 30) :
    Ctr l Z n0 N10 jdk_52_method_6_code 1 (some .int) rm_ulenm #[(.ref b)] h [] (fun v h' sn => v = some (.int m.toInt32) ∧ h = h' ∧ sn = []) := by
  refine Ctr.of_go (ls := #[.val (.ref b)]) W.1.1.1 (plainFor_of_name pn_N0) (fun m => by first | (simp [entryFrame, mkF, argsToLocals, Value.category]; done) | rfl) (fun K H => ?_)
  refine Go.aloadN H d45_0 rfl rfl rfl ?_
  refine Go.arraylength (2 * m).toInt32 H d45_1 rfl Fb (by rw [hb]) ?_
  refine Go.iconst (1 : Int32) H d45_2 rfl rfl ?_
  refine Go.ishr H d45_3 rfl ?_
  exact Go.ireturnI [] H d45_4 ⟨by rw [own_ul hm], rfl, rfl⟩ all0 (by decide) (by decide)
theorem d44_0 : decode jdk_52_method_94_code 0 = .ok (.iload_n 0, 1) := by decide +kernel
theorem d44_1 : decode jdk_52_method_94_code 1 = .ok (.iload_n 1, 1) := by decide +kernel
theorem d44_2 : decode jdk_52_method_94_code 2 = .ok (.aload_n 2, 1) := by decide +kernel
theorem d44_3 : decode jdk_52_method_94_code 3 = .ok (.invokestatic 48, 3) := by decide +kernel
theorem d44_6 : decode jdk_52_method_94_code 6 = .ok (.invokestatic 419, 3) := by decide +kernel
theorem w267 : Jvm.Cond.code N22 jdk_42_method_157_code (3 : Nat) (Option.some Jvm.ClassFile.FieldType.int) ∈ tables_1 := List.mem_of_getElem? (i := 267) rfl
theorem pd_N22 : parseMethodDescriptor N22.desc = some ⟨[.int, .int, .int], (some .int)⟩ := by decide +kernel
theorem w265 : Jvm.Cond.methodLink "java/lang/StringUTF16" (419 : Nat) N22 ∈ tables_1 := List.mem_of_getElem? (i := 265) rfl
theorem w266 : Jvm.Cond.static N22 ∈ tables_1 := List.mem_of_getElem? (i := 266) rfl
theorem d44_9 : decode jdk_52_method_94_code 9 = .ok (.pop, 1) := by decide +kernel
theorem d44_10 : decode jdk_52_method_94_code 10 = .ok (.return_, 1) := by decide +kernel
abbrev N23 : MethodName := ⟨"java/lang/StringUTF16", "checkBoundsOffCount", "(II[B)V"⟩

abbrev rm_uboc : Room := { frames := 2, cells := 0, slots := 0, locals := 29 }
set_option maxRecDepth 65536 in
set_option maxHeartbeats 4000000 in
theorem ct_uboc (l : Launch) {Z : State} {n0 : Nat} {z : Int32} {f g : Value} {dv : Addr} (W : Sx Z z f g dv) (d : Addr) (bs : List Int32) (k n m : Nat) (h : Heap) (Fd : Vec Z h d .byte bs) (hb : bs.length = 2 * m) (hm : m < 2 ^ 30) (hk : k + n ≤ m) :
    Ctr l Z n0 N23 jdk_52_method_94_code 3 none rm_uboc #[(.int k.toInt32), (.int n.toInt32), (.ref d)] h [] (fun v h' sn => v = none ∧ h = h' ∧ sn = []) := by
  refine Ctr.of_go (ls := #[.val (.int k.toInt32), .val (.int n.toInt32), .val (.ref d)]) W.1.1.1 (plainFor_of_name pn_N0) (fun m => by first | (simp [entryFrame, mkF, argsToLocals, Value.category]; done) | rfl) (fun K H => ?_)
  refine Go.iloadN H d44_0 rfl rfl ?_
  refine Go.iloadN H d44_1 rfl rfl ?_
  refine Go.aloadN H d44_2 rfl rfl rfl ?_
  refine Go.callS (rest := [(.int n.toInt32), (.int k.toInt32)]) 2 [(.ref d)] H d44_3 rfl w262 w263 w247 w264 pd_N10 (ct_ulenm l W d _ m h Fd hb (by omega)) all0 rfl rfl rfl (Nat.le_of_eq rfl) (by decide) (by decide) (by decide) (by decide) nh_N0 ?_
  rintro _ _ _ ⟨rfl, rfl, rfl⟩
  show Go _ _ _ _ _ _ h [] 0 0 6 #[.val (.int k.toInt32), .val (.int n.toInt32), .val (.ref d)] [(.int m.toInt32), (.int n.toInt32), (.int k.toInt32)]
  refine Go.callS (rest := []) 0 [(.int k.toInt32), (.int n.toInt32), (.int m.toInt32)] H d44_6 rfl w265 w266 w7 w267 pd_N22 (ct_cboc l W k n m h (by omega) hk) all0 rfl rfl rfl (Nat.le_of_eq rfl) (by decide) (by decide) (by decide) (by decide) nh_N5 ?_
  rintro _ _ _ ⟨rfl, rfl, rfl⟩
  show Go _ _ _ _ _ _ h [] 0 0 9 #[.val (.int k.toInt32), .val (.int n.toInt32), .val (.ref d)] [(.int k.toInt32)]
  refine Go.pop H d44_9 rfl rfl ?_
  exact Go.return_ [] H d44_10 ⟨rfl, rfl, rfl⟩ all0 (by decide) (by decide)
theorem d43_10 : decode jdk_52_method_86_code 10 = .ok (.iload 5, 2) := by decide +kernel
theorem d43_12 : decode jdk_52_method_86_code 12 = .ok (.iload 4, 2) := by decide +kernel
theorem d43_14 : decode jdk_52_method_86_code 14 = .ok (.if_icmp .ge 27, 3) := by decide +kernel
theorem d43_41 : decode jdk_52_method_86_code 41 = .ok (.return_, 1) := by decide +kernel
theorem d43_17 : decode jdk_52_method_86_code 17 = .ok (.aload_n 2, 1) := by decide +kernel
theorem d43_18 : decode jdk_52_method_86_code 18 = .ok (.iload_n 3, 1) := by decide +kernel
theorem d43_19 : decode jdk_52_method_86_code 19 = .ok (.iinc 3 1, 3) := by decide +kernel
theorem d43_22 : decode jdk_52_method_86_code 22 = .ok (.aload_n 0, 1) := by decide +kernel
theorem d43_23 : decode jdk_52_method_86_code 23 = .ok (.iload_n 1, 1) := by decide +kernel
theorem d43_24 : decode jdk_52_method_86_code 24 = .ok (.iinc 1 1, 3) := by decide +kernel
theorem d43_27 : decode jdk_52_method_86_code 27 = .ok (.baload, 1) := by decide +kernel
theorem d43_28 : decode jdk_52_method_86_code 28 = .ok (.sipush 255, 3) := by decide +kernel
theorem d43_31 : decode jdk_52_method_86_code 31 = .ok (.iand, 1) := by decide +kernel
theorem d43_32 : decode jdk_52_method_86_code 32 = .ok (.invokestatic 111, 3) := by decide +kernel
theorem w286 : Jvm.Cond.code N2 jdk_52_method_4_code (3 : Nat) (Option.none : Option Jvm.ClassFile.FieldType) ∈ tables_1 := List.mem_of_getElem? (i := 286) rfl
theorem pd_N2 : parseMethodDescriptor N2.desc = some ⟨[(.array .byte), .int, .int], none⟩ := by decide +kernel
theorem w284 : Jvm.Cond.methodLink "java/lang/StringUTF16" (111 : Nat) N2 ∈ tables_1 := List.mem_of_getElem? (i := 284) rfl
theorem w285 : Jvm.Cond.static N2 ∈ tables_1 := List.mem_of_getElem? (i := 285) rfl
theorem d43_35 : decode jdk_52_method_86_code 35 = .ok (.iinc 5 1, 3) := by decide +kernel
theorem d43_38 : decode jdk_52_method_86_code 38 = .ok (.goto (-28), 3) := by decide +kernel
theorem d43_0 : decode jdk_52_method_86_code 0 = .ok (.iload_n 3, 1) := by decide +kernel
theorem d43_1 : decode jdk_52_method_86_code 1 = .ok (.iload 4, 2) := by decide +kernel
theorem d43_3 : decode jdk_52_method_86_code 3 = .ok (.aload_n 2, 1) := by decide +kernel
theorem d43_4 : decode jdk_52_method_86_code 4 = .ok (.invokestatic 173, 3) := by decide +kernel
theorem w261 : Jvm.Cond.code N23 jdk_52_method_94_code (3 : Nat) (Option.none : Option Jvm.ClassFile.FieldType) ∈ tables_1 := List.mem_of_getElem? (i := 261) rfl
theorem pd_N23 : parseMethodDescriptor N23.desc = some ⟨[.int, .int, (.array .byte)], none⟩ := by decide +kernel
theorem w259 : Jvm.Cond.methodLink "java/lang/StringUTF16" (173 : Nat) N23 ∈ tables_1 := List.mem_of_getElem? (i := 259) rfl
theorem w260 : Jvm.Cond.static N23 ∈ tables_1 := List.mem_of_getElem? (i := 260) rfl
theorem d43_7 : decode jdk_52_method_86_code 7 = .ok (.iconst 0, 1) := by decide +kernel
theorem d43_8 : decode jdk_52_method_86_code 8 = .ok (.istore 5, 2) := by decide +kernel

set_option maxRecDepth 65536 in
set_option maxHeartbeats 4000000 in
theorem lp_uinf (l : Launch) {Z : State} {n0 : Nat} {z : Int32} {f g : Value} {dv : Addr} (W : Sx Z z f g dv) (b d : Addr) (cs pd P R1 : List Int32) (k m : Nat) (hh : Heap) (hL : ∀ c ∈ cs, isL c) (hP : P.length = 2 * k) (hb : (P ++ R1).length = 2 * m) (hk : k + cs.length ≤ m) (hm : m < 2 ^ 20) (zd : n0 ≤ d) (hne : b ≠ d) {K : Cx} (H : Ok Z K "java/lang/StringUTF16" jdk_52_method_86_code 6 none "inflate") :
    ∀ (q i : Nat), i + q = cs.length → ∀ h : Heap, Vec Z h b .byte (cs.map (nar .byte) ++ pd) → Vec Z h d .byte (P ++ enc16 (cs.take i) ++ R1.drop (2 * i)) → Keep hh h [d] →
      Go l Z n0 ({ frames := 3, cells := 0, slots := 0, locals := 43 } : Room) K (fun v h' sn => v = none ∧ Keep hh h' [d] ∧ Vec Z h' d .byte (P ++ enc16 cs ++ R1.drop (2 * cs.length)) ∧ sn = []) h [d] 0 0 10 #[.val (.ref b), .val (.int i.toInt32), .val (.ref d), .val (.int (k + i).toInt32), .val (.int cs.length.toInt32), .val (.int i.toInt32)] [] := by
  intro q
  induction q with
  | zero =>
    intro i hi h Fb Fd KK
    refine Go.iload H d43_10 rfl rfl ?_
    refine Go.iload H d43_12 rfl rfl ?_
    refine Go.icmpY (pc' := 41) H d43_14 (flt (own_nlt (by omega) (by omega))).2.1 (by decide) (by decide) ?_
    rw [own_inf0 (by omega)] at Fd
    exact Go.return_ [] H d43_41 ⟨rfl, KK, Fd, rfl⟩ all0 (by decide) (by decide)
  | succ q ih =>
    intro i hi h Fb Fd KK
    have hlt : i < cs.length := by omega
    obtain ⟨c, hc⟩ : ∃ c, cs[i]? = some c := ⟨_, List.getElem?_eq_getElem hlt⟩
    have hLc : isL c := hL c (List.mem_of_getElem? hc)
    have hcb : (cs.map (nar .byte) ++ pd)[i]? = some (nar .byte c) := by rw [List.getElem?_append_left (by rw [List.length_map]; omega)]; exact own_getm hc
    refine Go.iload H d43_10 rfl rfl ?_
    refine Go.iload H d43_12 rfl rfl ?_
    refine Go.icmpN H d43_14 (tlt (own_lt (by omega) hlt)).2.1 rfl ?_
    refine Go.aloadN H d43_17 rfl rfl rfl ?_
    refine Go.iloadN H d43_18 rfl rfl ?_
    refine Go.iinc (ls' := #[.val (.ref b), .val (.int i.toInt32), .val (.ref d), .val (.int ((k + i).toInt32 + (1 : Int32))), .val (.int cs.length.toInt32), .val (.int i.toInt32)]) (1 : Int32) H d43_19 rfl rfl rfl rfl ?_
    refine Go.aloadN H d43_22 rfl rfl rfl ?_
    refine Go.iloadN H d43_23 rfl rfl ?_
    refine Go.iinc (ls' := #[.val (.ref b), .val (.int (i.toInt32 + (1 : Int32))), .val (.ref d), .val (.int ((k + i).toInt32 + (1 : Int32))), .val (.int cs.length.toInt32), .val (.int i.toInt32)]) (1 : Int32) H d43_24 rfl rfl rfl rfl ?_
    refine Go.baload (v := (nar .byte c)) H d43_27 rfl Fb i (own_cl (by omega)) (own_n0 (by omega)) hcb ?_
    refine Go.sipush (255 : Int32) H d43_28 rfl rfl ?_
    refine Go.iand H d43_31 rfl ?_
    rw [own_b255 hLc]
    refine Go.callS (rest := []) 0 [(.ref d), (.int (k + i).toInt32), (.int c)] H d43_32 rfl w284 w285 w247 w286 pd_N2 (ct_putc l W d _ (k + i) c h Fd (by rw [List.length_append, List.length_append, enc16_len, List.length_take, List.length_drop, hP]; rw [List.length_append, hP] at hb; omega) (by omega) zd) (by simp) rfl rfl rfl (Nat.le_of_eq rfl) (by decide) (by decide) (by decide) (by decide) nh_N0 ?_
    rintro _ h1 _ ⟨rfl, K2, F3, rfl⟩
    replace Fb := Fb.keep K2 (ninS hne nin0)
    replace KK := KK.trans K2 (allS (Or.inl (by simp)) all0)
    show Go _ _ _ _ _ _ h1 [d] 0 0 35 #[.val (.ref b), .val (.int (i.toInt32 + (1 : Int32))), .val (.ref d), .val (.int ((k + i).toInt32 + (1 : Int32))), .val (.int cs.length.toInt32), .val (.int i.toInt32)] []
    refine Go.iinc (ls' := #[.val (.ref b), .val (.int (i.toInt32 + (1 : Int32))), .val (.ref d), .val (.int ((k + i).toInt32 + (1 : Int32))), .val (.int cs.length.toInt32), .val (.int (i.toInt32 + (1 : Int32)))]) (1 : Int32) H d43_35 rfl rfl rfl rfl ?_
    refine Go.goto (pc' := 10) H d43_38 (by decide) (by decide) ?_
    rw [own_inf hP hc (by rw [List.length_append, hP] at hb; omega)] at F3
    rw [own_s i, own_s (k + i)]
    exact ih (i + 1) (by omega) _ Fb F3 KK
abbrev N24 : MethodName := ⟨"java/lang/StringUTF16", "inflate", "([BI[BII)V"⟩

abbrev rm_uinf : Room := { frames := 3, cells := 0, slots := 0, locals := 43 }
set_option maxRecDepth 65536 in
set_option maxHeartbeats 4000000 in
theorem ct_uinf (l : Launch) {Z : State} {n0 : Nat} {z : Int32} {f g : Value} {dv : Addr} (W : Sx Z z f g dv) (b d : Addr) (cs pd P R1 : List Int32) (k m : Nat) (h : Heap) (Fb : Vec Z h b .byte (cs.map (nar .byte) ++ pd)) (Fd : Vec Z h d .byte (P ++ R1)) (hL : ∀ c ∈ cs, isL c) (hP : P.length = 2 * k) (hb : (P ++ R1).length = 2 * m) (hk : k + cs.length ≤ m) (hm : m < 2 ^ 20) (zd : n0 ≤ d) (hne : b ≠ d) :
    Ctr l Z n0 N24 jdk_52_method_86_code 6 none rm_uinf #[(.ref b), (.int (0 : Int32)), (.ref d), (.int k.toInt32), (.int cs.length.toInt32)] h [d] (fun v h' sn => v = none ∧ Keep h h' [d] ∧ Vec Z h' d .byte (P ++ enc16 cs ++ R1.drop (2 * cs.length)) ∧ sn = []) := by
  refine Ctr.of_go (ls := #[.val (.ref b), .val (.int (0 : Int32)), .val (.ref d), .val (.int k.toInt32), .val (.int cs.length.toInt32), .unset]) W.1.1.1 (plainFor_of_name pn_N0) (fun m => by first | (simp [entryFrame, mkF, argsToLocals, Value.category]; done) | rfl) (fun K H => ?_)
  refine Go.iloadN H d43_0 rfl rfl ?_
  refine Go.iload H d43_1 rfl rfl ?_
  refine Go.aloadN H d43_3 rfl rfl rfl ?_
  refine Go.callS (rest := []) 0 [(.int k.toInt32), (.int cs.length.toInt32), (.ref d)] H d43_4 rfl w259 w260 w247 w261 pd_N23 (ct_uboc l W d _ k cs.length m h Fd hb (by omega) hk) all0 rfl rfl rfl (Nat.le_of_eq rfl) (by decide) (by decide) (by decide) (by decide) nh_N0 ?_
  rintro _ _ _ ⟨rfl, rfl, rfl⟩
  show Go _ _ _ _ _ _ h [d] 0 0 7 #[.val (.ref b), .val (.int (0 : Int32)), .val (.ref d), .val (.int k.toInt32), .val (.int cs.length.toInt32), .unset] []
  refine Go.iconst (0 : Int32) H d43_7 rfl rfl ?_
  refine Go.istore (ls' := #[.val (.ref b), .val (.int (0 : Int32)), .val (.ref d), .val (.int k.toInt32), .val (.int cs.length.toInt32), .val (.int (0 : Int32))]) H d43_8 rfl rfl ?_
  exact lp_uinf l W b d cs pd P R1 k m h hL hP hb hk hm zd hne H cs.length 0 (by omega) h Fb (by simpa [enc16] using Fd) (Keep.refl _ _)
theorem d42_0 : decode jdk_43_method_50_code 0 = .ok (.aload_n 0, 1) := by decide +kernel
theorem d42_1 : decode jdk_43_method_50_code 1 = .ok (.iload_n 1, 1) := by decide +kernel
theorem d42_2 : decode jdk_43_method_50_code 2 = .ok (.aload_n 2, 1) := by decide +kernel
theorem d42_3 : decode jdk_43_method_50_code 3 = .ok (.iload_n 3, 1) := by decide +kernel
theorem d42_4 : decode jdk_43_method_50_code 4 = .ok (.iload 4, 2) := by decide +kernel
theorem d42_6 : decode jdk_43_method_50_code 6 = .ok (.invokestatic 240, 3) := by decide +kernel
theorem w258 : Jvm.Cond.code N24 jdk_52_method_86_code (6 : Nat) (Option.none : Option Jvm.ClassFile.FieldType) ∈ tables_1 := List.mem_of_getElem? (i := 258) rfl
theorem pd_N24 : parseMethodDescriptor N24.desc = some ⟨[(.array .byte), .int, (.array .byte), .int, .int], none⟩ := by decide +kernel
theorem w256 : Jvm.Cond.methodLink "java/lang/StringLatin1" (240 : Nat) N24 ∈ tables_1 := List.mem_of_getElem? (i := 256) rfl
theorem w257 : Jvm.Cond.static N24 ∈ tables_1 := List.mem_of_getElem? (i := 257) rfl
theorem d42_9 : decode jdk_43_method_50_code 9 = .ok (.return_, 1) := by decide +kernel
abbrev N25 : MethodName := ⟨"java/lang/StringLatin1", "inflate", "([BI[BII)V"⟩

abbrev rm_linf : Room := { frames := 4, cells := 0, slots := 0, locals := 60 }
set_option maxRecDepth 65536 in
set_option maxHeartbeats 4000000 in
theorem ct_linf (l : Launch) {Z : State} {n0 : Nat} {z : Int32} {f g : Value} {dv : Addr} (W : Sx Z z f g dv) (b d : Addr) (cs pd P R1 : List Int32) (k m : Nat) (h : Heap) (Fb : Vec Z h b .byte (cs.map (nar .byte) ++ pd)) (Fd : Vec Z h d .byte (P ++ R1)) (hL : ∀ c ∈ cs, isL c) (hP : P.length = 2 * k) (hb : (P ++ R1).length = 2 * m) (hk : k + cs.length ≤ m) (hm : m < 2 ^ 20) (zd : n0 ≤ d) (hne : b ≠ d) :
    Ctr l Z n0 N25 jdk_43_method_50_code 5 none rm_linf #[(.ref b), (.int (0 : Int32)), (.ref d), (.int k.toInt32), (.int cs.length.toInt32)] h [d] (fun v h' sn => v = none ∧ Keep h h' [d] ∧ Vec Z h' d .byte (P ++ enc16 cs ++ R1.drop (2 * cs.length)) ∧ sn = []) := by
  refine Ctr.of_go (ls := #[.val (.ref b), .val (.int (0 : Int32)), .val (.ref d), .val (.int k.toInt32), .val (.int cs.length.toInt32)]) W.1.1.1 (plainFor_of_name pn_N9) (fun m => by first | (simp [entryFrame, mkF, argsToLocals, Value.category]; done) | rfl) (fun K H => ?_)
  refine Go.aloadN H d42_0 rfl rfl rfl ?_
  refine Go.iloadN H d42_1 rfl rfl ?_
  refine Go.aloadN H d42_2 rfl rfl rfl ?_
  refine Go.iloadN H d42_3 rfl rfl ?_
  refine Go.iload H d42_4 rfl rfl ?_
  refine Go.callS (rest := []) 0 [(.ref b), (.int (0 : Int32)), (.ref d), (.int k.toInt32), (.int cs.length.toInt32)] H d42_6 rfl w256 w257 w247 w258 pd_N24 (ct_uinf l W b d cs pd P R1 k m h Fb Fd hL hP hb hk hm zd hne) (by simp) rfl rfl rfl (Nat.le_of_eq rfl) (by decide) (by decide) (by decide) (by decide) nh_N0 ?_
  rintro _ h1 _ ⟨rfl, K2, F3, rfl⟩
  replace Fb := Fb.keep K2 (ninS hne nin0)
  show Go _ _ _ _ _ _ h1 [d] 0 0 9 #[.val (.ref b), .val (.int (0 : Int32)), .val (.ref d), .val (.int k.toInt32), .val (.int cs.length.toInt32)] []
  exact Go.return_ [] H d42_9 ⟨rfl, K2, F3, rfl⟩ all0 (by decide) (by decide)
theorem d39_0 : decode jdk_68_method_11_code 0 = .ok (.aload_n 0, 1) := by decide +kernel
theorem d39_1 : decode jdk_68_method_11_code 1 = .ok (.invokevirtual 83, 3) := by decide +kernel
theorem w144 : Jvm.Cond.code N20 jdk_68_method_68_code (1 : Nat) (Option.some Jvm.ClassFile.FieldType.boolean) ∈ tables_1 := List.mem_of_getElem? (i := 144) rfl
theorem pd_N20 : parseMethodDescriptor N20.desc = some ⟨[], (some .boolean)⟩ := by decide +kernel
theorem w195 : Jvm.Cond.methodLink "java/lang/AbstractStringBuilder" (83 : Nat) N20 ∈ tables_1 := List.mem_of_getElem? (i := 195) rfl
theorem w141 : Jvm.Cond.declares N20 ∈ tables_1 := List.mem_of_getElem? (i := 141) rfl
theorem w143 : Jvm.Cond.selects "java/lang/StringBuilder" N20 N20 ∈ tables_1 := List.mem_of_getElem? (i := 143) rfl
theorem w142 : Jvm.Cond.instanceMethod N20 ∈ tables_1 := List.mem_of_getElem? (i := 142) rfl
theorem d39_4 : decode jdk_68_method_11_code 4 = .ok (.ifCond .ne 4, 3) := by decide +kernel
theorem d39_8 : decode jdk_68_method_11_code 8 = .ok (.aload_n 0, 1) := by decide +kernel
theorem d39_9 : decode jdk_68_method_11_code 9 = .ok (.getfield 15, 3) := by decide +kernel
theorem d39_12 : decode jdk_68_method_11_code 12 = .ok (.arraylength, 1) := by decide +kernel
theorem d39_13 : decode jdk_68_method_11_code 13 = .ok (.invokestatic 26, 3) := by decide +kernel
theorem w248 : Jvm.Cond.code N1 jdk_52_method_2_code (1 : Nat) (Option.some (Jvm.ClassFile.FieldType.array Jvm.ClassFile.FieldType.byte)) ∈ tables_1 := List.mem_of_getElem? (i := 248) rfl
theorem pd_N1 : parseMethodDescriptor N1.desc = some ⟨[.int], (some (.array .byte))⟩ := by decide +kernel
theorem w245 : Jvm.Cond.methodLink "java/lang/AbstractStringBuilder" (26 : Nat) N1 ∈ tables_1 := List.mem_of_getElem? (i := 245) rfl
theorem w246 : Jvm.Cond.static N1 ∈ tables_1 := List.mem_of_getElem? (i := 246) rfl
theorem d39_16 : decode jdk_68_method_11_code 16 = .ok (.astore_n 1, 1) := by decide +kernel
theorem d39_17 : decode jdk_68_method_11_code 17 = .ok (.aload_n 0, 1) := by decide +kernel
theorem d39_18 : decode jdk_68_method_11_code 18 = .ok (.getfield 15, 3) := by decide +kernel
theorem d39_21 : decode jdk_68_method_11_code 21 = .ok (.iconst 0, 1) := by decide +kernel
theorem d39_22 : decode jdk_68_method_11_code 22 = .ok (.aload_n 1, 1) := by decide +kernel
theorem d39_23 : decode jdk_68_method_11_code 23 = .ok (.iconst 0, 1) := by decide +kernel
theorem d39_24 : decode jdk_68_method_11_code 24 = .ok (.aload_n 0, 1) := by decide +kernel
theorem d39_25 : decode jdk_68_method_11_code 25 = .ok (.getfield 79, 3) := by decide +kernel
theorem w138 : Jvm.Cond.fieldLink "java/lang/AbstractStringBuilder" (79 : Nat) "java/lang/AbstractStringBuilder" "count" "I" ∈ tables_1 := List.mem_of_getElem? (i := 138) rfl
theorem d39_28 : decode jdk_68_method_11_code 28 = .ok (.invokestatic 125, 3) := by decide +kernel
theorem w255 : Jvm.Cond.code N25 jdk_43_method_50_code (5 : Nat) (Option.none : Option Jvm.ClassFile.FieldType) ∈ tables_1 := List.mem_of_getElem? (i := 255) rfl
theorem pd_N25 : parseMethodDescriptor N25.desc = some ⟨[(.array .byte), .int, (.array .byte), .int, .int], none⟩ := by decide +kernel
theorem w253 : Jvm.Cond.methodLink "java/lang/AbstractStringBuilder" (125 : Nat) N25 ∈ tables_1 := List.mem_of_getElem? (i := 253) rfl
theorem w254 : Jvm.Cond.static N25 ∈ tables_1 := List.mem_of_getElem? (i := 254) rfl
theorem d39_31 : decode jdk_68_method_11_code 31 = .ok (.aload_n 0, 1) := by decide +kernel
theorem d39_32 : decode jdk_68_method_11_code 32 = .ok (.aload_n 1, 1) := by decide +kernel
theorem d39_33 : decode jdk_68_method_11_code 33 = .ok (.putfield 15, 3) := by decide +kernel
theorem d39_36 : decode jdk_68_method_11_code 36 = .ok (.aload_n 0, 1) := by decide +kernel
theorem d39_37 : decode jdk_68_method_11_code 37 = .ok (.iconst 1, 1) := by decide +kernel
theorem d39_38 : decode jdk_68_method_11_code 38 = .ok (.putfield 22, 3) := by decide +kernel
theorem d39_41 : decode jdk_68_method_11_code 41 = .ok (.return_, 1) := by decide +kernel
abbrev N26 : MethodName := ⟨"java/lang/AbstractStringBuilder", "inflate", "()V"⟩

abbrev rm_infl0 : Room := { frames := 5, cells := 1, slots := 68, locals := 76 }
set_option maxRecDepth 65536 in
set_option maxHeartbeats 4000000 in
theorem ct_infl0 (l : Launch) {Z : State} {n0 : Nat} {z : Int32} {f g : Value} {dv : Addr} (W : Sx Z z f g dv) (x b : Addr) (cs pad : List Int32) (cap : Nat) (h : Heap) (F : SbF Z h x b 0 cs.length.toInt32) (Fb : Vec Z h b .byte (cs.map (nar .byte) ++ pad)) (hL : ∀ c ∈ cs, isL c) (hcap : cs.length + pad.length = cap) (hc2 : cap ≤ 34) (zx : n0 ≤ x) :
    Ctr l Z n0 N26 jdk_68_method_11_code 2 none rm_infl0 #[(.ref x)] h [x] (fun v h' sn => v = none ∧ Keep h h' [x] ∧ ∃ d, h.size ≤ d ∧ n0 ≤ d ∧ SbF Z h' x d 1 cs.length.toInt32 ∧ Vec Z h' d .byte (enc16 cs ++ List.replicate (2 * pad.length) 0) ∧ sn = [d]) := by
  refine Ctr.of_go (ls := #[.val (.ref x), .unset]) W.1.1.1 (plainFor_of_name pn_N17) (fun m => by first | (simp [entryFrame, mkF, argsToLocals, Value.category]; done) | rfl) (fun K H => ?_)
  obtain ⟨A, Fv, Fc, Fn, Fm⟩ := F
  have KK : Keep h h [x] := Keep.refl _ _
  have hbx : b ≠ x := Vec.neExa Fb A W.1.1.1 w82
  refine Go.aloadN H d39_0 rfl rfl rfl ?_
  refine Go.callV (rest := []) 0 [] H d39_1 rfl A w195 w141 w143 w142 w91 w144 pd_N20 (ct_asl0 l W x b _ h ⟨A, Fv, Fc, Fn, Fm⟩) all0 rfl rfl rfl (Nat.le_of_eq rfl) (by decide) (by decide) (by decide) (by decide) nh_N17 ?_
  rintro _ _ _ ⟨rfl, rfl, rfl⟩
  show Go _ _ _ _ _ _ h [x] 0 0 4 #[.val (.ref x), .unset] [(.int (1 : Int32))]
  refine Go.ifY (pc' := 8) H d39_4 (by decide) (by decide) (by decide) ?_
  refine Go.aloadN H d39_8 rfl rfl rfl ?_
  refine Go.getfield H d39_9 rfl w95 Fv ?_
  refine Go.arraylength cap.toInt32 H d39_12 rfl Fb (by rw [List.length_append, List.length_map, hcap]) ?_
  refine Go.callS (rest := []) 0 [(.int cap.toInt32)] H d39_13 rfl w245 w246 w247 w248 pd_N1 (ct_nbf l W cap h (by omega)) all0 rfl rfl rfl (Nat.le_of_eq rfl) (by decide) (by decide) (by decide) (by decide) nh_N0 ?_
  rintro _ h2 _ ⟨b1, rfl, E3, g4, z5, F6, rfl⟩
  have ne7 : x ≠ b1 := Nat.ne_of_lt (Nat.lt_of_lt_of_le A.lt g4)
  have ne8 : b ≠ b1 := Nat.ne_of_lt (Nat.lt_of_lt_of_le Fb.lt g4)
  have sz9 := Nat.le_trans KK.1 g4
  replace A := A.ext E3
  replace Fv := Fv.ext E3
  replace Fc := Fc.ext E3
  replace Fn := Fn.ext E3
  replace Fm := Fm.ext E3
  replace Fb := Fb.ext E3
  replace KK := KK.ext E3
  show Go _ _ _ _ _ _ h2 [b1, x] 1 68 16 #[.val (.ref x), .unset] [(.ref b1)]
  refine Go.astoreN (ls' := #[.val (.ref x), .val (.ref b1)]) H d39_16 rfl rfl rfl ?_
  refine Go.aloadN H d39_17 rfl rfl rfl ?_
  refine Go.getfield H d39_18 rfl w95 Fv ?_
  refine Go.iconst (0 : Int32) H d39_21 rfl rfl ?_
  refine Go.aloadN H d39_22 rfl rfl rfl ?_
  refine Go.iconst (0 : Int32) H d39_23 rfl rfl ?_
  refine Go.aloadN H d39_24 rfl rfl rfl ?_
  refine Go.getfield H d39_25 rfl w138 Fn ?_
  refine Go.callS (rest := []) 0 [(.ref b), (.int (0 : Int32)), (.ref b1), (.int (0 : Int32)), (.int cs.length.toInt32)] H d39_28 rfl w253 w254 w198 w255 pd_N25 (ct_linf l W b b1 cs pad [] (List.replicate (2 * cap) 0) 0 cap h2 Fb F6 hL rfl (by simp) (by omega) (by omega) z5 ne8) (by simp) rfl rfl rfl (Nat.le_of_eq rfl) (by decide) (by decide) (by decide) (by decide) nh_N9 ?_
  rintro _ h10 _ ⟨rfl, K11, F12, rfl⟩
  replace A := A.keep K11
  replace Fv := Fv.keep K11 (ninS ne7 nin0)
  replace Fc := Fc.keep K11 (ninS ne7 nin0)
  replace Fn := Fn.keep K11 (ninS ne7 nin0)
  replace Fm := Fm.keep K11 (ninS ne7 nin0)
  replace Fb := Fb.keep K11 (ninS ne8 nin0)
  replace KK := KK.trans K11 (allS (Or.inr sz9) all0)
  show Go _ _ _ _ _ _ h10 [b1, x] 1 68 31 #[.val (.ref x), .val (.ref b1)] []
  refine Go.aloadN H d39_31 rfl rfl rfl ?_
  refine Go.aloadN H d39_32 rfl rfl rfl ?_
  refine Go.putfield (v := (.ref b1)) H d39_33 rfl w95 Fv A (Or.inl w96) w82 (ty := (.array .byte)) (by decide) rfl rfl zx (by simp) ?_
  intro h13 Wr14
  have F15 := Fv.same Wr14
  have K16 := Keep.of_wr Wr14
  replace A := A.wr Wr14
  replace Fc := Fc.other Wr14 (Or.inr (own_sne W.1.1.1 (Or.inl w98) (Or.inl w96) (by decide) (t := .byte) (t' := (.array .byte)) (by decide) (by decide)))
  replace Fn := Fn.other Wr14 (Or.inr (own_sne W.1.1.1 (Or.inl w139) (Or.inl w96) (by decide) (t := .int) (t' := (.array .byte)) (by decide) (by decide)))
  replace Fm := Fm.other Wr14 (Or.inr (own_sne W.1.1.1 (Or.inl w291) (Or.inl w96) (by decide) (t := .boolean) (t' := (.array .byte)) (by decide) (by decide)))
  replace Fb := Fb.keep K16 (ninS hbx nin0)
  replace F12 := F12.keep K16 (ninS (Ne.symm ne7) nin0)
  replace KK := KK.wr Wr14 (Or.inl (by simp))
  refine Go.aloadN H d39_36 rfl rfl rfl ?_
  refine Go.iconst (1 : Int32) H d39_37 rfl rfl ?_
  refine Go.putfield (v := (.int (1 : Int32))) H d39_38 rfl w97 Fc A (Or.inl w98) w82 (ty := .byte) (by decide) (by decide) (by decide) zx (by simp) ?_
  intro h17 Wr18
  have F19 := Fc.same Wr18
  have K20 := Keep.of_wr Wr18
  replace A := A.wr Wr18
  replace Fn := Fn.other Wr18 (Or.inr (own_sne W.1.1.1 (Or.inl w139) (Or.inl w98) (by decide) (t := .int) (t' := .byte) (by decide) (by decide)))
  replace Fm := Fm.other Wr18 (Or.inr (own_sne W.1.1.1 (Or.inl w291) (Or.inl w98) (by decide) (t := .boolean) (t' := .byte) (by decide) (by decide)))
  replace Fb := Fb.keep K20 (ninS hbx nin0)
  replace F12 := F12.keep K20 (ninS (Ne.symm ne7) nin0)
  replace F15 := F15.other Wr18 (Or.inr (own_sne W.1.1.1 (Or.inl w96) (Or.inl w98) (by decide) (t := (.array .byte)) (t' := .byte) (by decide) (by decide)))
  replace KK := KK.wr Wr18 (Or.inl (by simp))
  rw [List.nil_append, List.drop_replicate, show 2 * cap - 2 * cs.length = 2 * pad.length from by omega] at F12
  exact Go.return_ [b1] H d39_41 ⟨rfl, KK, b1, sz9, z5, ⟨A, F15, F19, Fn, Fm⟩, F12, rfl⟩ (by simp) (by decide) (by decide)
theorem d39_7 : decode jdk_68_method_11_code 7 = .ok (.return_, 1) := by decide +kernel

abbrev rm_infl1 : Room := { frames := 1, cells := 0, slots := 0, locals := 12 }
set_option maxRecDepth 65536 in
set_option maxHeartbeats 4000000 in
theorem ct_infl1 (l : Launch) {Z : State} {n0 : Nat} {z : Int32} {f g : Value} {dv : Addr} (W : Sx Z z f g dv) (x b : Addr) (n : Int32) (h : Heap) (F : SbF Z h x b 1 n) :
    Ctr l Z n0 N26 jdk_68_method_11_code 2 none rm_infl1 #[(.ref x)] h [] (fun v h' sn => v = none ∧ h = h' ∧ sn = []) := by
  refine Ctr.of_go (ls := #[.val (.ref x), .unset]) W.1.1.1 (plainFor_of_name pn_N17) (fun m => by first | (simp [entryFrame, mkF, argsToLocals, Value.category]; done) | rfl) (fun K H => ?_)
  obtain ⟨A, Fv, Fc, Fn, Fm⟩ := F
  refine Go.aloadN H d39_0 rfl rfl rfl ?_
  refine Go.callV (rest := []) 0 [] H d39_1 rfl A w195 w141 w143 w142 w91 w144 pd_N20 (ct_asl1 l W x b _ h ⟨A, Fv, Fc, Fn, Fm⟩) all0 rfl rfl rfl (Nat.le_of_eq rfl) (by decide) (by decide) (by decide) (by decide) nh_N17 ?_
  rintro _ _ _ ⟨rfl, rfl, rfl⟩
  show Go _ _ _ _ _ _ h [] 0 0 4 #[.val (.ref x), .unset] [(.int (0 : Int32))]
  refine Go.ifN H d39_4 (by decide) rfl ?_
  exact Go.return_ [] H d39_7 ⟨rfl, rfl, rfl⟩ all0 (by decide) (by decide)
theorem d15_0 : decode jdk_68_method_64_code 0 = .ok (.aload_n 0, 1) := by decide +kernel
theorem d15_1 : decode jdk_68_method_64_code 1 = .ok (.getfield 15, 3) := by decide +kernel
theorem d15_4 : decode jdk_68_method_64_code 4 = .ok (.areturn, 1) := by decide +kernel
abbrev N27 : MethodName := ⟨"java/lang/AbstractStringBuilder", "getValue", "()[B"⟩

abbrev rm_gval : Room := { frames := 0, cells := 0, slots := 0, locals := 0 }
set_option maxRecDepth 65536 in
set_option maxHeartbeats 4000000 in
theorem ct_gval (l : Launch) {Z : State} {n0 : Nat} {z : Int32} {f g : Value} {dv : Addr} (W : Sx Z z f g dv) (x b : Addr) (n t : Int32) (h : Heap) (F : SbF Z h x b t n) :
    Ctr l Z n0 N27 jdk_68_method_64_code 1 (some (.array .byte)) rm_gval #[(.ref x)] h [] (fun v h' sn => v = some (.ref b) ∧ h = h' ∧ sn = []) := by
  refine Ctr.of_go (ls := #[.val (.ref x)]) W.1.1.1 (plainFor_of_name pn_N17) (fun m => by first | (simp [entryFrame, mkF, argsToLocals, Value.category]; done) | rfl) (fun K H => ?_)
  obtain ⟨A, Fv, Fc, Fn, Fm⟩ := F
  refine Go.aloadN H d15_0 rfl rfl rfl ?_
  refine Go.getfield H d15_1 rfl w95 Fv ?_
  exact Go.areturn [] H d15_4 rfl rfl (own_narR rfl) ⟨rfl, rfl, rfl⟩ all0 (by decide) (by decide)
theorem d17_0 : decode jdk_68_method_6_code 0 = .ok (.aload_n 0, 1) := by decide +kernel
theorem d17_1 : decode jdk_68_method_6_code 1 = .ok (.getfield 79, 3) := by decide +kernel
theorem d17_4 : decode jdk_68_method_6_code 4 = .ok (.ireturn, 1) := by decide +kernel
abbrev N28 : MethodName := ⟨"java/lang/AbstractStringBuilder", "length", "()I"⟩

abbrev rm_aln : Room := { frames := 0, cells := 0, slots := 0, locals := 0 }
set_option maxRecDepth 65536 in
set_option maxHeartbeats 4000000 in
theorem ct_aln (l : Launch) {Z : State} {n0 : Nat} {z : Int32} {f g : Value} {dv : Addr} (W : Sx Z z f g dv) (x b : Addr) (n t : Int32) (h : Heap) (F : SbF Z h x b t n) :
    Ctr l Z n0 N28 jdk_68_method_6_code 1 (some .int) rm_aln #[(.ref x)] h [] (fun v h' sn => v = some (.int n) ∧ h = h' ∧ sn = []) := by
  refine Ctr.of_go (ls := #[.val (.ref x)]) W.1.1.1 (plainFor_of_name pn_N17) (fun m => by first | (simp [entryFrame, mkF, argsToLocals, Value.category]; done) | rfl) (fun K H => ?_)
  have F0 := F
  obtain ⟨A, Fv, Fc, Fn, Fm⟩ := F
  refine Go.aloadN H d17_0 rfl rfl rfl ?_
  refine Go.getfield H d17_1 rfl w138 Fn ?_
  exact Go.ireturnI [] H d17_4 ⟨rfl, rfl, rfl⟩ all0 (by decide) (by decide)
theorem d16_0 : decode jdk_67_method_93_code 0 = .ok (.aload_n 0, 1) := by decide +kernel
theorem d16_1 : decode jdk_67_method_93_code 1 = .ok (.invokespecial 343, 3) := by decide +kernel
theorem w137 : Jvm.Cond.code N28 jdk_68_method_6_code (1 : Nat) (Option.some Jvm.ClassFile.FieldType.int) ∈ tables_1 := List.mem_of_getElem? (i := 137) rfl
theorem pd_N28 : parseMethodDescriptor N28.desc = some ⟨[], (some .int)⟩ := by decide +kernel
theorem w135 : Jvm.Cond.methodLink "java/lang/StringBuilder" (343 : Nat) N28 ∈ tables_1 := List.mem_of_getElem? (i := 135) rfl
theorem w127 : Jvm.Cond.selects "java/lang/StringBuilder" N27 N27 ∈ tables_1 := List.mem_of_getElem? (i := 127) rfl
theorem w126 : Jvm.Cond.instanceMethod N27 ∈ tables_1 := List.mem_of_getElem? (i := 126) rfl
theorem w136 : Jvm.Cond.superclass "java/lang/StringBuilder" "java/lang/AbstractStringBuilder" ∈ tables_1 := List.mem_of_getElem? (i := 136) rfl
theorem w131 : Jvm.Cond.instanceMethod N28 ∈ tables_1 := List.mem_of_getElem? (i := 131) rfl
theorem d16_4 : decode jdk_67_method_93_code 4 = .ok (.ireturn, 1) := by decide +kernel
abbrev N29 : MethodName := ⟨"java/lang/StringBuilder", "length", "()I"⟩

abbrev rm_bln : Room := { frames := 1, cells := 0, slots := 0, locals := 12 }
set_option maxRecDepth 65536 in
set_option maxHeartbeats 4000000 in
theorem ct_bln (l : Launch) {Z : State} {n0 : Nat} {z : Int32} {f g : Value} {dv : Addr} (W : Sx Z z f g dv) (x b : Addr) (n t : Int32) (h : Heap) (F : SbF Z h x b t n) :
    Ctr l Z n0 N29 jdk_67_method_93_code 1 (some .int) rm_bln #[(.ref x)] h [] (fun v h' sn => v = some (.int n) ∧ h = h' ∧ sn = []) := by
  refine Ctr.of_go (ls := #[.val (.ref x)]) W.1.1.1 (plainFor_of_name pn_N18) (fun m => by first | (simp [entryFrame, mkF, argsToLocals, Value.category]; done) | rfl) (fun K H => ?_)
  have F0 := F
  obtain ⟨A, Fv, Fc, Fn, Fm⟩ := F
  refine Go.aloadN H d16_0 rfl rfl rfl ?_
  refine Go.callU (y' := N27) (rest := []) 0 [] H d16_1 rfl A (by decide) w135 ⟨rfl, w127, w126⟩ w136 w131 w91 w137 pd_N28 (ct_aln l W x b n t h F0) all0 rfl rfl rfl (Nat.le_of_eq rfl) (by decide) (by decide) (by decide) (by decide) nh_N17 ?_
  rintro _ _ _ ⟨rfl, rfl, rfl⟩
  show Go _ _ _ _ _ _ h [] 0 0 4 #[.val (.ref x)] [(.int n)]
  exact Go.ireturnI [] H d16_4 ⟨rfl, rfl, rfl⟩ all0 (by decide) (by decide)
theorem d21_0 : decode jdk_65_method_131_code 0 = .ok (.iload_n 1, 1) := by decide +kernel
theorem d21_1 : decode jdk_65_method_131_code 1 = .ok (.iload_n 0, 1) := by decide +kernel
theorem d21_2 : decode jdk_65_method_131_code 2 = .ok (.if_icmp .ge 35, 3) := by decide +kernel
theorem d21_37 : decode jdk_65_method_131_code 37 = .ok (.return_, 1) := by decide +kernel
abbrev N30 : MethodName := ⟨"java/util/Arrays", "checkLength", "(II)V"⟩
theorem pn_N30 : plainName N30.cls = true := by first | (simp [plainName, overriddenIn]; done) | decide +kernel

abbrev rm_ccl : Room := { frames := 0, cells := 0, slots := 0, locals := 0 }
set_option maxRecDepth 65536 in
set_option maxHeartbeats 4000000 in
theorem ct_ccl (l : Launch) {Z : State} {n0 : Nat} {z : Int32} {f g : Value} {dv : Addr} (W : Sx Z z f g dv) (n : Int32) (h : Heap) (h0 : ¬ n < 0) :
    Ctr l Z n0 N30 jdk_65_method_131_code 2 none rm_ccl #[(.int (0 : Int32)), (.int n)] h [] (fun v h' sn => v = none ∧ h = h' ∧ sn = []) := by
  refine Ctr.of_go (ls := #[.val (.int (0 : Int32)), .val (.int n)]) W.1.1.1 (plainFor_of_name pn_N30) (fun m => by first | (simp [entryFrame, mkF, argsToLocals, Value.category]; done) | rfl) (fun K H => ?_)
  refine Go.iloadN H d21_0 rfl rfl ?_
  refine Go.iloadN H d21_1 rfl rfl ?_
  refine Go.icmpY (pc' := 37) H d21_2 (flt h0).2.1 (by decide) (by decide) ?_
  exact Go.return_ [] H d21_37 ⟨rfl, rfl, rfl⟩ all0 (by decide) (by decide)
theorem d20_0 : decode jdk_65_method_133_code 0 = .ok (.iload_n 1, 1) := by decide +kernel
theorem d20_1 : decode jdk_65_method_133_code 1 = .ok (.iload_n 2, 1) := by decide +kernel
theorem d20_2 : decode jdk_65_method_133_code 2 = .ok (.invokestatic 343, 3) := by decide +kernel
theorem w155 : Jvm.Cond.code N30 jdk_65_method_131_code (2 : Nat) (Option.none : Option Jvm.ClassFile.FieldType) ∈ tables_1 := List.mem_of_getElem? (i := 155) rfl
theorem w148 : Jvm.Cond.initialized "java/util/Arrays" ∈ tables_1 := List.mem_of_getElem? (i := 148) rfl
theorem pd_N30 : parseMethodDescriptor N30.desc = some ⟨[.int, .int], none⟩ := by decide +kernel
theorem nh_N30 : N30.cls ≠ "java/lang/invoke/MethodHandle" ∧ N30.cls ≠ "java/lang/invoke/VarHandle" := by decide
theorem w153 : Jvm.Cond.methodLink "java/util/Arrays" (343 : Nat) N30 ∈ tables_1 := List.mem_of_getElem? (i := 153) rfl
theorem w154 : Jvm.Cond.static N30 ∈ tables_1 := List.mem_of_getElem? (i := 154) rfl
theorem d20_5 : decode jdk_65_method_133_code 5 = .ok (.iload_n 2, 1) := by decide +kernel
theorem d20_6 : decode jdk_65_method_133_code 6 = .ok (.iload_n 1, 1) := by decide +kernel
theorem d20_7 : decode jdk_65_method_133_code 7 = .ok (.isub, 1) := by decide +kernel
theorem d20_8 : decode jdk_65_method_133_code 8 = .ok (.istore_n 3, 1) := by decide +kernel
theorem d20_9 : decode jdk_65_method_133_code 9 = .ok (.iload_n 3, 1) := by decide +kernel
theorem d20_10 : decode jdk_65_method_133_code 10 = .ok (.newarray .byte, 2) := by decide +kernel
theorem d20_12 : decode jdk_65_method_133_code 12 = .ok (.astore 4, 2) := by decide +kernel
theorem d20_14 : decode jdk_65_method_133_code 14 = .ok (.aload_n 0, 1) := by decide +kernel
theorem d20_15 : decode jdk_65_method_133_code 15 = .ok (.iload_n 1, 1) := by decide +kernel
theorem d20_16 : decode jdk_65_method_133_code 16 = .ok (.aload 4, 2) := by decide +kernel
theorem d20_18 : decode jdk_65_method_133_code 18 = .ok (.iconst 0, 1) := by decide +kernel
theorem d20_19 : decode jdk_65_method_133_code 19 = .ok (.aload_n 0, 1) := by decide +kernel
theorem d20_20 : decode jdk_65_method_133_code 20 = .ok (.arraylength, 1) := by decide +kernel
theorem d20_21 : decode jdk_65_method_133_code 21 = .ok (.iload_n 1, 1) := by decide +kernel
theorem d20_22 : decode jdk_65_method_133_code 22 = .ok (.isub, 1) := by decide +kernel
theorem d20_23 : decode jdk_65_method_133_code 23 = .ok (.iload_n 3, 1) := by decide +kernel
theorem d20_24 : decode jdk_65_method_133_code 24 = .ok (.invokestatic 304, 3) := by decide +kernel
theorem w159 : Jvm.Cond.code N15 jdk_29_method_69_code (2 : Nat) (Option.some Jvm.ClassFile.FieldType.int) ∈ tables_1 := List.mem_of_getElem? (i := 159) rfl
theorem w158 : Jvm.Cond.initialized "java/lang/Math" ∈ tables_1 := List.mem_of_getElem? (i := 158) rfl
theorem pd_N15 : parseMethodDescriptor N15.desc = some ⟨[.int, .int], (some .int)⟩ := by decide +kernel
theorem nh_N15 : N15.cls ≠ "java/lang/invoke/MethodHandle" ∧ N15.cls ≠ "java/lang/invoke/VarHandle" := by decide
theorem w156 : Jvm.Cond.methodLink "java/util/Arrays" (304 : Nat) N15 ∈ tables_1 := List.mem_of_getElem? (i := 156) rfl
theorem w157 : Jvm.Cond.static N15 ∈ tables_1 := List.mem_of_getElem? (i := 157) rfl
theorem d20_27 : decode jdk_65_method_133_code 27 = .ok (.invokestatic 150, 3) := by decide +kernel
abbrev N31 : MethodName := ⟨"java/lang/System", "arraycopy", "(Ljava/lang/Object;ILjava/lang/Object;II)V"⟩
theorem w160 : Jvm.Cond.methodLink "java/util/Arrays" (150 : Nat) N31 ∈ tables_1 := List.mem_of_getElem? (i := 160) rfl
theorem w163 : Jvm.Cond.native N31 ∈ tables_1 := List.mem_of_getElem? (i := 163) rfl
theorem w161 : Jvm.Cond.static N31 ∈ tables_1 := List.mem_of_getElem? (i := 161) rfl
theorem w162 : Jvm.Cond.initialized "java/lang/System" ∈ tables_1 := List.mem_of_getElem? (i := 162) rfl
theorem d20_30 : decode jdk_65_method_133_code 30 = .ok (.aload 4, 2) := by decide +kernel
theorem d20_32 : decode jdk_65_method_133_code 32 = .ok (.areturn, 1) := by decide +kernel
abbrev N32 : MethodName := ⟨"java/util/Arrays", "copyOfRangeByte", "([BII)[B"⟩

abbrev rm_crb : Room := { frames := 1, cells := 1, slots := 68, locals := 27 }
set_option maxRecDepth 65536 in
set_option maxHeartbeats 4000000 in
theorem ct_crb (l : Launch) {Z : State} {n0 : Nat} {z : Int32} {f g : Value} {dv : Addr} (W : Sx Z z f g dv) (b : Addr) (bs : List Int32) (k : Nat) (h : Heap) (Fb : Vec Z h b .byte bs) (hb : bs.length ≤ 68) (hk : k < bs.length) :
    Ctr l Z n0 N32 jdk_65_method_133_code 5 (some (.array .byte)) rm_crb #[(.ref b), (.int (0 : Int32)), (.int k.toInt32)] h [] (fun v h' sn => ∃ d, v = some (.ref d) ∧ Ext h h' ∧ h.size ≤ d ∧ Vec Z h' d .byte (bs.take k) ∧ sn = []) := by
  refine Ctr.of_go (ls := #[.val (.ref b), .val (.int (0 : Int32)), .val (.int k.toInt32), .unset, .unset]) W.1.1.1 (plainFor_of_name pn_N30) (fun m => by first | (simp [entryFrame, mkF, argsToLocals, Value.category]; done) | rfl) (fun K H => ?_)
  have KK : Keep h h [] := Keep.refl _ _
  refine Go.iloadN H d20_0 rfl rfl ?_
  refine Go.iloadN H d20_1 rfl rfl ?_
  refine Go.callS (rest := []) 0 [(.int (0 : Int32)), (.int k.toInt32)] H d20_2 rfl w153 w154 w148 w155 pd_N30 (ct_ccl l W k.toInt32 h (own_n0 (by omega))) all0 rfl rfl rfl (Nat.le_of_eq rfl) (by decide) (by decide) (by decide) (by decide) nh_N30 ?_
  rintro _ _ _ ⟨rfl, rfl, rfl⟩
  show Go _ _ _ _ _ _ h [] 0 0 5 #[.val (.ref b), .val (.int (0 : Int32)), .val (.int k.toInt32), .unset, .unset] []
  refine Go.iloadN H d20_5 rfl rfl ?_
  refine Go.iloadN H d20_6 rfl rfl ?_
  refine Go.isub H d20_7 rfl ?_
  rw [Int32.sub_zero]
  refine Go.istoreN (ls' := #[.val (.ref b), .val (.int (0 : Int32)), .val (.int k.toInt32), .val (.int k.toInt32), .unset]) H d20_8 rfl rfl ?_
  refine Go.iloadN H d20_9 rfl rfl ?_
  refine Go.newarray k 68 H d20_10 rfl w9 rfl (by decide) (own_n0 (by omega)) (own_cl (by omega)) (by omega) (by decide) (by decide) (by decide) ?_
  intro a1 h2 g3 z4 E5 F6
  have ne7 : b ≠ a1 := Nat.ne_of_lt (Nat.lt_of_lt_of_le Fb.lt (Nat.le_of_eq g3.symm))
  have sz8 := Nat.le_trans KK.1 (Nat.le_of_eq g3.symm)
  replace Fb := Fb.ext E5
  replace KK := KK.ext E5
  show Go _ _ _ _ _ _ h2 [a1] 1 68 12 #[.val (.ref b), .val (.int (0 : Int32)), .val (.int k.toInt32), .val (.int k.toInt32), .unset] [(.ref a1)]
  refine Go.astore (ls' := #[.val (.ref b), .val (.int (0 : Int32)), .val (.int k.toInt32), .val (.int k.toInt32), .val (.ref a1)]) H d20_12 rfl rfl rfl ?_
  refine Go.aloadN H d20_14 rfl rfl rfl ?_
  refine Go.iloadN H d20_15 rfl rfl ?_
  refine Go.aload H d20_16 rfl rfl rfl ?_
  refine Go.iconst (0 : Int32) H d20_18 rfl rfl ?_
  refine Go.aloadN H d20_19 rfl rfl rfl ?_
  refine Go.arraylength bs.length.toInt32 H d20_20 rfl Fb rfl ?_
  refine Go.iloadN H d20_21 rfl rfl ?_
  refine Go.isub H d20_22 rfl ?_
  rw [Int32.sub_zero]
  refine Go.iloadN H d20_23 rfl rfl ?_
  refine Go.callS (rest := [(.int (0 : Int32)), (.ref a1), (.int (0 : Int32)), (.ref b)]) 4 [(.int bs.length.toInt32), (.int k.toInt32)] H d20_24 rfl w156 w157 w158 w159 pd_N15 (ct_min l W bs.length.toInt32 k.toInt32 h2) all0 rfl rfl rfl (Nat.le_of_eq rfl) (by decide) (by decide) (by decide) (by decide) nh_N15 ?_
  rintro _ _ _ ⟨rfl, rfl, rfl⟩
  show Go _ _ _ _ _ _ h2 [a1] 1 68 27 #[.val (.ref b), .val (.int (0 : Int32)), .val (.int k.toInt32), .val (.int k.toInt32), .val (.ref a1)] [(.int (minF bs.length.toInt32 k.toInt32)), (.int (0 : Int32)), (.ref a1), (.int (0 : Int32)), (.ref b)]
  rw [own_min (by omega) hk]
  refine Go.arraycopy 0 0 k H d20_27 rfl w160 w163 w161 w162 Fb F6 (by omega) (by simp; omega) rfl (by decide) (by decide) (own_cl (by omega)) (by decide) (by decide) (own_n0 (by omega)) (by omega) (by simp) z4 (by simp) 0 rfl (Nat.le_of_eq rfl) (by decide) (by decide) ?_
  intro h9 K10 F11
  replace Fb := Fb.keep K10 (ninS ne7 nin0)
  replace KK := KK.trans K10 (allS (Or.inr sz8) all0)
  refine Go.aload H d20_30 rfl rfl rfl ?_
  exact Go.areturn [] H d20_32 rfl rfl (own_narR rfl) ⟨_, rfl, own_ext KK, Nat.le_of_eq g3.symm, by simpa using F11, rfl⟩ all0 (by decide) (by decide)
theorem d19_0 : decode jdk_65_method_132_code 0 = .ok (.iload_n 1, 1) := by decide +kernel
theorem d19_1 : decode jdk_65_method_132_code 1 = .ok (.ifCond .ne 9, 3) := by decide +kernel
theorem d19_4 : decode jdk_65_method_132_code 4 = .ok (.iload_n 2, 1) := by decide +kernel
theorem d19_5 : decode jdk_65_method_132_code 5 = .ok (.aload_n 0, 1) := by decide +kernel
theorem d19_6 : decode jdk_65_method_132_code 6 = .ok (.arraylength, 1) := by decide +kernel
theorem d19_7 : decode jdk_65_method_132_code 7 = .ok (.if_icmp .eq 10, 3) := by decide +kernel
theorem d19_10 : decode jdk_65_method_132_code 10 = .ok (.aload_n 0, 1) := by decide +kernel
theorem d19_11 : decode jdk_65_method_132_code 11 = .ok (.iload_n 1, 1) := by decide +kernel
theorem d19_12 : decode jdk_65_method_132_code 12 = .ok (.iload_n 2, 1) := by decide +kernel
theorem d19_13 : decode jdk_65_method_132_code 13 = .ok (.invokestatic 339, 3) := by decide +kernel
theorem w152 : Jvm.Cond.code N32 jdk_65_method_133_code (5 : Nat) (Option.some (Jvm.ClassFile.FieldType.array Jvm.ClassFile.FieldType.byte)) ∈ tables_1 := List.mem_of_getElem? (i := 152) rfl
theorem pd_N32 : parseMethodDescriptor N32.desc = some ⟨[(.array .byte), .int, .int], (some (.array .byte))⟩ := by decide +kernel
theorem w150 : Jvm.Cond.methodLink "java/util/Arrays" (339 : Nat) N32 ∈ tables_1 := List.mem_of_getElem? (i := 150) rfl
theorem w151 : Jvm.Cond.static N32 ∈ tables_1 := List.mem_of_getElem? (i := 151) rfl
theorem d19_16 : decode jdk_65_method_132_code 16 = .ok (.areturn, 1) := by decide +kernel
abbrev N33 : MethodName := ⟨"java/util/Arrays", "copyOfRange", "([BII)[B"⟩

abbrev rm_cor : Room := { frames := 2, cells := 1, slots := 68, locals := 43 }
set_option maxRecDepth 65536 in
set_option maxHeartbeats 4000000 in
theorem ct_cor (l : Launch) {Z : State} {n0 : Nat} {z : Int32} {f g : Value} {dv : Addr} (W : Sx Z z f g dv) (b : Addr) (bs : List Int32) (k : Nat) (h : Heap) (Fb : Vec Z h b .byte bs) (hb : bs.length ≤ 68) (hk : k < bs.length) :
    Ctr l Z n0 N33 jdk_65_method_132_code 3 (some (.array .byte)) rm_cor #[(.ref b), (.int (0 : Int32)), (.int k.toInt32)] h [] (fun v h' sn => ∃ d, v = some (.ref d) ∧ Ext h h' ∧ h.size ≤ d ∧ Vec Z h' d .byte (bs.take k) ∧ sn = []) := by
  refine Ctr.of_go (ls := #[.val (.ref b), .val (.int (0 : Int32)), .val (.int k.toInt32)]) W.1.1.1 (plainFor_of_name pn_N30) (fun m => by first | (simp [entryFrame, mkF, argsToLocals, Value.category]; done) | rfl) (fun K H => ?_)
  refine Go.iloadN H d19_0 rfl rfl ?_
  refine Go.ifN H d19_1 (by decide) rfl ?_
  refine Go.iloadN H d19_4 rfl rfl ?_
  refine Go.aloadN H d19_5 rfl rfl rfl ?_
  refine Go.arraylength bs.length.toInt32 H d19_6 rfl Fb rfl ?_
  refine Go.icmpN H d19_7 (feq (fun e => absurd (own_ofinj (by omega) (by omega) e) (by omega))).1 rfl ?_
  refine Go.aloadN H d19_10 rfl rfl rfl ?_
  refine Go.iloadN H d19_11 rfl rfl ?_
  refine Go.iloadN H d19_12 rfl rfl ?_
  refine Go.callS (rest := []) 0 [(.ref b), (.int (0 : Int32)), (.int k.toInt32)] H d19_13 rfl w150 w151 w148 w152 pd_N32 (ct_crb l W b _ k h Fb hb hk) all0 rfl rfl rfl (Nat.le_of_eq rfl) (by decide) (by decide) (by decide) (by decide) nh_N30 ?_
  rintro _ h2 _ ⟨d1, rfl, E3, g4, F5, rfl⟩
  have ne6 : b ≠ d1 := Nat.ne_of_lt (Nat.lt_of_lt_of_le Fb.lt g4)
  replace Fb := Fb.ext E3
  show Go _ _ _ _ _ _ h2 [] 1 68 16 #[.val (.ref b), .val (.int (0 : Int32)), .val (.int k.toInt32)] [(.ref d1)]
  exact Go.areturn [] H d19_16 rfl rfl (own_narR rfl) ⟨_, rfl, E3, g4, F5, rfl⟩ all0 (by decide) (by decide)
theorem d14_0 : decode jdk_42_method_150_code 0 = .ok (.aload_n 0, 1) := by decide +kernel
theorem d14_1 : decode jdk_42_method_150_code 1 = .ok (.invokespecial 1, 3) := by decide +kernel
theorem w123 : Jvm.Cond.methodLink "java/lang/String" (1 : Nat) N16 ∈ tables_1 := List.mem_of_getElem? (i := 123) rfl
theorem d14_4 : decode jdk_42_method_150_code 4 = .ok (.aload_n 1, 1) := by decide +kernel
theorem d14_5 : decode jdk_42_method_150_code 5 = .ok (.invokevirtual 552, 3) := by decide +kernel
theorem w128 : Jvm.Cond.code N27 jdk_68_method_64_code (1 : Nat) (Option.some (Jvm.ClassFile.FieldType.array Jvm.ClassFile.FieldType.byte)) ∈ tables_1 := List.mem_of_getElem? (i := 128) rfl
theorem pd_N27 : parseMethodDescriptor N27.desc = some ⟨[], (some (.array .byte))⟩ := by decide +kernel
theorem w124 : Jvm.Cond.methodLink "java/lang/String" (552 : Nat) N27 ∈ tables_1 := List.mem_of_getElem? (i := 124) rfl
theorem w125 : Jvm.Cond.declares N27 ∈ tables_1 := List.mem_of_getElem? (i := 125) rfl
theorem d14_8 : decode jdk_42_method_150_code 8 = .ok (.astore_n 3, 1) := by decide +kernel
theorem d14_9 : decode jdk_42_method_150_code 9 = .ok (.aload_n 1, 1) := by decide +kernel
theorem d14_10 : decode jdk_42_method_150_code 10 = .ok (.invokevirtual 549, 3) := by decide +kernel
theorem w134 : Jvm.Cond.code N29 jdk_67_method_93_code (1 : Nat) (Option.some Jvm.ClassFile.FieldType.int) ∈ tables_1 := List.mem_of_getElem? (i := 134) rfl
theorem w83 : Jvm.Cond.initialized "java/lang/StringBuilder" ∈ tables_1 := List.mem_of_getElem? (i := 83) rfl
theorem w129 : Jvm.Cond.methodLink "java/lang/String" (549 : Nat) N28 ∈ tables_1 := List.mem_of_getElem? (i := 129) rfl
theorem w130 : Jvm.Cond.declares N28 ∈ tables_1 := List.mem_of_getElem? (i := 130) rfl
theorem w132 : Jvm.Cond.selects "java/lang/StringBuilder" N28 N29 ∈ tables_1 := List.mem_of_getElem? (i := 132) rfl
theorem w133 : Jvm.Cond.instanceMethod N29 ∈ tables_1 := List.mem_of_getElem? (i := 133) rfl
theorem d14_13 : decode jdk_42_method_150_code 13 = .ok (.istore 4, 2) := by decide +kernel
theorem d14_15 : decode jdk_42_method_150_code 15 = .ok (.aload_n 1, 1) := by decide +kernel
theorem d14_16 : decode jdk_42_method_150_code 16 = .ok (.invokevirtual 1047, 3) := by decide +kernel
theorem w140 : Jvm.Cond.methodLink "java/lang/String" (1047 : Nat) N20 ∈ tables_1 := List.mem_of_getElem? (i := 140) rfl
theorem d14_19 : decode jdk_42_method_150_code 19 = .ok (.ifCond .eq 22, 3) := by decide +kernel
theorem d14_22 : decode jdk_42_method_150_code 22 = .ok (.aload_n 0, 1) := by decide +kernel
theorem d14_23 : decode jdk_42_method_150_code 23 = .ok (.iconst 0, 1) := by decide +kernel
theorem d14_24 : decode jdk_42_method_150_code 24 = .ok (.putfield 15, 3) := by decide +kernel
theorem w11 : Jvm.Cond.laysFinal "java/lang/String" "java/lang/String" "coder" "B" ∈ tables_1 := List.mem_of_getElem? (i := 11) rfl
theorem w10 : Jvm.Cond.laysFinal "java/lang/String" "java/lang/String" "value" "[B" ∈ tables_1 := List.mem_of_getElem? (i := 10) rfl
theorem d14_27 : decode jdk_42_method_150_code 27 = .ok (.aload_n 0, 1) := by decide +kernel
theorem d14_28 : decode jdk_42_method_150_code 28 = .ok (.aload_n 3, 1) := by decide +kernel
theorem d14_29 : decode jdk_42_method_150_code 29 = .ok (.iconst 0, 1) := by decide +kernel
theorem d14_30 : decode jdk_42_method_150_code 30 = .ok (.iload 4, 2) := by decide +kernel
theorem d14_32 : decode jdk_42_method_150_code 32 = .ok (.invokestatic 54, 3) := by decide +kernel
theorem w149 : Jvm.Cond.code N33 jdk_65_method_132_code (3 : Nat) (Option.some (Jvm.ClassFile.FieldType.array Jvm.ClassFile.FieldType.byte)) ∈ tables_1 := List.mem_of_getElem? (i := 149) rfl
theorem pd_N33 : parseMethodDescriptor N33.desc = some ⟨[(.array .byte), .int, .int], (some (.array .byte))⟩ := by decide +kernel
theorem w146 : Jvm.Cond.methodLink "java/lang/String" (54 : Nat) N33 ∈ tables_1 := List.mem_of_getElem? (i := 146) rfl
theorem w147 : Jvm.Cond.static N33 ∈ tables_1 := List.mem_of_getElem? (i := 147) rfl
theorem d14_35 : decode jdk_42_method_150_code 35 = .ok (.putfield 9, 3) := by decide +kernel
theorem d14_38 : decode jdk_42_method_150_code 38 = .ok (.goto 59, 3) := by decide +kernel
theorem d14_97 : decode jdk_42_method_150_code 97 = .ok (.return_, 1) := by decide +kernel
theorem d14_41 : decode jdk_42_method_150_code 41 = .ok (.getstatic 38, 3) := by decide +kernel
theorem d14_44 : decode jdk_42_method_150_code 44 = .ok (.ifCond .eq 35, 3) := by decide +kernel
theorem d14_47 : decode jdk_42_method_150_code 47 = .ok (.aload_n 1, 1) := by decide +kernel
theorem d14_48 : decode jdk_42_method_150_code 48 = .ok (.getfield 1048, 3) := by decide +kernel
theorem w290 : Jvm.Cond.fieldLink "java/lang/String" (1048 : Nat) "java/lang/AbstractStringBuilder" "maybeLatin1" "Z" ∈ tables_1 := List.mem_of_getElem? (i := 290) rfl
theorem d14_51 : decode jdk_42_method_150_code 51 = .ok (.ifCond .eq 28, 3) := by decide +kernel
theorem d14_79 : decode jdk_42_method_150_code 79 = .ok (.aload_n 0, 1) := by decide +kernel
theorem d14_80 : decode jdk_42_method_150_code 80 = .ok (.iconst 1, 1) := by decide +kernel
theorem d14_81 : decode jdk_42_method_150_code 81 = .ok (.putfield 15, 3) := by decide +kernel
theorem d14_84 : decode jdk_42_method_150_code 84 = .ok (.aload_n 0, 1) := by decide +kernel
theorem d14_85 : decode jdk_42_method_150_code 85 = .ok (.aload_n 3, 1) := by decide +kernel
theorem d14_86 : decode jdk_42_method_150_code 86 = .ok (.iconst 0, 1) := by decide +kernel
theorem d14_87 : decode jdk_42_method_150_code 87 = .ok (.iload 4, 2) := by decide +kernel
theorem d14_89 : decode jdk_42_method_150_code 89 = .ok (.iconst 1, 1) := by decide +kernel
theorem d14_90 : decode jdk_42_method_150_code 90 = .ok (.ishl, 1) := by decide +kernel
theorem d14_91 : decode jdk_42_method_150_code 91 = .ok (.invokestatic 54, 3) := by decide +kernel
theorem d14_94 : decode jdk_42_method_150_code 94 = .ok (.putfield 9, 3) := by decide +kernel
abbrev N34 : MethodName := ⟨"java/lang/String", "<init>", "(Ljava/lang/AbstractStringBuilder;Ljava/lang/Void;)V"⟩

abbrev rm_nsv : Room := { frames := 3, cells := 1, slots := 68, locals := 58 }
set_option maxRecDepth 65536 in
set_option maxHeartbeats 4000000 in
theorem ct_nsv (l : Launch) {Z : State} {n0 : Nat} {z : Int32} {f g : Value} {dv : Addr} (W : Sx Z z f g dv) (y x b : Addr) (cs : List Int32) (cap : Nat) (h : Heap) (A2 : Exa Z h y "java/lang/String") (Gv : Fld Z h y "java/lang/String" "value" "[B" .null) (Gc : Fld Z h y "java/lang/String" "coder" "B" (.int 0)) (B : Sbg Z h x b cap cs) (hcap0 : cap = 16 ∨ cap = 34) (hlt : cs.length < cap) (zy : n0 ≤ y) :
    Ctr l Z n0 N34 jdk_42_method_150_code 5 none rm_nsv #[(.ref y), (.ref x), .null] h [y] (fun v h' sn => v = none ∧ Keep h h' [y] ∧ (∃ sb, h.size ≤ sb ∧ Stg Z h' y sb cs) ∧ sn = []) := by
  refine Ctr.of_go (ls := #[.val (.ref y), .val (.ref x), .val .null, .unset, .unset]) W.1.1.1 (plainFor_of_name pn_N4) (fun m => by first | (simp [entryFrame, mkF, argsToLocals, Value.category]; done) | rfl) (fun K H => ?_)
  rcases B with ⟨F, ⟨pad, Fb, hcap⟩, hL⟩ | ⟨F, ⟨pad, Fb, hcap⟩, hC, hX⟩
  ·
    obtain ⟨A, Fv, Fc, Fn, Fm⟩ := F
    have KK : Keep h h [y] := Keep.refl _ _
    have hbx : b ≠ x := Vec.neExa Fb A W.1.1.1 w82
    have hxy : x ≠ y := Exa.ne A A2 (by decide)
    have hby : b ≠ y := Vec.neExa Fb A2 W.1.1.1 w8
    refine Go.aloadN H d14_0 rfl rfl rfl ?_
    refine Go.initObj H d14_1 rfl w123 w18 w19 0 rfl (Nat.le_of_eq rfl) (by decide) (by decide) ?_
    refine Go.aloadN H d14_4 rfl rfl rfl ?_
    refine Go.callV (rest := []) 0 [] H d14_5 rfl A w124 w125 w127 w126 w91 w128 pd_N27 (ct_gval l W x b _ _ h ⟨A, Fv, Fc, Fn, Fm⟩) all0 rfl rfl rfl (Nat.le_of_eq rfl) (by decide) (by decide) (by decide) (by decide) nh_N17 ?_
    rintro _ _ _ ⟨rfl, rfl, rfl⟩
    show Go _ _ _ _ _ _ h [y] 0 0 8 #[.val (.ref y), .val (.ref x), .val .null, .unset, .unset] [(.ref b)]
    refine Go.astoreN (ls' := #[.val (.ref y), .val (.ref x), .val .null, .val (.ref b), .unset]) H d14_8 rfl rfl rfl ?_
    refine Go.aloadN H d14_9 rfl rfl rfl ?_
    refine Go.callV2 (y' := N27) (rest := []) 0 [] H d14_10 rfl A w129 w130 ⟨rfl, w127, w126⟩ w132 w133 w83 w134 pd_N28 (ct_bln l W x b _ _ h ⟨A, Fv, Fc, Fn, Fm⟩) all0 rfl rfl rfl (Nat.le_of_eq rfl) (by decide) (by decide) (by decide) (by decide) nh_N17 ?_
    rintro _ _ _ ⟨rfl, rfl, rfl⟩
    show Go _ _ _ _ _ _ h [y] 0 0 13 #[.val (.ref y), .val (.ref x), .val .null, .val (.ref b), .unset] [(.int cs.length.toInt32)]
    refine Go.istore (ls' := #[.val (.ref y), .val (.ref x), .val .null, .val (.ref b), .val (.int cs.length.toInt32)]) H d14_13 rfl rfl ?_
    refine Go.aloadN H d14_15 rfl rfl rfl ?_
    refine Go.callV (rest := []) 0 [] H d14_16 rfl A w140 w141 w143 w142 w91 w144 pd_N20 (ct_asl0 l W x b _ h ⟨A, Fv, Fc, Fn, Fm⟩) all0 rfl rfl rfl (Nat.le_of_eq rfl) (by decide) (by decide) (by decide) (by decide) nh_N17 ?_
    rintro _ _ _ ⟨rfl, rfl, rfl⟩
    show Go _ _ _ _ _ _ h [y] 0 0 19 #[.val (.ref y), .val (.ref x), .val .null, .val (.ref b), .val (.int cs.length.toInt32)] [(.int (1 : Int32))]
    refine Go.ifN H d14_19 (by decide) rfl ?_
    refine Go.aloadN H d14_22 rfl rfl rfl ?_
    refine Go.iconst (0 : Int32) H d14_23 rfl rfl ?_
    refine Go.putfield (v := (.int (0 : Int32))) H d14_24 rfl w145 Gc A2 (Or.inr ⟨w11, rfl, rfl⟩) w8 (ty := .byte) (by decide) (by decide) (by decide) zy (by simp) ?_
    intro h1 Wr2
    have F3 := Gc.same Wr2
    have K4 := Keep.of_wr Wr2
    replace A := A.wr Wr2
    replace Fv := Fv.keep K4 (ninS hxy nin0)
    replace Fc := Fc.keep K4 (ninS hxy nin0)
    replace Fn := Fn.keep K4 (ninS hxy nin0)
    replace Fm := Fm.keep K4 (ninS hxy nin0)
    replace A2 := A2.wr Wr2
    replace Gv := Gv.other Wr2 (Or.inr (own_sne W.1.1.1 (Or.inr w10) (Or.inr w11) (by decide) (t := (.array .byte)) (t' := .byte) (by decide) (by decide)))
    replace Fb := Fb.keep K4 (ninS hby nin0)
    replace KK := KK.wr Wr2 (Or.inl (by simp))
    refine Go.aloadN H d14_27 rfl rfl rfl ?_
    refine Go.aloadN H d14_28 rfl rfl rfl ?_
    refine Go.iconst (0 : Int32) H d14_29 rfl rfl ?_
    refine Go.iload H d14_30 rfl rfl ?_
    refine Go.callS (rest := [(.ref y)]) 1 [(.ref b), (.int (0 : Int32)), (.int cs.length.toInt32)] H d14_32 rfl w146 w147 w148 w149 pd_N33 (ct_cor l W b _ cs.length h1 Fb (by rw [List.length_append, List.length_map]; omega) (by rw [List.length_append, List.length_map]; omega)) all0 rfl rfl rfl (Nat.le_of_eq rfl) (by decide) (by decide) (by decide) (by decide) nh_N30 ?_
    rintro _ h6 _ ⟨d5, rfl, E7, g8, F9, rfl⟩
    have ne10 : x ≠ d5 := Nat.ne_of_lt (Nat.lt_of_lt_of_le A.lt g8)
    have ne11 : y ≠ d5 := Nat.ne_of_lt (Nat.lt_of_lt_of_le A2.lt g8)
    have ne12 : b ≠ d5 := Nat.ne_of_lt (Nat.lt_of_lt_of_le Fb.lt g8)
    have sz13 := Nat.le_trans KK.1 g8
    replace A := A.ext E7
    replace Fv := Fv.ext E7
    replace Fc := Fc.ext E7
    replace Fn := Fn.ext E7
    replace Fm := Fm.ext E7
    replace A2 := A2.ext E7
    replace Gv := Gv.ext E7
    replace Fb := Fb.ext E7
    replace F3 := F3.ext E7
    replace KK := KK.ext E7
    show Go _ _ _ _ _ _ h6 [y] 1 68 35 #[.val (.ref y), .val (.ref x), .val .null, .val (.ref b), .val (.int cs.length.toInt32)] [(.ref d5), (.ref y)]
    refine Go.putfield (v := (.ref d5)) H d14_35 rfl w164 Gv A2 (Or.inr ⟨w10, rfl, rfl⟩) w8 (ty := (.array .byte)) (by decide) rfl rfl zy (by simp) ?_
    intro h14 Wr15
    have F16 := Gv.same Wr15
    have K17 := Keep.of_wr Wr15
    replace A := A.wr Wr15
    replace Fv := Fv.keep K17 (ninS hxy nin0)
    replace Fc := Fc.keep K17 (ninS hxy nin0)
    replace Fn := Fn.keep K17 (ninS hxy nin0)
    replace Fm := Fm.keep K17 (ninS hxy nin0)
    replace A2 := A2.wr Wr15
    replace Fb := Fb.keep K17 (ninS hby nin0)
    replace F3 := F3.other Wr15 (Or.inr (own_sne W.1.1.1 (Or.inr w11) (Or.inr w10) (by decide) (t := .byte) (t' := (.array .byte)) (by decide) (by decide)))
    replace F9 := F9.keep K17 (ninS (Ne.symm ne11) nin0)
    replace KK := KK.wr Wr15 (Or.inl (by simp))
    refine Go.goto (pc' := 97) H d14_38 (by decide) (by decide) ?_
    rw [List.take_left' (List.length_map _)] at F9
    exact Go.return_ [] H d14_97 ⟨rfl, KK, ⟨_, sz13, Or.inl ⟨A2, F16, F3, F9, hL, by omega⟩⟩, rfl⟩ all0 (by decide) (by decide)
  ·
    obtain ⟨A, Fv, Fc, Fn, Fm⟩ := F
    have KK : Keep h h [y] := Keep.refl _ _
    have hbx : b ≠ x := Vec.neExa Fb A W.1.1.1 w82
    have hxy : x ≠ y := Exa.ne A A2 (by decide)
    have hby : b ≠ y := Vec.neExa Fb A2 W.1.1.1 w8
    refine Go.aloadN H d14_0 rfl rfl rfl ?_
    refine Go.initObj H d14_1 rfl w123 w18 w19 0 rfl (Nat.le_of_eq rfl) (by decide) (by decide) ?_
    refine Go.aloadN H d14_4 rfl rfl rfl ?_
    refine Go.callV (rest := []) 0 [] H d14_5 rfl A w124 w125 w127 w126 w91 w128 pd_N27 (ct_gval l W x b _ _ h ⟨A, Fv, Fc, Fn, Fm⟩) all0 rfl rfl rfl (Nat.le_of_eq rfl) (by decide) (by decide) (by decide) (by decide) nh_N17 ?_
    rintro _ _ _ ⟨rfl, rfl, rfl⟩
    show Go _ _ _ _ _ _ h [y] 0 0 8 #[.val (.ref y), .val (.ref x), .val .null, .unset, .unset] [(.ref b)]
    refine Go.astoreN (ls' := #[.val (.ref y), .val (.ref x), .val .null, .val (.ref b), .unset]) H d14_8 rfl rfl rfl ?_
    refine Go.aloadN H d14_9 rfl rfl rfl ?_
    refine Go.callV2 (y' := N27) (rest := []) 0 [] H d14_10 rfl A w129 w130 ⟨rfl, w127, w126⟩ w132 w133 w83 w134 pd_N28 (ct_bln l W x b _ _ h ⟨A, Fv, Fc, Fn, Fm⟩) all0 rfl rfl rfl (Nat.le_of_eq rfl) (by decide) (by decide) (by decide) (by decide) nh_N17 ?_
    rintro _ _ _ ⟨rfl, rfl, rfl⟩
    show Go _ _ _ _ _ _ h [y] 0 0 13 #[.val (.ref y), .val (.ref x), .val .null, .val (.ref b), .unset] [(.int cs.length.toInt32)]
    refine Go.istore (ls' := #[.val (.ref y), .val (.ref x), .val .null, .val (.ref b), .val (.int cs.length.toInt32)]) H d14_13 rfl rfl ?_
    refine Go.aloadN H d14_15 rfl rfl rfl ?_
    refine Go.callV (rest := []) 0 [] H d14_16 rfl A w140 w141 w143 w142 w91 w144 pd_N20 (ct_asl1 l W x b _ h ⟨A, Fv, Fc, Fn, Fm⟩) all0 rfl rfl rfl (Nat.le_of_eq rfl) (by decide) (by decide) (by decide) (by decide) nh_N17 ?_
    rintro _ _ _ ⟨rfl, rfl, rfl⟩
    show Go _ _ _ _ _ _ h [y] 0 0 19 #[.val (.ref y), .val (.ref x), .val .null, .val (.ref b), .val (.int cs.length.toInt32)] [(.int (0 : Int32))]
    refine Go.ifY (pc' := 41) H d14_19 (by decide) (by decide) (by decide) ?_
    refine Go.getstatic H d14_41 rfl w215 W.1.1.2.2.1 ?_
    refine Go.ifN H d14_44 (feq W.1.1.2.1).1 rfl ?_
    refine Go.aloadN H d14_47 rfl rfl rfl ?_
    refine Go.getfield H d14_48 rfl w290 Fm ?_
    refine Go.ifY (pc' := 79) H d14_51 (by decide) (by decide) (by decide) ?_
    refine Go.aloadN H d14_79 rfl rfl rfl ?_
    refine Go.iconst (1 : Int32) H d14_80 rfl rfl ?_
    refine Go.putfield (v := (.int (1 : Int32))) H d14_81 rfl w145 Gc A2 (Or.inr ⟨w11, rfl, rfl⟩) w8 (ty := .byte) (by decide) (by decide) (by decide) zy (by simp) ?_
    intro h18 Wr19
    have F20 := Gc.same Wr19
    have K21 := Keep.of_wr Wr19
    replace A := A.wr Wr19
    replace Fv := Fv.keep K21 (ninS hxy nin0)
    replace Fc := Fc.keep K21 (ninS hxy nin0)
    replace Fn := Fn.keep K21 (ninS hxy nin0)
    replace Fm := Fm.keep K21 (ninS hxy nin0)
    replace A2 := A2.wr Wr19
    replace Gv := Gv.other Wr19 (Or.inr (own_sne W.1.1.1 (Or.inr w10) (Or.inr w11) (by decide) (t := (.array .byte)) (t' := .byte) (by decide) (by decide)))
    replace Fb := Fb.keep K21 (ninS hby nin0)
    replace KK := KK.wr Wr19 (Or.inl (by simp))
    refine Go.aloadN H d14_84 rfl rfl rfl ?_
    refine Go.aloadN H d14_85 rfl rfl rfl ?_
    refine Go.iconst (0 : Int32) H d14_86 rfl rfl ?_
    refine Go.iload H d14_87 rfl rfl ?_
    refine Go.iconst (1 : Int32) H d14_89 rfl rfl ?_
    refine Go.ishl H d14_90 rfl ?_
    rw [own_shl1 (by omega)]
    refine Go.callS (rest := [(.ref y)]) 1 [(.ref b), (.int (0 : Int32)), (.int (2 * cs.length).toInt32)] H d14_91 rfl w146 w147 w148 w149 pd_N33 (ct_cor l W b _ (2 * cs.length) h18 Fb (by rw [List.length_append, enc16_len]; omega) (by rw [List.length_append, enc16_len]; omega)) all0 rfl rfl rfl (Nat.le_of_eq rfl) (by decide) (by decide) (by decide) (by decide) nh_N30 ?_
    rintro _ h23 _ ⟨d22, rfl, E24, g25, F26, rfl⟩
    have ne27 : x ≠ d22 := Nat.ne_of_lt (Nat.lt_of_lt_of_le A.lt g25)
    have ne28 : y ≠ d22 := Nat.ne_of_lt (Nat.lt_of_lt_of_le A2.lt g25)
    have ne29 : b ≠ d22 := Nat.ne_of_lt (Nat.lt_of_lt_of_le Fb.lt g25)
    have sz30 := Nat.le_trans KK.1 g25
    replace A := A.ext E24
    replace Fv := Fv.ext E24
    replace Fc := Fc.ext E24
    replace Fn := Fn.ext E24
    replace Fm := Fm.ext E24
    replace A2 := A2.ext E24
    replace Gv := Gv.ext E24
    replace Fb := Fb.ext E24
    replace F20 := F20.ext E24
    replace KK := KK.ext E24
    show Go _ _ _ _ _ _ h23 [y] 1 68 94 #[.val (.ref y), .val (.ref x), .val .null, .val (.ref b), .val (.int cs.length.toInt32)] [(.ref d22), (.ref y)]
    refine Go.putfield (v := (.ref d22)) H d14_94 rfl w164 Gv A2 (Or.inr ⟨w10, rfl, rfl⟩) w8 (ty := (.array .byte)) (by decide) rfl rfl zy (by simp) ?_
    intro h31 Wr32
    have F33 := Gv.same Wr32
    have K34 := Keep.of_wr Wr32
    replace A := A.wr Wr32
    replace Fv := Fv.keep K34 (ninS hxy nin0)
    replace Fc := Fc.keep K34 (ninS hxy nin0)
    replace Fn := Fn.keep K34 (ninS hxy nin0)
    replace Fm := Fm.keep K34 (ninS hxy nin0)
    replace A2 := A2.wr Wr32
    replace Fb := Fb.keep K34 (ninS hby nin0)
    replace F20 := F20.other Wr32 (Or.inr (own_sne W.1.1.1 (Or.inr w11) (Or.inr w10) (by decide) (t := .byte) (t' := (.array .byte)) (by decide) (by decide)))
    replace F26 := F26.keep K34 (ninS (Ne.symm ne28) nin0)
    replace KK := KK.wr Wr32 (Or.inl (by simp))
    rw [List.take_left' (enc16_len _)] at F26
    exact Go.return_ [] H d14_97 ⟨rfl, KK, ⟨_, sz30, Or.inr ⟨A2, F33, F20, F26, hC, by omega, hX⟩⟩, rfl⟩ all0 (by decide) (by decide)
theorem Sbg.neS {Z : State} {h : Heap} {x b y : Addr} {cap kk : Nat} {cs : List Int32} (F : Sbg Z h x b cap cs) (A : Exa Z h y "java/lang/String") (W : Wds Z) (wi : Jvm.Cond.instantiable "java/lang/String" kk ∈ tables_1) : b ≠ y := by
  rcases F with ⟨f, ⟨p, V, -⟩, -⟩ | ⟨f, ⟨p, V, -⟩, -⟩ <;> exact Vec.neExa V A W wi
theorem d13_0 : decode jdk_42_method_53_code 0 = .ok (.aload_n 0, 1) := by decide +kernel
theorem d13_1 : decode jdk_42_method_53_code 1 = .ok (.aload_n 1, 1) := by decide +kernel
theorem d13_2 : decode jdk_42_method_53_code 2 = .ok (.aconst_null, 1) := by decide +kernel
theorem d13_3 : decode jdk_42_method_53_code 3 = .ok (.invokespecial 489, 3) := by decide +kernel
theorem w122 : Jvm.Cond.code N34 jdk_42_method_150_code (5 : Nat) (Option.none : Option Jvm.ClassFile.FieldType) ∈ tables_1 := List.mem_of_getElem? (i := 122) rfl
theorem pd_N34 : parseMethodDescriptor N34.desc = some ⟨[(.object "java/lang/AbstractStringBuilder"), (.object "java/lang/Void")], none⟩ := by decide +kernel
theorem w120 : Jvm.Cond.methodLink "java/lang/String" (489 : Nat) N34 ∈ tables_1 := List.mem_of_getElem? (i := 120) rfl
theorem w121 : Jvm.Cond.instanceMethod N34 ∈ tables_1 := List.mem_of_getElem? (i := 121) rfl
theorem d13_6 : decode jdk_42_method_53_code 6 = .ok (.return_, 1) := by decide +kernel
abbrev N35 : MethodName := ⟨"java/lang/String", "<init>", "(Ljava/lang/StringBuilder;)V"⟩

abbrev rm_nsb : Room := { frames := 4, cells := 1, slots := 68, locals := 74 }
set_option maxRecDepth 65536 in
set_option maxHeartbeats 4000000 in
theorem ct_nsb (l : Launch) {Z : State} {n0 : Nat} {z : Int32} {f g : Value} {dv : Addr} (W : Sx Z z f g dv) (y x b : Addr) (cs : List Int32) (cap : Nat) (h : Heap) (A2 : Exa Z h y "java/lang/String") (Gv : Fld Z h y "java/lang/String" "value" "[B" .null) (Gc : Fld Z h y "java/lang/String" "coder" "B" (.int 0)) (B : Sbg Z h x b cap cs) (hcap0 : cap = 16 ∨ cap = 34) (hlt : cs.length < cap) (zy : n0 ≤ y) :
    Ctr l Z n0 N35 jdk_42_method_53_code 2 none rm_nsb #[(.ref y), (.ref x)] h [y] (fun v h' sn => v = none ∧ Keep h h' [y] ∧ (∃ sb, h.size ≤ sb ∧ Stg Z h' y sb cs) ∧ sn = []) := by
  refine Ctr.of_go (ls := #[.val (.ref y), .val (.ref x)]) W.1.1.1 (plainFor_of_name pn_N4) (fun m => by first | (simp [entryFrame, mkF, argsToLocals, Value.category]; done) | rfl) (fun K H => ?_)
  have hxy : x ≠ y := Exa.ne B.exa A2 (by decide)
  have hby : b ≠ y := B.neS A2 W.1.1.1 w8
  refine Go.aloadN H d13_0 rfl rfl rfl ?_
  refine Go.aloadN H d13_1 rfl rfl rfl ?_
  refine Go.aconstNull H d13_2 rfl ?_
  refine Go.callI (rest := []) 0 [(.ref x), .null] H d13_3 rfl rfl w120 w121 w7 w122 pd_N34 (ct_nsv l W y x b cs cap h A2 Gv Gc B hcap0 hlt zy) (by simp) rfl rfl rfl (Nat.le_of_eq rfl) (by decide) (by decide) (by decide) (by decide) nh_N5 ?_
  rintro _ h1 _ ⟨rfl, K2, ⟨b3, gb5, S4⟩, rfl⟩
  replace B := B.keep K2 (ninS hxy nin0) (ninS hby nin0)
  show Go _ _ _ _ _ _ h1 [y] 1 68 6 #[.val (.ref y), .val (.ref x)] []
  exact Go.return_ [] H d13_6 ⟨rfl, K2, ⟨_, gb5, S4⟩, rfl⟩ all0 (by decide) (by decide)
theorem d12_0 : decode jdk_67_method_42_code 0 = .ok (.new 18, 3) := by decide +kernel
theorem w115 : Jvm.Cond.classLink "java/lang/StringBuilder" (18 : Nat) "java/lang/String" ∈ tables_1 := List.mem_of_getElem? (i := 115) rfl
theorem d12_3 : decode jdk_67_method_42_code 3 = .ok (.dup, 1) := by decide +kernel
theorem d12_4 : decode jdk_67_method_42_code 4 = .ok (.aload_n 0, 1) := by decide +kernel
theorem d12_5 : decode jdk_67_method_42_code 5 = .ok (.invokespecial 137, 3) := by decide +kernel
theorem w119 : Jvm.Cond.code N35 jdk_42_method_53_code (2 : Nat) (Option.none : Option Jvm.ClassFile.FieldType) ∈ tables_1 := List.mem_of_getElem? (i := 119) rfl
theorem pd_N35 : parseMethodDescriptor N35.desc = some ⟨[(.object "java/lang/StringBuilder")], none⟩ := by decide +kernel
theorem w116 : Jvm.Cond.methodLink "java/lang/StringBuilder" (137 : Nat) N35 ∈ tables_1 := List.mem_of_getElem? (i := 116) rfl
theorem w117 : Jvm.Cond.instanceMethod N35 ∈ tables_1 := List.mem_of_getElem? (i := 117) rfl
theorem d12_8 : decode jdk_67_method_42_code 8 = .ok (.areturn, 1) := by decide +kernel
abbrev N36 : MethodName := ⟨"java/lang/StringBuilder", "toString", "()Ljava/lang/String;"⟩

abbrev rm_tos : Room := { frames := 5, cells := 2, slots := 72, locals := 88 }
set_option maxRecDepth 65536 in
set_option maxHeartbeats 4000000 in
theorem ct_tos (l : Launch) {Z : State} {n0 : Nat} {z : Int32} {f g : Value} {dv : Addr} (W : Sx Z z f g dv) (x b : Addr) (cs : List Int32) (cap : Nat) (h : Heap) (B : Sbg Z h x b cap cs) (hcap0 : cap = 16 ∨ cap = 34) (hlt : cs.length < cap) :
    Ctr l Z n0 N36 jdk_67_method_42_code 1 (some (.object "java/lang/String")) rm_tos #[(.ref x)] h [] (fun v h' sn => ∃ a sb, v = some (.ref a) ∧ Ext h h' ∧ h.size ≤ a ∧ h.size ≤ sb ∧ Stg Z h' a sb cs ∧ sn = []) := by
  refine Ctr.of_go (ls := #[.val (.ref x)]) W.1.1.1 (plainFor_of_name pn_N18) (fun m => by first | (simp [entryFrame, mkF, argsToLocals, Value.category]; done) | rfl) (fun K H => ?_)
  have KK : Keep h h [] := Keep.refl _ _
  refine Go.new H d12_0 rfl w115 w8 w7 (by decide) (by decide) ?_
  intro a1 h2 g3 z4 E5 A6 D7
  have ne8 : x ≠ a1 := Nat.ne_of_lt (Nat.lt_of_lt_of_le B.lt (Nat.le_of_eq g3.symm))
  have ne9 : b ≠ a1 := Nat.ne_of_lt (Nat.lt_of_lt_of_le B.ltb (Nat.le_of_eq g3.symm))
  have sz10 := Nat.le_trans KK.1 (Nat.le_of_eq g3.symm)
  replace B := B.ext E5
  replace KK := KK.ext E5
  have F11 : Fld Z h2 a1 "java/lang/String" "value" "[B" .null := D7 (Or.inr w10) (ty := (.array .byte)) (by decide)
  have F12 : Fld Z h2 a1 "java/lang/String" "coder" "B" (.int (0 : Int32)) := D7 (Or.inr w11) (ty := .byte) (by decide)
  show Go _ _ _ _ _ _ h2 [a1] 1 4 3 #[.val (.ref x)] [(.ref a1)]
  refine Go.dup H d12_3 rfl rfl ?_
  refine Go.aloadN H d12_4 rfl rfl rfl ?_
  refine Go.callI (rest := [(.ref a1)]) 1 [(.ref x)] H d12_5 rfl rfl w116 w117 w7 w119 pd_N35 (ct_nsb l W a1 x b cs cap h2 A6 F11 F12 B hcap0 hlt z4) (by simp) rfl rfl rfl (Nat.le_of_eq rfl) (by decide) (by decide) (by decide) (by decide) nh_N5 ?_
  rintro _ h13 _ ⟨rfl, K14, ⟨b15, gb17, S16⟩, rfl⟩
  have sz18 := Nat.le_trans KK.1 gb17
  replace B := B.keep K14 (ninS ne8 nin0) (ninS ne9 nin0)
  replace KK := KK.trans K14 (allS (Or.inr sz10) all0)
  show Go _ _ _ _ _ _ h13 [a1] 2 72 8 #[.val (.ref x)] [(.ref a1)]
  exact Go.areturn [] H d12_8 rfl rfl (own_narR rfl) ⟨_, _, rfl, own_ext KK, Nat.le_of_eq g3.symm, sz18, S16, rfl⟩ all0 (by decide) (by decide)
def canF (c : Int32) : Int32 := if (255 : Int32) < c then (0 : Int32) else (1 : Int32)
theorem d29_0 : decode jdk_43_method_3_code 0 = .ok (.iload_n 0, 1) := by decide +kernel
theorem d29_1 : decode jdk_43_method_3_code 1 = .ok (.sipush 255, 3) := by decide +kernel
theorem d29_4 : decode jdk_43_method_3_code 4 = .ok (.if_icmp .gt 7, 3) := by decide +kernel
theorem d29_11 : decode jdk_43_method_3_code 11 = .ok (.iconst 0, 1) := by decide +kernel
theorem d29_12 : decode jdk_43_method_3_code 12 = .ok (.ireturn, 1) := by decide +kernel
theorem d29_7 : decode jdk_43_method_3_code 7 = .ok (.iconst 1, 1) := by decide +kernel
theorem d29_8 : decode jdk_43_method_3_code 8 = .ok (.goto 4, 3) := by decide +kernel
abbrev N37 : MethodName := ⟨"java/lang/StringLatin1", "canEncode", "(C)Z"⟩

abbrev rm_can : Room := { frames := 0, cells := 0, slots := 0, locals := 0 }
set_option maxRecDepth 65536 in
set_option maxHeartbeats 4000000 in
theorem ct_can (l : Launch) {Z : State} {n0 : Nat} {z : Int32} {f g : Value} {dv : Addr} (W : Sx Z z f g dv) (c : Int32) (h : Heap) :
    Ctr l Z n0 N37 jdk_43_method_3_code 1 (some .boolean) rm_can #[(.int c)] h [] (fun v h' sn => v = some (.int (canF c)) ∧ h = h' ∧ sn = []) := by
  refine Ctr.of_go (ls := #[.val (.int c)]) W.1.1.1 (plainFor_of_name pn_N9) (fun m => by first | (simp [entryFrame, mkF, argsToLocals, Value.category]; done) | rfl) (fun K H => ?_)
  refine Go.iloadN H d29_0 rfl rfl ?_
  refine Go.sipush (255 : Int32) H d29_1 rfl rfl ?_
  by_cases c1 : (255 : Int32) < c
  ·
    refine Go.icmpY (pc' := 11) H d29_4 (tlt c1).2.2.1 (by decide) (by decide) ?_
    refine Go.iconst (0 : Int32) H d29_11 rfl rfl ?_
    exact Go.ireturn (0 : Int32) [] H d29_12 (by simp) (by decide) ⟨congrArg (fun q => some (Value.int q)) (show (0 : Int32) = canF c from Eq.symm (by rw [canF, if_pos c1])), rfl, rfl⟩ all0 (by decide) (by decide)
  ·
    refine Go.icmpN H d29_4 (flt c1).2.2.1 rfl ?_
    refine Go.iconst (1 : Int32) H d29_7 rfl rfl ?_
    refine Go.goto (pc' := 12) H d29_8 (by decide) (by decide) ?_
    exact Go.ireturn (1 : Int32) [] H d29_12 (by simp) (by decide) ⟨congrArg (fun q => some (Value.int q)) (show (1 : Int32) = canF c from Eq.symm (by rw [canF, if_neg c1])), rfl, rfl⟩ all0 (by decide) (by decide)
theorem canF_i {c : Int32} : canF c = 0 ↔ (255 : Int32) < c := by
  unfold canF
  split <;> simp [*]
theorem Sbg.ne {Z : State} {h : Heap} {x b : Addr} {cap kk : Nat} {cs : List Int32} (F : Sbg Z h x b cap cs) (W : Wds Z) (wi : Jvm.Cond.instantiable "java/lang/StringBuilder" kk ∈ tables_1) : b ≠ x := by
  rcases F with ⟨f, ⟨p, V, -⟩, -⟩ | ⟨f, ⟨p, V, -⟩, -⟩ <;> exact Vec.neExa V f.1 W wi
theorem own_kes (k p n : Nat) : (k.toInt32 + (p + n).toInt32) - p.toInt32 = (k + n).toInt32 := by
  rw [own_add, show k + (p + n) = (k + n) + p from by omega, ← own_add, Int32.add_sub_cancel]
theorem own_kes2 (k p n q : Nat) (h : q ≤ n) : ((k + q).toInt32 + (p + n).toInt32) - (p + q).toInt32 = (k + n).toInt32 := by
  rw [own_add, show (k + q) + (p + n) = (k + n) + (p + q) from by omega, ← own_add, Int32.add_sub_cancel]
theorem own_mid {pr ds po : List Int32} {p q : Nat} {c : Int32} (hp : pr.length = p) (hc : ds[q]? = some c) : (pr ++ ds ++ po)[p + q]? = some c := by
  subst hp
  rw [List.append_assoc, List.getElem?_append_right (by omega), Nat.add_sub_cancel_left, List.getElem?_append_left (own_lenlt hc)]; exact hc
theorem own_stl {cs ds pad : List Int32} {q : Nat} {c : Int32} (hc : ds[q]? = some c) (hp : q < pad.length) : ((cs ++ ds.take q).map (nar .byte) ++ pad.drop q).set (cs.length + q) (nar .byte c) = (cs ++ ds.take (q + 1)).map (nar .byte) ++ pad.drop (q + 1) := by
  have hq := own_lenlt hc
  have hl : ((cs ++ ds.take q).map (nar .byte)).length = cs.length + q := by rw [List.length_map, List.length_append, List.length_take]; omega
  obtain ⟨u, hu⟩ : ∃ u, pad.drop q = u :: pad.drop (q + 1) := ⟨_, List.drop_eq_getElem_cons hp⟩
  rw [List.set_append_right _ _ (by omega), hl, Nat.sub_self, hu, List.set_cons_zero, List.take_add_one, hc]; simp
theorem d26_0 : decode jdk_41_method_12_code 0 = .ok (.iload_n 0, 1) := by decide +kernel
theorem d26_1 : decode jdk_41_method_12_code 1 = .ok (.ifCond .lt 13, 3) := by decide +kernel
theorem d26_4 : decode jdk_41_method_12_code 4 = .ok (.iload_n 0, 1) := by decide +kernel
theorem d26_5 : decode jdk_41_method_12_code 5 = .ok (.iload_n 1, 1) := by decide +kernel
theorem d26_6 : decode jdk_41_method_12_code 6 = .ok (.if_icmp .gt 8, 3) := by decide +kernel
theorem d26_9 : decode jdk_41_method_12_code 9 = .ok (.iload_n 1, 1) := by decide +kernel
theorem d26_10 : decode jdk_41_method_12_code 10 = .ok (.iload_n 2, 1) := by decide +kernel
theorem d26_11 : decode jdk_41_method_12_code 11 = .ok (.if_icmp .le 11, 3) := by decide +kernel
theorem d26_22 : decode jdk_41_method_12_code 22 = .ok (.iload_n 0, 1) := by decide +kernel
theorem d26_23 : decode jdk_41_method_12_code 23 = .ok (.ireturn, 1) := by decide +kernel
abbrev N38 : MethodName := ⟨"jdk/internal/util/Preconditions", "checkFromToIndex", "(IIILjava/util/function/BiFunction;)I"⟩

abbrev rm_cftf : Room := { frames := 0, cells := 0, slots := 0, locals := 0 }
set_option maxRecDepth 65536 in
set_option maxHeartbeats 4000000 in
theorem ct_cftf (l : Launch) {Z : State} {n0 : Nat} {z : Int32} {f g : Value} {dv : Addr} (W : Sx Z z f g dv) (i n m : Int32) (h : Heap) (h0 : ¬ i < 0) (hi : ¬ n < i) (hm : ¬ m < n) :
    Ctr l Z n0 N38 jdk_41_method_12_code 4 (some .int) rm_cftf #[(.int i), (.int n), (.int m), f] h [] (fun v h' sn => v = some (.int i) ∧ h = h' ∧ sn = []) := by
  refine Ctr.of_go (ls := #[.val (.int i), .val (.int n), .val (.int m), .val f]) W.1.1.1 (plainFor_of_name pn_N7) (fun m => (by rcases ref_cases (W.1.1.2.2.2.1) with q | ⟨fa, q⟩ <;> rw [q] <;> rfl)) (fun K H => ?_)
  refine Go.iloadN H d26_0 rfl rfl ?_
  refine Go.ifN H d26_1 (flt h0).1 rfl ?_
  refine Go.iloadN H d26_4 rfl rfl ?_
  refine Go.iloadN H d26_5 rfl rfl ?_
  refine Go.icmpN H d26_6 (flt hi).2.2.1 rfl ?_
  refine Go.iloadN H d26_9 rfl rfl ?_
  refine Go.iloadN H d26_10 rfl rfl ?_
  refine Go.icmpY (pc' := 22) H d26_11 (flt hm).2.2.2 (by decide) (by decide) ?_
  refine Go.iloadN H d26_22 rfl rfl ?_
  exact Go.ireturnI [] H d26_23 ⟨rfl, rfl, rfl⟩ all0 (by decide) (by decide)

abbrev rm_cftg : Room := { frames := 0, cells := 0, slots := 0, locals := 0 }
set_option maxRecDepth 65536 in
set_option maxHeartbeats 4000000 in
theorem ct_cftg (l : Launch) {Z : State} {n0 : Nat} {z : Int32} {f g : Value} {dv : Addr} (W : Sx Z z f g dv) (i n m : Int32) (h : Heap) (h0 : ¬ i < 0) (hi : ¬ n < i) (hm : ¬ m < n) :
    Ctr l Z n0 N38 jdk_41_method_12_code 4 (some .int) rm_cftg #[(.int i), (.int n), (.int m), g] h [] (fun v h' sn => v = some (.int i) ∧ h = h' ∧ sn = []) := by
  refine Ctr.of_go (ls := #[.val (.int i), .val (.int n), .val (.int m), .val g]) W.1.1.1 (plainFor_of_name pn_N7) (fun m => (by rcases ref_cases (W.2.1) with q | ⟨fa, q⟩ <;> rw [q] <;> rfl)) (fun K H => ?_)
  refine Go.iloadN H d26_0 rfl rfl ?_
  refine Go.ifN H d26_1 (flt h0).1 rfl ?_
  refine Go.iloadN H d26_4 rfl rfl ?_
  refine Go.iloadN H d26_5 rfl rfl ?_
  refine Go.icmpN H d26_6 (flt hi).2.2.1 rfl ?_
  refine Go.iloadN H d26_9 rfl rfl ?_
  refine Go.iloadN H d26_10 rfl rfl ?_
  refine Go.icmpY (pc' := 22) H d26_11 (flt hm).2.2.2 (by decide) (by decide) ?_
  refine Go.iloadN H d26_22 rfl rfl ?_
  exact Go.ireturnI [] H d26_23 ⟨rfl, rfl, rfl⟩ all0 (by decide) (by decide)
theorem d50_0 : decode jdk_42_method_158_code 0 = .ok (.iload_n 0, 1) := by decide +kernel
theorem d50_1 : decode jdk_42_method_158_code 1 = .ok (.iload_n 1, 1) := by decide +kernel
theorem d50_2 : decode jdk_42_method_158_code 2 = .ok (.iload_n 2, 1) := by decide +kernel
theorem d50_3 : decode jdk_42_method_158_code 3 = .ok (.getstatic 1053, 3) := by decide +kernel
theorem d50_6 : decode jdk_42_method_158_code 6 = .ok (.invokestatic 1062, 3) := by decide +kernel
theorem w184 : Jvm.Cond.code N38 jdk_41_method_12_code (4 : Nat) (Option.some Jvm.ClassFile.FieldType.int) ∈ tables_1 := List.mem_of_getElem? (i := 184) rfl
theorem pd_N38 : parseMethodDescriptor N38.desc = some ⟨[.int, .int, .int, (.object "java/util/function/BiFunction")], (some .int)⟩ := by decide +kernel
theorem w280 : Jvm.Cond.methodLink "java/lang/String" (1062 : Nat) N38 ∈ tables_1 := List.mem_of_getElem? (i := 280) rfl
theorem w183 : Jvm.Cond.static N38 ∈ tables_1 := List.mem_of_getElem? (i := 183) rfl
theorem d50_9 : decode jdk_42_method_158_code 9 = .ok (.pop, 1) := by decide +kernel
theorem d50_10 : decode jdk_42_method_158_code 10 = .ok (.return_, 1) := by decide +kernel
abbrev N39 : MethodName := ⟨"java/lang/String", "checkBoundsBeginEnd", "(III)V"⟩

abbrev rm_cbb : Room := { frames := 1, cells := 0, slots := 0, locals := 15 }
set_option maxRecDepth 65536 in
set_option maxHeartbeats 4000000 in
theorem ct_cbb (l : Launch) {Z : State} {n0 : Nat} {z : Int32} {f g : Value} {dv : Addr} (W : Sx Z z f g dv) (i n m : Int32) (h : Heap) (h0 : ¬ i < 0) (hi : ¬ n < i) (hm : ¬ m < n) :
    Ctr l Z n0 N39 jdk_42_method_158_code 3 none rm_cbb #[(.int i), (.int n), (.int m)] h [] (fun v h' sn => v = none ∧ h = h' ∧ sn = []) := by
  refine Ctr.of_go (ls := #[.val (.int i), .val (.int n), .val (.int m)]) W.1.1.1 (plainFor_of_name pn_N4) (fun m => by first | (simp [entryFrame, mkF, argsToLocals, Value.category]; done) | rfl) (fun K H => ?_)
  refine Go.iloadN H d50_0 rfl rfl ?_
  refine Go.iloadN H d50_1 rfl rfl ?_
  refine Go.iloadN H d50_2 rfl rfl ?_
  refine Go.getstatic H d50_3 rfl w236 W.1.1.2.2.2.2 ?_
  refine Go.callS (rest := []) 0 [(.int i), (.int n), (.int m), f] H d50_6 rfl w280 w183 w180 w184 pd_N38 (ct_cftf l W i n m h h0 hi hm) all0 rfl rfl rfl (Nat.le_of_eq rfl) (by decide) (by decide) (by decide) (by decide) nh_N7 ?_
  rintro _ _ _ ⟨rfl, rfl, rfl⟩
  show Go _ _ _ _ _ _ h [] 0 0 9 #[.val (.int i), .val (.int n), .val (.int m)] [(.int i)]
  refine Go.pop H d50_9 rfl rfl ?_
  exact Go.return_ [] H d50_10 ⟨rfl, rfl, rfl⟩ all0 (by decide) (by decide)
theorem d49_0 : decode jdk_52_method_93_code 0 = .ok (.iload_n 0, 1) := by decide +kernel
theorem d49_1 : decode jdk_52_method_93_code 1 = .ok (.iload_n 1, 1) := by decide +kernel
theorem d49_2 : decode jdk_52_method_93_code 2 = .ok (.aload_n 2, 1) := by decide +kernel
theorem d49_3 : decode jdk_52_method_93_code 3 = .ok (.invokestatic 48, 3) := by decide +kernel
theorem d49_6 : decode jdk_52_method_93_code 6 = .ok (.invokestatic 241, 3) := by decide +kernel
theorem w279 : Jvm.Cond.code N39 jdk_42_method_158_code (3 : Nat) (Option.none : Option Jvm.ClassFile.FieldType) ∈ tables_1 := List.mem_of_getElem? (i := 279) rfl
theorem pd_N39 : parseMethodDescriptor N39.desc = some ⟨[.int, .int, .int], none⟩ := by decide +kernel
theorem w277 : Jvm.Cond.methodLink "java/lang/StringUTF16" (241 : Nat) N39 ∈ tables_1 := List.mem_of_getElem? (i := 277) rfl
theorem w278 : Jvm.Cond.static N39 ∈ tables_1 := List.mem_of_getElem? (i := 278) rfl
theorem d49_9 : decode jdk_52_method_93_code 9 = .ok (.return_, 1) := by decide +kernel
abbrev N40 : MethodName := ⟨"java/lang/StringUTF16", "checkBoundsBeginEnd", "(II[B)V"⟩

abbrev rm_ubbe : Room := { frames := 2, cells := 0, slots := 0, locals := 29 }
set_option maxRecDepth 65536 in
set_option maxHeartbeats 4000000 in
theorem ct_ubbe (l : Launch) {Z : State} {n0 : Nat} {z : Int32} {f g : Value} {dv : Addr} (W : Sx Z z f g dv) (d : Addr) (bs : List Int32) (i n m : Nat) (h : Heap) (Fd : Vec Z h d .byte bs) (hb : bs.length = 2 * m) (hm : m < 2 ^ 20) (h1 : i ≤ n) (h2 : n ≤ m) :
    Ctr l Z n0 N40 jdk_52_method_93_code 3 none rm_ubbe #[(.int i.toInt32), (.int n.toInt32), (.ref d)] h [] (fun v h' sn => v = none ∧ h = h' ∧ sn = []) := by
  refine Ctr.of_go (ls := #[.val (.int i.toInt32), .val (.int n.toInt32), .val (.ref d)]) W.1.1.1 (plainFor_of_name pn_N0) (fun m => by first | (simp [entryFrame, mkF, argsToLocals, Value.category]; done) | rfl) (fun K H => ?_)
  refine Go.iloadN H d49_0 rfl rfl ?_
  refine Go.iloadN H d49_1 rfl rfl ?_
  refine Go.aloadN H d49_2 rfl rfl rfl ?_
  refine Go.callS (rest := [(.int n.toInt32), (.int i.toInt32)]) 2 [(.ref d)] H d49_3 rfl w262 w263 w247 w264 pd_N10 (ct_ulenm l W d _ m h Fd hb (by omega)) all0 rfl rfl rfl (Nat.le_of_eq rfl) (by decide) (by decide) (by decide) (by decide) nh_N0 ?_
  rintro _ _ _ ⟨rfl, rfl, rfl⟩
  show Go _ _ _ _ _ _ h [] 0 0 6 #[.val (.int i.toInt32), .val (.int n.toInt32), .val (.ref d)] [(.int m.toInt32), (.int n.toInt32), (.int i.toInt32)]
  refine Go.callS (rest := []) 0 [(.int i.toInt32), (.int n.toInt32), (.int m.toInt32)] H d49_6 rfl w277 w278 w7 w279 pd_N39 (ct_cbb l W i.toInt32 n.toInt32 m.toInt32 h (own_n0 (by omega)) (own_nlt (by omega) (by omega)) (own_nlt (by omega) (by omega))) all0 rfl rfl rfl (Nat.le_of_eq rfl) (by decide) (by decide) (by decide) (by decide) nh_N5 ?_
  rintro _ _ _ ⟨rfl, rfl, rfl⟩
  show Go _ _ _ _ _ _ h [] 0 0 9 #[.val (.int i.toInt32), .val (.int n.toInt32), .val (.ref d)] []
  exact Go.return_ [] H d49_9 ⟨rfl, rfl, rfl⟩ all0 (by decide) (by decide)
theorem d51_0 : decode jdk_52_method_68_code 0 = .ok (.iload_n 3, 1) := by decide +kernel
theorem d51_1 : decode jdk_52_method_68_code 1 = .ok (.iload 4, 2) := by decide +kernel
theorem d51_3 : decode jdk_52_method_68_code 3 = .ok (.if_icmp .ge 20, 3) := by decide +kernel
theorem d51_23 : decode jdk_52_method_68_code 23 = .ok (.return_, 1) := by decide +kernel
theorem d51_6 : decode jdk_52_method_68_code 6 = .ok (.aload_n 0, 1) := by decide +kernel
theorem d51_7 : decode jdk_52_method_68_code 7 = .ok (.iload_n 1, 1) := by decide +kernel
theorem d51_8 : decode jdk_52_method_68_code 8 = .ok (.iinc 1 1, 3) := by decide +kernel
theorem d51_11 : decode jdk_52_method_68_code 11 = .ok (.aload_n 2, 1) := by decide +kernel
theorem d51_12 : decode jdk_52_method_68_code 12 = .ok (.iload_n 3, 1) := by decide +kernel
theorem d51_13 : decode jdk_52_method_68_code 13 = .ok (.iinc 3 1, 3) := by decide +kernel
theorem d51_16 : decode jdk_52_method_68_code 16 = .ok (.caload, 1) := by decide +kernel
theorem d51_17 : decode jdk_52_method_68_code 17 = .ok (.invokestatic 111, 3) := by decide +kernel
theorem d51_20 : decode jdk_52_method_68_code 20 = .ok (.goto (-20), 3) := by decide +kernel

set_option maxRecDepth 65536 in
set_option maxHeartbeats 4000000 in
theorem lp_pch (l : Launch) {Z : State} {n0 : Nat} {z : Int32} {f g : Value} {dv : Addr} (W : Sx Z z f g dv) (a d : Addr) (pr ds po P R1 : List Int32) (k m p : Nat) (hh : Heap) (hP : P.length = 2 * k) (hb : (P ++ R1).length = 2 * m) (hk : k + ds.length ≤ m) (hm : m < 2 ^ 20) (hp : pr.length = p) (hp2 : p < 2 ^ 20) (zd : n0 ≤ d) (hne : a ≠ d) {K : Cx} (H : Ok Z K "java/lang/StringUTF16" jdk_52_method_68_code 5 none "putChars") :
    ∀ (r q : Nat), q + r = ds.length → ∀ h : Heap, Vec Z h a .char (pr ++ ds ++ po) → Vec Z h d .byte (P ++ enc16 (ds.take q) ++ R1.drop (2 * q)) → Keep hh h [d] →
      Go l Z n0 ({ frames := 1, cells := 0, slots := 0, locals := 14 } : Room) K (fun v h' sn => v = none ∧ Keep hh h' [d] ∧ Vec Z h' d .byte (P ++ enc16 ds ++ R1.drop (2 * ds.length)) ∧ sn = []) h [d] 0 0 0 #[.val (.ref d), .val (.int (k + q).toInt32), .val (.ref a), .val (.int (p + q).toInt32), .val (.int (p + ds.length).toInt32)] [] := by
  intro r
  induction r with
  | zero =>
    intro q hq h Fa Fd KK
    refine Go.iloadN H d51_0 rfl rfl ?_
    refine Go.iload H d51_1 rfl rfl ?_
    refine Go.icmpY (pc' := 23) H d51_3 (flt (own_nlt (by omega) (by omega))).2.1 (by decide) (by decide) ?_
    rw [own_inf0 (by omega)] at Fd
    exact Go.return_ [] H d51_23 ⟨rfl, KK, Fd, rfl⟩ all0 (by decide) (by decide)
  | succ r ih =>
    intro q hq h Fa Fd KK
    have hlt : q < ds.length := by omega
    obtain ⟨c, hc⟩ : ∃ c, ds[q]? = some c := ⟨_, List.getElem?_eq_getElem hlt⟩
    refine Go.iloadN H d51_0 rfl rfl ?_
    refine Go.iload H d51_1 rfl rfl ?_
    refine Go.icmpN H d51_3 (tlt (own_lt (by omega) (by omega))).2.1 rfl ?_
    refine Go.aloadN H d51_6 rfl rfl rfl ?_
    refine Go.iloadN H d51_7 rfl rfl ?_
    refine Go.iinc (ls' := #[.val (.ref d), .val (.int ((k + q).toInt32 + (1 : Int32))), .val (.ref a), .val (.int (p + q).toInt32), .val (.int (p + ds.length).toInt32)]) (1 : Int32) H d51_8 rfl rfl rfl rfl ?_
    refine Go.aloadN H d51_11 rfl rfl rfl ?_
    refine Go.iloadN H d51_12 rfl rfl ?_
    refine Go.iinc (ls' := #[.val (.ref d), .val (.int ((k + q).toInt32 + (1 : Int32))), .val (.ref a), .val (.int ((p + q).toInt32 + (1 : Int32))), .val (.int (p + ds.length).toInt32)]) (1 : Int32) H d51_13 rfl rfl rfl rfl ?_
    refine Go.caload (v := c) H d51_16 rfl Fa (p + q) (own_cl (by omega)) (own_n0 (by omega)) (own_mid hp hc) ?_
    refine Go.callS (rest := []) 0 [(.ref d), (.int (k + q).toInt32), (.int c)] H d51_17 rfl w284 w285 w247 w286 pd_N2 (ct_putc l W d _ (k + q) c h Fd (by rw [List.length_append, List.length_append, enc16_len, List.length_take, List.length_drop, hP]; rw [List.length_append, hP] at hb; omega) (by omega) zd) (by simp) rfl rfl rfl (Nat.le_of_eq rfl) (by decide) (by decide) (by decide) (by decide) nh_N0 ?_
    rintro _ h1 _ ⟨rfl, K2, F3, rfl⟩
    replace Fa := Fa.keep K2 (ninS hne nin0)
    replace KK := KK.trans K2 (allS (Or.inl (by simp)) all0)
    show Go _ _ _ _ _ _ h1 [d] 0 0 20 #[.val (.ref d), .val (.int ((k + q).toInt32 + (1 : Int32))), .val (.ref a), .val (.int ((p + q).toInt32 + (1 : Int32))), .val (.int (p + ds.length).toInt32)] []
    refine Go.goto (pc' := 0) H d51_20 (by decide) (by decide) ?_
    rw [own_inf hP hc (by rw [List.length_append, hP] at hb; omega)] at F3
    rw [own_s (k + q), own_s (p + q)]
    exact ih (q + 1) (by omega) _ Fa F3 KK
abbrev N41 : MethodName := ⟨"java/lang/StringUTF16", "putChars", "([BI[CII)V"⟩

abbrev rm_pch : Room := { frames := 1, cells := 0, slots := 0, locals := 14 }
set_option maxRecDepth 65536 in
set_option maxHeartbeats 4000000 in
theorem ct_pch (l : Launch) {Z : State} {n0 : Nat} {z : Int32} {f g : Value} {dv : Addr} (W : Sx Z z f g dv) (a d : Addr) (pr ds po P R1 : List Int32) (k m p : Nat) (h : Heap) (Fa : Vec Z h a .char (pr ++ ds ++ po)) (Fd : Vec Z h d .byte (P ++ R1)) (hP : P.length = 2 * k) (hb : (P ++ R1).length = 2 * m) (hk : k + ds.length ≤ m) (hm : m < 2 ^ 20) (hp : pr.length = p) (hp2 : p < 2 ^ 20) (zd : n0 ≤ d) (hne : a ≠ d) :
    Ctr l Z n0 N41 jdk_52_method_68_code 5 none rm_pch #[(.ref d), (.int k.toInt32), (.ref a), (.int p.toInt32), (.int (p + ds.length).toInt32)] h [d] (fun v h' sn => v = none ∧ Keep h h' [d] ∧ Vec Z h' d .byte (P ++ enc16 ds ++ R1.drop (2 * ds.length)) ∧ sn = []) := by
  refine Ctr.of_go (ls := #[.val (.ref d), .val (.int k.toInt32), .val (.ref a), .val (.int p.toInt32), .val (.int (p + ds.length).toInt32)]) W.1.1.1 (plainFor_of_name pn_N0) (fun m => by first | (simp [entryFrame, mkF, argsToLocals, Value.category]; done) | rfl) (fun K H => ?_)
  exact lp_pch l W a d pr ds po P R1 k m p h hP hb hk hm hp hp2 zd hne H ds.length 0 (by omega) h Fa (by simpa [enc16] using Fd) (Keep.refl _ _)
theorem d48_0 : decode jdk_52_method_72_code 0 = .ok (.iload_n 1, 1) := by decide +kernel
theorem d48_1 : decode jdk_52_method_72_code 1 = .ok (.iload_n 1, 1) := by decide +kernel
theorem d48_2 : decode jdk_52_method_72_code 2 = .ok (.iload 4, 2) := by decide +kernel
theorem d48_4 : decode jdk_52_method_72_code 4 = .ok (.iadd, 1) := by decide +kernel
theorem d48_5 : decode jdk_52_method_72_code 5 = .ok (.iload_n 3, 1) := by decide +kernel
theorem d48_6 : decode jdk_52_method_72_code 6 = .ok (.isub, 1) := by decide +kernel
theorem d48_7 : decode jdk_52_method_72_code 7 = .ok (.aload_n 0, 1) := by decide +kernel
theorem d48_8 : decode jdk_52_method_72_code 8 = .ok (.invokestatic 96, 3) := by decide +kernel
theorem w276 : Jvm.Cond.code N40 jdk_52_method_93_code (3 : Nat) (Option.none : Option Jvm.ClassFile.FieldType) ∈ tables_1 := List.mem_of_getElem? (i := 276) rfl
theorem pd_N40 : parseMethodDescriptor N40.desc = some ⟨[.int, .int, (.array .byte)], none⟩ := by decide +kernel
theorem w274 : Jvm.Cond.methodLink "java/lang/StringUTF16" (96 : Nat) N40 ∈ tables_1 := List.mem_of_getElem? (i := 274) rfl
theorem w275 : Jvm.Cond.static N40 ∈ tables_1 := List.mem_of_getElem? (i := 275) rfl
theorem d48_11 : decode jdk_52_method_72_code 11 = .ok (.aload_n 0, 1) := by decide +kernel
theorem d48_12 : decode jdk_52_method_72_code 12 = .ok (.iload_n 1, 1) := by decide +kernel
theorem d48_13 : decode jdk_52_method_72_code 13 = .ok (.aload_n 2, 1) := by decide +kernel
theorem d48_14 : decode jdk_52_method_72_code 14 = .ok (.iload_n 3, 1) := by decide +kernel
theorem d48_15 : decode jdk_52_method_72_code 15 = .ok (.iload 4, 2) := by decide +kernel
theorem d48_17 : decode jdk_52_method_72_code 17 = .ok (.invokestatic 384, 3) := by decide +kernel
theorem w283 : Jvm.Cond.code N41 jdk_52_method_68_code (5 : Nat) (Option.none : Option Jvm.ClassFile.FieldType) ∈ tables_1 := List.mem_of_getElem? (i := 283) rfl
theorem pd_N41 : parseMethodDescriptor N41.desc = some ⟨[(.array .byte), .int, (.array .char), .int, .int], none⟩ := by decide +kernel
theorem w281 : Jvm.Cond.methodLink "java/lang/StringUTF16" (384 : Nat) N41 ∈ tables_1 := List.mem_of_getElem? (i := 281) rfl
theorem w282 : Jvm.Cond.static N41 ∈ tables_1 := List.mem_of_getElem? (i := 282) rfl
theorem d48_20 : decode jdk_52_method_72_code 20 = .ok (.return_, 1) := by decide +kernel
abbrev N42 : MethodName := ⟨"java/lang/StringUTF16", "putCharsSB", "([BI[CII)V"⟩

abbrev rm_pcsb : Room := { frames := 3, cells := 0, slots := 0, locals := 43 }
set_option maxRecDepth 65536 in
set_option maxHeartbeats 4000000 in
theorem ct_pcsb (l : Launch) {Z : State} {n0 : Nat} {z : Int32} {f g : Value} {dv : Addr} (W : Sx Z z f g dv) (a d : Addr) (pr ds po P R1 : List Int32) (k m p : Nat) (h : Heap) (Fa : Vec Z h a .char (pr ++ ds ++ po)) (Fd : Vec Z h d .byte (P ++ R1)) (hP : P.length = 2 * k) (hb : (P ++ R1).length = 2 * m) (hk : k + ds.length ≤ m) (hm : m < 2 ^ 20) (hp : pr.length = p) (hp2 : p < 2 ^ 20) (zd : n0 ≤ d) (hne : a ≠ d) :
    Ctr l Z n0 N42 jdk_52_method_72_code 5 none rm_pcsb #[(.ref d), (.int k.toInt32), (.ref a), (.int p.toInt32), (.int (p + ds.length).toInt32)] h [d] (fun v h' sn => v = none ∧ Keep h h' [d] ∧ Vec Z h' d .byte (P ++ enc16 ds ++ R1.drop (2 * ds.length)) ∧ sn = []) := by
  refine Ctr.of_go (ls := #[.val (.ref d), .val (.int k.toInt32), .val (.ref a), .val (.int p.toInt32), .val (.int (p + ds.length).toInt32)]) W.1.1.1 (plainFor_of_name pn_N0) (fun m => by first | (simp [entryFrame, mkF, argsToLocals, Value.category]; done) | rfl) (fun K H => ?_)
  refine Go.iloadN H d48_0 rfl rfl ?_
  refine Go.iloadN H d48_1 rfl rfl ?_
  refine Go.iload H d48_2 rfl rfl ?_
  refine Go.iadd H d48_4 rfl ?_
  refine Go.iloadN H d48_5 rfl rfl ?_
  refine Go.isub H d48_6 rfl ?_
  rw [own_kes k p ds.length]
  refine Go.aloadN H d48_7 rfl rfl rfl ?_
  refine Go.callS (rest := []) 0 [(.int k.toInt32), (.int (k + ds.length).toInt32), (.ref d)] H d48_8 rfl w274 w275 w247 w276 pd_N40 (ct_ubbe l W d _ k (k + ds.length) m h Fd hb hm (by omega) hk) all0 rfl rfl rfl (Nat.le_of_eq rfl) (by decide) (by decide) (by decide) (by decide) nh_N0 ?_
  rintro _ _ _ ⟨rfl, rfl, rfl⟩
  show Go _ _ _ _ _ _ h [d] 0 0 11 #[.val (.ref d), .val (.int k.toInt32), .val (.ref a), .val (.int p.toInt32), .val (.int (p + ds.length).toInt32)] []
  refine Go.aloadN H d48_11 rfl rfl rfl ?_
  refine Go.iloadN H d48_12 rfl rfl ?_
  refine Go.aloadN H d48_13 rfl rfl rfl ?_
  refine Go.iloadN H d48_14 rfl rfl ?_
  refine Go.iload H d48_15 rfl rfl ?_
  refine Go.callS (rest := []) 0 [(.ref d), (.int k.toInt32), (.ref a), (.int p.toInt32), (.int (p + ds.length).toInt32)] H d48_17 rfl w281 w282 w247 w283 pd_N41 (ct_pch l W a d pr ds po P R1 k m p h Fa Fd hP hb hk hm hp hp2 zd hne) (by simp) rfl rfl rfl (Nat.le_of_eq rfl) (by decide) (by decide) (by decide) (by decide) nh_N0 ?_
  rintro _ h1 _ ⟨rfl, K2, F3, rfl⟩
  replace Fa := Fa.keep K2 (ninS hne nin0)
  show Go _ _ _ _ _ _ h1 [d] 0 0 20 #[.val (.ref d), .val (.int k.toInt32), .val (.ref a), .val (.int p.toInt32), .val (.int (p + ds.length).toInt32)] []
  exact Go.return_ [] H d48_20 ⟨rfl, K2, F3, rfl⟩ all0 (by decide) (by decide)
theorem d28_26 : decode jdk_68_method_74_code 26 = .ok (.iload 6, 2) := by decide +kernel
theorem d28_28 : decode jdk_68_method_74_code 28 = .ok (.iload_n 3, 1) := by decide +kernel
theorem d28_29 : decode jdk_68_method_74_code 29 = .ok (.if_icmp .ge 75, 3) := by decide +kernel
theorem d28_104 : decode jdk_68_method_74_code 104 = .ok (.goto 15, 3) := by decide +kernel
theorem d28_119 : decode jdk_68_method_74_code 119 = .ok (.aload_n 0, 1) := by decide +kernel
theorem d28_120 : decode jdk_68_method_74_code 120 = .ok (.iload 4, 2) := by decide +kernel
theorem d28_122 : decode jdk_68_method_74_code 122 = .ok (.iload_n 3, 1) := by decide +kernel
theorem d28_123 : decode jdk_68_method_74_code 123 = .ok (.iadd, 1) := by decide +kernel
theorem d28_124 : decode jdk_68_method_74_code 124 = .ok (.iload_n 2, 1) := by decide +kernel
theorem d28_125 : decode jdk_68_method_74_code 125 = .ok (.isub, 1) := by decide +kernel
theorem d28_126 : decode jdk_68_method_74_code 126 = .ok (.putfield 79, 3) := by decide +kernel
theorem d28_129 : decode jdk_68_method_74_code 129 = .ok (.return_, 1) := by decide +kernel
theorem d28_32 : decode jdk_68_method_74_code 32 = .ok (.aload_n 1, 1) := by decide +kernel
theorem d28_33 : decode jdk_68_method_74_code 33 = .ok (.iload 6, 2) := by decide +kernel
theorem d28_35 : decode jdk_68_method_74_code 35 = .ok (.caload, 1) := by decide +kernel
theorem d28_36 : decode jdk_68_method_74_code 36 = .ok (.istore 8, 2) := by decide +kernel
theorem d28_38 : decode jdk_68_method_74_code 38 = .ok (.iload 8, 2) := by decide +kernel
theorem d28_40 : decode jdk_68_method_74_code 40 = .ok (.invokestatic 191, 3) := by decide +kernel
theorem w199 : Jvm.Cond.code N37 jdk_43_method_3_code (1 : Nat) (Option.some Jvm.ClassFile.FieldType.boolean) ∈ tables_1 := List.mem_of_getElem? (i := 199) rfl
theorem pd_N37 : parseMethodDescriptor N37.desc = some ⟨[.char], (some .boolean)⟩ := by decide +kernel
theorem w196 : Jvm.Cond.methodLink "java/lang/AbstractStringBuilder" (191 : Nat) N37 ∈ tables_1 := List.mem_of_getElem? (i := 196) rfl
theorem w197 : Jvm.Cond.static N37 ∈ tables_1 := List.mem_of_getElem? (i := 197) rfl
theorem d28_43 : decode jdk_68_method_74_code 43 = .ok (.ifCond .eq 17, 3) := by decide +kernel
theorem d28_60 : decode jdk_68_method_74_code 60 = .ok (.aload_n 0, 1) := by decide +kernel
theorem d28_61 : decode jdk_68_method_74_code 61 = .ok (.iload 7, 2) := by decide +kernel
theorem d28_63 : decode jdk_68_method_74_code 63 = .ok (.dup, 1) := by decide +kernel
theorem d28_64 : decode jdk_68_method_74_code 64 = .ok (.istore 4, 2) := by decide +kernel
theorem d28_66 : decode jdk_68_method_74_code 66 = .ok (.putfield 79, 3) := by decide +kernel
theorem d28_69 : decode jdk_68_method_74_code 69 = .ok (.aload_n 0, 1) := by decide +kernel
theorem d28_70 : decode jdk_68_method_74_code 70 = .ok (.invokevirtual 195, 3) := by decide +kernel
theorem w244 : Jvm.Cond.code N26 jdk_68_method_11_code (2 : Nat) (Option.none : Option Jvm.ClassFile.FieldType) ∈ tables_1 := List.mem_of_getElem? (i := 244) rfl
theorem pd_N26 : parseMethodDescriptor N26.desc = some ⟨[], none⟩ := by decide +kernel
theorem w242 : Jvm.Cond.privateMethod N26 ∈ tables_1 := List.mem_of_getElem? (i := 242) rfl
theorem w240 : Jvm.Cond.methodLink "java/lang/AbstractStringBuilder" (195 : Nat) N26 ∈ tables_1 := List.mem_of_getElem? (i := 240) rfl
theorem w243 : Jvm.Cond.selects "java/lang/StringBuilder" N26 N26 ∈ tables_1 := List.mem_of_getElem? (i := 243) rfl
theorem w241 : Jvm.Cond.instanceMethod N26 ∈ tables_1 := List.mem_of_getElem? (i := 241) rfl
theorem d28_73 : decode jdk_68_method_74_code 73 = .ok (.aload_n 0, 1) := by decide +kernel
theorem d28_74 : decode jdk_68_method_74_code 74 = .ok (.getfield 15, 3) := by decide +kernel
theorem d28_77 : decode jdk_68_method_74_code 77 = .ok (.iload 7, 2) := by decide +kernel
theorem d28_79 : decode jdk_68_method_74_code 79 = .ok (.aload_n 1, 1) := by decide +kernel
theorem d28_80 : decode jdk_68_method_74_code 80 = .ok (.iload 6, 2) := by decide +kernel
theorem d28_82 : decode jdk_68_method_74_code 82 = .ok (.iload_n 3, 1) := by decide +kernel
theorem d28_83 : decode jdk_68_method_74_code 83 = .ok (.invokestatic 386, 3) := by decide +kernel
theorem w273 : Jvm.Cond.code N42 jdk_52_method_72_code (5 : Nat) (Option.none : Option Jvm.ClassFile.FieldType) ∈ tables_1 := List.mem_of_getElem? (i := 273) rfl
theorem pd_N42 : parseMethodDescriptor N42.desc = some ⟨[(.array .byte), .int, (.array .char), .int, .int], none⟩ := by decide +kernel
theorem w271 : Jvm.Cond.methodLink "java/lang/AbstractStringBuilder" (386 : Nat) N42 ∈ tables_1 := List.mem_of_getElem? (i := 271) rfl
theorem w272 : Jvm.Cond.static N42 ∈ tables_1 := List.mem_of_getElem? (i := 272) rfl
theorem d28_86 : decode jdk_68_method_74_code 86 = .ok (.aload_n 0, 1) := by decide +kernel
theorem d28_87 : decode jdk_68_method_74_code 87 = .ok (.iload 4, 2) := by decide +kernel
theorem d28_89 : decode jdk_68_method_74_code 89 = .ok (.iload_n 3, 1) := by decide +kernel
theorem d28_90 : decode jdk_68_method_74_code 90 = .ok (.iadd, 1) := by decide +kernel
theorem d28_91 : decode jdk_68_method_74_code 91 = .ok (.iload 6, 2) := by decide +kernel
theorem d28_93 : decode jdk_68_method_74_code 93 = .ok (.isub, 1) := by decide +kernel
theorem d28_94 : decode jdk_68_method_74_code 94 = .ok (.putfield 79, 3) := by decide +kernel
theorem d28_97 : decode jdk_68_method_74_code 97 = .ok (.return_, 1) := by decide +kernel
theorem d28_46 : decode jdk_68_method_74_code 46 = .ok (.aload 5, 2) := by decide +kernel
theorem d28_48 : decode jdk_68_method_74_code 48 = .ok (.iload 7, 2) := by decide +kernel
theorem d28_50 : decode jdk_68_method_74_code 50 = .ok (.iinc 7 1, 3) := by decide +kernel
theorem d28_53 : decode jdk_68_method_74_code 53 = .ok (.iload 8, 2) := by decide +kernel
theorem d28_55 : decode jdk_68_method_74_code 55 = .ok (.i2b, 1) := by decide +kernel
theorem d28_56 : decode jdk_68_method_74_code 56 = .ok (.bastore, 1) := by decide +kernel
theorem d28_57 : decode jdk_68_method_74_code 57 = .ok (.goto 41, 3) := by decide +kernel
theorem d28_98 : decode jdk_68_method_74_code 98 = .ok (.iinc 6 1, 3) := by decide +kernel
theorem d28_101 : decode jdk_68_method_74_code 101 = .ok (.goto (-75), 3) := by decide +kernel

theorem d28_0 : decode jdk_68_method_74_code 0 = .ok (.aload_n 0, 1) := by decide +kernel
theorem d28_1 : decode jdk_68_method_74_code 1 = .ok (.getfield 79, 3) := by decide +kernel
theorem d28_4 : decode jdk_68_method_74_code 4 = .ok (.istore 4, 2) := by decide +kernel
theorem d28_6 : decode jdk_68_method_74_code 6 = .ok (.aload_n 0, 1) := by decide +kernel
theorem d28_7 : decode jdk_68_method_74_code 7 = .ok (.invokevirtual 83, 3) := by decide +kernel
theorem d28_10 : decode jdk_68_method_74_code 10 = .ok (.ifCond .eq 97, 3) := by decide +kernel
theorem d28_13 : decode jdk_68_method_74_code 13 = .ok (.aload_n 0, 1) := by decide +kernel
theorem d28_14 : decode jdk_68_method_74_code 14 = .ok (.getfield 15, 3) := by decide +kernel
theorem d28_17 : decode jdk_68_method_74_code 17 = .ok (.astore 5, 2) := by decide +kernel
theorem d28_19 : decode jdk_68_method_74_code 19 = .ok (.iload_n 2, 1) := by decide +kernel
theorem d28_20 : decode jdk_68_method_74_code 20 = .ok (.istore 6, 2) := by decide +kernel
theorem d28_22 : decode jdk_68_method_74_code 22 = .ok (.iload 4, 2) := by decide +kernel
theorem d28_24 : decode jdk_68_method_74_code 24 = .ok (.istore 7, 2) := by decide +kernel
theorem d28_107 : decode jdk_68_method_74_code 107 = .ok (.aload_n 0, 1) := by decide +kernel
theorem d28_108 : decode jdk_68_method_74_code 108 = .ok (.getfield 15, 3) := by decide +kernel
theorem d28_111 : decode jdk_68_method_74_code 111 = .ok (.iload 4, 2) := by decide +kernel
theorem d28_113 : decode jdk_68_method_74_code 113 = .ok (.aload_n 1, 1) := by decide +kernel
theorem d28_114 : decode jdk_68_method_74_code 114 = .ok (.iload_n 2, 1) := by decide +kernel
theorem d28_115 : decode jdk_68_method_74_code 115 = .ok (.iload_n 3, 1) := by decide +kernel
theorem d28_116 : decode jdk_68_method_74_code 116 = .ok (.invokestatic 386, 3) := by decide +kernel
set_option maxRecDepth 65536 in
set_option maxHeartbeats 4000000 in
theorem lp_apc (l : Launch) {Z : State} {n0 : Nat} {z : Int32} {f g : Value} {dv : Addr} (W : Sx Z z f g dv) (x b a : Addr) (cs pr ds po pad : List Int32) (p : Nat) (hh : Heap) (hL : ∀ c ∈ cs, isL c) (hcap : cs.length + pad.length = 16) (hC2 : ∀ c ∈ ds, isC c) (hp : pr.length = p) (hp2 : p + ds.length < 2 ^ 20) (htot : cs.length + ds.length ≤ 16) (zx : n0 ≤ x) (zb : n0 ≤ b) (hax : a ≠ x) (hbx : b ≠ x) (hab : a ≠ b) {K : Cx} (H : Ok Z K "java/lang/AbstractStringBuilder" jdk_68_method_74_code 9 none "appendChars") :
    ∀ (r q : Nat), q + r = ds.length → ∀ (h : Heap) (s8 : Slot), One s8 → SbF Z h x b 0 cs.length.toInt32 → Vec Z h a .char (pr ++ ds ++ po) → Vec Z h b .byte ((cs ++ ds.take q).map (nar .byte) ++ pad.drop q) → Keep hh h [x, b] → (∀ c ∈ ds.take q, isL c) →
      Go l Z n0 ({ frames := 6, cells := 1, slots := 68, locals := 89 } : Room) K (fun v h' sn => v = none ∧ Keep hh h' [x, b] ∧ ∃ e, (e = b ∨ (hh).size ≤ e) ∧ n0 ≤ e ∧ Sbg Z h' x e 16 (cs ++ ds) ∧ sn = [e]) h [x, b] 0 0 26 #[.val (.ref x), .val (.ref a), .val (.int p.toInt32), .val (.int (p + ds.length).toInt32), .val (.int cs.length.toInt32), .val (.ref b), .val (.int (p + q).toInt32), .val (.int (cs.length + q).toInt32), s8] [] := by
  intro r
  induction r with
  | zero =>
    intro q hq h s8 o8 F Fa Fb KK hT
    obtain ⟨A, Fv, Fc, Fn, Fm⟩ := F
    refine Go.iload H d28_26 rfl rfl ?_
    refine Go.iloadN H d28_28 rfl rfl ?_
    refine Go.icmpY (pc' := 104) H d28_29 (flt (own_nlt (by omega) (by omega))).2.1 (by decide) (by decide) ?_
    refine Go.goto (pc' := 119) H d28_104 (by decide) (by decide) ?_
    refine Go.aloadN H d28_119 rfl rfl rfl ?_
    refine Go.iload H d28_120 rfl rfl ?_
    refine Go.iloadN H d28_122 rfl rfl ?_
    refine Go.iadd H d28_123 rfl ?_
    refine Go.iloadN H d28_124 rfl rfl ?_
    refine Go.isub H d28_125 rfl ?_
    rw [own_kes cs.length p ds.length]
    refine Go.putfield (v := (.int (cs.length + ds.length).toInt32)) H d28_126 rfl w138 Fn A (Or.inl w139) w82 (ty := .int) (by decide) rfl rfl zx (by simp) ?_
    intro h1 Wr2
    have F3 := Fn.same Wr2
    have K4 := Keep.of_wr Wr2
    replace A := A.wr Wr2
    replace Fv := Fv.other Wr2 (Or.inr (own_sne W.1.1.1 (Or.inl w96) (Or.inl w139) (by decide) (t := (.array .byte)) (t' := .int) (by decide) (by decide)))
    replace Fc := Fc.other Wr2 (Or.inr (own_sne W.1.1.1 (Or.inl w98) (Or.inl w139) (by decide) (t := .byte) (t' := .int) (by decide) (by decide)))
    replace Fm := Fm.other Wr2 (Or.inr (own_sne W.1.1.1 (Or.inl w291) (Or.inl w139) (by decide) (t := .boolean) (t' := .int) (by decide) (by decide)))
    replace Fb := Fb.keep K4 (ninS hbx nin0)
    replace Fa := Fa.keep K4 (ninS hax nin0)
    replace KK := KK.wr Wr2 (Or.inl (by simp))
    rw [List.take_of_length_le (by omega)] at Fb hT
    exact Go.return_ [b] H d28_129 ⟨rfl, KK, b, (Or.inl rfl), zb, Or.inl ⟨by rw [List.length_append]; exact ⟨A, Fv, Fc, F3, Fm⟩, ⟨_, Fb, by simp only [List.length_append, List.length_drop]; omega⟩, fun c m => (List.mem_append.mp m).elim (hL c) (hT c)⟩, rfl⟩ (by simp) (by decide) (by decide)
  | succ r ih =>
    intro q hq h s8 o8 F Fa Fb KK hT
    obtain ⟨A, Fv, Fc, Fn, Fm⟩ := F
    have hlt : q < ds.length := by omega
    obtain ⟨c, hc⟩ : ∃ c, ds[q]? = some c := ⟨_, List.getElem?_eq_getElem hlt⟩
    refine Go.iload H d28_26 rfl rfl ?_
    refine Go.iloadN H d28_28 rfl rfl ?_
    refine Go.icmpN H d28_29 (tlt (own_lt (by omega) (by omega))).2.1 rfl ?_
    refine Go.aloadN H d28_32 rfl rfl rfl ?_
    refine Go.iload H d28_33 rfl rfl ?_
    refine Go.caload (v := c) H d28_35 rfl Fa (p + q) (own_cl (by omega)) (own_n0 (by omega)) (own_mid hp hc) ?_
    refine Go.istore (ls' := #[.val (.ref x), .val (.ref a), .val (.int p.toInt32), .val (.int (p + ds.length).toInt32), .val (.int cs.length.toInt32), .val (.ref b), .val (.int (p + q).toInt32), .val (.int (cs.length + q).toInt32), .val (.int c)]) H d28_36 rfl (XS.store1 rfl o8 rfl) ?_
    refine Go.iload H d28_38 rfl rfl ?_
    refine Go.callS (rest := []) 0 [(.int c)] H d28_40 rfl w196 w197 w198 w199 pd_N37 (ct_can l W c h) all0 rfl rfl rfl (Nat.le_of_eq rfl) (by decide) (by decide) (by decide) (by decide) nh_N9 ?_
    rintro _ _ _ ⟨rfl, rfl, rfl⟩
    show Go _ _ _ _ _ _ h [x, b] 0 0 43 #[.val (.ref x), .val (.ref a), .val (.int p.toInt32), .val (.int (p + ds.length).toInt32), .val (.int cs.length.toInt32), .val (.ref b), .val (.int (p + q).toInt32), .val (.int (cs.length + q).toInt32), .val (.int c)] [(.int (canF c))]
    by_cases c1 : (canF c) = (0 : Int32)
    ·
      refine Go.ifY (pc' := 60) H d28_43 (teq c1).1 (by decide) (by decide) ?_
      refine Go.aloadN H d28_60 rfl rfl rfl ?_
      refine Go.iload H d28_61 rfl rfl ?_
      refine Go.dup H d28_63 rfl rfl ?_
      refine Go.istore (ls' := #[.val (.ref x), .val (.ref a), .val (.int p.toInt32), .val (.int (p + ds.length).toInt32), .val (.int (cs.length + q).toInt32), .val (.ref b), .val (.int (p + q).toInt32), .val (.int (cs.length + q).toInt32), .val (.int c)]) H d28_64 rfl rfl ?_
      refine Go.putfield (v := (.int (cs.length + q).toInt32)) H d28_66 rfl w138 Fn A (Or.inl w139) w82 (ty := .int) (by decide) rfl rfl zx (by simp) ?_
      intro h2 Wr3
      have F4 := Fn.same Wr3
      have K5 := Keep.of_wr Wr3
      replace A := A.wr Wr3
      replace Fv := Fv.other Wr3 (Or.inr (own_sne W.1.1.1 (Or.inl w96) (Or.inl w139) (by decide) (t := (.array .byte)) (t' := .int) (by decide) (by decide)))
      replace Fc := Fc.other Wr3 (Or.inr (own_sne W.1.1.1 (Or.inl w98) (Or.inl w139) (by decide) (t := .byte) (t' := .int) (by decide) (by decide)))
      replace Fm := Fm.other Wr3 (Or.inr (own_sne W.1.1.1 (Or.inl w291) (Or.inl w139) (by decide) (t := .boolean) (t' := .int) (by decide) (by decide)))
      replace Fb := Fb.keep K5 (ninS hbx nin0)
      replace Fa := Fa.keep K5 (ninS hax nin0)
      replace KK := KK.wr Wr3 (Or.inl (by simp))
      refine Go.aloadN H d28_69 rfl rfl rfl ?_
      have eN : (cs.length + q).toInt32 = (cs ++ ds.take q).length.toInt32 := by rw [List.length_append, List.length_take]; congr 1; omega
      rw [eN] at F4
      refine Go.callP (rest := []) 0 [] H d28_70 rfl A w240 w242 w243 w241 w91 w244 pd_N26 (ct_infl0 l W x b (cs ++ ds.take q) (pad.drop q) 16 h2 ⟨A, Fv, Fc, F4, Fm⟩ Fb (fun c m => (List.mem_append.mp m).elim (hL c) (hT c)) (by rw [List.length_append, List.length_take, List.length_drop]; omega) (by decide) zx) (by simp) rfl rfl rfl (Nat.le_of_eq rfl) (by decide) (by decide) (by decide) (by decide) nh_N17 ?_
      rintro _ h6 _ ⟨rfl, K7, d8, g9, z10, F11, V12, rfl⟩
      have ne13 : x ≠ d8 := Nat.ne_of_lt (Nat.lt_of_lt_of_le A.lt g9)
      have ne14 : b ≠ d8 := Nat.ne_of_lt (Nat.lt_of_lt_of_le Fb.lt g9)
      have ne15 : a ≠ d8 := Nat.ne_of_lt (Nat.lt_of_lt_of_le Fa.lt g9)
      have sz16 := Nat.le_trans KK.1 g9
      replace Fb := Fb.keep K7 (ninS hbx nin0)
      replace Fa := Fa.keep K7 (ninS hax nin0)
      replace KK := KK.trans K7 (allS (Or.inl (by simp)) all0)
      obtain ⟨F17, F18, F19, F20, F21⟩ := F11
      show Go _ _ _ _ _ _ h6 [d8, x, b] 1 68 73 #[.val (.ref x), .val (.ref a), .val (.int p.toInt32), .val (.int (p + ds.length).toInt32), .val (.int (cs.length + q).toInt32), .val (.ref b), .val (.int (p + q).toInt32), .val (.int (cs.length + q).toInt32), .val (.int c)] []
      refine Go.aloadN H d28_73 rfl rfl rfl ?_
      refine Go.getfield H d28_74 rfl w95 F18 ?_
      refine Go.iload H d28_77 rfl rfl ?_
      refine Go.aloadN H d28_79 rfl rfl rfl ?_
      refine Go.iload H d28_80 rfl rfl ?_
      refine Go.iloadN H d28_82 rfl rfl ?_
      have eA : pr ++ ds ++ po = (pr ++ ds.take q) ++ ds.drop q ++ po := by rw [List.append_assoc pr (ds.take q) (ds.drop q), List.take_append_drop]
      rw [eA] at Fa
      have e1 : (p + ds.length).toInt32 = ((p + q) + (ds.drop q).length).toInt32 := by rw [List.length_drop]; congr 1; omega
      rw [e1]
      refine Go.callS (rest := []) 0 [(.ref d8), (.int (cs.length + q).toInt32), (.ref a), (.int (p + q).toInt32), (.int ((p + q) + (ds.drop q).length).toInt32)] H d28_83 rfl w271 w272 w247 w273 pd_N42 (ct_pcsb l W a d8 (pr ++ ds.take q) (ds.drop q) po (enc16 (cs ++ ds.take q)) (List.replicate (2 * (pad.drop q).length) 0) (cs.length + q) 16 (p + q) h6 Fa V12 (by rw [enc16_len, List.length_append, List.length_take]; omega) (by rw [List.length_append, enc16_len, List.length_replicate, List.length_append, List.length_take, List.length_drop]; omega) (by rw [List.length_drop]; omega) (by decide) (by rw [List.length_append, List.length_take, hp]; omega) (by omega) z10 ne15) (by simp) rfl rfl rfl (Nat.le_of_eq rfl) (by decide) (by decide) (by decide) (by decide) nh_N0 ?_
      rintro _ h22 _ ⟨rfl, K23, F24, rfl⟩
      replace Fb := Fb.keep K23 (ninS ne14 nin0)
      replace Fa := Fa.keep K23 (ninS ne15 nin0)
      replace F17 := F17.keep K23
      replace F18 := F18.keep K23 (ninS ne13 nin0)
      replace F19 := F19.keep K23 (ninS ne13 nin0)
      replace F20 := F20.keep K23 (ninS ne13 nin0)
      replace F21 := F21.keep K23 (ninS ne13 nin0)
      replace KK := KK.trans K23 (allS (Or.inr sz16) all0)
      show Go _ _ _ _ _ _ h22 [d8, x, b] 1 68 86 #[.val (.ref x), .val (.ref a), .val (.int p.toInt32), .val (.int ((p + q) + (ds.drop q).length).toInt32), .val (.int (cs.length + q).toInt32), .val (.ref b), .val (.int (p + q).toInt32), .val (.int (cs.length + q).toInt32), .val (.int c)] []
      refine Go.aloadN H d28_86 rfl rfl rfl ?_
      refine Go.iload H d28_87 rfl rfl ?_
      refine Go.iloadN H d28_89 rfl rfl ?_
      refine Go.iadd H d28_90 rfl ?_
      refine Go.iload H d28_91 rfl rfl ?_
      refine Go.isub H d28_93 rfl ?_
      rw [show ((cs.length + q).toInt32 + ((p + q) + (ds.drop q).length).toInt32) - (p + q).toInt32 = (cs.length + ds.length).toInt32 from by rw [own_kes]; congr 1; rw [List.length_drop]; omega]
      rw [← enc16_app, List.append_assoc cs, List.take_append_drop] at F24
      refine Go.putfield (v := (.int (cs.length + ds.length).toInt32)) H d28_94 rfl w138 F20 F17 (Or.inl w139) w82 (ty := .int) (by decide) rfl rfl zx (by simp) ?_
      intro h25 Wr26
      have F27 := F20.same Wr26
      have K28 := Keep.of_wr Wr26
      replace Fb := Fb.keep K28 (ninS hbx nin0)
      replace Fa := Fa.keep K28 (ninS hax nin0)
      replace F17 := F17.wr Wr26
      replace F18 := F18.other Wr26 (Or.inr (own_sne W.1.1.1 (Or.inl w96) (Or.inl w139) (by decide) (t := (.array .byte)) (t' := .int) (by decide) (by decide)))
      replace F19 := F19.other Wr26 (Or.inr (own_sne W.1.1.1 (Or.inl w98) (Or.inl w139) (by decide) (t := .byte) (t' := .int) (by decide) (by decide)))
      replace F21 := F21.other Wr26 (Or.inr (own_sne W.1.1.1 (Or.inl w291) (Or.inl w139) (by decide) (t := .boolean) (t' := .int) (by decide) (by decide)))
      replace F24 := F24.keep K28 (ninS (Ne.symm ne13) nin0)
      replace KK := KK.wr Wr26 (Or.inl (by simp))
      exact Go.return_ [d8] H d28_97 ⟨rfl, KK, d8, (Or.inr sz16), z10, Or.inr ⟨by rw [List.length_append]; exact ⟨F17, F18, F19, F27, F21⟩, ⟨_, F24, by simp only [List.length_append, List.length_drop, List.length_replicate]; omega⟩, fun c m => (List.mem_append.mp m).elim (fun m => (hL c m).c) (hC2 c), ⟨c, List.mem_append.mpr (Or.inr (List.mem_of_getElem? hc)), own_gt255 (canF_i.mp c1)⟩⟩, rfl⟩ (by simp) (by decide) (by decide)
    ·
      refine Go.ifN H d28_43 (feq c1).1 rfl ?_
      refine Go.aload H d28_46 rfl rfl rfl ?_
      refine Go.iload H d28_48 rfl rfl ?_
      refine Go.iinc (ls' := #[.val (.ref x), .val (.ref a), .val (.int p.toInt32), .val (.int (p + ds.length).toInt32), .val (.int cs.length.toInt32), .val (.ref b), .val (.int (p + q).toInt32), .val (.int ((cs.length + q).toInt32 + (1 : Int32))), .val (.int c)]) (1 : Int32) H d28_50 rfl rfl rfl rfl ?_
      refine Go.iload H d28_53 rfl rfl ?_
      refine Go.i2b H d28_55 rfl ?_
      refine Go.bastore (nar .byte c) H d28_56 rfl Fb (cs.length + q) (own_cl (by omega)) (own_n0 (by omega)) (by rw [List.length_append, List.length_map, List.length_append, List.length_take, List.length_drop]; omega) own_nb zb (by simp) ?_
      intro h29 K30 F31
      replace A := A.keep K30
      replace Fv := Fv.keep K30 (ninS (Ne.symm hbx) nin0)
      replace Fc := Fc.keep K30 (ninS (Ne.symm hbx) nin0)
      replace Fn := Fn.keep K30 (ninS (Ne.symm hbx) nin0)
      replace Fm := Fm.keep K30 (ninS (Ne.symm hbx) nin0)
      replace Fa := Fa.keep K30 (ninS hab nin0)
      replace KK := KK.trans K30 (allS (Or.inl (by simp)) all0)
      refine Go.goto (pc' := 98) H d28_57 (by decide) (by decide) ?_
      refine Go.iinc (ls' := #[.val (.ref x), .val (.ref a), .val (.int p.toInt32), .val (.int (p + ds.length).toInt32), .val (.int cs.length.toInt32), .val (.ref b), .val (.int ((p + q).toInt32 + (1 : Int32))), .val (.int ((cs.length + q).toInt32 + (1 : Int32))), .val (.int c)]) (1 : Int32) H d28_98 rfl rfl rfl rfl ?_
      refine Go.goto (pc' := 26) H d28_101 (by decide) (by decide) ?_
      rw [own_stl hc (by omega)] at F31
      rw [own_s (p + q), own_s (cs.length + q)]
      exact ih (q + 1) (by omega) _ _ (One.val rfl) ⟨A, Fv, Fc, Fn, Fm⟩ Fa F31 KK (own_takeL hc hT (own_isL (hC2 c (List.mem_of_getElem? hc)) (fun e => c1 (canF_i.mpr e))))
abbrev N43 : MethodName := ⟨"java/lang/AbstractStringBuilder", "appendChars", "([CII)V"⟩

abbrev rm_apc : Room := { frames := 6, cells := 1, slots := 68, locals := 89 }
set_option maxRecDepth 65536 in
set_option maxHeartbeats 4000000 in
theorem ct_apc (l : Launch) {Z : State} {n0 : Nat} {z : Int32} {f g : Value} {dv : Addr} (W : Sx Z z f g dv) (x b a : Addr) (cs pr ds po : List Int32) (p : Nat) (h : Heap) (B : Sbg Z h x b 16 cs) (Fa : Vec Z h a .char (pr ++ ds ++ po)) (hC2 : ∀ c ∈ ds, isC c) (hp : pr.length = p) (hp2 : p + ds.length < 2 ^ 20) (htot : cs.length + ds.length ≤ 16) (zx : n0 ≤ x) (zb : n0 ≤ b) (hab : a ≠ b) :
    Ctr l Z n0 N43 jdk_68_method_74_code 9 none rm_apc #[(.ref x), (.ref a), (.int p.toInt32), (.int (p + ds.length).toInt32)] h [x, b] (fun v h' sn => v = none ∧ Keep h h' [x, b] ∧ ∃ e, (e = b ∨ (h).size ≤ e) ∧ n0 ≤ e ∧ Sbg Z h' x e 16 (cs ++ ds) ∧ sn = [e]) := by
  refine Ctr.of_go (ls := #[.val (.ref x), .val (.ref a), .val (.int p.toInt32), .val (.int (p + ds.length).toInt32), .unset, .unset, .unset, .unset, .unset]) W.1.1.1 (plainFor_of_name pn_N17) (fun m => by first | (simp [entryFrame, mkF, argsToLocals, Value.category]; done) | rfl) (fun K H => ?_)
  have hax : a ≠ x := Vec.neExa Fa B.exa W.1.1.1 w82
  have hbx : b ≠ x := B.ne W.1.1.1 w82
  rcases B with ⟨F, ⟨pad, Fb, hcap⟩, hL⟩ | ⟨F, ⟨pad, Fb, hcap⟩, hC, hX⟩
  ·
    obtain ⟨A, Fv, Fc, Fn, Fm⟩ := F
    have KK : Keep h h [x, b] := Keep.refl _ _
    refine Go.aloadN H d28_0 rfl rfl rfl ?_
    refine Go.getfield H d28_1 rfl w138 Fn ?_
    refine Go.istore (ls' := #[.val (.ref x), .val (.ref a), .val (.int p.toInt32), .val (.int (p + ds.length).toInt32), .val (.int cs.length.toInt32), .unset, .unset, .unset, .unset]) H d28_4 rfl rfl ?_
    refine Go.aloadN H d28_6 rfl rfl rfl ?_
    refine Go.callV (rest := []) 0 [] H d28_7 rfl A w195 w141 w143 w142 w91 w144 pd_N20 (ct_asl0 l W x b _ h ⟨A, Fv, Fc, Fn, Fm⟩) all0 rfl rfl rfl (Nat.le_of_eq rfl) (by decide) (by decide) (by decide) (by decide) nh_N17 ?_
    rintro _ _ _ ⟨rfl, rfl, rfl⟩
    show Go _ _ _ _ _ _ h [x, b] 0 0 10 #[.val (.ref x), .val (.ref a), .val (.int p.toInt32), .val (.int (p + ds.length).toInt32), .val (.int cs.length.toInt32), .unset, .unset, .unset, .unset] [(.int (1 : Int32))]
    refine Go.ifN H d28_10 (by decide) rfl ?_
    refine Go.aloadN H d28_13 rfl rfl rfl ?_
    refine Go.getfield H d28_14 rfl w95 Fv ?_
    refine Go.astore (ls' := #[.val (.ref x), .val (.ref a), .val (.int p.toInt32), .val (.int (p + ds.length).toInt32), .val (.int cs.length.toInt32), .val (.ref b), .unset, .unset, .unset]) H d28_17 rfl rfl rfl ?_
    refine Go.iloadN H d28_19 rfl rfl ?_
    refine Go.istore (ls' := #[.val (.ref x), .val (.ref a), .val (.int p.toInt32), .val (.int (p + ds.length).toInt32), .val (.int cs.length.toInt32), .val (.ref b), .val (.int p.toInt32), .unset, .unset]) H d28_20 rfl rfl ?_
    refine Go.iload H d28_22 rfl rfl ?_
    refine Go.istore (ls' := #[.val (.ref x), .val (.ref a), .val (.int p.toInt32), .val (.int (p + ds.length).toInt32), .val (.int cs.length.toInt32), .val (.ref b), .val (.int p.toInt32), .val (.int cs.length.toInt32), .unset]) H d28_24 rfl rfl ?_
    exact lp_apc l W x b a cs pr ds po pad p h hL hcap hC2 hp hp2 htot zx zb hax hbx hab H ds.length 0 (by omega) h _ One.u ⟨A, Fv, Fc, Fn, Fm⟩ Fa (by simpa using Fb) KK (by simp)
  ·
    obtain ⟨A, Fv, Fc, Fn, Fm⟩ := F
    have KK : Keep h h [x, b] := Keep.refl _ _
    refine Go.aloadN H d28_0 rfl rfl rfl ?_
    refine Go.getfield H d28_1 rfl w138 Fn ?_
    refine Go.istore (ls' := #[.val (.ref x), .val (.ref a), .val (.int p.toInt32), .val (.int (p + ds.length).toInt32), .val (.int cs.length.toInt32), .unset, .unset, .unset, .unset]) H d28_4 rfl rfl ?_
    refine Go.aloadN H d28_6 rfl rfl rfl ?_
    refine Go.callV (rest := []) 0 [] H d28_7 rfl A w195 w141 w143 w142 w91 w144 pd_N20 (ct_asl1 l W x b _ h ⟨A, Fv, Fc, Fn, Fm⟩) all0 rfl rfl rfl (Nat.le_of_eq rfl) (by decide) (by decide) (by decide) (by decide) nh_N17 ?_
    rintro _ _ _ ⟨rfl, rfl, rfl⟩
    show Go _ _ _ _ _ _ h [x, b] 0 0 10 #[.val (.ref x), .val (.ref a), .val (.int p.toInt32), .val (.int (p + ds.length).toInt32), .val (.int cs.length.toInt32), .unset, .unset, .unset, .unset] [(.int (0 : Int32))]
    refine Go.ifY (pc' := 107) H d28_10 (by decide) (by decide) (by decide) ?_
    refine Go.aloadN H d28_107 rfl rfl rfl ?_
    refine Go.getfield H d28_108 rfl w95 Fv ?_
    refine Go.iload H d28_111 rfl rfl ?_
    refine Go.aloadN H d28_113 rfl rfl rfl ?_
    refine Go.iloadN H d28_114 rfl rfl ?_
    refine Go.iloadN H d28_115 rfl rfl ?_
    refine Go.callS (rest := []) 0 [(.ref b), (.int cs.length.toInt32), (.ref a), (.int p.toInt32), (.int (p + ds.length).toInt32)] H d28_116 rfl w271 w272 w247 w273 pd_N42 (ct_pcsb l W a b pr ds po (enc16 cs) pad cs.length 16 p h Fa Fb (enc16_len _) (by rw [List.length_append, enc16_len]; omega) htot (by decide) hp (by omega) zb hab) (by simp) rfl rfl rfl (Nat.le_of_eq rfl) (by decide) (by decide) (by decide) (by decide) nh_N0 ?_
    rintro _ h1 _ ⟨rfl, K2, F3, rfl⟩
    replace A := A.keep K2
    replace Fv := Fv.keep K2 (ninS (Ne.symm hbx) nin0)
    replace Fc := Fc.keep K2 (ninS (Ne.symm hbx) nin0)
    replace Fn := Fn.keep K2 (ninS (Ne.symm hbx) nin0)
    replace Fm := Fm.keep K2 (ninS (Ne.symm hbx) nin0)
    replace Fa := Fa.keep K2 (ninS hab nin0)
    replace KK := KK.trans K2 (allS (Or.inl (by simp)) all0)
    show Go _ _ _ _ _ _ h1 [x, b] 0 0 119 #[.val (.ref x), .val (.ref a), .val (.int p.toInt32), .val (.int (p + ds.length).toInt32), .val (.int cs.length.toInt32), .unset, .unset, .unset, .unset] []
    refine Go.aloadN H d28_119 rfl rfl rfl ?_
    refine Go.iload H d28_120 rfl rfl ?_
    refine Go.iloadN H d28_122 rfl rfl ?_
    refine Go.iadd H d28_123 rfl ?_
    refine Go.iloadN H d28_124 rfl rfl ?_
    refine Go.isub H d28_125 rfl ?_
    rw [own_kes cs.length p ds.length]
    refine Go.putfield (v := (.int (cs.length + ds.length).toInt32)) H d28_126 rfl w138 Fn A (Or.inl w139) w82 (ty := .int) (by decide) rfl rfl zx (by simp) ?_
    intro h4 Wr5
    have F6 := Fn.same Wr5
    have K7 := Keep.of_wr Wr5
    replace A := A.wr Wr5
    replace Fv := Fv.other Wr5 (Or.inr (own_sne W.1.1.1 (Or.inl w96) (Or.inl w139) (by decide) (t := (.array .byte)) (t' := .int) (by decide) (by decide)))
    replace Fc := Fc.other Wr5 (Or.inr (own_sne W.1.1.1 (Or.inl w98) (Or.inl w139) (by decide) (t := .byte) (t' := .int) (by decide) (by decide)))
    replace Fm := Fm.other Wr5 (Or.inr (own_sne W.1.1.1 (Or.inl w291) (Or.inl w139) (by decide) (t := .boolean) (t' := .int) (by decide) (by decide)))
    replace Fa := Fa.keep K7 (ninS hax nin0)
    replace F3 := F3.keep K7 (ninS hbx nin0)
    replace KK := KK.wr Wr5 (Or.inl (by simp))
    rw [← enc16_app] at F3
    exact Go.return_ [b] H d28_129 ⟨rfl, KK, b, Or.inl rfl, zb, Or.inr ⟨by rw [List.length_append]; exact ⟨A, Fv, Fc, F6, Fm⟩, ⟨_, F3, by simp only [List.length_drop]; rw [List.length_append]; omega⟩, fun c m => (List.mem_append.mp m).elim (hC c) (hC2 c), by obtain ⟨c, m, e⟩ := hX; exact ⟨c, List.mem_append.mpr (Or.inl m), e⟩⟩, rfl⟩ (by simp) (by decide) (by decide)
theorem d25_0 : decode jdk_68_method_29_code 0 = .ok (.iload_n 2, 1) := by decide +kernel
theorem d25_1 : decode jdk_68_method_29_code 1 = .ok (.iload_n 3, 1) := by decide +kernel
theorem d25_2 : decode jdk_68_method_29_code 2 = .ok (.iadd, 1) := by decide +kernel
theorem d25_3 : decode jdk_68_method_29_code 3 = .ok (.istore 4, 2) := by decide +kernel
theorem d25_5 : decode jdk_68_method_29_code 5 = .ok (.iload_n 2, 1) := by decide +kernel
theorem d25_6 : decode jdk_68_method_29_code 6 = .ok (.iload 4, 2) := by decide +kernel
theorem d25_8 : decode jdk_68_method_29_code 8 = .ok (.aload_n 1, 1) := by decide +kernel
theorem d25_9 : decode jdk_68_method_29_code 9 = .ok (.arraylength, 1) := by decide +kernel
theorem d25_10 : decode jdk_68_method_29_code 10 = .ok (.getstatic 183, 3) := by decide +kernel
theorem w179 : Jvm.Cond.fieldLink "java/lang/AbstractStringBuilder" (183 : Nat) "jdk/internal/util/Preconditions" "IOOBE_FORMATTER" "Ljava/util/function/BiFunction;" ∈ tables_1 := List.mem_of_getElem? (i := 179) rfl
theorem d25_13 : decode jdk_68_method_29_code 13 = .ok (.invokestatic 161, 3) := by decide +kernel
theorem w182 : Jvm.Cond.methodLink "java/lang/AbstractStringBuilder" (161 : Nat) N38 ∈ tables_1 := List.mem_of_getElem? (i := 182) rfl
theorem d25_16 : decode jdk_68_method_29_code 16 = .ok (.pop, 1) := by decide +kernel
theorem d25_17 : decode jdk_68_method_29_code 17 = .ok (.aload_n 0, 1) := by decide +kernel
theorem d25_18 : decode jdk_68_method_29_code 18 = .ok (.aload_n 0, 1) := by decide +kernel
theorem d25_19 : decode jdk_68_method_29_code 19 = .ok (.getfield 79, 3) := by decide +kernel
theorem d25_22 : decode jdk_68_method_29_code 22 = .ok (.iload_n 3, 1) := by decide +kernel
theorem d25_23 : decode jdk_68_method_29_code 23 = .ok (.iadd, 1) := by decide +kernel
theorem d25_24 : decode jdk_68_method_29_code 24 = .ok (.invokevirtual 100, 3) := by decide +kernel
theorem w189 : Jvm.Cond.code N19 jdk_68_method_9_code (3 : Nat) (Option.none : Option Jvm.ClassFile.FieldType) ∈ tables_1 := List.mem_of_getElem? (i := 189) rfl
theorem pd_N19 : parseMethodDescriptor N19.desc = some ⟨[.int], none⟩ := by decide +kernel
theorem w187 : Jvm.Cond.privateMethod N19 ∈ tables_1 := List.mem_of_getElem? (i := 187) rfl
theorem w185 : Jvm.Cond.methodLink "java/lang/AbstractStringBuilder" (100 : Nat) N19 ∈ tables_1 := List.mem_of_getElem? (i := 185) rfl
theorem w188 : Jvm.Cond.selects "java/lang/StringBuilder" N19 N19 ∈ tables_1 := List.mem_of_getElem? (i := 188) rfl
theorem w186 : Jvm.Cond.instanceMethod N19 ∈ tables_1 := List.mem_of_getElem? (i := 186) rfl
theorem d25_27 : decode jdk_68_method_29_code 27 = .ok (.aload_n 0, 1) := by decide +kernel
theorem d25_28 : decode jdk_68_method_29_code 28 = .ok (.aload_n 1, 1) := by decide +kernel
theorem d25_29 : decode jdk_68_method_29_code 29 = .ok (.iload_n 2, 1) := by decide +kernel
theorem d25_30 : decode jdk_68_method_29_code 30 = .ok (.iload 4, 2) := by decide +kernel
theorem d25_32 : decode jdk_68_method_29_code 32 = .ok (.invokevirtual 239, 3) := by decide +kernel
theorem w194 : Jvm.Cond.code N43 jdk_68_method_74_code (9 : Nat) (Option.none : Option Jvm.ClassFile.FieldType) ∈ tables_1 := List.mem_of_getElem? (i := 194) rfl
theorem pd_N43 : parseMethodDescriptor N43.desc = some ⟨[(.array .char), .int, .int], none⟩ := by decide +kernel
theorem w192 : Jvm.Cond.privateMethod N43 ∈ tables_1 := List.mem_of_getElem? (i := 192) rfl
theorem w190 : Jvm.Cond.methodLink "java/lang/AbstractStringBuilder" (239 : Nat) N43 ∈ tables_1 := List.mem_of_getElem? (i := 190) rfl
theorem w193 : Jvm.Cond.selects "java/lang/StringBuilder" N43 N43 ∈ tables_1 := List.mem_of_getElem? (i := 193) rfl
theorem w191 : Jvm.Cond.instanceMethod N43 ∈ tables_1 := List.mem_of_getElem? (i := 191) rfl
theorem d25_35 : decode jdk_68_method_29_code 35 = .ok (.aload_n 0, 1) := by decide +kernel
theorem d25_36 : decode jdk_68_method_29_code 36 = .ok (.areturn, 1) := by decide +kernel
abbrev N44 : MethodName := ⟨"java/lang/AbstractStringBuilder", "append", "([CII)Ljava/lang/AbstractStringBuilder;"⟩

abbrev rm_aapc : Room := { frames := 7, cells := 1, slots := 68, locals := 109 }
set_option maxRecDepth 65536 in
set_option maxHeartbeats 4000000 in
theorem ct_aapc (l : Launch) {Z : State} {n0 : Nat} {z : Int32} {f g : Value} {dv : Addr} (W : Sx Z z f g dv) (x b a : Addr) (cs pr ds po : List Int32) (p : Nat) (h : Heap) (B : Sbg Z h x b 16 cs) (Fa : Vec Z h a .char (pr ++ ds ++ po)) (hC2 : ∀ c ∈ ds, isC c) (hp : pr.length = p) (hp2 : p + ds.length < 2 ^ 20) (htot : cs.length + ds.length ≤ 16) (zx : n0 ≤ x) (zb : n0 ≤ b) (hab : a ≠ b) (hpo : po.length < 2 ^ 20) :
    Ctr l Z n0 N44 jdk_68_method_29_code 5 (some (.object "java/lang/AbstractStringBuilder")) rm_aapc #[(.ref x), (.ref a), (.int p.toInt32), (.int ds.length.toInt32)] h [x, b] (fun v h' sn => v = some (.ref x) ∧ Keep h h' [x, b] ∧ ∃ e, (e = b ∨ h.size ≤ e) ∧ n0 ≤ e ∧ Sbg Z h' x e 16 (cs ++ ds) ∧ sn = [e]) := by
  refine Ctr.of_go (ls := #[.val (.ref x), .val (.ref a), .val (.int p.toInt32), .val (.int ds.length.toInt32), .unset]) W.1.1.1 (plainFor_of_name pn_N17) (fun m => by first | (simp [entryFrame, mkF, argsToLocals, Value.category]; done) | rfl) (fun K H => ?_)
  have B0 := B
  rcases B with ⟨F, ⟨pad, Fb, hcap⟩, hL⟩ | ⟨F, ⟨pad, Fb, hcap⟩, hC, hX⟩
  ·
    obtain ⟨A, Fv, Fc, Fn, Fm⟩ := F
    refine Go.iloadN H d25_0 rfl rfl ?_
    refine Go.iloadN H d25_1 rfl rfl ?_
    refine Go.iadd H d25_2 rfl ?_
    rw [own_add]
    refine Go.istore (ls' := #[.val (.ref x), .val (.ref a), .val (.int p.toInt32), .val (.int ds.length.toInt32), .val (.int (p + ds.length).toInt32)]) H d25_3 rfl rfl ?_
    refine Go.iloadN H d25_5 rfl rfl ?_
    refine Go.iload H d25_6 rfl rfl ?_
    refine Go.aloadN H d25_8 rfl rfl rfl ?_
    refine Go.arraylength (p + ds.length + po.length).toInt32 H d25_9 rfl Fa (by rw [List.length_append, List.length_append, hp]) ?_
    refine Go.getstatic H d25_10 rfl w179 W.2.2.1 ?_
    refine Go.callS (rest := []) 0 [(.int p.toInt32), (.int (p + ds.length).toInt32), (.int (p + ds.length + po.length).toInt32), g] H d25_13 rfl w182 w183 w180 w184 pd_N38 (ct_cftg l W p.toInt32 (p + ds.length).toInt32 (p + ds.length + po.length).toInt32 h (own_n0 (by omega)) (own_nlt (by omega) (by omega)) (own_nlt (by omega) (by omega))) all0 rfl rfl rfl (Nat.le_of_eq rfl) (by decide) (by decide) (by decide) (by decide) nh_N7 ?_
    rintro _ _ _ ⟨rfl, rfl, rfl⟩
    show Go _ _ _ _ _ _ h [x, b] 0 0 16 #[.val (.ref x), .val (.ref a), .val (.int p.toInt32), .val (.int ds.length.toInt32), .val (.int (p + ds.length).toInt32)] [(.int p.toInt32)]
    refine Go.pop H d25_16 rfl rfl ?_
    refine Go.aloadN H d25_17 rfl rfl rfl ?_
    refine Go.aloadN H d25_18 rfl rfl rfl ?_
    refine Go.getfield H d25_19 rfl w138 Fn ?_
    refine Go.iloadN H d25_22 rfl rfl ?_
    refine Go.iadd H d25_23 rfl ?_
    rw [own_add]
    refine Go.callP (rest := []) 0 [(.int (cs.length + ds.length).toInt32)] H d25_24 rfl A w185 w187 w188 w186 w91 w189 pd_N19 (ct_ecf0 l W x b _ _ _ 16 h ⟨A, Fv, Fc, Fn, Fm⟩ Fb (by rw [List.length_append, List.length_map]; exact hcap) htot (by decide)) all0 rfl rfl rfl (Nat.le_of_eq rfl) (by decide) (by decide) (by decide) (by decide) nh_N17 ?_
    rintro _ _ _ ⟨rfl, rfl, rfl⟩
    show Go _ _ _ _ _ _ h [x, b] 0 0 27 #[.val (.ref x), .val (.ref a), .val (.int p.toInt32), .val (.int ds.length.toInt32), .val (.int (p + ds.length).toInt32)] []
    refine Go.aloadN H d25_27 rfl rfl rfl ?_
    refine Go.aloadN H d25_28 rfl rfl rfl ?_
    refine Go.iloadN H d25_29 rfl rfl ?_
    refine Go.iload H d25_30 rfl rfl ?_
    refine Go.callP (rest := []) 0 [(.ref a), (.int p.toInt32), (.int (p + ds.length).toInt32)] H d25_32 rfl A w190 w192 w193 w191 w91 w194 pd_N43 (ct_apc l W x b a cs pr ds po p h B0 Fa hC2 hp hp2 htot zx zb hab) (by simp) rfl rfl rfl (Nat.le_of_eq rfl) (by decide) (by decide) (by decide) (by decide) nh_N17 ?_
    rintro _ h1 _ ⟨rfl, K2, e3, q4, z5, S6, rfl⟩
    show Go _ _ _ _ _ _ h1 [e3, x, b] 1 68 35 #[.val (.ref x), .val (.ref a), .val (.int p.toInt32), .val (.int ds.length.toInt32), .val (.int (p + ds.length).toInt32)] []
    refine Go.aloadN H d25_35 rfl rfl rfl ?_
    exact Go.areturn [e3] H d25_36 rfl rfl (own_narR rfl) ⟨rfl, K2, e3, q4, z5, S6, rfl⟩ (by simp) (by decide) (by decide)
  ·
    obtain ⟨A, Fv, Fc, Fn, Fm⟩ := F
    refine Go.iloadN H d25_0 rfl rfl ?_
    refine Go.iloadN H d25_1 rfl rfl ?_
    refine Go.iadd H d25_2 rfl ?_
    rw [own_add]
    refine Go.istore (ls' := #[.val (.ref x), .val (.ref a), .val (.int p.toInt32), .val (.int ds.length.toInt32), .val (.int (p + ds.length).toInt32)]) H d25_3 rfl rfl ?_
    refine Go.iloadN H d25_5 rfl rfl ?_
    refine Go.iload H d25_6 rfl rfl ?_
    refine Go.aloadN H d25_8 rfl rfl rfl ?_
    refine Go.arraylength (p + ds.length + po.length).toInt32 H d25_9 rfl Fa (by rw [List.length_append, List.length_append, hp]) ?_
    refine Go.getstatic H d25_10 rfl w179 W.2.2.1 ?_
    refine Go.callS (rest := []) 0 [(.int p.toInt32), (.int (p + ds.length).toInt32), (.int (p + ds.length + po.length).toInt32), g] H d25_13 rfl w182 w183 w180 w184 pd_N38 (ct_cftg l W p.toInt32 (p + ds.length).toInt32 (p + ds.length + po.length).toInt32 h (own_n0 (by omega)) (own_nlt (by omega) (by omega)) (own_nlt (by omega) (by omega))) all0 rfl rfl rfl (Nat.le_of_eq rfl) (by decide) (by decide) (by decide) (by decide) nh_N7 ?_
    rintro _ _ _ ⟨rfl, rfl, rfl⟩
    show Go _ _ _ _ _ _ h [x, b] 0 0 16 #[.val (.ref x), .val (.ref a), .val (.int p.toInt32), .val (.int ds.length.toInt32), .val (.int (p + ds.length).toInt32)] [(.int p.toInt32)]
    refine Go.pop H d25_16 rfl rfl ?_
    refine Go.aloadN H d25_17 rfl rfl rfl ?_
    refine Go.aloadN H d25_18 rfl rfl rfl ?_
    refine Go.getfield H d25_19 rfl w138 Fn ?_
    refine Go.iloadN H d25_22 rfl rfl ?_
    refine Go.iadd H d25_23 rfl ?_
    rw [own_add]
    refine Go.callP (rest := []) 0 [(.int (cs.length + ds.length).toInt32)] H d25_24 rfl A w185 w187 w188 w186 w91 w189 pd_N19 (ct_ecf1 l W x b _ _ _ 16 h ⟨A, Fv, Fc, Fn, Fm⟩ Fb (by rw [List.length_append, enc16_len]; exact hcap) htot (by decide)) all0 rfl rfl rfl (Nat.le_of_eq rfl) (by decide) (by decide) (by decide) (by decide) nh_N17 ?_
    rintro _ _ _ ⟨rfl, rfl, rfl⟩
    show Go _ _ _ _ _ _ h [x, b] 0 0 27 #[.val (.ref x), .val (.ref a), .val (.int p.toInt32), .val (.int ds.length.toInt32), .val (.int (p + ds.length).toInt32)] []
    refine Go.aloadN H d25_27 rfl rfl rfl ?_
    refine Go.aloadN H d25_28 rfl rfl rfl ?_
    refine Go.iloadN H d25_29 rfl rfl ?_
    refine Go.iload H d25_30 rfl rfl ?_
    refine Go.callP (rest := []) 0 [(.ref a), (.int p.toInt32), (.int (p + ds.length).toInt32)] H d25_32 rfl A w190 w192 w193 w191 w91 w194 pd_N43 (ct_apc l W x b a cs pr ds po p h B0 Fa hC2 hp hp2 htot zx zb hab) (by simp) rfl rfl rfl (Nat.le_of_eq rfl) (by decide) (by decide) (by decide) (by decide) nh_N17 ?_
    rintro _ h7 _ ⟨rfl, K8, e9, q10, z11, S12, rfl⟩
    show Go _ _ _ _ _ _ h7 [e9, x, b] 1 68 35 #[.val (.ref x), .val (.ref a), .val (.int p.toInt32), .val (.int ds.length.toInt32), .val (.int (p + ds.length).toInt32)] []
    refine Go.aloadN H d25_35 rfl rfl rfl ?_
    exact Go.areturn [e9] H d25_36 rfl rfl (own_narR rfl) ⟨rfl, K8, e9, q10, z11, S12, rfl⟩ (by simp) (by decide) (by decide)
theorem d24_0 : decode jdk_67_method_12_code 0 = .ok (.aload_n 0, 1) := by decide +kernel
theorem d24_1 : decode jdk_67_method_12_code 1 = .ok (.aload_n 1, 1) := by decide +kernel
theorem d24_2 : decode jdk_67_method_12_code 2 = .ok (.iload_n 2, 1) := by decide +kernel
theorem d24_3 : decode jdk_67_method_12_code 3 = .ok (.iload_n 3, 1) := by decide +kernel
theorem d24_4 : decode jdk_67_method_12_code 4 = .ok (.invokespecial 44, 3) := by decide +kernel
theorem w178 : Jvm.Cond.code N44 jdk_68_method_29_code (5 : Nat) (Option.some (Jvm.ClassFile.FieldType.object "java/lang/AbstractStringBuilder")) ∈ tables_1 := List.mem_of_getElem? (i := 178) rfl
theorem pd_N44 : parseMethodDescriptor N44.desc = some ⟨[(.array .char), .int, .int], (some (.object "java/lang/AbstractStringBuilder"))⟩ := by decide +kernel
theorem w175 : Jvm.Cond.methodLink "java/lang/StringBuilder" (44 : Nat) N44 ∈ tables_1 := List.mem_of_getElem? (i := 175) rfl
theorem w176 : Jvm.Cond.instanceMethod N44 ∈ tables_1 := List.mem_of_getElem? (i := 176) rfl
theorem d24_7 : decode jdk_67_method_12_code 7 = .ok (.pop, 1) := by decide +kernel
theorem d24_8 : decode jdk_67_method_12_code 8 = .ok (.aload_n 0, 1) := by decide +kernel
theorem d24_9 : decode jdk_67_method_12_code 9 = .ok (.areturn, 1) := by decide +kernel
abbrev N45 : MethodName := ⟨"java/lang/StringBuilder", "append", "([CII)Ljava/lang/StringBuilder;"⟩

abbrev rm_sapc : Room := { frames := 8, cells := 1, slots := 68, locals := 125 }
set_option maxRecDepth 65536 in
set_option maxHeartbeats 4000000 in
theorem ct_sapc (l : Launch) {Z : State} {n0 : Nat} {z : Int32} {f g : Value} {dv : Addr} (W : Sx Z z f g dv) (x b a : Addr) (cs pr ds po : List Int32) (p : Nat) (h : Heap) (B : Sbg Z h x b 16 cs) (Fa : Vec Z h a .char (pr ++ ds ++ po)) (hC2 : ∀ c ∈ ds, isC c) (hp : pr.length = p) (hp2 : p + ds.length < 2 ^ 20) (htot : cs.length + ds.length ≤ 16) (zx : n0 ≤ x) (zb : n0 ≤ b) (hab : a ≠ b) (hpo : po.length < 2 ^ 20) :
    Ctr l Z n0 N45 jdk_67_method_12_code 4 (some (.object "java/lang/StringBuilder")) rm_sapc #[(.ref x), (.ref a), (.int p.toInt32), (.int ds.length.toInt32)] h [x, b] (fun v h' sn => v = some (.ref x) ∧ Keep h h' [x, b] ∧ ∃ e, (e = b ∨ h.size ≤ e) ∧ n0 ≤ e ∧ Sbg Z h' x e 16 (cs ++ ds) ∧ sn = [e]) := by
  refine Ctr.of_go (ls := #[.val (.ref x), .val (.ref a), .val (.int p.toInt32), .val (.int ds.length.toInt32)]) W.1.1.1 (plainFor_of_name pn_N18) (fun m => by first | (simp [entryFrame, mkF, argsToLocals, Value.category]; done) | rfl) (fun K H => ?_)
  refine Go.aloadN H d24_0 rfl rfl rfl ?_
  refine Go.aloadN H d24_1 rfl rfl rfl ?_
  refine Go.iloadN H d24_2 rfl rfl ?_
  refine Go.iloadN H d24_3 rfl rfl ?_
  refine Go.callU (y' := N27) (rest := []) 0 [(.ref a), (.int p.toInt32), (.int ds.length.toInt32)] H d24_4 rfl B.exa (by decide) w175 ⟨rfl, w127, w126⟩ w136 w176 w91 w178 pd_N44 (ct_aapc l W x b a cs pr ds po p h B Fa hC2 hp hp2 htot zx zb hab hpo) (by simp) rfl rfl rfl (Nat.le_of_eq rfl) (by decide) (by decide) (by decide) (by decide) nh_N17 ?_
  rintro _ h1 _ ⟨rfl, K2, e3, q4, z5, S6, rfl⟩
  show Go _ _ _ _ _ _ h1 [e3, x, b] 1 68 7 #[.val (.ref x), .val (.ref a), .val (.int p.toInt32), .val (.int ds.length.toInt32)] [(.ref x)]
  refine Go.pop H d24_7 rfl rfl ?_
  refine Go.aloadN H d24_8 rfl rfl rfl ?_
  exact Go.areturn [e3] H d24_9 rfl rfl (own_narR rfl) ⟨rfl, K2, e3, q4, z5, S6, rfl⟩ (by simp) (by decide) (by decide)
theorem d5_0 : decode jdk_71_method_1_code 0 = .ok (.aload_n 0, 1) := by decide +kernel
theorem d5_1 : decode jdk_71_method_1_code 1 = .ok (.invokespecial 1, 3) := by decide +kernel
theorem w38 : Jvm.Cond.methodLink "java/util/AbstractMap" (1 : Nat) N16 ∈ tables_1 := List.mem_of_getElem? (i := 38) rfl
theorem d5_4 : decode jdk_71_method_1_code 4 = .ok (.return_, 1) := by decide +kernel
abbrev N46 : MethodName := ⟨"java/util/AbstractMap", "<init>", "()V"⟩
theorem pn_N46 : plainName N46.cls = true := by first | (simp [plainName, overriddenIn]; done) | decide +kernel

abbrev rm_ami : Room := { frames := 1, cells := 0, slots := 0, locals := 12 }
set_option maxRecDepth 65536 in
set_option maxHeartbeats 4000000 in
theorem ct_ami (l : Launch) {Z : State} {n0 : Nat} {z : Int32} {f g : Value} {dv : Addr} (W : Sx Z z f g dv) (x : Addr) (h : Heap) :
    Ctr l Z n0 N46 jdk_71_method_1_code 1 none rm_ami #[(.ref x)] h [] (fun v h' sn => v = none ∧ h = h' ∧ sn = []) := by
  refine Ctr.of_go (ls := #[.val (.ref x)]) W.1.1.1 (plainFor_of_name pn_N46) (fun m => by first | (simp [entryFrame, mkF, argsToLocals, Value.category]; done) | rfl) (fun K H => ?_)
  refine Go.aloadN H d5_0 rfl rfl rfl ?_
  refine Go.initObj H d5_1 rfl w38 w18 w19 0 rfl (Nat.le_of_eq rfl) (by decide) (by decide) ?_
  exact Go.return_ [] H d5_4 ⟨rfl, rfl, rfl⟩ all0 (by decide) (by decide)
theorem d8_0 : decode jdk_22_method_1_code 0 = .ok (.aload_n 0, 1) := by decide +kernel
theorem d8_1 : decode jdk_22_method_1_code 1 = .ok (.invokespecial 1, 3) := by decide +kernel
theorem w73 : Jvm.Cond.methodLink "java/util/AbstractCollection" (1 : Nat) N16 ∈ tables_1 := List.mem_of_getElem? (i := 73) rfl
theorem d8_4 : decode jdk_22_method_1_code 4 = .ok (.return_, 1) := by decide +kernel
abbrev N47 : MethodName := ⟨"java/util/AbstractCollection", "<init>", "()V"⟩
theorem pn_N47 : plainName N47.cls = true := by first | (simp [plainName, overriddenIn]; done) | decide +kernel

abbrev rm_aci : Room := { frames := 1, cells := 0, slots := 0, locals := 12 }
set_option maxRecDepth 65536 in
set_option maxHeartbeats 4000000 in
theorem ct_aci (l : Launch) {Z : State} {n0 : Nat} {z : Int32} {f g : Value} {dv : Addr} (W : Sx Z z f g dv) (x : Addr) (h : Heap) :
    Ctr l Z n0 N47 jdk_22_method_1_code 1 none rm_aci #[(.ref x)] h [] (fun v h' sn => v = none ∧ h = h' ∧ sn = []) := by
  refine Ctr.of_go (ls := #[.val (.ref x)]) W.1.1.1 (plainFor_of_name pn_N47) (fun m => by first | (simp [entryFrame, mkF, argsToLocals, Value.category]; done) | rfl) (fun K H => ?_)
  refine Go.aloadN H d8_0 rfl rfl rfl ?_
  refine Go.initObj H d8_1 rfl w73 w18 w19 0 rfl (Nat.le_of_eq rfl) (by decide) (by decide) ?_
  exact Go.return_ [] H d8_4 ⟨rfl, rfl, rfl⟩ all0 (by decide) (by decide)
theorem d4_0 : decode jdk_69_method_7_code 0 = .ok (.aload_n 0, 1) := by decide +kernel
theorem d4_1 : decode jdk_69_method_7_code 1 = .ok (.invokespecial 43, 3) := by decide +kernel
theorem w37 : Jvm.Cond.code N46 jdk_71_method_1_code (1 : Nat) (Option.none : Option Jvm.ClassFile.FieldType) ∈ tables_1 := List.mem_of_getElem? (i := 37) rfl
theorem w36 : Jvm.Cond.initialized "java/util/AbstractMap" ∈ tables_1 := List.mem_of_getElem? (i := 36) rfl
theorem pd_N46 : parseMethodDescriptor N46.desc = some ⟨[], none⟩ := by decide +kernel
theorem nh_N46 : N46.cls ≠ "java/lang/invoke/MethodHandle" ∧ N46.cls ≠ "java/lang/invoke/VarHandle" := by decide
theorem w32 : Jvm.Cond.methodLink "java/util/HashMap" (43 : Nat) N46 ∈ tables_1 := List.mem_of_getElem? (i := 32) rfl
theorem w33 : Jvm.Cond.instanceMethod N46 ∈ tables_1 := List.mem_of_getElem? (i := 33) rfl
theorem d4_4 : decode jdk_69_method_7_code 4 = .ok (.aload_n 0, 1) := by decide +kernel
theorem d4_5 : decode jdk_69_method_7_code 5 = .ok (.ldc 92, 2) := by decide +kernel
theorem w39 : Jvm.Cond.constantFloat "java/util/HashMap" (92 : Nat) (1061158912 : UInt32) ∈ tables_1 := List.mem_of_getElem? (i := 39) rfl
theorem d4_7 : decode jdk_69_method_7_code 7 = .ok (.putfield 81, 3) := by decide +kernel
theorem w40 : Jvm.Cond.fieldLink "java/util/HashMap" (81 : Nat) "java/util/HashMap" "loadFactor" "F" ∈ tables_1 := List.mem_of_getElem? (i := 40) rfl
theorem w41 : Jvm.Cond.laysFinal "java/util/LinkedHashMap" "java/util/HashMap" "loadFactor" "F" ∈ tables_1 := List.mem_of_getElem? (i := 41) rfl
theorem w21 : Jvm.Cond.instantiable "java/util/LinkedHashMap" (12 : Nat) ∈ tables_1 := List.mem_of_getElem? (i := 21) rfl
theorem w43 : Jvm.Cond.lays "java/util/LinkedHashMap" "java/util/LinkedHashMap" "putMode" "I" ∈ tables_1 := List.mem_of_getElem? (i := 43) rfl
theorem w45 : Jvm.Cond.laysFinal "java/util/LinkedHashMap" "java/util/LinkedHashMap" "accessOrder" "Z" ∈ tables_1 := List.mem_of_getElem? (i := 45) rfl
theorem d4_10 : decode jdk_69_method_7_code 10 = .ok (.return_, 1) := by decide +kernel
abbrev N48 : MethodName := ⟨"java/util/HashMap", "<init>", "()V"⟩
theorem pn_N48 : plainName N48.cls = true := by first | (simp [plainName, overriddenIn]; done) | decide +kernel

abbrev rm_hml : Room := { frames := 2, cells := 0, slots := 0, locals := 24 }
set_option maxRecDepth 65536 in
set_option maxHeartbeats 4000000 in
theorem ct_hml (l : Launch) {Z : State} {n0 : Nat} {z : Int32} {f g : Value} {dv : Addr} (W : Sx Z z f g dv) (x : Addr) (h : Heap) (A : Exa Z h x "java/util/LinkedHashMap") (G0 : Fld Z h x "java/util/HashMap" "loadFactor" "F" (.float 0)) (G1 : Fld Z h x "java/util/LinkedHashMap" "putMode" "I" (.int (0 : Int32))) (G2 : Fld Z h x "java/util/LinkedHashMap" "accessOrder" "Z" (.int (0 : Int32))) (zx : n0 ≤ x) :
    Ctr l Z n0 N48 jdk_69_method_7_code 1 none rm_hml #[(.ref x)] h [x] (fun v h' sn => v = none ∧ Keep h h' [x] ∧ Fld Z h' x "java/util/LinkedHashMap" "putMode" "I" (.int (0 : Int32)) ∧ Fld Z h' x "java/util/LinkedHashMap" "accessOrder" "Z" (.int (0 : Int32)) ∧ sn = []) := by
  refine Ctr.of_go (ls := #[.val (.ref x)]) W.1.1.1 (plainFor_of_name pn_N48) (fun m => by first | (simp [entryFrame, mkF, argsToLocals, Value.category]; done) | rfl) (fun K H => ?_)
  have KK : Keep h h [x] := Keep.refl _ _
  refine Go.aloadN H d4_0 rfl rfl rfl ?_
  refine Go.callI (rest := []) 0 [] H d4_1 rfl rfl w32 w33 w36 w37 pd_N46 (ct_ami l W x h) all0 rfl rfl rfl (Nat.le_of_eq rfl) (by decide) (by decide) (by decide) (by decide) nh_N46 ?_
  rintro _ _ _ ⟨rfl, rfl, rfl⟩
  show Go _ _ _ _ _ _ h [x] 0 0 4 #[.val (.ref x)] []
  refine Go.aloadN H d4_4 rfl rfl rfl ?_
  refine Go.ldcFloat H d4_5 rfl w39 ?_
  refine Go.putfield (v := (.float (1061158912 : UInt32))) H d4_7 rfl w40 G0 A (Or.inr ⟨w41, rfl, rfl⟩) w21 (ty := .float) (by decide) rfl rfl zx (by simp) ?_
  intro h1 Wr2
  have F3 := G0.same Wr2
  have K4 := Keep.of_wr Wr2
  replace A := A.wr Wr2
  replace G1 := G1.other Wr2 (Or.inr (own_sne W.1.1.1 (Or.inl w43) (Or.inr w41) (by decide) (t := .int) (t' := .float) (by decide) (by decide)))
  replace G2 := G2.other Wr2 (Or.inr (own_sne W.1.1.1 (Or.inr w45) (Or.inr w41) (by decide) (t := .boolean) (t' := .float) (by decide) (by decide)))
  replace KK := KK.wr Wr2 (Or.inl (by simp))
  exact Go.return_ [] H d4_10 ⟨rfl, KK, G1, G2, rfl⟩ all0 (by decide) (by decide)
theorem w52 : Jvm.Cond.laysFinal "java/util/HashMap" "java/util/HashMap" "loadFactor" "F" ∈ tables_1 := List.mem_of_getElem? (i := 52) rfl
theorem w49 : Jvm.Cond.instantiable "java/util/HashMap" (8 : Nat) ∈ tables_1 := List.mem_of_getElem? (i := 49) rfl

abbrev rm_hmh : Room := { frames := 2, cells := 0, slots := 0, locals := 24 }
set_option maxRecDepth 65536 in
set_option maxHeartbeats 4000000 in
theorem ct_hmh (l : Launch) {Z : State} {n0 : Nat} {z : Int32} {f g : Value} {dv : Addr} (W : Sx Z z f g dv) (x : Addr) (h : Heap) (A : Exa Z h x "java/util/HashMap") (G0 : Fld Z h x "java/util/HashMap" "loadFactor" "F" (.float 0)) (zx : n0 ≤ x) :
    Ctr l Z n0 N48 jdk_69_method_7_code 1 none rm_hmh #[(.ref x)] h [x] (fun v h' sn => v = none ∧ Keep h h' [x] ∧ sn = []) := by
  refine Ctr.of_go (ls := #[.val (.ref x)]) W.1.1.1 (plainFor_of_name pn_N48) (fun m => by first | (simp [entryFrame, mkF, argsToLocals, Value.category]; done) | rfl) (fun K H => ?_)
  have KK : Keep h h [x] := Keep.refl _ _
  refine Go.aloadN H d4_0 rfl rfl rfl ?_
  refine Go.callI (rest := []) 0 [] H d4_1 rfl rfl w32 w33 w36 w37 pd_N46 (ct_ami l W x h) all0 rfl rfl rfl (Nat.le_of_eq rfl) (by decide) (by decide) (by decide) (by decide) nh_N46 ?_
  rintro _ _ _ ⟨rfl, rfl, rfl⟩
  show Go _ _ _ _ _ _ h [x] 0 0 4 #[.val (.ref x)] []
  refine Go.aloadN H d4_4 rfl rfl rfl ?_
  refine Go.ldcFloat H d4_5 rfl w39 ?_
  refine Go.putfield (v := (.float (1061158912 : UInt32))) H d4_7 rfl w40 G0 A (Or.inr ⟨w52, rfl, rfl⟩) w49 (ty := .float) (by decide) rfl rfl zx (by simp) ?_
  intro h1 Wr2
  have F3 := G0.same Wr2
  have K4 := Keep.of_wr Wr2
  replace A := A.wr Wr2
  replace KK := KK.wr Wr2 (Or.inl (by simp))
  exact Go.return_ [] H d4_10 ⟨rfl, KK, rfl⟩ all0 (by decide) (by decide)
theorem d3_0 : decode jdk_94_method_16_code 0 = .ok (.aload_n 0, 1) := by decide +kernel
theorem d3_1 : decode jdk_94_method_16_code 1 = .ok (.invokespecial 87, 3) := by decide +kernel
theorem w31 : Jvm.Cond.code N48 jdk_69_method_7_code (1 : Nat) (Option.none : Option Jvm.ClassFile.FieldType) ∈ tables_1 := List.mem_of_getElem? (i := 31) rfl
theorem w30 : Jvm.Cond.initialized "java/util/HashMap" ∈ tables_1 := List.mem_of_getElem? (i := 30) rfl
theorem pd_N48 : parseMethodDescriptor N48.desc = some ⟨[], none⟩ := by decide +kernel
theorem nh_N48 : N48.cls ≠ "java/lang/invoke/MethodHandle" ∧ N48.cls ≠ "java/lang/invoke/VarHandle" := by decide
theorem w26 : Jvm.Cond.methodLink "java/util/LinkedHashMap" (87 : Nat) N48 ∈ tables_1 := List.mem_of_getElem? (i := 26) rfl
theorem w27 : Jvm.Cond.instanceMethod N48 ∈ tables_1 := List.mem_of_getElem? (i := 27) rfl
theorem d3_4 : decode jdk_94_method_16_code 4 = .ok (.aload_n 0, 1) := by decide +kernel
theorem d3_5 : decode jdk_94_method_16_code 5 = .ok (.iconst 0, 1) := by decide +kernel
theorem d3_6 : decode jdk_94_method_16_code 6 = .ok (.putfield 1, 3) := by decide +kernel
theorem w42 : Jvm.Cond.fieldLink "java/util/LinkedHashMap" (1 : Nat) "java/util/LinkedHashMap" "putMode" "I" ∈ tables_1 := List.mem_of_getElem? (i := 42) rfl
theorem d3_9 : decode jdk_94_method_16_code 9 = .ok (.aload_n 0, 1) := by decide +kernel
theorem d3_10 : decode jdk_94_method_16_code 10 = .ok (.iconst 0, 1) := by decide +kernel
theorem d3_11 : decode jdk_94_method_16_code 11 = .ok (.putfield 64, 3) := by decide +kernel
theorem w44 : Jvm.Cond.fieldLink "java/util/LinkedHashMap" (64 : Nat) "java/util/LinkedHashMap" "accessOrder" "Z" ∈ tables_1 := List.mem_of_getElem? (i := 44) rfl
theorem d3_14 : decode jdk_94_method_16_code 14 = .ok (.return_, 1) := by decide +kernel
abbrev N49 : MethodName := ⟨"java/util/LinkedHashMap", "<init>", "()V"⟩
theorem pn_N49 : plainName N49.cls = true := by first | (simp [plainName, overriddenIn]; done) | decide +kernel

abbrev rm_lhm : Room := { frames := 3, cells := 0, slots := 0, locals := 36 }
set_option maxRecDepth 65536 in
set_option maxHeartbeats 4000000 in
theorem ct_lhm (l : Launch) {Z : State} {n0 : Nat} {z : Int32} {f g : Value} {dv : Addr} (W : Sx Z z f g dv) (x : Addr) (h : Heap) (A : Exa Z h x "java/util/LinkedHashMap") (G0 : Fld Z h x "java/util/HashMap" "loadFactor" "F" (.float 0)) (G1 : Fld Z h x "java/util/LinkedHashMap" "putMode" "I" (.int (0 : Int32))) (G2 : Fld Z h x "java/util/LinkedHashMap" "accessOrder" "Z" (.int (0 : Int32))) (zx : n0 ≤ x) :
    Ctr l Z n0 N49 jdk_94_method_16_code 1 none rm_lhm #[(.ref x)] h [x] (fun v h' sn => v = none ∧ Keep h h' [x] ∧ sn = []) := by
  refine Ctr.of_go (ls := #[.val (.ref x)]) W.1.1.1 (plainFor_of_name pn_N49) (fun m => by first | (simp [entryFrame, mkF, argsToLocals, Value.category]; done) | rfl) (fun K H => ?_)
  have KK : Keep h h [x] := Keep.refl _ _
  refine Go.aloadN H d3_0 rfl rfl rfl ?_
  refine Go.callI (rest := []) 0 [] H d3_1 rfl rfl w26 w27 w30 w31 pd_N48 (ct_hml l W x h A G0 G1 G2 zx) (by simp) rfl rfl rfl (Nat.le_of_eq rfl) (by decide) (by decide) (by decide) (by decide) nh_N48 ?_
  rintro _ h1 _ ⟨rfl, K2, F3, F4, rfl⟩
  replace A := A.keep K2
  replace KK := KK.trans K2 (allS (Or.inl (by simp)) all0)
  show Go _ _ _ _ _ _ h1 [x] 0 0 4 #[.val (.ref x)] []
  refine Go.aloadN H d3_4 rfl rfl rfl ?_
  refine Go.iconst (0 : Int32) H d3_5 rfl rfl ?_
  refine Go.putfield (v := (.int (0 : Int32))) H d3_6 rfl w42 F3 A (Or.inl w43) w21 (ty := .int) (by decide) rfl rfl zx (by simp) ?_
  intro h5 Wr6
  have F7 := F3.same Wr6
  have K8 := Keep.of_wr Wr6
  replace A := A.wr Wr6
  replace F4 := F4.other Wr6 (Or.inr (own_sne W.1.1.1 (Or.inr w45) (Or.inl w43) (by decide) (t := .boolean) (t' := .int) (by decide) (by decide)))
  replace KK := KK.wr Wr6 (Or.inl (by simp))
  refine Go.aloadN H d3_9 rfl rfl rfl ?_
  refine Go.iconst (0 : Int32) H d3_10 rfl rfl ?_
  refine Go.putfield (v := (.int (0 : Int32))) H d3_11 rfl w44 F4 A (Or.inr ⟨w45, rfl, rfl⟩) w21 (ty := .boolean) (by decide) (by decide) (by decide) zx (by simp) ?_
  intro h9 Wr10
  have F11 := F4.same Wr10
  have K12 := Keep.of_wr Wr10
  replace A := A.wr Wr10
  replace F7 := F7.other Wr10 (Or.inr (own_sne W.1.1.1 (Or.inl w43) (Or.inr w45) (by decide) (t := .int) (t' := .boolean) (by decide) (by decide)))
  replace KK := KK.wr Wr10 (Or.inl (by simp))
  exact Go.return_ [] H d3_14 ⟨rfl, KK, rfl⟩ all0 (by decide) (by decide)
theorem d7_0 : decode jdk_39_method_1_code 0 = .ok (.aload_n 0, 1) := by decide +kernel
theorem d7_1 : decode jdk_39_method_1_code 1 = .ok (.invokespecial 1, 3) := by decide +kernel
theorem w72 : Jvm.Cond.code N47 jdk_22_method_1_code (1 : Nat) (Option.none : Option Jvm.ClassFile.FieldType) ∈ tables_1 := List.mem_of_getElem? (i := 72) rfl
theorem w71 : Jvm.Cond.initialized "java/util/AbstractCollection" ∈ tables_1 := List.mem_of_getElem? (i := 71) rfl
theorem pd_N47 : parseMethodDescriptor N47.desc = some ⟨[], none⟩ := by decide +kernel
theorem nh_N47 : N47.cls ≠ "java/lang/invoke/MethodHandle" ∧ N47.cls ≠ "java/lang/invoke/VarHandle" := by decide
theorem w67 : Jvm.Cond.methodLink "java/util/AbstractList" (1 : Nat) N47 ∈ tables_1 := List.mem_of_getElem? (i := 67) rfl
theorem w68 : Jvm.Cond.instanceMethod N47 ∈ tables_1 := List.mem_of_getElem? (i := 68) rfl
theorem d7_4 : decode jdk_39_method_1_code 4 = .ok (.aload_n 0, 1) := by decide +kernel
theorem d7_5 : decode jdk_39_method_1_code 5 = .ok (.iconst 0, 1) := by decide +kernel
theorem d7_6 : decode jdk_39_method_1_code 6 = .ok (.putfield 7, 3) := by decide +kernel
theorem w74 : Jvm.Cond.fieldLink "java/util/AbstractList" (7 : Nat) "java/util/AbstractList" "modCount" "I" ∈ tables_1 := List.mem_of_getElem? (i := 74) rfl
theorem w75 : Jvm.Cond.lays "java/util/ArrayList" "java/util/AbstractList" "modCount" "I" ∈ tables_1 := List.mem_of_getElem? (i := 75) rfl
theorem w56 : Jvm.Cond.instantiable "java/util/ArrayList" (3 : Nat) ∈ tables_1 := List.mem_of_getElem? (i := 56) rfl
theorem w78 : Jvm.Cond.lays "java/util/ArrayList" "java/util/ArrayList" "elementData" "[Ljava/lang/Object;" ∈ tables_1 := List.mem_of_getElem? (i := 78) rfl
theorem d7_9 : decode jdk_39_method_1_code 9 = .ok (.return_, 1) := by decide +kernel
abbrev N50 : MethodName := ⟨"java/util/AbstractList", "<init>", "()V"⟩
theorem pn_N50 : plainName N50.cls = true := by first | (simp [plainName, overriddenIn]; done) | decide +kernel

abbrev rm_abl : Room := { frames := 2, cells := 0, slots := 0, locals := 24 }
set_option maxRecDepth 65536 in
set_option maxHeartbeats 4000000 in
theorem ct_abl (l : Launch) {Z : State} {n0 : Nat} {z : Int32} {f g : Value} {dv : Addr} (W : Sx Z z f g dv) (x : Addr) (h : Heap) (A : Exa Z h x "java/util/ArrayList") (G0 : Fld Z h x "java/util/AbstractList" "modCount" "I" (.int (0 : Int32))) (G1 : Fld Z h x "java/util/ArrayList" "elementData" "[Ljava/lang/Object;" .null) (zx : n0 ≤ x) :
    Ctr l Z n0 N50 jdk_39_method_1_code 1 none rm_abl #[(.ref x)] h [x] (fun v h' sn => v = none ∧ Keep h h' [x] ∧ Fld Z h' x "java/util/ArrayList" "elementData" "[Ljava/lang/Object;" .null ∧ sn = []) := by
  refine Ctr.of_go (ls := #[.val (.ref x)]) W.1.1.1 (plainFor_of_name pn_N50) (fun m => by first | (simp [entryFrame, mkF, argsToLocals, Value.category]; done) | rfl) (fun K H => ?_)
  have KK : Keep h h [x] := Keep.refl _ _
  refine Go.aloadN H d7_0 rfl rfl rfl ?_
  refine Go.callI (rest := []) 0 [] H d7_1 rfl rfl w67 w68 w71 w72 pd_N47 (ct_aci l W x h) all0 rfl rfl rfl (Nat.le_of_eq rfl) (by decide) (by decide) (by decide) (by decide) nh_N47 ?_
  rintro _ _ _ ⟨rfl, rfl, rfl⟩
  show Go _ _ _ _ _ _ h [x] 0 0 4 #[.val (.ref x)] []
  refine Go.aloadN H d7_4 rfl rfl rfl ?_
  refine Go.iconst (0 : Int32) H d7_5 rfl rfl ?_
  refine Go.putfield (v := (.int (0 : Int32))) H d7_6 rfl w74 G0 A (Or.inl w75) w56 (ty := .int) (by decide) rfl rfl zx (by simp) ?_
  intro h1 Wr2
  have F3 := G0.same Wr2
  have K4 := Keep.of_wr Wr2
  replace A := A.wr Wr2
  replace G1 := G1.other Wr2 (Or.inr (own_sne W.1.1.1 (Or.inl w78) (Or.inl w75) (by decide) (t := (.array (.object "java/lang/Object"))) (t' := .int) (by decide) (by decide)))
  replace KK := KK.wr Wr2 (Or.inl (by simp))
  exact Go.return_ [] H d7_9 ⟨rfl, KK, G1, rfl⟩ all0 (by decide) (by decide)
theorem d6_0 : decode jdk_38_method_2_code 0 = .ok (.aload_n 0, 1) := by decide +kernel
theorem d6_1 : decode jdk_38_method_2_code 1 = .ok (.invokespecial 1, 3) := by decide +kernel
theorem w66 : Jvm.Cond.code N50 jdk_39_method_1_code (1 : Nat) (Option.none : Option Jvm.ClassFile.FieldType) ∈ tables_1 := List.mem_of_getElem? (i := 66) rfl
theorem w65 : Jvm.Cond.initialized "java/util/AbstractList" ∈ tables_1 := List.mem_of_getElem? (i := 65) rfl
theorem pd_N50 : parseMethodDescriptor N50.desc = some ⟨[], none⟩ := by decide +kernel
theorem nh_N50 : N50.cls ≠ "java/lang/invoke/MethodHandle" ∧ N50.cls ≠ "java/lang/invoke/VarHandle" := by decide
theorem w61 : Jvm.Cond.methodLink "java/util/ArrayList" (1 : Nat) N50 ∈ tables_1 := List.mem_of_getElem? (i := 61) rfl
theorem w62 : Jvm.Cond.instanceMethod N50 ∈ tables_1 := List.mem_of_getElem? (i := 62) rfl
theorem d6_4 : decode jdk_38_method_2_code 4 = .ok (.aload_n 0, 1) := by decide +kernel
theorem d6_5 : decode jdk_38_method_2_code 5 = .ok (.getstatic 39, 3) := by decide +kernel
theorem w76 : Jvm.Cond.fieldLink "java/util/ArrayList" (39 : Nat) "java/util/ArrayList" "DEFAULTCAPACITY_EMPTY_ELEMENTDATA" "[Ljava/lang/Object;" ∈ tables_1 := List.mem_of_getElem? (i := 76) rfl
theorem d6_8 : decode jdk_38_method_2_code 8 = .ok (.putfield 9, 3) := by decide +kernel
theorem w77 : Jvm.Cond.fieldLink "java/util/ArrayList" (9 : Nat) "java/util/ArrayList" "elementData" "[Ljava/lang/Object;" ∈ tables_1 := List.mem_of_getElem? (i := 77) rfl
theorem d6_11 : decode jdk_38_method_2_code 11 = .ok (.return_, 1) := by decide +kernel
abbrev N51 : MethodName := ⟨"java/util/ArrayList", "<init>", "()V"⟩
theorem pn_N51 : plainName N51.cls = true := by first | (simp [plainName, overriddenIn]; done) | decide +kernel

abbrev rm_arl : Room := { frames := 3, cells := 0, slots := 0, locals := 36 }
set_option maxRecDepth 65536 in
set_option maxHeartbeats 4000000 in
theorem ct_arl (l : Launch) {Z : State} {n0 : Nat} {z : Int32} {f g : Value} {dv : Addr} (W : Sx Z z f g dv) (x : Addr) (h : Heap) (A : Exa Z h x "java/util/ArrayList") (G0 : Fld Z h x "java/util/AbstractList" "modCount" "I" (.int (0 : Int32))) (G1 : Fld Z h x "java/util/ArrayList" "elementData" "[Ljava/lang/Object;" .null) (zx : n0 ≤ x) :
    Ctr l Z n0 N51 jdk_38_method_2_code 1 none rm_arl #[(.ref x)] h [x] (fun v h' sn => v = none ∧ Keep h h' [x] ∧ sn = []) := by
  refine Ctr.of_go (ls := #[.val (.ref x)]) W.1.1.1 (plainFor_of_name pn_N51) (fun m => by first | (simp [entryFrame, mkF, argsToLocals, Value.category]; done) | rfl) (fun K H => ?_)
  have KK : Keep h h [x] := Keep.refl _ _
  refine Go.aloadN H d6_0 rfl rfl rfl ?_
  refine Go.callI (rest := []) 0 [] H d6_1 rfl rfl w61 w62 w65 w66 pd_N50 (ct_abl l W x h A G0 G1 zx) (by simp) rfl rfl rfl (Nat.le_of_eq rfl) (by decide) (by decide) (by decide) (by decide) nh_N50 ?_
  rintro _ h1 _ ⟨rfl, K2, F3, rfl⟩
  replace A := A.keep K2
  replace KK := KK.trans K2 (allS (Or.inl (by simp)) all0)
  show Go _ _ _ _ _ _ h1 [x] 0 0 4 #[.val (.ref x)] []
  refine Go.aloadN H d6_4 rfl rfl rfl ?_
  refine Go.getstatic H d6_5 rfl w76 W.2.2.2 ?_
  refine Go.putfield (v := (.ref dv)) H d6_8 rfl w77 F3 A (Or.inl w78) w56 (ty := (.array (.object "java/lang/Object"))) (by decide) rfl rfl zx (by simp) ?_
  intro h4 Wr5
  have F6 := F3.same Wr5
  have K7 := Keep.of_wr Wr5
  replace A := A.wr Wr5
  replace KK := KK.wr Wr5 (Or.inl (by simp))
  exact Go.return_ [] H d6_11 ⟨rfl, KK, rfl⟩ all0 (by decide) (by decide)
theorem d1_0 : decode prog_41_method_1_code 0 = .ok (.aload_n 0, 1) := by decide +kernel
theorem d1_1 : decode prog_41_method_1_code 1 = .ok (.invokespecial 1, 3) := by decide +kernel
theorem w17 : Jvm.Cond.methodLink "com/example/autowire/autowire/xml/XmlElement" (1 : Nat) N16 ∈ tables_1 := List.mem_of_getElem? (i := 17) rfl
theorem d1_4 : decode prog_41_method_1_code 4 = .ok (.aload_n 0, 1) := by decide +kernel
theorem d1_5 : decode prog_41_method_1_code 5 = .ok (.new 7, 3) := by decide +kernel
theorem w20 : Jvm.Cond.classLink "com/example/autowire/autowire/xml/XmlElement" (7 : Nat) "java/util/LinkedHashMap" ∈ tables_1 := List.mem_of_getElem? (i := 20) rfl
theorem w22 : Jvm.Cond.initialized "java/util/LinkedHashMap" ∈ tables_1 := List.mem_of_getElem? (i := 22) rfl
theorem d1_8 : decode prog_41_method_1_code 8 = .ok (.dup, 1) := by decide +kernel
theorem d1_9 : decode prog_41_method_1_code 9 = .ok (.invokespecial 9, 3) := by decide +kernel
theorem w25 : Jvm.Cond.code N49 jdk_94_method_16_code (1 : Nat) (Option.none : Option Jvm.ClassFile.FieldType) ∈ tables_1 := List.mem_of_getElem? (i := 25) rfl
theorem pd_N49 : parseMethodDescriptor N49.desc = some ⟨[], none⟩ := by decide +kernel
theorem nh_N49 : N49.cls ≠ "java/lang/invoke/MethodHandle" ∧ N49.cls ≠ "java/lang/invoke/VarHandle" := by decide
theorem w23 : Jvm.Cond.methodLink "com/example/autowire/autowire/xml/XmlElement" (9 : Nat) N49 ∈ tables_1 := List.mem_of_getElem? (i := 23) rfl
theorem w24 : Jvm.Cond.instanceMethod N49 ∈ tables_1 := List.mem_of_getElem? (i := 24) rfl
theorem d1_12 : decode prog_41_method_1_code 12 = .ok (.putfield 10, 3) := by decide +kernel
theorem w46 : Jvm.Cond.fieldLink "com/example/autowire/autowire/xml/XmlElement" (10 : Nat) "com/example/autowire/autowire/xml/XmlElement" "attributes" "Ljava/util/Map;" ∈ tables_1 := List.mem_of_getElem? (i := 46) rfl
theorem w47 : Jvm.Cond.laysFinal "com/example/autowire/autowire/xml/XmlElement" "com/example/autowire/autowire/xml/XmlElement" "attributes" "Ljava/util/Map;" ∈ tables_1 := List.mem_of_getElem? (i := 47) rfl
theorem w4 : Jvm.Cond.instantiable "com/example/autowire/autowire/xml/XmlElement" (6 : Nat) ∈ tables_1 := List.mem_of_getElem? (i := 4) rfl
theorem w54 : Jvm.Cond.laysFinal "com/example/autowire/autowire/xml/XmlElement" "com/example/autowire/autowire/xml/XmlElement" "namespaces" "Ljava/util/Map;" ∈ tables_1 := List.mem_of_getElem? (i := 54) rfl
theorem w80 : Jvm.Cond.laysFinal "com/example/autowire/autowire/xml/XmlElement" "com/example/autowire/autowire/xml/XmlElement" "children" "Ljava/util/List;" ∈ tables_1 := List.mem_of_getElem? (i := 80) rfl
theorem w100 : Jvm.Cond.laysFinal "com/example/autowire/autowire/xml/XmlElement" "com/example/autowire/autowire/xml/XmlElement" "text" "Ljava/lang/StringBuilder;" ∈ tables_1 := List.mem_of_getElem? (i := 100) rfl
theorem w102 : Jvm.Cond.laysFinal "com/example/autowire/autowire/xml/XmlElement" "com/example/autowire/autowire/xml/XmlElement" "name" "Ljava/lang/String;" ∈ tables_1 := List.mem_of_getElem? (i := 102) rfl
theorem w104 : Jvm.Cond.laysFinal "com/example/autowire/autowire/xml/XmlElement" "com/example/autowire/autowire/xml/XmlElement" "line" "I" ∈ tables_1 := List.mem_of_getElem? (i := 104) rfl
theorem d1_15 : decode prog_41_method_1_code 15 = .ok (.aload_n 0, 1) := by decide +kernel
theorem d1_16 : decode prog_41_method_1_code 16 = .ok (.new 16, 3) := by decide +kernel
theorem w48 : Jvm.Cond.classLink "com/example/autowire/autowire/xml/XmlElement" (16 : Nat) "java/util/HashMap" ∈ tables_1 := List.mem_of_getElem? (i := 48) rfl
theorem d1_19 : decode prog_41_method_1_code 19 = .ok (.dup, 1) := by decide +kernel
theorem d1_20 : decode prog_41_method_1_code 20 = .ok (.invokespecial 18, 3) := by decide +kernel
theorem w50 : Jvm.Cond.methodLink "com/example/autowire/autowire/xml/XmlElement" (18 : Nat) N48 ∈ tables_1 := List.mem_of_getElem? (i := 50) rfl
theorem d1_23 : decode prog_41_method_1_code 23 = .ok (.putfield 19, 3) := by decide +kernel
theorem w53 : Jvm.Cond.fieldLink "com/example/autowire/autowire/xml/XmlElement" (19 : Nat) "com/example/autowire/autowire/xml/XmlElement" "namespaces" "Ljava/util/Map;" ∈ tables_1 := List.mem_of_getElem? (i := 53) rfl
theorem d1_26 : decode prog_41_method_1_code 26 = .ok (.aload_n 0, 1) := by decide +kernel
theorem d1_27 : decode prog_41_method_1_code 27 = .ok (.new 22, 3) := by decide +kernel
theorem w55 : Jvm.Cond.classLink "com/example/autowire/autowire/xml/XmlElement" (22 : Nat) "java/util/ArrayList" ∈ tables_1 := List.mem_of_getElem? (i := 55) rfl
theorem w57 : Jvm.Cond.initialized "java/util/ArrayList" ∈ tables_1 := List.mem_of_getElem? (i := 57) rfl
theorem d1_30 : decode prog_41_method_1_code 30 = .ok (.dup, 1) := by decide +kernel
theorem d1_31 : decode prog_41_method_1_code 31 = .ok (.invokespecial 24, 3) := by decide +kernel
theorem w60 : Jvm.Cond.code N51 jdk_38_method_2_code (1 : Nat) (Option.none : Option Jvm.ClassFile.FieldType) ∈ tables_1 := List.mem_of_getElem? (i := 60) rfl
theorem pd_N51 : parseMethodDescriptor N51.desc = some ⟨[], none⟩ := by decide +kernel
theorem nh_N51 : N51.cls ≠ "java/lang/invoke/MethodHandle" ∧ N51.cls ≠ "java/lang/invoke/VarHandle" := by decide
theorem w58 : Jvm.Cond.methodLink "com/example/autowire/autowire/xml/XmlElement" (24 : Nat) N51 ∈ tables_1 := List.mem_of_getElem? (i := 58) rfl
theorem w59 : Jvm.Cond.instanceMethod N51 ∈ tables_1 := List.mem_of_getElem? (i := 59) rfl
theorem d1_34 : decode prog_41_method_1_code 34 = .ok (.putfield 25, 3) := by decide +kernel
theorem w79 : Jvm.Cond.fieldLink "com/example/autowire/autowire/xml/XmlElement" (25 : Nat) "com/example/autowire/autowire/xml/XmlElement" "children" "Ljava/util/List;" ∈ tables_1 := List.mem_of_getElem? (i := 79) rfl
theorem d1_37 : decode prog_41_method_1_code 37 = .ok (.aload_n 0, 1) := by decide +kernel
theorem d1_38 : decode prog_41_method_1_code 38 = .ok (.new 29, 3) := by decide +kernel
theorem w81 : Jvm.Cond.classLink "com/example/autowire/autowire/xml/XmlElement" (29 : Nat) "java/lang/StringBuilder" ∈ tables_1 := List.mem_of_getElem? (i := 81) rfl
theorem d1_41 : decode prog_41_method_1_code 41 = .ok (.dup, 1) := by decide +kernel
theorem d1_42 : decode prog_41_method_1_code 42 = .ok (.invokespecial 31, 3) := by decide +kernel
theorem w86 : Jvm.Cond.code N18 jdk_67_method_1_code (1 : Nat) (Option.none : Option Jvm.ClassFile.FieldType) ∈ tables_1 := List.mem_of_getElem? (i := 86) rfl
theorem pd_N18 : parseMethodDescriptor N18.desc = some ⟨[], none⟩ := by decide +kernel
theorem nh_N18 : N18.cls ≠ "java/lang/invoke/MethodHandle" ∧ N18.cls ≠ "java/lang/invoke/VarHandle" := by decide
theorem w84 : Jvm.Cond.methodLink "com/example/autowire/autowire/xml/XmlElement" (31 : Nat) N18 ∈ tables_1 := List.mem_of_getElem? (i := 84) rfl
theorem w85 : Jvm.Cond.instanceMethod N18 ∈ tables_1 := List.mem_of_getElem? (i := 85) rfl
theorem d1_45 : decode prog_41_method_1_code 45 = .ok (.putfield 32, 3) := by decide +kernel
theorem w99 : Jvm.Cond.fieldLink "com/example/autowire/autowire/xml/XmlElement" (32 : Nat) "com/example/autowire/autowire/xml/XmlElement" "text" "Ljava/lang/StringBuilder;" ∈ tables_1 := List.mem_of_getElem? (i := 99) rfl
theorem d1_48 : decode prog_41_method_1_code 48 = .ok (.aload_n 0, 1) := by decide +kernel
theorem d1_49 : decode prog_41_method_1_code 49 = .ok (.aload_n 1, 1) := by decide +kernel
theorem d1_50 : decode prog_41_method_1_code 50 = .ok (.putfield 36, 3) := by decide +kernel
theorem w101 : Jvm.Cond.fieldLink "com/example/autowire/autowire/xml/XmlElement" (36 : Nat) "com/example/autowire/autowire/xml/XmlElement" "name" "Ljava/lang/String;" ∈ tables_1 := List.mem_of_getElem? (i := 101) rfl
theorem d1_53 : decode prog_41_method_1_code 53 = .ok (.aload_n 0, 1) := by decide +kernel
theorem d1_54 : decode prog_41_method_1_code 54 = .ok (.iload_n 2, 1) := by decide +kernel
theorem d1_55 : decode prog_41_method_1_code 55 = .ok (.putfield 40, 3) := by decide +kernel
theorem w103 : Jvm.Cond.fieldLink "com/example/autowire/autowire/xml/XmlElement" (40 : Nat) "com/example/autowire/autowire/xml/XmlElement" "line" "I" ∈ tables_1 := List.mem_of_getElem? (i := 103) rfl
theorem d1_58 : decode prog_41_method_1_code 58 = .ok (.return_, 1) := by decide +kernel
abbrev N52 : MethodName := ⟨"com/example/autowire/autowire/xml/XmlElement", "<init>", "(Ljava/lang/String;I)V"⟩
theorem pn_N52 : plainName N52.cls = true := by first | (simp [plainName, overriddenIn]; done) | decide +kernel

abbrev rm_xei : Room := { frames := 4, cells := 5, slots := 43, locals := 50 }
set_option maxRecDepth 65536 in
set_option maxHeartbeats 4000000 in
theorem ct_xei (l : Launch) {Z : State} {n0 : Nat} {z : Int32} {f g : Value} {dv : Addr} (W : Sx Z z f g dv) (x nm : Addr) (h : Heap) (A : Exa Z h x "com/example/autowire/autowire/xml/XmlElement") (G0 : Fld Z h x "com/example/autowire/autowire/xml/XmlElement" "attributes" "Ljava/util/Map;" .null) (G1 : Fld Z h x "com/example/autowire/autowire/xml/XmlElement" "namespaces" "Ljava/util/Map;" .null) (G2 : Fld Z h x "com/example/autowire/autowire/xml/XmlElement" "children" "Ljava/util/List;" .null) (G3 : Fld Z h x "com/example/autowire/autowire/xml/XmlElement" "text" "Ljava/lang/StringBuilder;" .null) (G4 : Fld Z h x "com/example/autowire/autowire/xml/XmlElement" "name" "Ljava/lang/String;" .null) (G5 : Fld Z h x "com/example/autowire/autowire/xml/XmlElement" "line" "I" (.int (0 : Int32))) (zx : n0 ≤ x) :
    Ctr l Z n0 N52 prog_41_method_1_code 3 none rm_xei #[(.ref x), (.ref nm), (.int (0 : Int32))] h [x] (fun v h' sn => v = none ∧ Keep h h' [x] ∧ ∃ t b, h.size ≤ t ∧ h.size ≤ b ∧ n0 ≤ t ∧ n0 ≤ b ∧ Fld Z h' x "com/example/autowire/autowire/xml/XmlElement" "text" "Ljava/lang/StringBuilder;" (.ref t) ∧ Sbg Z h' t b 16 [] ∧ sn = [t, b]) := by
  refine Ctr.of_go (ls := #[.val (.ref x), .val (.ref nm), .val (.int (0 : Int32))]) W.1.1.1 (plainFor_of_name pn_N52) (fun m => by first | (simp [entryFrame, mkF, argsToLocals, Value.category]; done) | rfl) (fun K H => ?_)
  have KK : Keep h h [x] := Keep.refl _ _
  refine Go.aloadN H d1_0 rfl rfl rfl ?_
  refine Go.initObj H d1_1 rfl w17 w18 w19 0 rfl (Nat.le_of_eq rfl) (by decide) (by decide) ?_
  refine Go.aloadN H d1_4 rfl rfl rfl ?_
  refine Go.new H d1_5 rfl w20 w21 w22 (by decide) (by decide) ?_
  intro a1 h2 g3 z4 E5 A6 D7
  have ne8 : x ≠ a1 := Nat.ne_of_lt (Nat.lt_of_lt_of_le A.lt (Nat.le_of_eq g3.symm))
  have sz9 := Nat.le_trans KK.1 (Nat.le_of_eq g3.symm)
  replace A := A.ext E5
  replace G0 := G0.ext E5
  replace G1 := G1.ext E5
  replace G2 := G2.ext E5
  replace G3 := G3.ext E5
  replace G4 := G4.ext E5
  replace G5 := G5.ext E5
  replace KK := KK.ext E5
  have F10 : Fld Z h2 a1 "java/util/HashMap" "loadFactor" "F" (.float 0) := D7 (Or.inr w41) (ty := .float) (by decide)
  have F11 : Fld Z h2 a1 "java/util/LinkedHashMap" "putMode" "I" (.int (0 : Int32)) := D7 (Or.inl w43) (ty := .int) (by decide)
  have F12 : Fld Z h2 a1 "java/util/LinkedHashMap" "accessOrder" "Z" (.int (0 : Int32)) := D7 (Or.inr w45) (ty := .boolean) (by decide)
  show Go _ _ _ _ _ _ h2 [a1, x] 1 12 8 #[.val (.ref x), .val (.ref nm), .val (.int (0 : Int32))] [(.ref a1), (.ref x)]
  refine Go.dup H d1_8 rfl rfl ?_
  refine Go.callI (rest := [(.ref a1), (.ref x)]) 2 [] H d1_9 rfl rfl w23 w24 w22 w25 pd_N49 (ct_lhm l W a1 h2 A6 F10 F11 F12 z4) (by simp) rfl rfl rfl (Nat.le_of_eq rfl) (by decide) (by decide) (by decide) (by decide) nh_N49 ?_
  rintro _ h13 _ ⟨rfl, K14, rfl⟩
  replace A := A.keep K14
  replace G0 := G0.keep K14 (ninS ne8 nin0)
  replace G1 := G1.keep K14 (ninS ne8 nin0)
  replace G2 := G2.keep K14 (ninS ne8 nin0)
  replace G3 := G3.keep K14 (ninS ne8 nin0)
  replace G4 := G4.keep K14 (ninS ne8 nin0)
  replace G5 := G5.keep K14 (ninS ne8 nin0)
  replace A6 := A6.keep K14
  replace KK := KK.trans K14 (allS (Or.inr sz9) all0)
  show Go _ _ _ _ _ _ h13 [a1, x] 1 12 12 #[.val (.ref x), .val (.ref nm), .val (.int (0 : Int32))] [(.ref a1), (.ref x)]
  refine Go.putfield (v := (.ref a1)) H d1_12 rfl w46 G0 A (Or.inr ⟨w47, rfl, rfl⟩) w4 (ty := (.object "java/util/Map")) (by decide) rfl rfl zx (by simp) ?_
  intro h15 Wr16
  have F17 := G0.same Wr16
  have K18 := Keep.of_wr Wr16
  replace A := A.wr Wr16
  replace G1 := G1.other Wr16 (Or.inr (own_sne W.1.1.1 (Or.inr w54) (Or.inr w47) (by decide) (t := (.object "java/util/Map")) (t' := (.object "java/util/Map")) (by decide) (by decide)))
  replace G2 := G2.other Wr16 (Or.inr (own_sne W.1.1.1 (Or.inr w80) (Or.inr w47) (by decide) (t := (.object "java/util/List")) (t' := (.object "java/util/Map")) (by decide) (by decide)))
  replace G3 := G3.other Wr16 (Or.inr (own_sne W.1.1.1 (Or.inr w100) (Or.inr w47) (by decide) (t := (.object "java/lang/StringBuilder")) (t' := (.object "java/util/Map")) (by decide) (by decide)))
  replace G4 := G4.other Wr16 (Or.inr (own_sne W.1.1.1 (Or.inr w102) (Or.inr w47) (by decide) (t := (.object "java/lang/String")) (t' := (.object "java/util/Map")) (by decide) (by decide)))
  replace G5 := G5.other Wr16 (Or.inr (own_sne W.1.1.1 (Or.inr w104) (Or.inr w47) (by decide) (t := .int) (t' := (.object "java/util/Map")) (by decide) (by decide)))
  replace A6 := A6.wr Wr16
  replace KK := KK.wr Wr16 (Or.inl (by simp))
  refine Go.aloadN H d1_15 rfl rfl rfl ?_
  refine Go.new H d1_16 rfl w48 w49 w30 (by decide) (by decide) ?_
  intro a19 h20 g21 z22 E23 A24 D25
  have ne26 : x ≠ a19 := Nat.ne_of_lt (Nat.lt_of_lt_of_le A.lt (Nat.le_of_eq g21.symm))
  have ne27 : a1 ≠ a19 := Nat.ne_of_lt (Nat.lt_of_lt_of_le A6.lt (Nat.le_of_eq g21.symm))
  have sz28 := Nat.le_trans KK.1 (Nat.le_of_eq g21.symm)
  replace A := A.ext E23
  replace G1 := G1.ext E23
  replace G2 := G2.ext E23
  replace G3 := G3.ext E23
  replace G4 := G4.ext E23
  replace G5 := G5.ext E23
  replace A6 := A6.ext E23
  replace F17 := F17.ext E23
  replace KK := KK.ext E23
  have F29 : Fld Z h20 a19 "java/util/HashMap" "loadFactor" "F" (.float 0) := D25 (Or.inr w52) (ty := .float) (by decide)
  show Go _ _ _ _ _ _ h20 [a19, a1, x] 2 20 19 #[.val (.ref x), .val (.ref nm), .val (.int (0 : Int32))] [(.ref a19), (.ref x)]
  refine Go.dup H d1_19 rfl rfl ?_
  refine Go.callI (rest := [(.ref a19), (.ref x)]) 2 [] H d1_20 rfl rfl w50 w27 w30 w31 pd_N48 (ct_hmh l W a19 h20 A24 F29 z22) (by simp) rfl rfl rfl (Nat.le_of_eq rfl) (by decide) (by decide) (by decide) (by decide) nh_N48 ?_
  rintro _ h30 _ ⟨rfl, K31, rfl⟩
  replace A := A.keep K31
  replace G1 := G1.keep K31 (ninS ne26 nin0)
  replace G2 := G2.keep K31 (ninS ne26 nin0)
  replace G3 := G3.keep K31 (ninS ne26 nin0)
  replace G4 := G4.keep K31 (ninS ne26 nin0)
  replace G5 := G5.keep K31 (ninS ne26 nin0)
  replace A6 := A6.keep K31
  replace F17 := F17.keep K31 (ninS ne26 nin0)
  replace A24 := A24.keep K31
  replace KK := KK.trans K31 (allS (Or.inr sz28) all0)
  show Go _ _ _ _ _ _ h30 [a19, a1, x] 2 20 23 #[.val (.ref x), .val (.ref nm), .val (.int (0 : Int32))] [(.ref a19), (.ref x)]
  refine Go.putfield (v := (.ref a19)) H d1_23 rfl w53 G1 A (Or.inr ⟨w54, rfl, rfl⟩) w4 (ty := (.object "java/util/Map")) (by decide) rfl rfl zx (by simp) ?_
  intro h32 Wr33
  have F34 := G1.same Wr33
  have K35 := Keep.of_wr Wr33
  replace A := A.wr Wr33
  replace G2 := G2.other Wr33 (Or.inr (own_sne W.1.1.1 (Or.inr w80) (Or.inr w54) (by decide) (t := (.object "java/util/List")) (t' := (.object "java/util/Map")) (by decide) (by decide)))
  replace G3 := G3.other Wr33 (Or.inr (own_sne W.1.1.1 (Or.inr w100) (Or.inr w54) (by decide) (t := (.object "java/lang/StringBuilder")) (t' := (.object "java/util/Map")) (by decide) (by decide)))
  replace G4 := G4.other Wr33 (Or.inr (own_sne W.1.1.1 (Or.inr w102) (Or.inr w54) (by decide) (t := (.object "java/lang/String")) (t' := (.object "java/util/Map")) (by decide) (by decide)))
  replace G5 := G5.other Wr33 (Or.inr (own_sne W.1.1.1 (Or.inr w104) (Or.inr w54) (by decide) (t := .int) (t' := (.object "java/util/Map")) (by decide) (by decide)))
  replace A6 := A6.wr Wr33
  replace F17 := F17.other Wr33 (Or.inr (own_sne W.1.1.1 (Or.inr w47) (Or.inr w54) (by decide) (t := (.object "java/util/Map")) (t' := (.object "java/util/Map")) (by decide) (by decide)))
  replace A24 := A24.wr Wr33
  replace KK := KK.wr Wr33 (Or.inl (by simp))
  refine Go.aloadN H d1_26 rfl rfl rfl ?_
  refine Go.new H d1_27 rfl w55 w56 w57 (by decide) (by decide) ?_
  intro a36 h37 g38 z39 E40 A41 D42
  have ne43 : x ≠ a36 := Nat.ne_of_lt (Nat.lt_of_lt_of_le A.lt (Nat.le_of_eq g38.symm))
  have ne44 : a1 ≠ a36 := Nat.ne_of_lt (Nat.lt_of_lt_of_le A6.lt (Nat.le_of_eq g38.symm))
  have ne45 : a19 ≠ a36 := Nat.ne_of_lt (Nat.lt_of_lt_of_le A24.lt (Nat.le_of_eq g38.symm))
  have sz46 := Nat.le_trans KK.1 (Nat.le_of_eq g38.symm)
  replace A := A.ext E40
  replace G2 := G2.ext E40
  replace G3 := G3.ext E40
  replace G4 := G4.ext E40
  replace G5 := G5.ext E40
  replace A6 := A6.ext E40
  replace F17 := F17.ext E40
  replace A24 := A24.ext E40
  replace F34 := F34.ext E40
  replace KK := KK.ext E40
  have F47 : Fld Z h37 a36 "java/util/AbstractList" "modCount" "I" (.int (0 : Int32)) := D42 (Or.inl w75) (ty := .int) (by decide)
  have F48 : Fld Z h37 a36 "java/util/ArrayList" "elementData" "[Ljava/lang/Object;" .null := D42 (Or.inl w78) (ty := (.array (.object "java/lang/Object"))) (by decide)
  show Go _ _ _ _ _ _ h37 [a36, a19, a1, x] 3 23 30 #[.val (.ref x), .val (.ref nm), .val (.int (0 : Int32))] [(.ref a36), (.ref x)]
  refine Go.dup H d1_30 rfl rfl ?_
  refine Go.callI (rest := [(.ref a36), (.ref x)]) 2 [] H d1_31 rfl rfl w58 w59 w57 w60 pd_N51 (ct_arl l W a36 h37 A41 F47 F48 z39) (by simp) rfl rfl rfl (Nat.le_of_eq rfl) (by decide) (by decide) (by decide) (by decide) nh_N51 ?_
  rintro _ h49 _ ⟨rfl, K50, rfl⟩
  replace A := A.keep K50
  replace G2 := G2.keep K50 (ninS ne43 nin0)
  replace G3 := G3.keep K50 (ninS ne43 nin0)
  replace G4 := G4.keep K50 (ninS ne43 nin0)
  replace G5 := G5.keep K50 (ninS ne43 nin0)
  replace A6 := A6.keep K50
  replace F17 := F17.keep K50 (ninS ne43 nin0)
  replace A24 := A24.keep K50
  replace F34 := F34.keep K50 (ninS ne43 nin0)
  replace A41 := A41.keep K50
  replace KK := KK.trans K50 (allS (Or.inr sz46) all0)
  show Go _ _ _ _ _ _ h49 [a36, a19, a1, x] 3 23 34 #[.val (.ref x), .val (.ref nm), .val (.int (0 : Int32))] [(.ref a36), (.ref x)]
  refine Go.putfield (v := (.ref a36)) H d1_34 rfl w79 G2 A (Or.inr ⟨w80, rfl, rfl⟩) w4 (ty := (.object "java/util/List")) (by decide) rfl rfl zx (by simp) ?_
  intro h51 Wr52
  have F53 := G2.same Wr52
  have K54 := Keep.of_wr Wr52
  replace A := A.wr Wr52
  replace G3 := G3.other Wr52 (Or.inr (own_sne W.1.1.1 (Or.inr w100) (Or.inr w80) (by decide) (t := (.object "java/lang/StringBuilder")) (t' := (.object "java/util/List")) (by decide) (by decide)))
  replace G4 := G4.other Wr52 (Or.inr (own_sne W.1.1.1 (Or.inr w102) (Or.inr w80) (by decide) (t := (.object "java/lang/String")) (t' := (.object "java/util/List")) (by decide) (by decide)))
  replace G5 := G5.other Wr52 (Or.inr (own_sne W.1.1.1 (Or.inr w104) (Or.inr w80) (by decide) (t := .int) (t' := (.object "java/util/List")) (by decide) (by decide)))
  replace A6 := A6.wr Wr52
  replace F17 := F17.other Wr52 (Or.inr (own_sne W.1.1.1 (Or.inr w47) (Or.inr w80) (by decide) (t := (.object "java/util/Map")) (t' := (.object "java/util/List")) (by decide) (by decide)))
  replace A24 := A24.wr Wr52
  replace F34 := F34.other Wr52 (Or.inr (own_sne W.1.1.1 (Or.inr w54) (Or.inr w80) (by decide) (t := (.object "java/util/Map")) (t' := (.object "java/util/List")) (by decide) (by decide)))
  replace A41 := A41.wr Wr52
  replace KK := KK.wr Wr52 (Or.inl (by simp))
  refine Go.aloadN H d1_37 rfl rfl rfl ?_
  refine Go.new H d1_38 rfl w81 w82 w83 (by decide) (by decide) ?_
  intro a55 h56 g57 z58 E59 A60 D61
  have ne62 : x ≠ a55 := Nat.ne_of_lt (Nat.lt_of_lt_of_le A.lt (Nat.le_of_eq g57.symm))
  have ne63 : a1 ≠ a55 := Nat.ne_of_lt (Nat.lt_of_lt_of_le A6.lt (Nat.le_of_eq g57.symm))
  have ne64 : a19 ≠ a55 := Nat.ne_of_lt (Nat.lt_of_lt_of_le A24.lt (Nat.le_of_eq g57.symm))
  have ne65 : a36 ≠ a55 := Nat.ne_of_lt (Nat.lt_of_lt_of_le A41.lt (Nat.le_of_eq g57.symm))
  have sz66 := Nat.le_trans KK.1 (Nat.le_of_eq g57.symm)
  replace A := A.ext E59
  replace G3 := G3.ext E59
  replace G4 := G4.ext E59
  replace G5 := G5.ext E59
  replace A6 := A6.ext E59
  replace F17 := F17.ext E59
  replace A24 := A24.ext E59
  replace F34 := F34.ext E59
  replace A41 := A41.ext E59
  replace F53 := F53.ext E59
  replace KK := KK.ext E59
  have F67 : Fld Z h56 a55 "java/lang/AbstractStringBuilder" "value" "[B" .null := D61 (Or.inl w96) (ty := (.array .byte)) (by decide)
  have F68 : Fld Z h56 a55 "java/lang/AbstractStringBuilder" "coder" "B" (.int (0 : Int32)) := D61 (Or.inl w98) (ty := .byte) (by decide)
  have F69 : Fld Z h56 a55 "java/lang/AbstractStringBuilder" "count" "I" (.int (0 : Int32)) := D61 (Or.inl w139) (ty := .int) (by decide)
  have F70 : Fld Z h56 a55 "java/lang/AbstractStringBuilder" "maybeLatin1" "Z" (.int (0 : Int32)) := D61 (Or.inl w291) (ty := .boolean) (by decide)
  show Go _ _ _ _ _ _ h56 [a55, a36, a19, a1, x] 4 27 41 #[.val (.ref x), .val (.ref nm), .val (.int (0 : Int32))] [(.ref a55), (.ref x)]
  refine Go.dup H d1_41 rfl rfl ?_
  refine Go.callI (rest := [(.ref a55), (.ref x)]) 2 [] H d1_42 rfl rfl w84 w85 w83 w86 pd_N18 (ct_sbi l W a55 h56 A60 F67 F68 F69 F70 z58) (by simp) rfl rfl rfl (Nat.le_of_eq rfl) (by decide) (by decide) (by decide) (by decide) nh_N18 ?_
  rintro _ h71 _ ⟨rfl, K72, b73, g74, z75, S76, rfl⟩
  have ne77 : x ≠ b73 := Nat.ne_of_lt (Nat.lt_of_lt_of_le A.lt g74)
  have ne78 : a1 ≠ b73 := Nat.ne_of_lt (Nat.lt_of_lt_of_le A6.lt g74)
  have ne79 : a19 ≠ b73 := Nat.ne_of_lt (Nat.lt_of_lt_of_le A24.lt g74)
  have ne80 : a36 ≠ b73 := Nat.ne_of_lt (Nat.lt_of_lt_of_le A41.lt g74)
  have ne81 : a55 ≠ b73 := Nat.ne_of_lt (Nat.lt_of_lt_of_le A60.lt g74)
  have sz82 := Nat.le_trans KK.1 g74
  replace A := A.keep K72
  replace G3 := G3.keep K72 (ninS ne62 nin0)
  replace G4 := G4.keep K72 (ninS ne62 nin0)
  replace G5 := G5.keep K72 (ninS ne62 nin0)
  replace A6 := A6.keep K72
  replace F17 := F17.keep K72 (ninS ne62 nin0)
  replace A24 := A24.keep K72
  replace F34 := F34.keep K72 (ninS ne62 nin0)
  replace A41 := A41.keep K72
  replace F53 := F53.keep K72 (ninS ne62 nin0)
  replace KK := KK.trans K72 (allS (Or.inr sz66) all0)
  show Go _ _ _ _ _ _ h71 [b73, a55, a36, a19, a1, x] 5 43 45 #[.val (.ref x), .val (.ref nm), .val (.int (0 : Int32))] [(.ref a55), (.ref x)]
  refine Go.putfield (v := (.ref a55)) H d1_45 rfl w99 G3 A (Or.inr ⟨w100, rfl, rfl⟩) w4 (ty := (.object "java/lang/StringBuilder")) (by decide) rfl rfl zx (by simp) ?_
  intro h83 Wr84
  have F85 := G3.same Wr84
  have K86 := Keep.of_wr Wr84
  replace A := A.wr Wr84
  replace G4 := G4.other Wr84 (Or.inr (own_sne W.1.1.1 (Or.inr w102) (Or.inr w100) (by decide) (t := (.object "java/lang/String")) (t' := (.object "java/lang/StringBuilder")) (by decide) (by decide)))
  replace G5 := G5.other Wr84 (Or.inr (own_sne W.1.1.1 (Or.inr w104) (Or.inr w100) (by decide) (t := .int) (t' := (.object "java/lang/StringBuilder")) (by decide) (by decide)))
  replace A6 := A6.wr Wr84
  replace F17 := F17.other Wr84 (Or.inr (own_sne W.1.1.1 (Or.inr w47) (Or.inr w100) (by decide) (t := (.object "java/util/Map")) (t' := (.object "java/lang/StringBuilder")) (by decide) (by decide)))
  replace A24 := A24.wr Wr84
  replace F34 := F34.other Wr84 (Or.inr (own_sne W.1.1.1 (Or.inr w54) (Or.inr w100) (by decide) (t := (.object "java/util/Map")) (t' := (.object "java/lang/StringBuilder")) (by decide) (by decide)))
  replace A41 := A41.wr Wr84
  replace F53 := F53.other Wr84 (Or.inr (own_sne W.1.1.1 (Or.inr w80) (Or.inr w100) (by decide) (t := (.object "java/util/List")) (t' := (.object "java/lang/StringBuilder")) (by decide) (by decide)))
  replace S76 := S76.keep K86 (ninS (Ne.symm ne62) nin0) (ninS (Ne.symm ne77) nin0)
  replace KK := KK.wr Wr84 (Or.inl (by simp))
  refine Go.aloadN H d1_48 rfl rfl rfl ?_
  refine Go.aloadN H d1_49 rfl rfl rfl ?_
  refine Go.putfield (v := (.ref nm)) H d1_50 rfl w101 G4 A (Or.inr ⟨w102, rfl, rfl⟩) w4 (ty := (.object "java/lang/String")) (by decide) rfl rfl zx (by simp) ?_
  intro h87 Wr88
  have F89 := G4.same Wr88
  have K90 := Keep.of_wr Wr88
  replace A := A.wr Wr88
  replace G5 := G5.other Wr88 (Or.inr (own_sne W.1.1.1 (Or.inr w104) (Or.inr w102) (by decide) (t := .int) (t' := (.object "java/lang/String")) (by decide) (by decide)))
  replace A6 := A6.wr Wr88
  replace F17 := F17.other Wr88 (Or.inr (own_sne W.1.1.1 (Or.inr w47) (Or.inr w102) (by decide) (t := (.object "java/util/Map")) (t' := (.object "java/lang/String")) (by decide) (by decide)))
  replace A24 := A24.wr Wr88
  replace F34 := F34.other Wr88 (Or.inr (own_sne W.1.1.1 (Or.inr w54) (Or.inr w102) (by decide) (t := (.object "java/util/Map")) (t' := (.object "java/lang/String")) (by decide) (by decide)))
  replace A41 := A41.wr Wr88
  replace F53 := F53.other Wr88 (Or.inr (own_sne W.1.1.1 (Or.inr w80) (Or.inr w102) (by decide) (t := (.object "java/util/List")) (t' := (.object "java/lang/String")) (by decide) (by decide)))
  replace S76 := S76.keep K90 (ninS (Ne.symm ne62) nin0) (ninS (Ne.symm ne77) nin0)
  replace F85 := F85.other Wr88 (Or.inr (own_sne W.1.1.1 (Or.inr w100) (Or.inr w102) (by decide) (t := (.object "java/lang/StringBuilder")) (t' := (.object "java/lang/String")) (by decide) (by decide)))
  replace KK := KK.wr Wr88 (Or.inl (by simp))
  refine Go.aloadN H d1_53 rfl rfl rfl ?_
  refine Go.iloadN H d1_54 rfl rfl ?_
  refine Go.putfield (v := (.int (0 : Int32))) H d1_55 rfl w103 G5 A (Or.inr ⟨w104, rfl, rfl⟩) w4 (ty := .int) (by decide) rfl rfl zx (by simp) ?_
  intro h91 Wr92
  have F93 := G5.same Wr92
  have K94 := Keep.of_wr Wr92
  replace A := A.wr Wr92
  replace A6 := A6.wr Wr92
  replace F17 := F17.other Wr92 (Or.inr (own_sne W.1.1.1 (Or.inr w47) (Or.inr w104) (by decide) (t := (.object "java/util/Map")) (t' := .int) (by decide) (by decide)))
  replace A24 := A24.wr Wr92
  replace F34 := F34.other Wr92 (Or.inr (own_sne W.1.1.1 (Or.inr w54) (Or.inr w104) (by decide) (t := (.object "java/util/Map")) (t' := .int) (by decide) (by decide)))
  replace A41 := A41.wr Wr92
  replace F53 := F53.other Wr92 (Or.inr (own_sne W.1.1.1 (Or.inr w80) (Or.inr w104) (by decide) (t := (.object "java/util/List")) (t' := .int) (by decide) (by decide)))
  replace S76 := S76.keep K94 (ninS (Ne.symm ne62) nin0) (ninS (Ne.symm ne77) nin0)
  replace F85 := F85.other Wr92 (Or.inr (own_sne W.1.1.1 (Or.inr w100) (Or.inr w104) (by decide) (t := (.object "java/lang/StringBuilder")) (t' := .int) (by decide) (by decide)))
  replace F89 := F89.other Wr92 (Or.inr (own_sne W.1.1.1 (Or.inr w102) (Or.inr w104) (by decide) (t := (.object "java/lang/String")) (t' := .int) (by decide) (by decide)))
  replace KK := KK.wr Wr92 (Or.inl (by simp))
  exact Go.return_ [a55, b73] H d1_58 ⟨rfl, KK, a55, b73, sz66, sz82, z58, z75, F85, S76, rfl⟩ (by simp) (by decide) (by decide)
theorem d11_0 : decode prog_41_method_8_code 0 = .ok (.aload_n 0, 1) := by decide +kernel
theorem d11_1 : decode prog_41_method_8_code 1 = .ok (.getfield 32, 3) := by decide +kernel
theorem d11_4 : decode prog_41_method_8_code 4 = .ok (.invokevirtual 52, 3) := by decide +kernel
theorem w114 : Jvm.Cond.code N36 jdk_67_method_42_code (1 : Nat) (Option.some (Jvm.ClassFile.FieldType.object "java/lang/String")) ∈ tables_1 := List.mem_of_getElem? (i := 114) rfl
theorem pd_N36 : parseMethodDescriptor N36.desc = some ⟨[], (some (.object "java/lang/String"))⟩ := by decide +kernel
theorem w110 : Jvm.Cond.methodLink "com/example/autowire/autowire/xml/XmlElement" (52 : Nat) N36 ∈ tables_1 := List.mem_of_getElem? (i := 110) rfl
theorem w111 : Jvm.Cond.declares N36 ∈ tables_1 := List.mem_of_getElem? (i := 111) rfl
theorem w113 : Jvm.Cond.selects "java/lang/StringBuilder" N36 N36 ∈ tables_1 := List.mem_of_getElem? (i := 113) rfl
theorem w112 : Jvm.Cond.instanceMethod N36 ∈ tables_1 := List.mem_of_getElem? (i := 112) rfl
theorem d11_7 : decode prog_41_method_8_code 7 = .ok (.areturn, 1) := by decide +kernel
abbrev N53 : MethodName := ⟨"com/example/autowire/autowire/xml/XmlElement", "text", "()Ljava/lang/String;"⟩

abbrev rm_txt : Room := { frames := 6, cells := 2, slots := 72, locals := 100 }
set_option maxRecDepth 65536 in
set_option maxHeartbeats 4000000 in
theorem ct_txt (l : Launch) {Z : State} {n0 : Nat} {z : Int32} {f g : Value} {dv : Addr} (W : Sx Z z f g dv) (x t b : Addr) (cs : List Int32) (h : Heap) (Ft : Fld Z h x "com/example/autowire/autowire/xml/XmlElement" "text" "Ljava/lang/StringBuilder;" (.ref t)) (B : Sbg Z h t b 16 cs) (hlt : cs.length < 16) :
    Ctr l Z n0 N53 prog_41_method_8_code 1 (some (.object "java/lang/String")) rm_txt #[(.ref x)] h [] (fun v h' sn => ∃ a sb, v = some (.ref a) ∧ Ext h h' ∧ h.size ≤ a ∧ h.size ≤ sb ∧ Stg Z h' a sb cs ∧ sn = []) := by
  refine Ctr.of_go (ls := #[.val (.ref x)]) W.1.1.1 (plainFor_of_name pn_N52) (fun m => by first | (simp [entryFrame, mkF, argsToLocals, Value.category]; done) | rfl) (fun K H => ?_)
  refine Go.aloadN H d11_0 rfl rfl rfl ?_
  refine Go.getfield H d11_1 rfl w99 Ft ?_
  refine Go.callV (rest := []) 0 [] H d11_4 rfl B.exa w110 w111 w113 w112 w83 w114 pd_N36 (ct_tos l W t b cs 16 h B (Or.inl rfl) hlt) all0 rfl rfl rfl (Nat.le_of_eq rfl) (by decide) (by decide) (by decide) (by decide) nh_N18 ?_
  rintro _ h3 _ ⟨a1, b2, rfl, E4, g5, g6, S7, rfl⟩
  have ne8 : x ≠ a1 := Nat.ne_of_lt (Nat.lt_of_lt_of_le Ft.lt g5)
  have ne9 : t ≠ a1 := Nat.ne_of_lt (Nat.lt_of_lt_of_le B.lt g5)
  have ne10 : b ≠ a1 := Nat.ne_of_lt (Nat.lt_of_lt_of_le B.ltb g5)
  have ne11 : x ≠ b2 := Nat.ne_of_lt (Nat.lt_of_lt_of_le Ft.lt g6)
  have ne12 : t ≠ b2 := Nat.ne_of_lt (Nat.lt_of_lt_of_le B.lt g6)
  have ne13 : b ≠ b2 := Nat.ne_of_lt (Nat.lt_of_lt_of_le B.ltb g6)
  replace Ft := Ft.ext E4
  replace B := B.ext E4
  show Go _ _ _ _ _ _ h3 [] 2 72 7 #[.val (.ref x)] [(.ref a1)]
  exact Go.areturn [] H d11_7 rfl rfl (own_narR rfl) ⟨_, _, rfl, E4, g5, g6, S7, rfl⟩ all0 (by decide) (by decide)
theorem d23_0 : decode prog_41_method_11_code 0 = .ok (.aload_n 0, 1) := by decide +kernel
theorem d23_1 : decode prog_41_method_11_code 1 = .ok (.getfield 32, 3) := by decide +kernel
theorem d23_4 : decode prog_41_method_11_code 4 = .ok (.aload_n 1, 1) := by decide +kernel
theorem d23_5 : decode prog_41_method_11_code 5 = .ok (.iload_n 2, 1) := by decide +kernel
theorem d23_6 : decode prog_41_method_11_code 6 = .ok (.iload_n 3, 1) := by decide +kernel
theorem d23_7 : decode prog_41_method_11_code 7 = .ok (.invokevirtual 73, 3) := by decide +kernel
theorem w174 : Jvm.Cond.code N45 jdk_67_method_12_code (4 : Nat) (Option.some (Jvm.ClassFile.FieldType.object "java/lang/StringBuilder")) ∈ tables_1 := List.mem_of_getElem? (i := 174) rfl
theorem pd_N45 : parseMethodDescriptor N45.desc = some ⟨[(.array .char), .int, .int], (some (.object "java/lang/StringBuilder"))⟩ := by decide +kernel
theorem w170 : Jvm.Cond.methodLink "com/example/autowire/autowire/xml/XmlElement" (73 : Nat) N45 ∈ tables_1 := List.mem_of_getElem? (i := 170) rfl
theorem w171 : Jvm.Cond.declares N45 ∈ tables_1 := List.mem_of_getElem? (i := 171) rfl
theorem w173 : Jvm.Cond.selects "java/lang/StringBuilder" N45 N45 ∈ tables_1 := List.mem_of_getElem? (i := 173) rfl
theorem w172 : Jvm.Cond.instanceMethod N45 ∈ tables_1 := List.mem_of_getElem? (i := 172) rfl
theorem d23_10 : decode prog_41_method_11_code 10 = .ok (.pop, 1) := by decide +kernel
theorem d23_11 : decode prog_41_method_11_code 11 = .ok (.return_, 1) := by decide +kernel
abbrev N54 : MethodName := ⟨"com/example/autowire/autowire/xml/XmlElement", "addText", "([CII)V"⟩

abbrev rm_adt : Room := { frames := 9, cells := 1, slots := 68, locals := 140 }
set_option maxRecDepth 65536 in
set_option maxHeartbeats 4000000 in
theorem ct_adt (l : Launch) {Z : State} {n0 : Nat} {z : Int32} {f g : Value} {dv : Addr} (W : Sx Z z f g dv) (x t b a : Addr) (cs pr ds po : List Int32) (p : Nat) (h : Heap) (Ft : Fld Z h x "com/example/autowire/autowire/xml/XmlElement" "text" "Ljava/lang/StringBuilder;" (.ref t)) (B : Sbg Z h t b 16 cs) (Fa : Vec Z h a .char (pr ++ ds ++ po)) (hC2 : ∀ c ∈ ds, isC c) (hp : pr.length = p) (hp2 : p + ds.length < 2 ^ 20) (htot : cs.length + ds.length ≤ 16) (zt : n0 ≤ t) (zb : n0 ≤ b) (hab : a ≠ b) (hpo : po.length < 2 ^ 20) :
    Ctr l Z n0 N54 prog_41_method_11_code 4 none rm_adt #[(.ref x), (.ref a), (.int p.toInt32), (.int ds.length.toInt32)] h [t, b] (fun v h' sn => v = none ∧ Keep h h' [t, b] ∧ ∃ e, (e = b ∨ h.size ≤ e) ∧ n0 ≤ e ∧ Sbg Z h' t e 16 (cs ++ ds) ∧ sn = [e]) := by
  refine Ctr.of_go (ls := #[.val (.ref x), .val (.ref a), .val (.int p.toInt32), .val (.int ds.length.toInt32)]) W.1.1.1 (plainFor_of_name pn_N52) (fun m => by first | (simp [entryFrame, mkF, argsToLocals, Value.category]; done) | rfl) (fun K H => ?_)
  refine Go.aloadN H d23_0 rfl rfl rfl ?_
  refine Go.getfield H d23_1 rfl w99 Ft ?_
  refine Go.aloadN H d23_4 rfl rfl rfl ?_
  refine Go.iloadN H d23_5 rfl rfl ?_
  refine Go.iloadN H d23_6 rfl rfl ?_
  refine Go.callV (rest := []) 0 [(.ref a), (.int p.toInt32), (.int ds.length.toInt32)] H d23_7 rfl B.exa w170 w171 w173 w172 w83 w174 pd_N45 (ct_sapc l W t b a cs pr ds po p h B Fa hC2 hp hp2 htot zt zb hab hpo) (by simp) rfl rfl rfl (Nat.le_of_eq rfl) (by decide) (by decide) (by decide) (by decide) nh_N18 ?_
  rintro _ h1 _ ⟨rfl, K2, e3, q4, z5, S6, rfl⟩
  show Go _ _ _ _ _ _ h1 [e3, t, b] 1 68 10 #[.val (.ref x), .val (.ref a), .val (.int p.toInt32), .val (.int ds.length.toInt32)] [(.ref t)]
  refine Go.pop H d23_10 rfl rfl ?_
  exact Go.return_ [e3] H d23_11 ⟨rfl, K2, e3, q4, z5, S6, rfl⟩ (by simp) (by decide) (by decide)
theorem own_subN {m n : Nat} (h : n ≤ m) : m.toInt32 - n.toInt32 = (m - n).toInt32 := by
  obtain ⟨k, rfl⟩ := Nat.exists_eq_add_of_le' h
  rw [← own_add, Int32.add_sub_cancel, Nat.add_sub_cancel]
theorem own_mod5 (x : Int32) : ∃ p : Nat, (x &&& 2147483647) % 5 = p.toInt32 ∧ p ≤ 4 := by
  have m1 := c_mask x 2147483647 31 (by decide) (by decide)
  have q1 := (c_irem (x &&& 2147483647) 5 5 (by decide)).1 (by omega)
  refine ⟨((x &&& 2147483647) % 5).toInt.toNat, Int32.toInt_inj.mp ?_, by omega⟩
  rw [own_len (by omega)]; omega
theorem own_modr (x : Int32) (p : Nat) (hp : p ≤ 4) : ((5 : Int32) - p.toInt32 ≠ 0) ∧ ∃ n : Nat, (x &&& 2147483647) % ((5 : Int32) - p.toInt32) = n.toInt32 ∧ p + n ≤ 4 := by
  have e : (5 : Int32) - p.toInt32 = (5 - p).toInt32 := own_subN (m := 5) (by omega)
  have m1 := c_mask x 2147483647 31 (by decide) (by decide)
  have e2 : ((5 - p).toInt32).toInt = ((5 - p : Nat) : Int) := own_len (by omega)
  rw [e]
  have q1 := (c_iremV (x &&& 2147483647) ((5 - p).toInt32)).1 (by omega) (by omega)
  refine ⟨fun h => by rw [h] at e2; have : (0 : Int32).toInt = 0 := by decide
                      omega, ((x &&& 2147483647) % (5 - p).toInt32).toInt.toNat, Int32.toInt_inj.mp ?_, by omega⟩
  rw [own_len (by omega)]; omega
theorem own_cut3 (arr : List Int32) (p n : Nat) (hl : arr.length = 4) (h : p + n ≤ 4) (hC : ∀ c ∈ arr, isC c) : ∃ pr ds po : List Int32, arr = pr ++ ds ++ po ∧ pr.length = p ∧ ds.length = n ∧ po.length ≤ 4 ∧ ∀ c ∈ ds, isC c := by
  refine ⟨arr.take p, (arr.drop p).take n, (arr.drop p).drop n, ?_, ?_, ?_, ?_, fun c m => hC c (List.mem_of_mem_drop (List.mem_of_mem_take m))⟩
  · rw [List.append_assoc, List.take_append_drop, List.take_append_drop]
  · rw [List.length_take]; omega
  · rw [List.length_take, List.length_drop]; omega
  · rw [List.length_drop, List.length_drop]; omega
theorem d33_0 : decode method_2_code 0 = .ok (.iload 6, 2) := by decide +kernel
theorem d33_2 : decode method_2_code 2 = .ok (.iload_n 3, 1) := by decide +kernel
theorem d33_3 : decode method_2_code 3 = .ok (.iload 5, 2) := by decide +kernel
theorem d33_5 : decode method_2_code 5 = .ok (.iadd, 1) := by decide +kernel
theorem d33_6 : decode method_2_code 6 = .ok (.if_icmp .lt 5, 3) := by decide +kernel
theorem d33_11 : decode method_2_code 11 = .ok (.iload 6, 2) := by decide +kernel
theorem d33_13 : decode method_2_code 13 = .ok (.iload_n 3, 1) := by decide +kernel
theorem d33_14 : decode method_2_code 14 = .ok (.if_icmp .ge 14, 3) := by decide +kernel
theorem d33_17 : decode method_2_code 17 = .ok (.aload_n 1, 1) := by decide +kernel
theorem d33_18 : decode method_2_code 18 = .ok (.iload_n 2, 1) := by decide +kernel
theorem d33_19 : decode method_2_code 19 = .ok (.iload 6, 2) := by decide +kernel
theorem d33_21 : decode method_2_code 21 = .ok (.iadd, 1) := by decide +kernel
theorem d33_22 : decode method_2_code 22 = .ok (.caload, 1) := by decide +kernel
theorem d33_23 : decode method_2_code 23 = .ok (.istore 7, 2) := by decide +kernel
theorem d33_25 : decode method_2_code 25 = .ok (.goto 14, 3) := by decide +kernel
theorem d33_39 : decode method_2_code 39 = .ok (.aload_n 0, 1) := by decide +kernel
theorem d33_40 : decode method_2_code 40 = .ok (.iload 6, 2) := by decide +kernel
theorem d33_42 : decode method_2_code 42 = .ok (.invokevirtual 7, 3) := by decide +kernel
theorem w224 : Jvm.Cond.code N13 jdk_42_method_56_code (2 : Nat) (Option.some Jvm.ClassFile.FieldType.char) ∈ tables_1 := List.mem_of_getElem? (i := 224) rfl
theorem pd_N13 : parseMethodDescriptor N13.desc = some ⟨[.int], (some .char)⟩ := by decide +kernel
theorem w220 : Jvm.Cond.methodLink "com/example/autowire/autowire/xml/XmlElementAddTextPinLaw" (7 : Nat) N13 ∈ tables_1 := List.mem_of_getElem? (i := 220) rfl
theorem w221 : Jvm.Cond.declares N13 ∈ tables_1 := List.mem_of_getElem? (i := 221) rfl
theorem w223 : Jvm.Cond.selects "java/lang/String" N13 N13 ∈ tables_1 := List.mem_of_getElem? (i := 223) rfl
theorem w222 : Jvm.Cond.instanceMethod N13 ∈ tables_1 := List.mem_of_getElem? (i := 222) rfl
theorem d33_45 : decode method_2_code 45 = .ok (.iload 7, 2) := by decide +kernel
theorem d33_47 : decode method_2_code 47 = .ok (.if_icmp .ne 7, 3) := by decide +kernel
theorem d33_50 : decode method_2_code 50 = .ok (.iconst 1, 1) := by decide +kernel
theorem d33_51 : decode method_2_code 51 = .ok (.goto 4, 3) := by decide +kernel
theorem d33_55 : decode method_2_code 55 = .ok (.ireturn, 1) := by decide +kernel
theorem d33_28 : decode method_2_code 28 = .ok (.aload_n 1, 1) := by decide +kernel
theorem d33_29 : decode method_2_code 29 = .ok (.iload 4, 2) := by decide +kernel
theorem d33_31 : decode method_2_code 31 = .ok (.iload 6, 2) := by decide +kernel
theorem d33_33 : decode method_2_code 33 = .ok (.iload_n 3, 1) := by decide +kernel
theorem d33_34 : decode method_2_code 34 = .ok (.isub, 1) := by decide +kernel
theorem d33_35 : decode method_2_code 35 = .ok (.iadd, 1) := by decide +kernel
theorem d33_36 : decode method_2_code 36 = .ok (.caload, 1) := by decide +kernel
theorem d33_37 : decode method_2_code 37 = .ok (.istore 7, 2) := by decide +kernel
theorem d33_9 : decode method_2_code 9 = .ok (.iconst 1, 1) := by decide +kernel
theorem d33_10 : decode method_2_code 10 = .ok (.ireturn, 1) := by decide +kernel
abbrev N55 : MethodName := ⟨"com/example/autowire/autowire/xml/XmlElementAddTextPinLaw", "at", "(Ljava/lang/String;[CIIIII)Z"⟩
theorem pn_N55 : plainName N55.cls = true := by first | (simp [plainName, overriddenIn]; done) | decide +kernel

abbrev rm_at : Room := { frames := 5, cells := 0, slots := 0, locals := 66 }
set_option maxRecDepth 65536 in
set_option maxHeartbeats 4000000 in
theorem ct_at (l : Launch) {Z : State} {n0 : Nat} {z : Int32} {f g : Value} {dv : Addr} (W : Sx Z z f g dv) (y b a : Addr) (arr pr ds po pr2 es po2 : List Int32) (p q i : Nat) (h : Heap) (S : Stg Z h y b (ds ++ es)) (Fa : Vec Z h a .char arr) (e1 : arr = pr ++ ds ++ po) (hpr : pr.length = p) (e2 : arr = pr2 ++ es ++ po2) (hpr2 : pr2.length = q) (hl : arr.length = 4) (hi : i ≤ 7) :
    Ctr l Z n0 N55 method_2_code 8 (some .boolean) rm_at #[(.ref y), (.ref a), (.int p.toInt32), (.int ds.length.toInt32), (.int q.toInt32), (.int es.length.toInt32), (.int i.toInt32)] h [] (fun v h' sn => v = some (.int (1 : Int32)) ∧ h = h' ∧ sn = []) := by
  refine Ctr.of_go (ls := #[.val (.ref y), .val (.ref a), .val (.int p.toInt32), .val (.int ds.length.toInt32), .val (.int q.toInt32), .val (.int es.length.toInt32), .val (.int i.toInt32), .unset]) W.1.1.1 (plainFor_of_name pn_N55) (fun m => by first | (simp [entryFrame, mkF, argsToLocals, Value.category]; done) | rfl) (fun K H => ?_)
  have l1 := congrArg List.length e1
  have l2 := congrArg List.length e2
  simp only [List.length_append] at l1 l2
  refine Go.iload H d33_0 rfl rfl ?_
  refine Go.iloadN H d33_2 rfl rfl ?_
  refine Go.iload H d33_3 rfl rfl ?_
  refine Go.iadd H d33_5 rfl ?_
  rw [own_add]
  by_cases c1 : i < ds.length + es.length
  ·
    refine Go.icmpY (pc' := 11) H d33_6 (tlt (own_lt (by omega) c1)).1 (by decide) (by decide) ?_
    refine Go.iload H d33_11 rfl rfl ?_
    refine Go.iloadN H d33_13 rfl rfl ?_
    by_cases c2 : i < ds.length
    ·
      refine Go.icmpN H d33_14 (tlt (own_lt (by omega) c2)).2.1 rfl ?_
      obtain ⟨c, hc⟩ : ∃ c, ds[i]? = some c := ⟨_, List.getElem?_eq_getElem (by omega)⟩
      have hcc : (ds ++ es)[i]? = some c := by rw [List.getElem?_append_left (by omega)]; exact hc
      refine Go.aloadN H d33_17 rfl rfl rfl ?_
      refine Go.iloadN H d33_18 rfl rfl ?_
      refine Go.iload H d33_19 rfl rfl ?_
      refine Go.iadd H d33_21 rfl ?_
      rw [own_add]
      refine Go.caload (v := c) H d33_22 rfl Fa (p + i) (own_cl (by omega)) (own_n0 (by omega)) (by rw [e1]; exact own_mid hpr hc) ?_
      refine Go.istore (ls' := #[.val (.ref y), .val (.ref a), .val (.int p.toInt32), .val (.int ds.length.toInt32), .val (.int q.toInt32), .val (.int es.length.toInt32), .val (.int i.toInt32), .val (.int c)]) H d33_23 rfl rfl ?_
      refine Go.goto (pc' := 39) H d33_25 (by decide) (by decide) ?_
      refine Go.aloadN H d33_39 rfl rfl rfl ?_
      refine Go.iload H d33_40 rfl rfl ?_
      refine Go.callV (rest := []) 0 [(.int i.toInt32)] H d33_42 rfl S.exa w220 w221 w223 w222 w7 w224 pd_N13 (ct_cha l W y b (ds ++ es) i.toInt32 c i h S (own_n0 (by omega)) (own_cl (by omega)) hcc) all0 rfl rfl rfl (Nat.le_of_eq rfl) (by decide) (by decide) (by decide) (by decide) nh_N5 ?_
      rintro _ _ _ ⟨rfl, rfl, rfl⟩
      show Go _ _ _ _ _ _ h [] 0 0 45 #[.val (.ref y), .val (.ref a), .val (.int p.toInt32), .val (.int ds.length.toInt32), .val (.int q.toInt32), .val (.int es.length.toInt32), .val (.int i.toInt32), .val (.int c)] [(.int c)]
      refine Go.iload H d33_45 rfl rfl ?_
      refine Go.icmpN H d33_47 (teq rfl).2 rfl ?_
      refine Go.iconst (1 : Int32) H d33_50 rfl rfl ?_
      refine Go.goto (pc' := 55) H d33_51 (by decide) (by decide) ?_
      exact Go.ireturn (1 : Int32) [] H d33_55 (by simp) (by decide) ⟨rfl, rfl, rfl⟩ all0 (by decide) (by decide)
    ·
      refine Go.icmpY (pc' := 28) H d33_14 (flt (own_nlt (by omega) (by omega))).2.1 (by decide) (by decide) ?_
      obtain ⟨c, hc⟩ : ∃ c, es[i - ds.length]? = some c := ⟨_, List.getElem?_eq_getElem (by omega)⟩
      have hcc : (ds ++ es)[i]? = some c := by rw [List.getElem?_append_right (by omega)]; exact hc
      refine Go.aloadN H d33_28 rfl rfl rfl ?_
      refine Go.iload H d33_29 rfl rfl ?_
      refine Go.iload H d33_31 rfl rfl ?_
      refine Go.iloadN H d33_33 rfl rfl ?_
      refine Go.isub H d33_34 rfl ?_
      rw [own_subN (m := i) (n := ds.length) (by omega)]
      refine Go.iadd H d33_35 rfl ?_
      rw [own_add]
      refine Go.caload (v := c) H d33_36 rfl Fa (q + (i - ds.length)) (own_cl (by omega)) (own_n0 (by omega)) (by rw [e2]; exact own_mid hpr2 hc) ?_
      refine Go.istore (ls' := #[.val (.ref y), .val (.ref a), .val (.int p.toInt32), .val (.int ds.length.toInt32), .val (.int q.toInt32), .val (.int es.length.toInt32), .val (.int i.toInt32), .val (.int c)]) H d33_37 rfl rfl ?_
      refine Go.aloadN H d33_39 rfl rfl rfl ?_
      refine Go.iload H d33_40 rfl rfl ?_
      refine Go.callV (rest := []) 0 [(.int i.toInt32)] H d33_42 rfl S.exa w220 w221 w223 w222 w7 w224 pd_N13 (ct_cha l W y b (ds ++ es) i.toInt32 c i h S (own_n0 (by omega)) (own_cl (by omega)) hcc) all0 rfl rfl rfl (Nat.le_of_eq rfl) (by decide) (by decide) (by decide) (by decide) nh_N5 ?_
      rintro _ _ _ ⟨rfl, rfl, rfl⟩
      show Go _ _ _ _ _ _ h [] 0 0 45 #[.val (.ref y), .val (.ref a), .val (.int p.toInt32), .val (.int ds.length.toInt32), .val (.int q.toInt32), .val (.int es.length.toInt32), .val (.int i.toInt32), .val (.int c)] [(.int c)]
      refine Go.iload H d33_45 rfl rfl ?_
      refine Go.icmpN H d33_47 (teq rfl).2 rfl ?_
      refine Go.iconst (1 : Int32) H d33_50 rfl rfl ?_
      refine Go.goto (pc' := 55) H d33_51 (by decide) (by decide) ?_
      exact Go.ireturn (1 : Int32) [] H d33_55 (by simp) (by decide) ⟨rfl, rfl, rfl⟩ all0 (by decide) (by decide)
  ·
    refine Go.icmpN H d33_6 (flt (own_nlt (by omega) (by omega))).1 rfl ?_
    refine Go.iconst (1 : Int32) H d33_9 rfl rfl ?_
    exact Go.ireturn (1 : Int32) [] H d33_10 (by simp) (by decide) ⟨rfl, rfl, rfl⟩ all0 (by decide) (by decide)
theorem w0 : Jvm.Cond.arrayClass Jvm.ClassFile.FieldType.char ∈ tables_1 := List.mem_of_getElem? (i := 0) rfl
theorem w1 : Jvm.Cond.constant "com/example/autowire/autowire/xml/XmlElementAddTextPinLaw" (13 : Nat) (65535 : Int32) ∈ tables_1 := List.mem_of_getElem? (i := 1) rfl
theorem w2 : Jvm.Cond.constant "com/example/autowire/autowire/xml/XmlElementAddTextPinLaw" (14 : Nat) (2147483647 : Int32) ∈ tables_1 := List.mem_of_getElem? (i := 2) rfl
theorem w3 : Jvm.Cond.classLink "com/example/autowire/autowire/xml/XmlElementAddTextPinLaw" (15 : Nat) "com/example/autowire/autowire/xml/XmlElement" ∈ tables_1 := List.mem_of_getElem? (i := 3) rfl
theorem w5 : Jvm.Cond.initialized "com/example/autowire/autowire/xml/XmlElement" ∈ tables_1 := List.mem_of_getElem? (i := 5) rfl
theorem w6 : Jvm.Cond.stringLink "com/example/autowire/autowire/xml/XmlElementAddTextPinLaw" (17 : Nat) "e" ∈ tables_1 := List.mem_of_getElem? (i := 6) rfl
theorem w16 : Jvm.Cond.code N52 prog_41_method_1_code (3 : Nat) (Option.none : Option Jvm.ClassFile.FieldType) ∈ tables_1 := List.mem_of_getElem? (i := 16) rfl
theorem pd_N52 : parseMethodDescriptor N52.desc = some ⟨[(.object "java/lang/String"), .int], none⟩ := by decide +kernel
theorem nh_N52 : N52.cls ≠ "java/lang/invoke/MethodHandle" ∧ N52.cls ≠ "java/lang/invoke/VarHandle" := by decide
theorem w14 : Jvm.Cond.methodLink "com/example/autowire/autowire/xml/XmlElementAddTextPinLaw" (19 : Nat) N52 ∈ tables_1 := List.mem_of_getElem? (i := 14) rfl
theorem w15 : Jvm.Cond.instanceMethod N52 ∈ tables_1 := List.mem_of_getElem? (i := 15) rfl
theorem w109 : Jvm.Cond.code N53 prog_41_method_8_code (1 : Nat) (Option.some (Jvm.ClassFile.FieldType.object "java/lang/String")) ∈ tables_1 := List.mem_of_getElem? (i := 109) rfl
theorem pd_N53 : parseMethodDescriptor N53.desc = some ⟨[], (some (.object "java/lang/String"))⟩ := by decide +kernel
theorem w105 : Jvm.Cond.methodLink "com/example/autowire/autowire/xml/XmlElementAddTextPinLaw" (22 : Nat) N53 ∈ tables_1 := List.mem_of_getElem? (i := 105) rfl
theorem w106 : Jvm.Cond.declares N53 ∈ tables_1 := List.mem_of_getElem? (i := 106) rfl
theorem w108 : Jvm.Cond.selects "com/example/autowire/autowire/xml/XmlElement" N53 N53 ∈ tables_1 := List.mem_of_getElem? (i := 108) rfl
theorem w107 : Jvm.Cond.instanceMethod N53 ∈ tables_1 := List.mem_of_getElem? (i := 107) rfl
theorem w169 : Jvm.Cond.code N54 prog_41_method_11_code (4 : Nat) (Option.none : Option Jvm.ClassFile.FieldType) ∈ tables_1 := List.mem_of_getElem? (i := 169) rfl
theorem pd_N54 : parseMethodDescriptor N54.desc = some ⟨[(.array .char), .int, .int], none⟩ := by decide +kernel
theorem w165 : Jvm.Cond.methodLink "com/example/autowire/autowire/xml/XmlElementAddTextPinLaw" (26 : Nat) N54 ∈ tables_1 := List.mem_of_getElem? (i := 165) rfl
theorem w166 : Jvm.Cond.declares N54 ∈ tables_1 := List.mem_of_getElem? (i := 166) rfl
theorem w168 : Jvm.Cond.selects "com/example/autowire/autowire/xml/XmlElement" N54 N54 ∈ tables_1 := List.mem_of_getElem? (i := 168) rfl
theorem w167 : Jvm.Cond.instanceMethod N54 ∈ tables_1 := List.mem_of_getElem? (i := 167) rfl
theorem w204 : Jvm.Cond.code N14 jdk_42_method_55_code (1 : Nat) (Option.some Jvm.ClassFile.FieldType.boolean) ∈ tables_1 := List.mem_of_getElem? (i := 204) rfl
theorem pd_N14 : parseMethodDescriptor N14.desc = some ⟨[], (some .boolean)⟩ := by decide +kernel
theorem w200 : Jvm.Cond.methodLink "com/example/autowire/autowire/xml/XmlElementAddTextPinLaw" (30 : Nat) N14 ∈ tables_1 := List.mem_of_getElem? (i := 200) rfl
theorem w201 : Jvm.Cond.declares N14 ∈ tables_1 := List.mem_of_getElem? (i := 201) rfl
theorem w203 : Jvm.Cond.selects "java/lang/String" N14 N14 ∈ tables_1 := List.mem_of_getElem? (i := 203) rfl
theorem w202 : Jvm.Cond.instanceMethod N14 ∈ tables_1 := List.mem_of_getElem? (i := 202) rfl
theorem w209 : Jvm.Cond.code N6 jdk_42_method_54_code (1 : Nat) (Option.some Jvm.ClassFile.FieldType.int) ∈ tables_1 := List.mem_of_getElem? (i := 209) rfl
theorem pd_N6 : parseMethodDescriptor N6.desc = some ⟨[], (some .int)⟩ := by decide +kernel
theorem w205 : Jvm.Cond.methodLink "com/example/autowire/autowire/xml/XmlElementAddTextPinLaw" (34 : Nat) N6 ∈ tables_1 := List.mem_of_getElem? (i := 205) rfl
theorem w206 : Jvm.Cond.declares N6 ∈ tables_1 := List.mem_of_getElem? (i := 206) rfl
theorem w208 : Jvm.Cond.selects "java/lang/String" N6 N6 ∈ tables_1 := List.mem_of_getElem? (i := 208) rfl
theorem w207 : Jvm.Cond.instanceMethod N6 ∈ tables_1 := List.mem_of_getElem? (i := 207) rfl
theorem w219 : Jvm.Cond.code N55 method_2_code (8 : Nat) (Option.some Jvm.ClassFile.FieldType.boolean) ∈ tables_1 := List.mem_of_getElem? (i := 219) rfl
theorem w218 : Jvm.Cond.initialized "com/example/autowire/autowire/xml/XmlElementAddTextPinLaw" ∈ tables_1 := List.mem_of_getElem? (i := 218) rfl
theorem pd_N55 : parseMethodDescriptor N55.desc = some ⟨[(.object "java/lang/String"), (.array .char), .int, .int, .int, .int, .int], (some .boolean)⟩ := by decide +kernel
theorem nh_N55 : N55.cls ≠ "java/lang/invoke/MethodHandle" ∧ N55.cls ≠ "java/lang/invoke/VarHandle" := by decide
theorem w216 : Jvm.Cond.methodLink "com/example/autowire/autowire/xml/XmlElementAddTextPinLaw" (38 : Nat) N55 ∈ tables_1 := List.mem_of_getElem? (i := 216) rfl
theorem w217 : Jvm.Cond.static N55 ∈ tables_1 := List.mem_of_getElem? (i := 217) rfl
abbrev N56 : MethodName := ⟨"com/example/autowire/autowire/xml/XmlElementAddTextPinLaw", "law", "(IIIIII)Z"⟩
set_option maxRecDepth 65536 in
set_option maxHeartbeats 40000000 in
theorem ct_law (l : Launch) {Z : State} {n0 : Nat} {z : Int32} {f g : Value} {dv : Addr} (W : Sx Z z f g dv) (u0 : Int32) (u1 : Int32) (u2 : Int32) (u3 : Int32) (u4 : Int32) (u5 : Int32) (h : Heap) : Ctr l Z n0 x code maxLocals ret room_1 #[(.int u0), (.int u1), (.int u2), (.int u3), (.int u4), (.int u5)] h [] (fun v h' sn => v = some (.int 1) ∧ True) := by
  refine Ctr.of_go (ls := #[.val (.int u0), .val (.int u1), .val (.int u2), .val (.int u3), .val (.int u4), .val (.int u5), .unset, .unset, .unset, .unset, .unset, .unset, .unset, .unset]) W.1.1.1 (plainFor_of_name pn_N55) (fun m => by simp [entryFrame, mkF, argsToLocals, Value.category, maxLocals]) (fun K H0 => ?_)
  have H : Ok Z K "com/example/autowire/autowire/xml/XmlElementAddTextPinLaw" code 14 (some .boolean) "law" := H0
  obtain ⟨arr, ha, hl, hC⟩ : ∃ arr : List Int32, [(nar .char (u0 &&& (65535 : Int32))), (nar .char (((u0.toUInt32 >>> ((16 : Int32) &&& 31).toUInt32).toInt32) &&& (65535 : Int32))), (nar .char (u1 &&& (65535 : Int32))), (nar .char (((u1.toUInt32 >>> ((16 : Int32) &&& 31).toUInt32).toInt32) &&& (65535 : Int32)))] = arr ∧ arr.length = 4 ∧ ∀ c ∈ arr, isC c := ⟨_, rfl, rfl, own_ac (own_isC _) (own_ac (own_isC _) (own_ac (own_isC _) (own_ac (own_isC _) own_an)))⟩
  obtain ⟨p, hp, hp4⟩ := own_mod5 u2
  obtain ⟨hz1, n, hn, hn4⟩ := own_modr u3 p hp4
  obtain ⟨q, hq, hq4⟩ := own_mod5 u4
  obtain ⟨hz2, m, hm, hm4⟩ := own_modr u5 q hq4
  obtain ⟨pr, ds, po, e1, hpr, rfl, hpo, hD⟩ := own_cut3 arr p n hl hn4 hC
  obtain ⟨pr2, es, po2, e2, hpr2, rfl, hpo2, hE⟩ := own_cut3 arr q m hl hm4 hC
  refine Go.iconst (4 : Int32) H at_0 rfl rfl ?_
  refine Go.newarray 4 4 H at_1 rfl w0 rfl (by decide) (by decide) (by decide) (by decide) (by decide) (by decide) (by decide) ?_
  intro a1 h2 g3 z4 E5 F6
  replace F6 : Vec Z h2 a1 .char [(0 : Int32), (0 : Int32), (0 : Int32), (0 : Int32)] := F6
  show Go _ _ _ _ _ _ h2 [a1] 1 4 3 #[.val (.int u0), .val (.int u1), .val (.int u2), .val (.int u3), .val (.int u4), .val (.int u5), .unset, .unset, .unset, .unset, .unset, .unset, .unset, .unset] [(.ref a1)]
  refine Go.astore (ls' := #[.val (.int u0), .val (.int u1), .val (.int u2), .val (.int u3), .val (.int u4), .val (.int u5), .val (.ref a1), .unset, .unset, .unset, .unset, .unset, .unset, .unset]) H at_3 rfl rfl rfl ?_
  refine Go.aload H at_5 rfl rfl rfl ?_
  refine Go.iconst (0 : Int32) H at_7 rfl rfl ?_
  refine Go.iloadN H at_8 rfl rfl ?_
  refine Go.ldcInt H at_9 rfl w1 ?_
  refine Go.iand H at_11 rfl ?_
  refine Go.i2c H at_12 rfl ?_
  refine Go.castore (nar .char (u0 &&& (65535 : Int32))) H at_13 rfl F6 0 (by decide) (by decide) (Nat.le_of_ble_eq_true rfl) own_nn z4 (by simp) ?_
  intro h7 K8 F9
  replace F9 : Vec Z h7 a1 .char [(nar .char (u0 &&& (65535 : Int32))), (0 : Int32), (0 : Int32), (0 : Int32)] := F9
  refine Go.aload H at_14 rfl rfl rfl ?_
  refine Go.iconst (1 : Int32) H at_16 rfl rfl ?_
  refine Go.iloadN H at_17 rfl rfl ?_
  refine Go.bipush (16 : Int32) H at_18 rfl rfl ?_
  refine Go.iushr H at_20 rfl ?_
  refine Go.ldcInt H at_21 rfl w1 ?_
  refine Go.iand H at_23 rfl ?_
  refine Go.i2c H at_24 rfl ?_
  refine Go.castore (nar .char (((u0.toUInt32 >>> ((16 : Int32) &&& 31).toUInt32).toInt32) &&& (65535 : Int32))) H at_25 rfl F9 1 (by decide) (by decide) (Nat.le_of_ble_eq_true rfl) own_nn z4 (by simp) ?_
  intro h10 K11 F12
  replace F12 : Vec Z h10 a1 .char [(nar .char (u0 &&& (65535 : Int32))), (nar .char (((u0.toUInt32 >>> ((16 : Int32) &&& 31).toUInt32).toInt32) &&& (65535 : Int32))), (0 : Int32), (0 : Int32)] := F12
  refine Go.aload H at_26 rfl rfl rfl ?_
  refine Go.iconst (2 : Int32) H at_28 rfl rfl ?_
  refine Go.iloadN H at_29 rfl rfl ?_
  refine Go.ldcInt H at_30 rfl w1 ?_
  refine Go.iand H at_32 rfl ?_
  refine Go.i2c H at_33 rfl ?_
  refine Go.castore (nar .char (u1 &&& (65535 : Int32))) H at_34 rfl F12 2 (by decide) (by decide) (Nat.le_of_ble_eq_true rfl) own_nn z4 (by simp) ?_
  intro h13 K14 F15
  replace F15 : Vec Z h13 a1 .char [(nar .char (u0 &&& (65535 : Int32))), (nar .char (((u0.toUInt32 >>> ((16 : Int32) &&& 31).toUInt32).toInt32) &&& (65535 : Int32))), (nar .char (u1 &&& (65535 : Int32))), (0 : Int32)] := F15
  refine Go.aload H at_35 rfl rfl rfl ?_
  refine Go.iconst (3 : Int32) H at_37 rfl rfl ?_
  refine Go.iloadN H at_38 rfl rfl ?_
  refine Go.bipush (16 : Int32) H at_39 rfl rfl ?_
  refine Go.iushr H at_41 rfl ?_
  refine Go.ldcInt H at_42 rfl w1 ?_
  refine Go.iand H at_44 rfl ?_
  refine Go.i2c H at_45 rfl ?_
  refine Go.castore (nar .char (((u1.toUInt32 >>> ((16 : Int32) &&& 31).toUInt32).toInt32) &&& (65535 : Int32))) H at_46 rfl F15 3 (by decide) (by decide) (Nat.le_of_ble_eq_true rfl) own_nn z4 (by simp) ?_
  intro h16 K17 F18
  replace F18 : Vec Z h16 a1 .char [(nar .char (u0 &&& (65535 : Int32))), (nar .char (((u0.toUInt32 >>> ((16 : Int32) &&& 31).toUInt32).toInt32) &&& (65535 : Int32))), (nar .char (u1 &&& (65535 : Int32))), (nar .char (((u1.toUInt32 >>> ((16 : Int32) &&& 31).toUInt32).toInt32) &&& (65535 : Int32)))] := F18
  rw [ha] at F18
  refine Go.iloadN H at_47 rfl rfl ?_
  refine Go.ldcInt H at_48 rfl w2 ?_
  refine Go.iand H at_50 rfl ?_
  refine Go.iconst (5 : Int32) H at_51 rfl rfl ?_
  refine Go.irem H at_52 rfl (by decide) ?_
  rw [hp]
  refine Go.istore (ls' := #[.val (.int u0), .val (.int u1), .val (.int u2), .val (.int u3), .val (.int u4), .val (.int u5), .val (.ref a1), .val (.int p.toInt32), .unset, .unset, .unset, .unset, .unset, .unset]) H at_53 rfl rfl ?_
  refine Go.iloadN H at_55 rfl rfl ?_
  refine Go.ldcInt H at_56 rfl w2 ?_
  refine Go.iand H at_58 rfl ?_
  refine Go.iconst (5 : Int32) H at_59 rfl rfl ?_
  refine Go.iload H at_60 rfl rfl ?_
  refine Go.isub H at_62 rfl ?_
  refine Go.irem H at_63 rfl hz1 ?_
  rw [hn]
  refine Go.istore (ls' := #[.val (.int u0), .val (.int u1), .val (.int u2), .val (.int u3), .val (.int u4), .val (.int u5), .val (.ref a1), .val (.int p.toInt32), .val (.int ds.length.toInt32), .unset, .unset, .unset, .unset, .unset]) H at_64 rfl rfl ?_
  refine Go.iload H at_66 rfl rfl ?_
  refine Go.ldcInt H at_68 rfl w2 ?_
  refine Go.iand H at_70 rfl ?_
  refine Go.iconst (5 : Int32) H at_71 rfl rfl ?_
  refine Go.irem H at_72 rfl (by decide) ?_
  rw [hq]
  refine Go.istore (ls' := #[.val (.int u0), .val (.int u1), .val (.int u2), .val (.int u3), .val (.int u4), .val (.int u5), .val (.ref a1), .val (.int p.toInt32), .val (.int ds.length.toInt32), .val (.int q.toInt32), .unset, .unset, .unset, .unset]) H at_73 rfl rfl ?_
  refine Go.iload H at_75 rfl rfl ?_
  refine Go.ldcInt H at_77 rfl w2 ?_
  refine Go.iand H at_79 rfl ?_
  refine Go.iconst (5 : Int32) H at_80 rfl rfl ?_
  refine Go.iload H at_81 rfl rfl ?_
  refine Go.isub H at_83 rfl ?_
  refine Go.irem H at_84 rfl hz2 ?_
  rw [hm]
  refine Go.istore (ls' := #[.val (.int u0), .val (.int u1), .val (.int u2), .val (.int u3), .val (.int u4), .val (.int u5), .val (.ref a1), .val (.int p.toInt32), .val (.int ds.length.toInt32), .val (.int q.toInt32), .val (.int es.length.toInt32), .unset, .unset, .unset]) H at_85 rfl rfl ?_
  refine Go.new H at_87 rfl w3 w4 w5 (by decide) (by decide) ?_
  intro a19 h20 g21 z22 E23 A24 D25
  have ne26 : a1 ≠ a19 := Nat.ne_of_lt (Nat.lt_of_lt_of_le F18.lt (Nat.le_of_eq g21.symm))
  replace F18 := F18.ext E23
  have F27 : Fld Z h20 a19 "com/example/autowire/autowire/xml/XmlElement" "attributes" "Ljava/util/Map;" .null := D25 (Or.inr w47) (ty := (.object "java/util/Map")) (by decide)
  have F28 : Fld Z h20 a19 "com/example/autowire/autowire/xml/XmlElement" "namespaces" "Ljava/util/Map;" .null := D25 (Or.inr w54) (ty := (.object "java/util/Map")) (by decide)
  have F29 : Fld Z h20 a19 "com/example/autowire/autowire/xml/XmlElement" "children" "Ljava/util/List;" .null := D25 (Or.inr w80) (ty := (.object "java/util/List")) (by decide)
  have F30 : Fld Z h20 a19 "com/example/autowire/autowire/xml/XmlElement" "text" "Ljava/lang/StringBuilder;" .null := D25 (Or.inr w100) (ty := (.object "java/lang/StringBuilder")) (by decide)
  have F31 : Fld Z h20 a19 "com/example/autowire/autowire/xml/XmlElement" "name" "Ljava/lang/String;" .null := D25 (Or.inr w102) (ty := (.object "java/lang/String")) (by decide)
  have F32 : Fld Z h20 a19 "com/example/autowire/autowire/xml/XmlElement" "line" "I" (.int (0 : Int32)) := D25 (Or.inr w104) (ty := .int) (by decide)
  show Go _ _ _ _ _ _ h20 [a19, a1] 2 10 90 #[.val (.int u0), .val (.int u1), .val (.int u2), .val (.int u3), .val (.int u4), .val (.int u5), .val (.ref a1), .val (.int p.toInt32), .val (.int ds.length.toInt32), .val (.int q.toInt32), .val (.int es.length.toInt32), .unset, .unset, .unset] [(.ref a19)]
  refine Go.dup H at_90 rfl rfl ?_
  refine Go.ldc0 4 H at_91 rfl w6 rfl (by decide) (by decide) (by decide) (by decide) ?_
  intro a33 h34 E35
  replace F18 := F18.ext E35
  replace A24 := A24.ext E35
  replace F27 := F27.ext E35
  replace F28 := F28.ext E35
  replace F29 := F29.ext E35
  replace F30 := F30.ext E35
  replace F31 := F31.ext E35
  replace F32 := F32.ext E35
  show Go _ _ _ _ _ _ h34 [a19, a1] 4 18 93 #[.val (.int u0), .val (.int u1), .val (.int u2), .val (.int u3), .val (.int u4), .val (.int u5), .val (.ref a1), .val (.int p.toInt32), .val (.int ds.length.toInt32), .val (.int q.toInt32), .val (.int es.length.toInt32), .unset, .unset, .unset] [(.ref a33), (.ref a19), (.ref a19)]
  refine Go.iconst (0 : Int32) H at_93 rfl rfl ?_
  refine Go.callI (rest := [(.ref a19)]) 1 [(.ref a33), (.int (0 : Int32))] H at_94 rfl rfl w14 w15 w5 w16 pd_N52 (ct_xei l W a19 a33 h34 A24 F27 F28 F29 F30 F31 F32 z22) (by simp) rfl rfl rfl (Nat.le_of_eq rfl) (by decide) (by decide) (by decide) (by decide) nh_N52 ?_
  rintro _ h36 _ ⟨rfl, K37, t38, b39, g40, g41, z42, z43, F44, S45, rfl⟩
  have ne46 : a1 ≠ t38 := Nat.ne_of_lt (Nat.lt_of_lt_of_le F18.lt g40)
  have ne47 : a19 ≠ t38 := Nat.ne_of_lt (Nat.lt_of_lt_of_le A24.lt g40)
  have ne48 : a1 ≠ b39 := Nat.ne_of_lt (Nat.lt_of_lt_of_le F18.lt g41)
  have ne49 : a19 ≠ b39 := Nat.ne_of_lt (Nat.lt_of_lt_of_le A24.lt g41)
  replace F18 := F18.keep K37 (ninS ne26 nin0)
  replace A24 := A24.keep K37
  have ne50 := S45.ne W.1.1.1 w82
  show Go _ _ _ _ _ _ h36 [t38, b39, a19, a1] 9 61 97 #[.val (.int u0), .val (.int u1), .val (.int u2), .val (.int u3), .val (.int u4), .val (.int u5), .val (.ref a1), .val (.int p.toInt32), .val (.int ds.length.toInt32), .val (.int q.toInt32), .val (.int es.length.toInt32), .unset, .unset, .unset] [(.ref a19)]
  refine Go.astore (ls' := #[.val (.int u0), .val (.int u1), .val (.int u2), .val (.int u3), .val (.int u4), .val (.int u5), .val (.ref a1), .val (.int p.toInt32), .val (.int ds.length.toInt32), .val (.int q.toInt32), .val (.int es.length.toInt32), .val (.ref a19), .unset, .unset]) H at_97 rfl rfl rfl ?_
  refine Go.aload H at_99 rfl rfl rfl ?_
  refine Go.callV (rest := []) 0 [] H at_101 rfl A24 w105 w106 w108 w107 w5 w109 pd_N53 (ct_txt l W a19 t38 b39 ([] : List Int32) h36 F44 S45 (by decide)) all0 rfl rfl rfl (Nat.le_of_eq rfl) (by decide) (by decide) (by decide) (by decide) nh_N52 ?_
  rintro _ h53 _ ⟨a51, b52, rfl, E54, g55, g56, S57, rfl⟩
  have ne58 : a1 ≠ a51 := Nat.ne_of_lt (Nat.lt_of_lt_of_le F18.lt g55)
  have ne59 : a19 ≠ a51 := Nat.ne_of_lt (Nat.lt_of_lt_of_le A24.lt g55)
  have ne60 : t38 ≠ a51 := Nat.ne_of_lt (Nat.lt_of_lt_of_le S45.lt g55)
  have ne61 : b39 ≠ a51 := Nat.ne_of_lt (Nat.lt_of_lt_of_le S45.ltb g55)
  have ne62 : a1 ≠ b52 := Nat.ne_of_lt (Nat.lt_of_lt_of_le F18.lt g56)
  have ne63 : a19 ≠ b52 := Nat.ne_of_lt (Nat.lt_of_lt_of_le A24.lt g56)
  have ne64 : t38 ≠ b52 := Nat.ne_of_lt (Nat.lt_of_lt_of_le S45.lt g56)
  have ne65 : b39 ≠ b52 := Nat.ne_of_lt (Nat.lt_of_lt_of_le S45.ltb g56)
  replace F18 := F18.ext E54
  replace A24 := A24.ext E54
  replace F44 := F44.ext E54
  replace S45 := S45.ext E54
  show Go _ _ _ _ _ _ h53 [t38, b39, a19, a1] 11 133 104 #[.val (.int u0), .val (.int u1), .val (.int u2), .val (.int u3), .val (.int u4), .val (.int u5), .val (.ref a1), .val (.int p.toInt32), .val (.int ds.length.toInt32), .val (.int q.toInt32), .val (.int es.length.toInt32), .val (.ref a19), .unset, .unset] [(.ref a51)]
  refine Go.astore (ls' := #[.val (.int u0), .val (.int u1), .val (.int u2), .val (.int u3), .val (.int u4), .val (.int u5), .val (.ref a1), .val (.int p.toInt32), .val (.int ds.length.toInt32), .val (.int q.toInt32), .val (.int es.length.toInt32), .val (.ref a19), .val (.ref a51), .unset]) H at_104 rfl rfl rfl ?_
  refine Go.aload H at_106 rfl rfl rfl ?_
  refine Go.aload H at_108 rfl rfl rfl ?_
  refine Go.iload H at_110 rfl rfl ?_
  refine Go.iload H at_112 rfl rfl ?_
  refine Go.callV (rest := []) 0 [(.ref a1), (.int p.toInt32), (.int ds.length.toInt32)] H at_114 rfl A24 w165 w166 w168 w167 w5 w169 pd_N54 (ct_adt l W a19 t38 b39 a1 ([] : List Int32) pr ds po p h53 F44 S45 (e1 ▸ F18) hD hpr (by omega) (show 0 + ds.length ≤ 16 by omega) z42 z43 ne48 (by omega)) (by simp) rfl rfl rfl (Nat.le_of_eq rfl) (by decide) (by decide) (by decide) (by decide) nh_N52 ?_
  rintro _ h66 _ ⟨rfl, K67, d68, q69, z70, S71, rfl⟩
  have ne72 : a1 ≠ d68 := q69.elim (fun e => e ▸ ne48) (fun g => Nat.ne_of_lt (Nat.lt_of_lt_of_le F18.lt g))
  have ne73 : a19 ≠ d68 := q69.elim (fun e => e ▸ ne49) (fun g => Nat.ne_of_lt (Nat.lt_of_lt_of_le A24.lt g))
  have ne74 : t38 ≠ d68 := q69.elim (fun e => e ▸ (Ne.symm ne50)) (fun g => Nat.ne_of_lt (Nat.lt_of_lt_of_le S45.lt g))
  have ne75 : a51 ≠ d68 := q69.elim (fun e => e ▸ (Ne.symm ne61)) (fun g => Nat.ne_of_lt (Nat.lt_of_lt_of_le S57.lt g))
  have ne76 : b52 ≠ d68 := q69.elim (fun e => e ▸ (Ne.symm ne65)) (fun g => Nat.ne_of_lt (Nat.lt_of_lt_of_le S57.ltb g))
  replace F18 := F18.keep K67 (ninS ne46 (ninS ne48 nin0))
  replace A24 := A24.keep K67
  replace F44 := F44.keep K67 (ninS ne47 (ninS ne49 nin0))
  replace S57 := S57.keep K67 (ninS (Ne.symm ne60) (ninS (Ne.symm ne61) nin0)) (ninS (Ne.symm ne64) (ninS (Ne.symm ne65) nin0))
  rw [List.nil_append] at S71
  show Go _ _ _ _ _ _ h66 [d68, t38, b39, a19, a1] 12 201 117 #[.val (.int u0), .val (.int u1), .val (.int u2), .val (.int u3), .val (.int u4), .val (.int u5), .val (.ref a1), .val (.int p.toInt32), .val (.int ds.length.toInt32), .val (.int q.toInt32), .val (.int es.length.toInt32), .val (.ref a19), .val (.ref a51), .unset] []
  refine Go.aload H at_117 rfl rfl rfl ?_
  refine Go.aload H at_119 rfl rfl rfl ?_
  refine Go.iload H at_121 rfl rfl ?_
  refine Go.iload H at_123 rfl rfl ?_
  refine Go.callV (rest := []) 0 [(.ref a1), (.int q.toInt32), (.int es.length.toInt32)] H at_125 rfl A24 w165 w166 w168 w167 w5 w169 pd_N54 (ct_adt l W a19 t38 d68 a1 ds pr2 es po2 q h66 F44 S71 (e2 ▸ F18) hE hpr2 (by omega) (by omega) z42 z70 ne72 (by omega)) (by simp) rfl rfl rfl (Nat.le_of_eq rfl) (by decide) (by decide) (by decide) (by decide) nh_N52 ?_
  rintro _ h77 _ ⟨rfl, K78, d79, q80, z81, S82, rfl⟩
  have ne83 : a1 ≠ d79 := q80.elim (fun e => e ▸ ne72) (fun g => Nat.ne_of_lt (Nat.lt_of_lt_of_le F18.lt g))
  have ne84 : a19 ≠ d79 := q80.elim (fun e => e ▸ ne73) (fun g => Nat.ne_of_lt (Nat.lt_of_lt_of_le A24.lt g))
  have ne85 : a51 ≠ d79 := q80.elim (fun e => e ▸ ne75) (fun g => Nat.ne_of_lt (Nat.lt_of_lt_of_le S57.lt g))
  have ne86 : b52 ≠ d79 := q80.elim (fun e => e ▸ ne76) (fun g => Nat.ne_of_lt (Nat.lt_of_lt_of_le S57.ltb g))
  have ne87 : t38 ≠ d79 := q80.elim (fun e => e ▸ ne74) (fun g => Nat.ne_of_lt (Nat.lt_of_lt_of_le S71.lt g))
  replace F18 := F18.keep K78 (ninS ne46 (ninS ne72 nin0))
  replace A24 := A24.keep K78
  replace F44 := F44.keep K78 (ninS ne47 (ninS ne73 nin0))
  replace S57 := S57.keep K78 (ninS (Ne.symm ne60) (ninS ne75 nin0)) (ninS (Ne.symm ne64) (ninS ne76 nin0))
  show Go _ _ _ _ _ _ h77 [d79, d68, t38, b39, a19, a1] 13 269 128 #[.val (.int u0), .val (.int u1), .val (.int u2), .val (.int u3), .val (.int u4), .val (.int u5), .val (.ref a1), .val (.int p.toInt32), .val (.int ds.length.toInt32), .val (.int q.toInt32), .val (.int es.length.toInt32), .val (.ref a19), .val (.ref a51), .unset] []
  refine Go.aload H at_128 rfl rfl rfl ?_
  refine Go.callV (rest := []) 0 [] H at_130 rfl A24 w105 w106 w108 w107 w5 w109 pd_N53 (ct_txt l W a19 t38 d79 (ds ++ es) h77 F44 S82 (by rw [List.length_append]; omega)) all0 rfl rfl rfl (Nat.le_of_eq rfl) (by decide) (by decide) (by decide) (by decide) nh_N52 ?_
  rintro _ h90 _ ⟨a88, b89, rfl, E91, g92, g93, S94, rfl⟩
  have ne95 : a1 ≠ a88 := Nat.ne_of_lt (Nat.lt_of_lt_of_le F18.lt g92)
  have ne96 : a19 ≠ a88 := Nat.ne_of_lt (Nat.lt_of_lt_of_le A24.lt g92)
  have ne97 : a51 ≠ a88 := Nat.ne_of_lt (Nat.lt_of_lt_of_le S57.lt g92)
  have ne98 : b52 ≠ a88 := Nat.ne_of_lt (Nat.lt_of_lt_of_le S57.ltb g92)
  have ne99 : t38 ≠ a88 := Nat.ne_of_lt (Nat.lt_of_lt_of_le S82.lt g92)
  have ne100 : d79 ≠ a88 := Nat.ne_of_lt (Nat.lt_of_lt_of_le S82.ltb g92)
  have ne101 : a1 ≠ b89 := Nat.ne_of_lt (Nat.lt_of_lt_of_le F18.lt g93)
  have ne102 : a19 ≠ b89 := Nat.ne_of_lt (Nat.lt_of_lt_of_le A24.lt g93)
  have ne103 : a51 ≠ b89 := Nat.ne_of_lt (Nat.lt_of_lt_of_le S57.lt g93)
  have ne104 : b52 ≠ b89 := Nat.ne_of_lt (Nat.lt_of_lt_of_le S57.ltb g93)
  have ne105 : t38 ≠ b89 := Nat.ne_of_lt (Nat.lt_of_lt_of_le S82.lt g93)
  have ne106 : d79 ≠ b89 := Nat.ne_of_lt (Nat.lt_of_lt_of_le S82.ltb g93)
  replace F18 := F18.ext E91
  replace A24 := A24.ext E91
  replace F44 := F44.ext E91
  replace S57 := S57.ext E91
  replace S82 := S82.ext E91
  show Go _ _ _ _ _ _ h90 [d79, d68, t38, b39, a19, a1] 15 341 133 #[.val (.int u0), .val (.int u1), .val (.int u2), .val (.int u3), .val (.int u4), .val (.int u5), .val (.ref a1), .val (.int p.toInt32), .val (.int ds.length.toInt32), .val (.int q.toInt32), .val (.int es.length.toInt32), .val (.ref a19), .val (.ref a51), .unset] [(.ref a88)]
  refine Go.astore (ls' := #[.val (.int u0), .val (.int u1), .val (.int u2), .val (.int u3), .val (.int u4), .val (.int u5), .val (.ref a1), .val (.int p.toInt32), .val (.int ds.length.toInt32), .val (.int q.toInt32), .val (.int es.length.toInt32), .val (.ref a19), .val (.ref a51), .val (.ref a88)]) H at_133 rfl rfl rfl ?_
  refine Go.aload H at_135 rfl rfl rfl ?_
  refine Go.callV (rest := []) 0 [] H at_137 rfl S57.exa w200 w201 w203 w202 w7 w204 pd_N14 (ct_emp l W a51 b52 ([] : List Int32) h90 S57) all0 rfl rfl rfl (Nat.le_of_eq rfl) (by decide) (by decide) (by decide) (by decide) nh_N5 ?_
  rintro _ _ _ ⟨rfl, rfl, rfl⟩
  show Go _ _ _ _ _ _ h90 [d79, d68, t38, b39, a19, a1] 15 341 140 #[.val (.int u0), .val (.int u1), .val (.int u2), .val (.int u3), .val (.int u4), .val (.int u5), .val (.ref a1), .val (.int p.toInt32), .val (.int ds.length.toInt32), .val (.int q.toInt32), .val (.int es.length.toInt32), .val (.ref a19), .val (.ref a51), .val (.ref a88)] [(.int (if ([] : List Int32) = [] then (1 : Int32) else 0))]
  refine Go.ifY (pc' := 145) H at_140 (feq (by rw [if_pos rfl]; decide)).2 (by decide) (by decide) ?_
  refine Go.aload H at_145 rfl rfl rfl ?_
  refine Go.callV (rest := []) 0 [] H at_147 rfl S94.exa w205 w206 w208 w207 w7 w209 pd_N6 (ct_len l W a88 b89 (ds ++ es) h90 S94) all0 rfl rfl rfl (Nat.le_of_eq rfl) (by decide) (by decide) (by decide) (by decide) nh_N5 ?_
  rintro _ _ _ ⟨rfl, rfl, rfl⟩
  show Go _ _ _ _ _ _ h90 [d79, d68, t38, b39, a19, a1] 15 341 150 #[.val (.int u0), .val (.int u1), .val (.int u2), .val (.int u3), .val (.int u4), .val (.int u5), .val (.ref a1), .val (.int p.toInt32), .val (.int ds.length.toInt32), .val (.int q.toInt32), .val (.int es.length.toInt32), .val (.ref a19), .val (.ref a51), .val (.ref a88)] [(.int (ds ++ es).length.toInt32)]
  refine Go.iload H at_150 rfl rfl ?_
  refine Go.iload H at_152 rfl rfl ?_
  refine Go.iadd H at_154 rfl ?_
  refine Go.icmpY (pc' := 160) H at_155 (teq (by rw [List.length_append, own_add])).1 (by decide) (by decide) ?_
  refine Go.aload H at_160 rfl rfl rfl ?_
  refine Go.aload H at_162 rfl rfl rfl ?_
  refine Go.iload H at_164 rfl rfl ?_
  refine Go.iload H at_166 rfl rfl ?_
  refine Go.iload H at_168 rfl rfl ?_
  refine Go.iload H at_170 rfl rfl ?_
  refine Go.iconst (0 : Int32) H at_172 rfl rfl ?_
  refine Go.callS (rest := []) 0 [(.ref a88), (.ref a1), (.int p.toInt32), (.int ds.length.toInt32), (.int q.toInt32), (.int es.length.toInt32), (.int (0 : Int32))] H at_173 rfl w216 w217 w218 w219 pd_N55 (ct_at l W a88 b89 a1 arr pr ds po pr2 es po2 p q 0 h90 S94 F18 e1 hpr e2 hpr2 hl (by decide)) all0 rfl rfl rfl (Nat.le_of_eq rfl) (by decide) (by decide) (by decide) (by decide) nh_N55 ?_
  rintro _ _ _ ⟨rfl, rfl, rfl⟩
  show Go _ _ _ _ _ _ h90 [d79, d68, t38, b39, a19, a1] 15 341 176 #[.val (.int u0), .val (.int u1), .val (.int u2), .val (.int u3), .val (.int u4), .val (.int u5), .val (.ref a1), .val (.int p.toInt32), .val (.int ds.length.toInt32), .val (.int q.toInt32), .val (.int es.length.toInt32), .val (.ref a19), .val (.ref a51), .val (.ref a88)] [(.int (1 : Int32))]
  refine Go.ifN H at_176 (by decide) rfl ?_
  refine Go.aload H at_179 rfl rfl rfl ?_
  refine Go.aload H at_181 rfl rfl rfl ?_
  refine Go.iload H at_183 rfl rfl ?_
  refine Go.iload H at_185 rfl rfl ?_
  refine Go.iload H at_187 rfl rfl ?_
  refine Go.iload H at_189 rfl rfl ?_
  refine Go.iconst (1 : Int32) H at_191 rfl rfl ?_
  refine Go.callS (rest := []) 0 [(.ref a88), (.ref a1), (.int p.toInt32), (.int ds.length.toInt32), (.int q.toInt32), (.int es.length.toInt32), (.int (1 : Int32))] H at_192 rfl w216 w217 w218 w219 pd_N55 (ct_at l W a88 b89 a1 arr pr ds po pr2 es po2 p q 1 h90 S94 F18 e1 hpr e2 hpr2 hl (by decide)) all0 rfl rfl rfl (Nat.le_of_eq rfl) (by decide) (by decide) (by decide) (by decide) nh_N55 ?_
  rintro _ _ _ ⟨rfl, rfl, rfl⟩
  show Go _ _ _ _ _ _ h90 [d79, d68, t38, b39, a19, a1] 15 341 195 #[.val (.int u0), .val (.int u1), .val (.int u2), .val (.int u3), .val (.int u4), .val (.int u5), .val (.ref a1), .val (.int p.toInt32), .val (.int ds.length.toInt32), .val (.int q.toInt32), .val (.int es.length.toInt32), .val (.ref a19), .val (.ref a51), .val (.ref a88)] [(.int (1 : Int32))]
  refine Go.ifN H at_195 (by decide) rfl ?_
  refine Go.aload H at_198 rfl rfl rfl ?_
  refine Go.aload H at_200 rfl rfl rfl ?_
  refine Go.iload H at_202 rfl rfl ?_
  refine Go.iload H at_204 rfl rfl ?_
  refine Go.iload H at_206 rfl rfl ?_
  refine Go.iload H at_208 rfl rfl ?_
  refine Go.iconst (2 : Int32) H at_210 rfl rfl ?_
  refine Go.callS (rest := []) 0 [(.ref a88), (.ref a1), (.int p.toInt32), (.int ds.length.toInt32), (.int q.toInt32), (.int es.length.toInt32), (.int (2 : Int32))] H at_211 rfl w216 w217 w218 w219 pd_N55 (ct_at l W a88 b89 a1 arr pr ds po pr2 es po2 p q 2 h90 S94 F18 e1 hpr e2 hpr2 hl (by decide)) all0 rfl rfl rfl (Nat.le_of_eq rfl) (by decide) (by decide) (by decide) (by decide) nh_N55 ?_
  rintro _ _ _ ⟨rfl, rfl, rfl⟩
  show Go _ _ _ _ _ _ h90 [d79, d68, t38, b39, a19, a1] 15 341 214 #[.val (.int u0), .val (.int u1), .val (.int u2), .val (.int u3), .val (.int u4), .val (.int u5), .val (.ref a1), .val (.int p.toInt32), .val (.int ds.length.toInt32), .val (.int q.toInt32), .val (.int es.length.toInt32), .val (.ref a19), .val (.ref a51), .val (.ref a88)] [(.int (1 : Int32))]
  refine Go.ifN H at_214 (by decide) rfl ?_
  refine Go.aload H at_217 rfl rfl rfl ?_
  refine Go.aload H at_219 rfl rfl rfl ?_
  refine Go.iload H at_221 rfl rfl ?_
  refine Go.iload H at_223 rfl rfl ?_
  refine Go.iload H at_225 rfl rfl ?_
  refine Go.iload H at_227 rfl rfl ?_
  refine Go.iconst (3 : Int32) H at_229 rfl rfl ?_
  refine Go.callS (rest := []) 0 [(.ref a88), (.ref a1), (.int p.toInt32), (.int ds.length.toInt32), (.int q.toInt32), (.int es.length.toInt32), (.int (3 : Int32))] H at_230 rfl w216 w217 w218 w219 pd_N55 (ct_at l W a88 b89 a1 arr pr ds po pr2 es po2 p q 3 h90 S94 F18 e1 hpr e2 hpr2 hl (by decide)) all0 rfl rfl rfl (Nat.le_of_eq rfl) (by decide) (by decide) (by decide) (by decide) nh_N55 ?_
  rintro _ _ _ ⟨rfl, rfl, rfl⟩
  show Go _ _ _ _ _ _ h90 [d79, d68, t38, b39, a19, a1] 15 341 233 #[.val (.int u0), .val (.int u1), .val (.int u2), .val (.int u3), .val (.int u4), .val (.int u5), .val (.ref a1), .val (.int p.toInt32), .val (.int ds.length.toInt32), .val (.int q.toInt32), .val (.int es.length.toInt32), .val (.ref a19), .val (.ref a51), .val (.ref a88)] [(.int (1 : Int32))]
  refine Go.ifN H at_233 (by decide) rfl ?_
  refine Go.aload H at_236 rfl rfl rfl ?_
  refine Go.aload H at_238 rfl rfl rfl ?_
  refine Go.iload H at_240 rfl rfl ?_
  refine Go.iload H at_242 rfl rfl ?_
  refine Go.iload H at_244 rfl rfl ?_
  refine Go.iload H at_246 rfl rfl ?_
  refine Go.iconst (4 : Int32) H at_248 rfl rfl ?_
  refine Go.callS (rest := []) 0 [(.ref a88), (.ref a1), (.int p.toInt32), (.int ds.length.toInt32), (.int q.toInt32), (.int es.length.toInt32), (.int (4 : Int32))] H at_249 rfl w216 w217 w218 w219 pd_N55 (ct_at l W a88 b89 a1 arr pr ds po pr2 es po2 p q 4 h90 S94 F18 e1 hpr e2 hpr2 hl (by decide)) all0 rfl rfl rfl (Nat.le_of_eq rfl) (by decide) (by decide) (by decide) (by decide) nh_N55 ?_
  rintro _ _ _ ⟨rfl, rfl, rfl⟩
  show Go _ _ _ _ _ _ h90 [d79, d68, t38, b39, a19, a1] 15 341 252 #[.val (.int u0), .val (.int u1), .val (.int u2), .val (.int u3), .val (.int u4), .val (.int u5), .val (.ref a1), .val (.int p.toInt32), .val (.int ds.length.toInt32), .val (.int q.toInt32), .val (.int es.length.toInt32), .val (.ref a19), .val (.ref a51), .val (.ref a88)] [(.int (1 : Int32))]
  refine Go.ifN H at_252 (by decide) rfl ?_
  refine Go.aload H at_255 rfl rfl rfl ?_
  refine Go.aload H at_257 rfl rfl rfl ?_
  refine Go.iload H at_259 rfl rfl ?_
  refine Go.iload H at_261 rfl rfl ?_
  refine Go.iload H at_263 rfl rfl ?_
  refine Go.iload H at_265 rfl rfl ?_
  refine Go.iconst (5 : Int32) H at_267 rfl rfl ?_
  refine Go.callS (rest := []) 0 [(.ref a88), (.ref a1), (.int p.toInt32), (.int ds.length.toInt32), (.int q.toInt32), (.int es.length.toInt32), (.int (5 : Int32))] H at_268 rfl w216 w217 w218 w219 pd_N55 (ct_at l W a88 b89 a1 arr pr ds po pr2 es po2 p q 5 h90 S94 F18 e1 hpr e2 hpr2 hl (by decide)) all0 rfl rfl rfl (Nat.le_of_eq rfl) (by decide) (by decide) (by decide) (by decide) nh_N55 ?_
  rintro _ _ _ ⟨rfl, rfl, rfl⟩
  show Go _ _ _ _ _ _ h90 [d79, d68, t38, b39, a19, a1] 15 341 271 #[.val (.int u0), .val (.int u1), .val (.int u2), .val (.int u3), .val (.int u4), .val (.int u5), .val (.ref a1), .val (.int p.toInt32), .val (.int ds.length.toInt32), .val (.int q.toInt32), .val (.int es.length.toInt32), .val (.ref a19), .val (.ref a51), .val (.ref a88)] [(.int (1 : Int32))]
  refine Go.ifN H at_271 (by decide) rfl ?_
  refine Go.aload H at_274 rfl rfl rfl ?_
  refine Go.aload H at_276 rfl rfl rfl ?_
  refine Go.iload H at_278 rfl rfl ?_
  refine Go.iload H at_280 rfl rfl ?_
  refine Go.iload H at_282 rfl rfl ?_
  refine Go.iload H at_284 rfl rfl ?_
  refine Go.bipush (6 : Int32) H at_286 rfl rfl ?_
  refine Go.callS (rest := []) 0 [(.ref a88), (.ref a1), (.int p.toInt32), (.int ds.length.toInt32), (.int q.toInt32), (.int es.length.toInt32), (.int (6 : Int32))] H at_288 rfl w216 w217 w218 w219 pd_N55 (ct_at l W a88 b89 a1 arr pr ds po pr2 es po2 p q 6 h90 S94 F18 e1 hpr e2 hpr2 hl (by decide)) all0 rfl rfl rfl (Nat.le_of_eq rfl) (by decide) (by decide) (by decide) (by decide) nh_N55 ?_
  rintro _ _ _ ⟨rfl, rfl, rfl⟩
  show Go _ _ _ _ _ _ h90 [d79, d68, t38, b39, a19, a1] 15 341 291 #[.val (.int u0), .val (.int u1), .val (.int u2), .val (.int u3), .val (.int u4), .val (.int u5), .val (.ref a1), .val (.int p.toInt32), .val (.int ds.length.toInt32), .val (.int q.toInt32), .val (.int es.length.toInt32), .val (.ref a19), .val (.ref a51), .val (.ref a88)] [(.int (1 : Int32))]
  refine Go.ifN H at_291 (by decide) rfl ?_
  refine Go.aload H at_294 rfl rfl rfl ?_
  refine Go.aload H at_296 rfl rfl rfl ?_
  refine Go.iload H at_298 rfl rfl ?_
  refine Go.iload H at_300 rfl rfl ?_
  refine Go.iload H at_302 rfl rfl ?_
  refine Go.iload H at_304 rfl rfl ?_
  refine Go.bipush (7 : Int32) H at_306 rfl rfl ?_
  refine Go.callS (rest := []) 0 [(.ref a88), (.ref a1), (.int p.toInt32), (.int ds.length.toInt32), (.int q.toInt32), (.int es.length.toInt32), (.int (7 : Int32))] H at_308 rfl w216 w217 w218 w219 pd_N55 (ct_at l W a88 b89 a1 arr pr ds po pr2 es po2 p q 7 h90 S94 F18 e1 hpr e2 hpr2 hl (by decide)) all0 rfl rfl rfl (Nat.le_of_eq rfl) (by decide) (by decide) (by decide) (by decide) nh_N55 ?_
  rintro _ _ _ ⟨rfl, rfl, rfl⟩
  show Go _ _ _ _ _ _ h90 [d79, d68, t38, b39, a19, a1] 15 341 311 #[.val (.int u0), .val (.int u1), .val (.int u2), .val (.int u3), .val (.int u4), .val (.int u5), .val (.ref a1), .val (.int p.toInt32), .val (.int ds.length.toInt32), .val (.int q.toInt32), .val (.int es.length.toInt32), .val (.ref a19), .val (.ref a51), .val (.ref a88)] [(.int (1 : Int32))]
  refine Go.ifN H at_311 (by decide) rfl ?_
  refine Go.iconst (1 : Int32) H at_314 rfl rfl ?_
  refine Go.goto (pc' := 319) H at_315 (by decide) (by decide) ?_
  exact Go.ireturn 1 [] H at_319 (by simp) (by decide) ⟨rfl, trivial⟩ all0 (by decide) (by decide)
theorem w181 : Jvm.Cond.laysStatic "jdk/internal/util/Preconditions" "IOOBE_FORMATTER" "Ljava/util/function/BiFunction;" ∈ tables_1 := List.mem_of_getElem? (i := 181) rfl
theorem w12 : Jvm.Cond.soleField "java/lang/String" "value" ∈ tables_1 := List.mem_of_getElem? (i := 12) rfl
theorem w13 : Jvm.Cond.soleField "java/lang/String" "coder" ∈ tables_1 := List.mem_of_getElem? (i := 13) rfl
set_option maxRecDepth 65536 in
set_option maxHeartbeats 4000000 in
theorem comes_1 {Post : Tables → Env → Array Value → State → Outcome → State → Prop} (hpost : ∀ tb e args s v u, (limb_1_1.after args s (.returned v) u = true ∧ limb_1_2.after args s (.returned v) u = true ∧ True) → ReturnedEndW s (.returned v) u (Jvm.fieldLocs frame_1_writes args s ++ Jvm.arrayLocs frame_1_arrays args s ++ Jvm.staticLocs frame_1_statics s) 40 1344 → Post tb e args s (.returned v) u) :
    ArmFor flags0 classFile x code maxLocals ret World_1 tables_1 room_1 Calls_1 rest_1 Pre_1 Post := by
  intro l hfl _ _ p e ha hc hk s m args below hf hA hF happ hP
  obtain ⟨hcalls, hrest, hpre⟩ := hP
  obtain ⟨-, -, -, hnamed, -, -, -, hat⟩ := (Spec.applies_iff hf).mp happ
  obtain ⟨hg, hn⟩ := and_e (Cond.before_iff.mp (show (Jvm.Cond.and given_1 narrow_1).before args s = true from hpre))
  obtain ⟨h1, h2⟩ := and_e hg
  obtain ⟨k0, r0⟩ := and_e h2
  obtain ⟨k1, r1⟩ := and_e r0
  obtain ⟨k2, r2⟩ := and_e r1
  obtain ⟨k3, r3⟩ := and_e r2
  obtain ⟨k4, r4⟩ := and_e r3
  obtain ⟨w0, w1, w2, w3, w4, w5, rfl⟩ : ∃ w0 w1 w2 w3 w4 w5 : Value, args = #[w0, w1, w2, w3, w4, w5] := by
    have hs : args.size = 6 := by simpa [Cond.value, given_1] using h1
    obtain ⟨L⟩ := args
    match L, hs with
    | [w0, w1, w2, w3, w4, w5], _ => exact ⟨w0, w1, w2, w3, w4, w5, rfl⟩
  have hw := fun d (hd : d ∈ tables_1) => atoms_spec (ws := Jvm.Cond.code x code maxLocals ret :: tables_1) hat d (List.mem_cons_of_mem _ hd)
  obtain ⟨hsets, hown0⟩ := atoms_of _ (rest_1_c_eq ▸ (show rest_1_c.before _ s = true from hrest))
  have hfit : Fit s := fun {y c} hc i hi => by
    obtain ⟨ha, rfl⟩ := Array.getElem?_eq_some_iff.mp hc
    have q := List.all_eq_true.mp ((Array.all_eq_true_iff_forall_mem.mp hF) _ (Array.getElem_mem ha)) i (List.mem_range.mpr hi)
    simpa [Array.getElem?_eq_getElem hi] using q
  obtain ⟨i0, e0⟩ := is_v k0
  obtain rfl : w0 = (.int i0) := Option.some.inj e0
  obtain ⟨i1, e1⟩ := is_v k1
  obtain rfl : w1 = (.int i1) := Option.some.inj e1
  obtain ⟨i2, e2⟩ := is_v k2
  obtain rfl : w2 = (.int i2) := Option.some.inj e2
  obtain ⟨i3, e3⟩ := is_v k3
  obtain rfl : w3 = (.int i3) := Option.some.inj e3
  obtain ⟨i4, e4⟩ := is_v k4
  obtain rfl : w4 = (.int i4) := Option.some.inj e4
  obtain ⟨i5, e5⟩ := is_v r4
  obtain rfl : w5 = (.int i5) := Option.some.inj e5
  have n5 := not_v (Cond.before_iff.mp (hsets _ (List.mem_of_getElem? (i := 11) rfl)))
  obtain ⟨iz, ez⟩ := is_v (Cond.before_iff.mp (hsets _ (List.mem_of_getElem? (i := 10) rfl)))
  have Sz : Sta s s.heap "java/lang/String" "COMPACT_STRINGS" "Z" (.int iz) := Sta.start ez (Or.inl (hsets _ (List.mem_of_getElem? (i := 9) rfl)))
  obtain ⟨vf, ef, rf⟩ := isR_v (Cond.before_iff.mp (hsets _ (List.mem_of_getElem? (i := 17) rfl)))
  have Sf : Sta s s.heap "jdk/internal/util/Preconditions" "SIOOBE_FORMATTER" "Ljava/util/function/BiFunction;" vf := Sta.start ef (Or.inl (hsets _ (List.mem_of_getElem? (i := 16) rfl)))
  have cz : ¬ (iz = (0 : Int32)) := gotF (Cond.eq_ints ez (Term.int_eval (0))) n5
  obtain ⟨vu0, eu0, fu0⟩ := static_fit hfit (hsets _ (List.mem_of_getElem? (i := 19) rfl)) (ty := .boolean) (by decide)
  obtain ⟨iu0, rfl⟩ := fit_I fu0 (by simp)
  obtain rfl : iu0 = 1 := gotT (Cond.eq_ints eu0 (Term.int_eval (1))) (Cond.before_iff.mp (hsets _ (List.mem_of_getElem? (i := 21) rfl)))
  have Su0 : Sta s s.heap "java/lang/StringUTF16" "$assertionsDisabled" "Z" (.int 1) := Sta.start eu0 (Or.inl (hsets _ (List.mem_of_getElem? (i := 20) rfl)))
  obtain ⟨vu1, eu1, fu1⟩ := static_fit hfit (hsets _ (List.mem_of_getElem? (i := 22) rfl)) (ty := .int) (by decide)
  obtain ⟨iu1, rfl⟩ := fit_I fu1 (by simp)
  obtain rfl : iu1 = 0 := gotT (Cond.eq_ints eu1 (Term.int_eval (0))) (Cond.before_iff.mp (hsets _ (List.mem_of_getElem? (i := 24) rfl)))
  have Su1 : Sta s s.heap "java/lang/StringUTF16" "HI_BYTE_SHIFT" "I" (.int 0) := Sta.start eu1 (Or.inl (hsets _ (List.mem_of_getElem? (i := 23) rfl)))
  obtain ⟨vu2, eu2, fu2⟩ := static_fit hfit (hsets _ (List.mem_of_getElem? (i := 25) rfl)) (ty := .int) (by decide)
  obtain ⟨iu2, rfl⟩ := fit_I fu2 (by simp)
  obtain rfl : iu2 = 8 := gotT (Cond.eq_ints eu2 (Term.int_eval (8))) (Cond.before_iff.mp (hsets _ (List.mem_of_getElem? (i := 27) rfl)))
  have Su2 : Sta s s.heap "java/lang/StringUTF16" "LO_BYTE_SHIFT" "I" (.int 8) := Sta.start eu2 (Or.inl (hsets _ (List.mem_of_getElem? (i := 26) rfl)))
  obtain ⟨vg, eg, fg⟩ := static_fit hfit (hw _ w181) (ty := .object "java/util/function/BiFunction") (by decide)
  have rg := fit_R fg rfl
  have Sg : Sta s s.heap "jdk/internal/util/Preconditions" "IOOBE_FORMATTER" "Ljava/util/function/BiFunction;" vg := Sta.start eg (Or.inr ⟨hw _ w180, hw _ w181⟩)
  obtain ⟨dv, ev⟩ := exa_v (Cond.before_iff.mp (hsets _ (List.mem_of_getElem? (i := 7) rfl)))
  have Sv : Sta s s.heap "java/util/ArrayList" "DEFAULTCAPACITY_EMPTY_ELEMENTDATA" "[Ljava/lang/Object;" (.ref dv) := Sta.start ev (Or.inr ⟨hw _ w57, hsets _ (List.mem_of_getElem? (i := 2) rfl)⟩)
  have hEL : EW s #[.int i0, .int i1, .int i2, .int i3, .int i4, .int i5] consts_1 := EW.nil
  have hat7 : ∀ a ∈ Bundle.stringAtoms, a.before _ s = true := fun a ha => by
    simp only [Bundle.stringAtoms, List.mem_cons, List.not_mem_nil, or_false] at ha
    rcases ha with rfl | rfl | rfl | rfl | rfl | rfl | rfl
    · exact hw _ w7
    · exact hw _ w8
    · exact hw _ w9
    · exact hw _ w10
    · exact hw _ w11
    · exact hw _ w12
    · exact hw _ w13
  have hCH : CHv s consts_1 s.vm s.heap := fun p hp => nomatch hp
  obtain ⟨n, o, h1, h2, h3, _, L, rfl, ⟨⟨sn, ⟨rfl, -⟩, -⟩, N, -⟩, -, hq⟩ := ct_law l (Z := s) (n0 := s.heap.size) ⟨⟨⟨⟨_, hw, hEL, hat7⟩, cz, Sz, rf, Sf⟩, Su0, Su1, Su2⟩, rg, Sg, Sv⟩ i0 i1 i2 i3 i4 i5 s.heap (Old.start s) tables_1 p e ha hc hk s m _ below hf ((Spec.applies_iff_loose hf).mp happ).1 ⟨rfl, State.Warmed39.refl s, rfl, hCH, fun x q => nomatch q⟩ trivial
  refine ⟨n, _, h1, h2, h3, hpost _ _ _ _ _ _ ⟨Cond.after_iff.mpr rfl, Cond.after_iff.mpr (eq_i res_at (Term.int_eval (1)) rfl), trivial⟩ ⟨hq.1, hq.2.1, hq.2.2.1, (hq.2.2.2.sift fun y hy => Or.inr (N y hy)).mono (by decide) (by decide)⟩⟩
theorem main_1_1 : Claimed_1_1 := comes_1 fun _ _ _ _ _ _ h hF => ⟨h.1, hF⟩
theorem main_1_2 : Claimed_1_2 := comes_1 fun _ _ _ _ _ _ h hF => ⟨h.2.1, hF⟩
end Jvm.Pilot.@@N@@
namespace Jvm.Pilot.@@N@@
open Jvm Jvm.ClassFile Sem Op Lib Jvm.Free Jvm.Stand Jvm.Pilot.@@N@@.Jvm.D
/-! MADE BY PROGRAM (witnessworld.py) out of the Statement's table words and the real class files: 40 classes; the members and pool entries that the words name. The judged class is class 1, her method 2. -/
namespace start1
open Jvm.ClassFile
def u (s : String) : CpInfo := .utf8 (stringToUtf16 s)
/-- a pool by its gaps: so many unusable entries, then the entry; so many at the end -/
def gap : Nat → List CpInfo → List CpInfo
  | 0, r => r
  | n + 1, r => .unusable :: gap n r
def poolList (es : List (Nat × CpInfo)) (last : Nat) : List CpInfo := es.foldr (fun e r => gap e.1 (e.2 :: r)) (gap last [])
def pool (es : List (Nat × CpInfo)) (last : Nat) : Array CpInfo := ⟨poolList es last⟩
def fileOf (pool : Array CpInfo) (this : Nat) (attrs : Array Attribute := #[]) (ms : Array MethodInfo := #[]) (fl : Nat := 33) (sup : Nat := 0) (ifs : Array Nat := #[]) (fds : Array FieldInfo := #[]) : ClassFile where
  minorVersion := 0
  majorVersion := 65
  constantPool := pool
  accessFlags := fl
  thisClass := this
  superClass := sup
  interfaces := ifs
  fields := fds
  methods := ms
  attributes := attrs
def plain (name : String) (sup : Option ClassId) : Class where
  name := name
  kind := .ordinary
  loader := none
  accessFlags := 33
  super := sup
  interfaces := #[]
  cf := none
  fields := #[]
  methods := #[]
  instanceTypes := #[]
  staticTypes := #[]
  resolved := #[]
  callSites := []
  init := .initialized
  statics := none
  mirror := none

def pool0 : Array CpInfo := pool [(5, u "<init>"), (0, u "()V"), (1, .class_ 10), (1, u "java/lang/Object")] 113

def k0c0 : Code := { maxStack := 0, maxLocals := 1, code := object_method_1_code, exceptionTable := #[], attributes := #[] }
def k0m0 : Method := { name := "<init>", desc := "()V", sig := { parameters := [], returnType := none }, accessFlags := 1, code := some k0c0 }
/-- java/lang/Object -/
def k0 : Class := { plain "java/lang/Object" none with
  accessFlags := 33
  interfaces := #[]
  cf := some (fileOf pool0 8 #[] #[{ accessFlags := 1, nameIndex := 5, descriptorIndex := 6, attributes := #[] }] 33 0 #[] #[])
  fields := #[]
  methods := #[k0m0]
  instanceTypes := #[]
  staticTypes := #[]
  resolved := Array.replicate 124 none
  statics := none }

def pool1 : Array CpInfo := pool [(2, .class_ 4), (1, u "java/lang/Object"), (0, u "<init>"), (0, u "()V"), (0, .methodref 8 9), (0, .class_ 10), (0, .nameAndType 11 12), (0, u "java/lang/String"), (0, u "charAt"), (0, u "(I)C"), (0, .integer 65535), (0, .integer 2147483647), (0, .class_ 16), (0, u "com/example/autowire/autowire/xml/XmlElement"), (0, .string 18), (0, u "e"), (0, .methodref 15 20), (0, .nameAndType 5 21), (0, u "(Ljava/lang/String;I)V"), (0, .methodref 15 23), (0, .nameAndType 24 25), (0, u "text"), (0, u "()Ljava/lang/String;"), (0, .methodref 15 27), (0, .nameAndType 28 29), (0, u "addText"), (0, u "([CII)V"), (0, .methodref 8 31), (0, .nameAndType 32 33), (0, u "isEmpty"), (0, u "()Z"), (0, .methodref 8 35), (0, .nameAndType 36 37), (0, u "length"), (0, u "()I"), (0, .methodref 39 40), (0, .class_ 41), (0, .nameAndType 42 43), (0, u "com/example/autowire/autowire/xml/XmlElementAddTextPinLaw"), (0, u "at"), (0, u "(Ljava/lang/String;[CIIIII)Z"), (3, u "law"), (0, u "(IIIIII)Z")] 4

def k1m0 : Method := { name := "<init>", desc := "()V", sig := { parameters := [], returnType := none }, accessFlags := 1, code := none }
def k1c1 : Code := { maxStack := 4, maxLocals := 8, code := method_2_code, exceptionTable := #[], attributes := #[] }
def k1m1 : Method := { name := "at", desc := "(Ljava/lang/String;[CIIIII)Z", sig := { parameters := [(.object "java/lang/String"), (.array .char), .int, .int, .int, .int, .int], returnType := some .boolean }, accessFlags := 10, code := some k1c1 }
def k1c2 : Code := { maxStack := 7, maxLocals := 14, code := code, exceptionTable := #[], attributes := #[] }
def k1m2 : Method := { name := "law", desc := "(IIIIII)Z", sig := { parameters := [.int, .int, .int, .int, .int, .int], returnType := some .boolean }, accessFlags := 9, code := some k1c2 }
/-- com/example/autowire/autowire/xml/XmlElementAddTextPinLaw -/
def k1 : Class := { plain "com/example/autowire/autowire/xml/XmlElementAddTextPinLaw" (some 0) with
  accessFlags := 49
  interfaces := #[]
  cf := some (fileOf pool1 39 #[] #[{ accessFlags := 1, nameIndex := 5, descriptorIndex := 6, attributes := #[] }, { accessFlags := 10, nameIndex := 42, descriptorIndex := 43, attributes := #[] }, { accessFlags := 9, nameIndex := 47, descriptorIndex := 48, attributes := #[] }] 49 2 #[] #[])
  fields := #[]
  methods := #[k1m0, k1m1, k1m2]
  instanceTypes := #[]
  staticTypes := #[]
  resolved := Array.replicate 53 none
  statics := none }

def pool2 : Array CpInfo := pool [(1, .methodref 2 3), (0, .class_ 4), (0, .nameAndType 5 6), (0, u "java/lang/Object"), (0, u "<init>"), (0, u "()V"), (0, .class_ 8), (0, u "java/util/LinkedHashMap"), (0, .methodref 7 3), (0, .fieldref 11 12), (0, .class_ 13), (0, .nameAndType 14 15), (0, u "com/example/autowire/autowire/xml/XmlElement"), (0, u "attributes"), (0, u "Ljava/util/Map;"), (0, .class_ 17), (0, u "java/util/HashMap"), (0, .methodref 16 3), (0, .fieldref 11 20), (0, .nameAndType 21 15), (0, u "namespaces"), (0, .class_ 23), (0, u "java/util/ArrayList"), (0, .methodref 22 3), (0, .fieldref 11 26), (0, .nameAndType 27 28), (0, u "children"), (0, u "Ljava/util/List;"), (0, .class_ 30), (0, u "java/lang/StringBuilder"), (0, .methodref 29 3), (0, .fieldref 11 33), (0, .nameAndType 34 35), (0, u "text"), (0, u "Ljava/lang/StringBuilder;"), (0, .fieldref 11 37), (0, .nameAndType 38 39), (0, u "name"), (0, u "Ljava/lang/String;"), (0, .fieldref 11 41), (0, .nameAndType 42 43), (0, u "line"), (0, u "I"), (8, .methodref 29 53), (0, .nameAndType 54 55), (0, u "toString"), (0, u "()Ljava/lang/String;"), (17, .methodref 29 74), (0, .nameAndType 75 76), (0, u "append"), (0, u "([CII)Ljava/lang/StringBuilder;"), (3, u "(Ljava/lang/String;I)V"), (15, u "addText"), (0, u "([CII)V")] 2

def k2c0 : Code := { maxStack := 3, maxLocals := 3, code := prog_41_method_1_code, exceptionTable := #[], attributes := #[] }
def k2m0 : Method := { name := "<init>", desc := "(Ljava/lang/String;I)V", sig := { parameters := [(.object "java/lang/String"), .int], returnType := none }, accessFlags := 0, code := some k2c0 }
def k2c1 : Code := { maxStack := 1, maxLocals := 1, code := prog_41_method_8_code, exceptionTable := #[], attributes := #[] }
def k2m1 : Method := { name := "text", desc := "()Ljava/lang/String;", sig := { parameters := [], returnType := some (.object "java/lang/String") }, accessFlags := 0, code := some k2c1 }
def k2c2 : Code := { maxStack := 4, maxLocals := 4, code := prog_41_method_11_code, exceptionTable := #[], attributes := #[] }
def k2m2 : Method := { name := "addText", desc := "([CII)V", sig := { parameters := [(.array .char), .int, .int], returnType := none }, accessFlags := 0, code := some k2c2 }
/-- com/example/autowire/autowire/xml/XmlElement -/
def k2 : Class := { plain "com/example/autowire/autowire/xml/XmlElement" (some 0) with
  accessFlags := 48
  interfaces := #[]
  cf := some (fileOf pool2 11 #[] #[{ accessFlags := 0, nameIndex := 5, descriptorIndex := 80, attributes := #[] }, { accessFlags := 0, nameIndex := 34, descriptorIndex := 55, attributes := #[] }, { accessFlags := 0, nameIndex := 96, descriptorIndex := 97, attributes := #[] }] 48 2 #[] #[{ accessFlags := 18, nameIndex := 38, descriptorIndex := 39, attributes := #[] }, { accessFlags := 18, nameIndex := 42, descriptorIndex := 43, attributes := #[] }, { accessFlags := 18, nameIndex := 14, descriptorIndex := 15, attributes := #[] }, { accessFlags := 18, nameIndex := 21, descriptorIndex := 15, attributes := #[] }, { accessFlags := 18, nameIndex := 27, descriptorIndex := 28, attributes := #[] }, { accessFlags := 18, nameIndex := 34, descriptorIndex := 35, attributes := #[] }])
  fields := #[{ name := "name", type := (.object "java/lang/String"), accessFlags := 18, slot := 0, constantValue := 0 }, { name := "line", type := .int, accessFlags := 18, slot := 1, constantValue := 0 }, { name := "attributes", type := (.object "java/util/Map"), accessFlags := 18, slot := 2, constantValue := 0 }, { name := "namespaces", type := (.object "java/util/Map"), accessFlags := 18, slot := 3, constantValue := 0 }, { name := "children", type := (.object "java/util/List"), accessFlags := 18, slot := 4, constantValue := 0 }, { name := "text", type := (.object "java/lang/StringBuilder"), accessFlags := 18, slot := 5, constantValue := 0 }]
  methods := #[k2m0, k2m1, k2m2]
  instanceTypes := #[(.object "java/lang/String"), .int, (.object "java/util/Map"), (.object "java/util/Map"), (.object "java/util/List"), (.object "java/lang/StringBuilder")]
  staticTypes := #[]
  resolved := Array.replicate 100 none
  statics := none }

def pool3 : Array CpInfo := pool [(1, .class_ 2), (0, u "java/io/Serializable"), (0, .class_ 4), (0, u "java/lang/Object")] 2

/-- java/io/Serializable -/
def k3 : Class := { plain "java/io/Serializable" (some 0) with
  accessFlags := 1537
  interfaces := #[]
  cf := some (fileOf pool3 1 #[] #[] 1537 3 #[] #[])
  fields := #[]
  methods := #[]
  instanceTypes := #[]
  staticTypes := #[]
  resolved := Array.replicate 7 none
  statics := none }

def pool4 : Array CpInfo := pool [(1, .class_ 2), (0, u "java/lang/Comparable"), (0, .class_ 4), (0, u "java/lang/Object")] 7

/-- java/lang/Comparable -/
def k4 : Class := { plain "java/lang/Comparable" (some 0) with
  accessFlags := 1537
  interfaces := #[]
  cf := some (fileOf pool4 1 #[] #[] 1537 3 #[] #[])
  fields := #[]
  methods := #[]
  instanceTypes := #[]
  staticTypes := #[]
  resolved := Array.replicate 12 none
  statics := none }

def pool5 : Array CpInfo := pool [(2, .class_ 4), (1, u "java/lang/CharSequence"), (42, .class_ 48), (0, u "java/lang/CharSequence$1CodePointIterator"), (10, .class_ 60), (0, u "java/lang/CharSequence$1CharIterator"), (5, .class_ 67), (0, u "java/lang/Object")] 63

/-- java/lang/CharSequence -/
def k5 : Class := { plain "java/lang/CharSequence" (some 0) with
  accessFlags := 1537
  interfaces := #[]
  cf := some (fileOf pool5 2 #[.nestMembers #[47, 59]] #[] 1537 66 #[] #[])
  fields := #[]
  methods := #[]
  instanceTypes := #[]
  staticTypes := #[]
  resolved := Array.replicate 131 none
  statics := none }

def pool6 : Array CpInfo := pool [(1, .class_ 2), (0, u "java/lang/constant/Constable"), (0, .class_ 4), (0, u "java/lang/Object")] 6

/-- java/lang/constant/Constable -/
def k6 : Class := { plain "java/lang/constant/Constable" (some 0) with
  accessFlags := 1537
  interfaces := #[]
  cf := some (fileOf pool6 1 #[] #[] 1537 3 #[] #[])
  fields := #[]
  methods := #[]
  instanceTypes := #[]
  staticTypes := #[]
  resolved := Array.replicate 11 none
  statics := none }

def pool7 : Array CpInfo := pool [(1, .class_ 2), (0, u "java/lang/constant/ConstantDesc"), (0, .class_ 4), (0, u "java/lang/Object")] 32

/-- java/lang/constant/ConstantDesc -/
def k7 : Class := { plain "java/lang/constant/ConstantDesc" (some 0) with
  accessFlags := 1537
  interfaces := #[]
  cf := some (fileOf pool7 1 #[] #[] 1537 3 #[] #[])
  fields := #[]
  methods := #[]
  instanceTypes := #[]
  staticTypes := #[]
  resolved := Array.replicate 37 none
  statics := none }

def pool8 : Array CpInfo := pool [(1, .methodref 2 3), (0, .class_ 4), (0, .nameAndType 5 6), (0, u "java/lang/Object"), (0, u "<init>"), (0, u "()V"), (2, .fieldref 10 11), (0, .class_ 12), (0, .nameAndType 13 14), (0, u "java/lang/String"), (0, u "value"), (0, u "[B"), (0, .fieldref 10 16), (0, .nameAndType 17 18), (0, u "coder"), (0, u "B"), (2, u "hash"), (0, u "I"), (2, u "hashIsZero"), (0, u "Z"), (9, u "checkBoundsOffCount"), (0, u "(III)I"), (0, .fieldref 10 39), (0, .nameAndType 40 26), (0, u "COMPACT_STRINGS"), (1, .class_ 44), (1, u "java/lang/StringUTF16"), (9, .methodref 55 56), (0, .class_ 57), (0, .nameAndType 58 59), (0, u "java/util/Arrays"), (0, u "copyOfRange"), (0, u "([BII)[B"), (47, .class_ 109), (1, u "java/lang/StringLatin1"), (32, u "()Z"), (191, u "()I"), (0, .methodref 10 336), (0, .nameAndType 17 337), (0, u "()B"), (2, u "()[B"), (22, u "([BI)C"), (27, u "(II)V"), (35, u "(I)C"), (61, .methodref 10 490), (0, .nameAndType 5 491), (0, u "(Ljava/lang/AbstractStringBuilder;Ljava/lang/Void;)V"), (0, .methodref 10 493), (0, .nameAndType 494 142), (0, u "isLatin1"), (0, .methodref 107 496), (0, .nameAndType 497 363), (0, u "charAt"), (0, .methodref 42 496), (2, u "checkIndex"), (4, .nameAndType 507 334), (0, u "length"), (5, u "checkFromToIndex"), (9, u "checkBoundsBeginEnd"), (0, u "(III)V"), (24, .methodref 550 506), (0, .class_ 551), (0, u "java/lang/AbstractStringBuilder"), (0, .methodref 550 553), (0, .nameAndType 554 340), (0, u "getValue"), (20, .class_ 576), (0, u "java/lang/CharSequence"), (22, u "CASE_INSENSITIVE_ORDER"), (0, u "Ljava/util/Comparator;"), (91, u "isEmpty"), (354, .methodref 550 493), (0, .fieldref 550 1049), (0, .nameAndType 1050 26), (0, u "maybeLatin1"), (2, .fieldref 1054 1055), (0, .class_ 1056), (0, .nameAndType 1057 1058), (0, u "jdk/internal/util/Preconditions"), (0, u "SIOOBE_FORMATTER"), (0, u "Ljava/util/function/BiFunction;"), (0, .methodref 1054 1060), (0, .nameAndType 501 1061), (0, u "(IILjava/util/function/BiFunction;)I"), (0, .methodref 1054 1063), (0, .nameAndType 513 1064), (0, u "(IIILjava/util/function/BiFunction;)I"), (0, .methodref 1054 1066), (0, .nameAndType 1067 1064), (0, u "checkFromIndexSize"), (33, u "serialPersistentFields"), (0, u "[Ljava/io/ObjectStreamField;"), (0, .class_ 1104), (0, u "java/lang/String$CaseInsensitiveComparator"), (1, .class_ 1107), (0, u "java/io/Serializable"), (0, .class_ 1109), (0, u "java/lang/Comparable"), (0, .class_ 1111), (0, u "java/lang/constant/Constable"), (0, .class_ 1113), (0, u "java/lang/constant/ConstantDesc"), (2, u "serialVersionUID"), (0, u "J"), (3, u "REPL"), (0, u "C"), (2, u "LATIN1"), (1, u "UTF16"), (105, u "(Ljava/lang/StringBuilder;)V")] 217

def k8m0 : Method := { name := "<init>", desc := "()V", sig := { parameters := [], returnType := none }, accessFlags := 1, code := none }
def k8c1 : Code := { maxStack := 3, maxLocals := 2, code := jdk_42_method_53_code, exceptionTable := #[], attributes := #[] }
def k8m1 : Method := { name := "<init>", desc := "(Ljava/lang/StringBuilder;)V", sig := { parameters := [(.object "java/lang/StringBuilder")], returnType := none }, accessFlags := 1, code := some k8c1 }
def k8c2 : Code := { maxStack := 2, maxLocals := 1, code := jdk_42_method_54_code, exceptionTable := #[], attributes := #[] }
def k8m2 : Method := { name := "length", desc := "()I", sig := { parameters := [], returnType := some .int }, accessFlags := 1, code := some k8c2 }
def k8c3 : Code := { maxStack := 1, maxLocals := 1, code := jdk_42_method_55_code, exceptionTable := #[], attributes := #[] }
def k8m3 : Method := { name := "isEmpty", desc := "()Z", sig := { parameters := [], returnType := some .boolean }, accessFlags := 1, code := some k8c3 }
def k8c4 : Code := { maxStack := 2, maxLocals := 2, code := jdk_42_method_56_code, exceptionTable := #[], attributes := #[] }
def k8m4 : Method := { name := "charAt", desc := "(I)C", sig := { parameters := [.int], returnType := some .char }, accessFlags := 1, code := some k8c4 }
def k8c5 : Code := { maxStack := 5, maxLocals := 5, code := jdk_42_method_150_code, exceptionTable := #[], attributes := #[] }
def k8m5 : Method := { name := "<init>", desc := "(Ljava/lang/AbstractStringBuilder;Ljava/lang/Void;)V", sig := { parameters := [(.object "java/lang/AbstractStringBuilder"), (.object "java/lang/Void")], returnType := none }, accessFlags := 0, code := some k8c5 }
def k8c6 : Code := { maxStack := 1, maxLocals := 1, code := jdk_42_method_152_code, exceptionTable := #[], attributes := #[] }
def k8m6 : Method := { name := "coder", desc := "()B", sig := { parameters := [], returnType := some .byte }, accessFlags := 0, code := some k8c6 }
def k8c7 : Code := { maxStack := 1, maxLocals := 1, code := jdk_42_method_154_code, exceptionTable := #[], attributes := #[] }
def k8m7 : Method := { name := "isLatin1", desc := "()Z", sig := { parameters := [], returnType := some .boolean }, accessFlags := 0, code := some k8c7 }
def k8c8 : Code := { maxStack := 3, maxLocals := 2, code := jdk_42_method_155_code, exceptionTable := #[], attributes := #[] }
def k8m8 : Method := { name := "checkIndex", desc := "(II)V", sig := { parameters := [.int, .int], returnType := none }, accessFlags := 8, code := some k8c8 }
def k8c9 : Code := { maxStack := 4, maxLocals := 3, code := jdk_42_method_157_code, exceptionTable := #[], attributes := #[] }
def k8m9 : Method := { name := "checkBoundsOffCount", desc := "(III)I", sig := { parameters := [.int, .int, .int], returnType := some .int }, accessFlags := 8, code := some k8c9 }
def k8c10 : Code := { maxStack := 4, maxLocals := 3, code := jdk_42_method_158_code, exceptionTable := #[], attributes := #[] }
def k8m10 : Method := { name := "checkBoundsBeginEnd", desc := "(III)V", sig := { parameters := [.int, .int, .int], returnType := none }, accessFlags := 8, code := some k8c10 }
/-- java/lang/String -/
def k8 : Class := { plain "java/lang/String" (some 0) with
  accessFlags := 49
  interfaces := #[3, 4, 5, 6, 7]
  cf := some (fileOf pool8 10 #[.nestMembers #[1103]] #[{ accessFlags := 1, nameIndex := 5, descriptorIndex := 6, attributes := #[] }, { accessFlags := 1, nameIndex := 5, descriptorIndex := 1233, attributes := #[] }, { accessFlags := 1, nameIndex := 507, descriptorIndex := 334, attributes := #[] }, { accessFlags := 1, nameIndex := 692, descriptorIndex := 142, attributes := #[] }, { accessFlags := 1, nameIndex := 497, descriptorIndex := 427, attributes := #[] }, { accessFlags := 0, nameIndex := 5, descriptorIndex := 491, attributes := #[] }, { accessFlags := 0, nameIndex := 17, descriptorIndex := 337, attributes := #[] }, { accessFlags := 0, nameIndex := 494, descriptorIndex := 142, attributes := #[] }, { accessFlags := 8, nameIndex := 501, descriptorIndex := 391, attributes := #[] }, { accessFlags := 8, nameIndex := 36, descriptorIndex := 37, attributes := #[] }, { accessFlags := 8, nameIndex := 523, descriptorIndex := 524, attributes := #[] }] 49 2 #[1106, 1108, 575, 1110, 1112] #[{ accessFlags := 18, nameIndex := 13, descriptorIndex := 14, attributes := #[] }, { accessFlags := 18, nameIndex := 17, descriptorIndex := 18, attributes := #[] }, { accessFlags := 2, nameIndex := 21, descriptorIndex := 22, attributes := #[] }, { accessFlags := 2, nameIndex := 25, descriptorIndex := 26, attributes := #[] }, { accessFlags := 26, nameIndex := 1116, descriptorIndex := 1117, attributes := #[] }, { accessFlags := 24, nameIndex := 40, descriptorIndex := 26, attributes := #[] }, { accessFlags := 26, nameIndex := 1101, descriptorIndex := 1102, attributes := #[] }, { accessFlags := 26, nameIndex := 1121, descriptorIndex := 1122, attributes := #[] }, { accessFlags := 25, nameIndex := 599, descriptorIndex := 600, attributes := #[] }, { accessFlags := 24, nameIndex := 1125, descriptorIndex := 18, attributes := #[] }, { accessFlags := 24, nameIndex := 1127, descriptorIndex := 18, attributes := #[] }])
  fields := #[{ name := "value", type := (.array .byte), accessFlags := 18, slot := 0, constantValue := 0 }, { name := "coder", type := .byte, accessFlags := 18, slot := 1, constantValue := 0 }, { name := "hash", type := .int, accessFlags := 2, slot := 2, constantValue := 0 }, { name := "hashIsZero", type := .boolean, accessFlags := 2, slot := 3, constantValue := 0 }, { name := "serialVersionUID", type := .long, accessFlags := 26, slot := 0, constantValue := 0 }, { name := "COMPACT_STRINGS", type := .boolean, accessFlags := 24, slot := 1, constantValue := 0 }, { name := "serialPersistentFields", type := (.array (.object "java/io/ObjectStreamField")), accessFlags := 26, slot := 2, constantValue := 0 }, { name := "REPL", type := .char, accessFlags := 26, slot := 3, constantValue := 0 }, { name := "CASE_INSENSITIVE_ORDER", type := (.object "java/util/Comparator"), accessFlags := 25, slot := 4, constantValue := 0 }, { name := "LATIN1", type := .byte, accessFlags := 24, slot := 5, constantValue := 0 }, { name := "UTF16", type := .byte, accessFlags := 24, slot := 6, constantValue := 0 }]
  methods := #[k8m0, k8m1, k8m2, k8m3, k8m4, k8m5, k8m6, k8m7, k8m8, k8m9, k8m10]
  instanceTypes := #[(.array .byte), .byte, .int, .boolean]
  staticTypes := #[.long, .boolean, (.array (.object "java/io/ObjectStreamField")), .char, (.object "java/util/Comparator"), .byte, .byte]
  resolved := Array.replicate 1451 none
  statics := some 0 }

def pool9 : Array CpInfo := pool [(2, .class_ 4), (1, u "java/util/Map"), (31, .class_ 37), (0, u "java/util/Map$Entry"), (55, .class_ 94), (0, u "java/lang/Object")] 168

/-- java/util/Map -/
def k9 : Class := { plain "java/util/Map" (some 0) with
  accessFlags := 1537
  interfaces := #[]
  cf := some (fileOf pool9 2 #[.nestMembers #[36]] #[] 1537 93 #[] #[])
  fields := #[]
  methods := #[]
  instanceTypes := #[]
  staticTypes := #[]
  resolved := Array.replicate 263 none
  statics := none }

def pool10 : Array CpInfo := pool [(1, .methodref 2 3), (0, .class_ 4), (0, .nameAndType 5 6), (0, u "java/lang/Object"), (0, u "<init>"), (0, u "()V"), (1, .class_ 10), (1, u "java/util/AbstractMap"), (42, .class_ 54), (0, u "java/util/Map"), (9, u "keySet"), (0, u "Ljava/util/Set;"), (0, .class_ 67), (0, u "java/util/AbstractMap$1"), (5, u "values"), (0, u "Ljava/util/Collection;"), (0, .class_ 76), (0, u "java/util/AbstractMap$2"), (104, .class_ 182), (0, u "java/util/AbstractMap$ViewCollection"), (0, .class_ 184), (0, u "java/util/AbstractMap$SimpleImmutableEntry"), (0, .class_ 186), (0, u "java/util/AbstractMap$SimpleEntry"), (0, .class_ 188), (0, u "java/util/AbstractMap$2$1"), (0, .class_ 190), (0, u "java/util/AbstractMap$1$1")] 5

def k10c0 : Code := { maxStack := 1, maxLocals := 1, code := jdk_71_method_1_code, exceptionTable := #[], attributes := #[] }
def k10m0 : Method := { name := "<init>", desc := "()V", sig := { parameters := [], returnType := none }, accessFlags := 4, code := some k10c0 }
/-- java/util/AbstractMap -/
def k10 : Class := { plain "java/util/AbstractMap" (some 0) with
  accessFlags := 1057
  interfaces := #[9]
  cf := some (fileOf pool10 8 #[.nestMembers #[181, 183, 185, 75, 187, 66, 189]] #[{ accessFlags := 4, nameIndex := 5, descriptorIndex := 6, attributes := #[] }] 1057 2 #[53] #[{ accessFlags := 128, nameIndex := 64, descriptorIndex := 65, attributes := #[] }, { accessFlags := 128, nameIndex := 73, descriptorIndex := 74, attributes := #[] }])
  fields := #[{ name := "keySet", type := (.object "java/util/Set"), accessFlags := 128, slot := 0, constantValue := 0 }, { name := "values", type := (.object "java/util/Collection"), accessFlags := 128, slot := 1, constantValue := 0 }]
  methods := #[k10m0]
  instanceTypes := #[(.object "java/util/Set"), (.object "java/util/Collection")]
  staticTypes := #[]
  resolved := Array.replicate 196 none
  statics := none }

def pool11 : Array CpInfo := pool [(1, .class_ 2), (0, u "java/lang/Cloneable"), (0, .class_ 4), (0, u "java/lang/Object")] 2

/-- java/lang/Cloneable -/
def k11 : Class := { plain "java/lang/Cloneable" (some 0) with
  accessFlags := 1537
  interfaces := #[]
  cf := some (fileOf pool11 1 #[] #[] 1537 3 #[] #[])
  fields := #[]
  methods := #[]
  instanceTypes := #[]
  staticTypes := #[]
  resolved := Array.replicate 7 none
  statics := none }

def pool12 : Array CpInfo := pool [(40, .class_ 41), (0, u "java/util/HashMap"), (1, .methodref 44 45), (0, .class_ 46), (0, .nameAndType 47 48), (0, u "java/util/AbstractMap"), (0, u "<init>"), (0, u "()V"), (32, .fieldref 40 82), (0, .nameAndType 83 84), (0, u "loadFactor"), (0, u "F"), (5, u "threshold"), (0, u "I"), (0, .float 1061158912), (8, .class_ 103), (1, u "java/util/Map"), (0, u "size"), (2, u "table"), (0, u "[Ljava/util/HashMap$Node;"), (14, u "entrySet"), (39, .class_ 165), (1, u "java/util/HashMap$Node"), (14, .class_ 181), (0, u "java/util/HashMap$TreeNode"), (22, u "modCount"), (37, u "Ljava/util/Set;"), (0, .class_ 244), (0, u "java/util/HashMap$KeySet"), (18, .class_ 264), (0, u "java/util/HashMap$Values"), (3, .class_ 269), (0, u "java/util/HashMap$EntrySet"), (76, .class_ 348), (1, u "java/util/HashMap$UnsafeHolder"), (43, .class_ 393), (0, u "java/lang/Cloneable"), (0, .class_ 395), (0, u "java/io/Serializable"), (0, u "serialVersionUID"), (0, u "J"), (3, u "DEFAULT_INITIAL_CAPACITY"), (1, u "MAXIMUM_CAPACITY"), (0, u "DEFAULT_LOAD_FACTOR"), (0, u "TREEIFY_THRESHOLD"), (1, u "UNTREEIFY_THRESHOLD"), (1, u "MIN_TREEIFY_CAPACITY"), (186, .class_ 597), (0, u "java/util/HashMap$EntrySpliterator"), (0, .class_ 599), (0, u "java/util/HashMap$ValueSpliterator"), (0, .class_ 601), (0, u "java/util/HashMap$KeySpliterator"), (0, .class_ 603), (0, u "java/util/HashMap$HashMapSpliterator"), (0, .class_ 605), (0, u "java/util/HashMap$EntryIterator"), (0, .class_ 607), (0, u "java/util/HashMap$ValueIterator"), (0, .class_ 609), (0, u "java/util/HashMap$KeyIterator"), (0, .class_ 611), (0, u "java/util/HashMap$HashIterator")] 17

def k12c0 : Code := { maxStack := 2, maxLocals := 1, code := jdk_69_method_7_code, exceptionTable := #[], attributes := #[] }
def k12m0 : Method := { name := "<init>", desc := "()V", sig := { parameters := [], returnType := none }, accessFlags := 1, code := some k12c0 }
/-- java/util/HashMap -/
def k12 : Class := { plain "java/util/HashMap" (some 10) with
  accessFlags := 33
  interfaces := #[9, 11, 3]
  cf := some (fileOf pool12 40 #[.nestMembers #[180, 596, 598, 600, 602, 604, 606, 608, 610, 346, 268, 263, 243, 163]] #[{ accessFlags := 1, nameIndex := 47, descriptorIndex := 48, attributes := #[] }] 33 44 #[101, 392, 394] #[{ accessFlags := 26, nameIndex := 396, descriptorIndex := 397, attributes := #[] }, { accessFlags := 24, nameIndex := 401, descriptorIndex := 91, attributes := #[] }, { accessFlags := 24, nameIndex := 403, descriptorIndex := 91, attributes := #[] }, { accessFlags := 24, nameIndex := 404, descriptorIndex := 84, attributes := #[] }, { accessFlags := 24, nameIndex := 405, descriptorIndex := 91, attributes := #[] }, { accessFlags := 24, nameIndex := 407, descriptorIndex := 91, attributes := #[] }, { accessFlags := 24, nameIndex := 409, descriptorIndex := 91, attributes := #[] }, { accessFlags := 128, nameIndex := 107, descriptorIndex := 108, attributes := #[] }, { accessFlags := 128, nameIndex := 123, descriptorIndex := 242, attributes := #[] }, { accessFlags := 128, nameIndex := 104, descriptorIndex := 91, attributes := #[] }, { accessFlags := 128, nameIndex := 204, descriptorIndex := 91, attributes := #[] }, { accessFlags := 0, nameIndex := 90, descriptorIndex := 91, attributes := #[] }, { accessFlags := 16, nameIndex := 83, descriptorIndex := 84, attributes := #[] }])
  fields := #[{ name := "serialVersionUID", type := .long, accessFlags := 26, slot := 0, constantValue := 0 }, { name := "DEFAULT_INITIAL_CAPACITY", type := .int, accessFlags := 24, slot := 1, constantValue := 0 }, { name := "MAXIMUM_CAPACITY", type := .int, accessFlags := 24, slot := 2, constantValue := 0 }, { name := "DEFAULT_LOAD_FACTOR", type := .float, accessFlags := 24, slot := 3, constantValue := 0 }, { name := "TREEIFY_THRESHOLD", type := .int, accessFlags := 24, slot := 4, constantValue := 0 }, { name := "UNTREEIFY_THRESHOLD", type := .int, accessFlags := 24, slot := 5, constantValue := 0 }, { name := "MIN_TREEIFY_CAPACITY", type := .int, accessFlags := 24, slot := 6, constantValue := 0 }, { name := "table", type := (.array (.object "java/util/HashMap$Node")), accessFlags := 128, slot := 2, constantValue := 0 }, { name := "entrySet", type := (.object "java/util/Set"), accessFlags := 128, slot := 3, constantValue := 0 }, { name := "size", type := .int, accessFlags := 128, slot := 4, constantValue := 0 }, { name := "modCount", type := .int, accessFlags := 128, slot := 5, constantValue := 0 }, { name := "threshold", type := .int, accessFlags := 0, slot := 6, constantValue := 0 }, { name := "loadFactor", type := .float, accessFlags := 16, slot := 7, constantValue := 0 }]
  methods := #[k12m0]
  instanceTypes := #[(.object "java/util/Set"), (.object "java/util/Collection"), (.array (.object "java/util/HashMap$Node")), (.object "java/util/Set"), .int, .int, .int, .float]
  staticTypes := #[.long, .int, .int, .float, .int, .int, .int]
  resolved := Array.replicate 629 none
  statics := none }

def pool13 : Array CpInfo := pool [(2, .class_ 4), (1, u "java/util/SequencedMap"), (38, .class_ 44), (0, u "java/util/SequencedMap$1SeqKeySet"), (3, .class_ 49), (0, u "java/util/SequencedMap$1SeqValues"), (1, .class_ 52), (0, u "java/util/SequencedMap$1SeqEntrySet"), (1, .class_ 55), (0, u "java/lang/Object"), (0, .class_ 57), (0, u "java/util/Map")] 48

/-- java/util/SequencedMap -/
def k13 : Class := { plain "java/util/SequencedMap" (some 0) with
  accessFlags := 1537
  interfaces := #[9]
  cf := some (fileOf pool13 2 #[.nestMembers #[51, 48, 43]] #[] 1537 54 #[56] #[])
  fields := #[]
  methods := #[]
  instanceTypes := #[]
  staticTypes := #[]
  resolved := Array.replicate 106 none
  statics := none }

def pool14 : Array CpInfo := pool [(1, .fieldref 2 3), (0, .class_ 4), (0, .nameAndType 5 6), (0, u "java/util/LinkedHashMap"), (0, u "putMode"), (0, u "I"), (2, u "head"), (0, u "Ljava/util/LinkedHashMap$Entry;"), (2, u "tail"), (1, .class_ 17), (1, u "java/util/LinkedHashMap$Entry"), (5, .class_ 25), (1, u "java/util/HashMap"), (1, u "()V"), (2, u "<init>"), (33, .fieldref 2 65), (0, .nameAndType 66 67), (0, u "accessOrder"), (0, u "Z"), (19, .methodref 23 88), (0, .nameAndType 30 27), (32, .class_ 122), (0, u "java/util/LinkedHashMap$LinkedKeySet"), (20, .class_ 144), (0, u "java/util/LinkedHashMap$LinkedValues"), (9, .class_ 155), (0, u "java/util/LinkedHashMap$LinkedEntrySet"), (44, .class_ 201), (0, u "java/util/LinkedHashMap$ReversedLinkedHashMapView"), (3, .class_ 206), (0, u "java/util/SequencedMap"), (0, u "serialVersionUID"), (0, u "J"), (5, u "PUT_NORM"), (1, u "PUT_FIRST"), (1, u "PUT_LAST"), (143, .class_ 363), (0, u "java/util/LinkedHashMap$LinkedEntryIterator"), (0, .class_ 365), (0, u "java/util/LinkedHashMap$LinkedValueIterator"), (0, .class_ 367), (0, u "java/util/LinkedHashMap$LinkedKeyIterator"), (0, .class_ 369), (0, u "java/util/LinkedHashMap$LinkedHashIterator")] 16

def k14c0 : Code := { maxStack := 2, maxLocals := 1, code := jdk_94_method_16_code, exceptionTable := #[], attributes := #[] }
def k14m0 : Method := { name := "<init>", desc := "()V", sig := { parameters := [], returnType := none }, accessFlags := 1, code := some k14c0 }
/-- java/util/LinkedHashMap -/
def k14 : Class := { plain "java/util/LinkedHashMap" (some 12) with
  accessFlags := 33
  interfaces := #[13]
  cf := some (fileOf pool14 2 #[.nestMembers #[200, 362, 364, 366, 368, 154, 143, 121, 15]] #[{ accessFlags := 1, nameIndex := 30, descriptorIndex := 27, attributes := #[] }] 33 23 #[205] #[{ accessFlags := 26, nameIndex := 207, descriptorIndex := 208, attributes := #[] }, { accessFlags := 128, nameIndex := 9, descriptorIndex := 10, attributes := #[] }, { accessFlags := 128, nameIndex := 13, descriptorIndex := 10, attributes := #[] }, { accessFlags := 16, nameIndex := 66, descriptorIndex := 67, attributes := #[] }, { accessFlags := 24, nameIndex := 214, descriptorIndex := 6, attributes := #[] }, { accessFlags := 24, nameIndex := 216, descriptorIndex := 6, attributes := #[] }, { accessFlags := 24, nameIndex := 218, descriptorIndex := 6, attributes := #[] }, { accessFlags := 128, nameIndex := 5, descriptorIndex := 6, attributes := #[] }])
  fields := #[{ name := "serialVersionUID", type := .long, accessFlags := 26, slot := 0, constantValue := 0 }, { name := "head", type := (.object "java/util/LinkedHashMap$Entry"), accessFlags := 128, slot := 8, constantValue := 0 }, { name := "tail", type := (.object "java/util/LinkedHashMap$Entry"), accessFlags := 128, slot := 9, constantValue := 0 }, { name := "accessOrder", type := .boolean, accessFlags := 16, slot := 10, constantValue := 0 }, { name := "PUT_NORM", type := .int, accessFlags := 24, slot := 1, constantValue := 0 }, { name := "PUT_FIRST", type := .int, accessFlags := 24, slot := 2, constantValue := 0 }, { name := "PUT_LAST", type := .int, accessFlags := 24, slot := 3, constantValue := 0 }, { name := "putMode", type := .int, accessFlags := 128, slot := 11, constantValue := 0 }]
  methods := #[k14m0]
  instanceTypes := #[(.object "java/util/Set"), (.object "java/util/Collection"), (.array (.object "java/util/HashMap$Node")), (.object "java/util/Set"), .int, .int, .int, .float, (.object "java/util/LinkedHashMap$Entry"), (.object "java/util/LinkedHashMap$Entry"), .boolean, .int]
  staticTypes := #[.long, .int, .int, .int]
  resolved := Array.replicate 386 none
  statics := none }

def pool15 : Array CpInfo := pool [(8, .class_ 10), (1, u "java/lang/Iterable"), (24, .class_ 36), (0, u "java/lang/Object")] 25

/-- java/lang/Iterable -/
def k15 : Class := { plain "java/lang/Iterable" (some 0) with
  accessFlags := 1537
  interfaces := #[]
  cf := some (fileOf pool15 8 #[] #[] 1537 35 #[] #[])
  fields := #[]
  methods := #[]
  instanceTypes := #[]
  staticTypes := #[]
  resolved := Array.replicate 62 none
  statics := none }

def pool16 : Array CpInfo := pool [(10, .class_ 12), (1, u "java/util/Collection"), (47, .class_ 61), (0, u "java/lang/Object"), (0, .class_ 63), (0, u "java/lang/Iterable")] 51

/-- java/util/Collection -/
def k16 : Class := { plain "java/util/Collection" (some 0) with
  accessFlags := 1537
  interfaces := #[15]
  cf := some (fileOf pool16 10 #[] #[] 1537 60 #[62] #[])
  fields := #[]
  methods := #[]
  instanceTypes := #[]
  staticTypes := #[]
  resolved := Array.replicate 115 none
  statics := none }

def pool17 : Array CpInfo := pool [(1, .methodref 2 3), (0, .class_ 4), (0, .nameAndType 5 6), (0, u "java/lang/Object"), (0, u "<init>"), (0, u "()V"), (1, .class_ 10), (1, u "java/util/AbstractCollection"), (66, .class_ 78), (0, u "java/util/Collection")] 81

def k17c0 : Code := { maxStack := 1, maxLocals := 1, code := jdk_22_method_1_code, exceptionTable := #[], attributes := #[] }
def k17m0 : Method := { name := "<init>", desc := "()V", sig := { parameters := [], returnType := none }, accessFlags := 4, code := some k17c0 }
/-- java/util/AbstractCollection -/
def k17 : Class := { plain "java/util/AbstractCollection" (some 0) with
  accessFlags := 1057
  interfaces := #[16]
  cf := some (fileOf pool17 8 #[] #[{ accessFlags := 4, nameIndex := 5, descriptorIndex := 6, attributes := #[] }] 1057 2 #[77] #[])
  fields := #[]
  methods := #[k17m0]
  instanceTypes := #[]
  staticTypes := #[]
  resolved := Array.replicate 160 none
  statics := none }

def pool18 : Array CpInfo := pool [(8, .class_ 10), (1, u "java/util/SequencedCollection"), (15, .class_ 27), (0, u "java/lang/Object"), (0, .class_ 29), (0, u "java/util/Collection")] 27

/-- java/util/SequencedCollection -/
def k18 : Class := { plain "java/util/SequencedCollection" (some 0) with
  accessFlags := 1537
  interfaces := #[16]
  cf := some (fileOf pool18 8 #[] #[] 1537 26 #[28] #[])
  fields := #[]
  methods := #[]
  instanceTypes := #[]
  staticTypes := #[]
  resolved := Array.replicate 57 none
  statics := none }

def pool19 : Array CpInfo := pool [(8, .class_ 10), (1, u "java/util/List"), (92, .class_ 104), (0, u "java/lang/Object"), (15, .class_ 121), (0, u "java/util/SequencedCollection")] 129

/-- java/util/List -/
def k19 : Class := { plain "java/util/List" (some 0) with
  accessFlags := 1537
  interfaces := #[18]
  cf := some (fileOf pool19 8 #[] #[] 1537 103 #[120] #[])
  fields := #[]
  methods := #[]
  instanceTypes := #[]
  staticTypes := #[]
  resolved := Array.replicate 251 none
  statics := none }

def pool20 : Array CpInfo := pool [(1, .methodref 2 3), (0, .class_ 4), (0, .nameAndType 5 6), (0, u "java/util/AbstractCollection"), (0, u "<init>"), (0, u "()V"), (0, .fieldref 8 9), (0, .class_ 10), (0, .nameAndType 11 12), (0, u "java/util/AbstractList"), (0, u "modCount"), (0, u "I"), (64, .class_ 78), (0, u "java/util/AbstractList$Itr"), (3, .class_ 83), (0, u "java/util/AbstractList$ListItr"), (9, .class_ 94), (0, u "java/util/AbstractList$RandomAccessSubList"), (3, .class_ 99), (0, u "java/util/AbstractList$SubList"), (33, .class_ 134), (0, u "java/util/List"), (73, .class_ 209), (0, u "java/util/AbstractList$SubList$1"), (0, .class_ 211), (0, u "java/util/AbstractList$RandomAccessSpliterator")] 6

def k20c0 : Code := { maxStack := 2, maxLocals := 1, code := jdk_39_method_1_code, exceptionTable := #[], attributes := #[] }
def k20m0 : Method := { name := "<init>", desc := "()V", sig := { parameters := [], returnType := none }, accessFlags := 4, code := some k20c0 }
/-- java/util/AbstractList -/
def k20 : Class := { plain "java/util/AbstractList" (some 17) with
  accessFlags := 1057
  interfaces := #[19]
  cf := some (fileOf pool20 8 #[.nestMembers #[93, 98, 208, 210, 82, 77]] #[{ accessFlags := 4, nameIndex := 5, descriptorIndex := 6, attributes := #[] }] 1057 2 #[133] #[{ accessFlags := 132, nameIndex := 11, descriptorIndex := 12, attributes := #[] }])
  fields := #[{ name := "modCount", type := .int, accessFlags := 132, slot := 0, constantValue := 0 }]
  methods := #[k20m0]
  instanceTypes := #[.int]
  staticTypes := #[]
  resolved := Array.replicate 218 none
  statics := none }

def pool21 : Array CpInfo := pool [(1, .class_ 2), (0, u "java/util/RandomAccess"), (0, .class_ 4), (0, u "java/lang/Object")] 2

/-- java/util/RandomAccess -/
def k21 : Class := { plain "java/util/RandomAccess" (some 0) with
  accessFlags := 1537
  interfaces := #[]
  cf := some (fileOf pool21 1 #[] #[] 1537 3 #[] #[])
  fields := #[]
  methods := #[]
  instanceTypes := #[]
  staticTypes := #[]
  resolved := Array.replicate 7 none
  statics := none }

def pool22 : Array CpInfo := pool [(1, .methodref 2 3), (0, .class_ 4), (0, .nameAndType 5 6), (0, u "java/util/AbstractList"), (0, u "<init>"), (0, u "()V"), (2, .fieldref 10 11), (0, .class_ 12), (0, .nameAndType 13 14), (0, u "java/util/ArrayList"), (0, u "elementData"), (0, u "[Ljava/lang/Object;"), (2, u "EMPTY_ELEMENTDATA"), (21, .fieldref 10 40), (0, .nameAndType 41 14), (0, u "DEFAULTCAPACITY_EMPTY_ELEMENTDATA"), (8, u "size"), (0, u "I"), (96, .class_ 149), (0, u "java/util/List"), (112, .class_ 263), (0, u "java/util/ArrayList$ListItr"), (3, .class_ 268), (0, u "java/util/ArrayList$Itr"), (7, .class_ 277), (0, u "java/util/ArrayList$SubList"), (12, .class_ 291), (0, u "java/util/ArrayList$ArrayListSpliterator"), (37, .class_ 330), (0, u "java/util/RandomAccess"), (0, .class_ 332), (0, u "java/lang/Cloneable"), (0, .class_ 334), (0, u "java/io/Serializable"), (0, u "serialVersionUID"), (0, u "J"), (3, u "DEFAULT_CAPACITY"), (159, .class_ 501), (0, u "java/util/ArrayList$SubList$2"), (0, .class_ 503), (0, u "java/util/ArrayList$SubList$1")] 5

def k22c0 : Code := { maxStack := 2, maxLocals := 1, code := jdk_38_method_2_code, exceptionTable := #[], attributes := #[] }
def k22m0 : Method := { name := "<init>", desc := "()V", sig := { parameters := [], returnType := none }, accessFlags := 1, code := some k22c0 }
/-- java/util/ArrayList -/
def k22 : Class := { plain "java/util/ArrayList" (some 20) with
  accessFlags := 33
  interfaces := #[19, 21, 11, 3]
  cf := some (fileOf pool22 10 #[.nestMembers #[290, 276, 500, 502, 262, 267]] #[{ accessFlags := 1, nameIndex := 5, descriptorIndex := 6, attributes := #[] }] 33 2 #[148, 329, 331, 333] #[{ accessFlags := 26, nameIndex := 335, descriptorIndex := 336, attributes := #[] }, { accessFlags := 26, nameIndex := 340, descriptorIndex := 51, attributes := #[] }, { accessFlags := 26, nameIndex := 17, descriptorIndex := 14, attributes := #[] }, { accessFlags := 26, nameIndex := 41, descriptorIndex := 14, attributes := #[] }, { accessFlags := 128, nameIndex := 13, descriptorIndex := 14, attributes := #[] }, { accessFlags := 2, nameIndex := 50, descriptorIndex := 51, attributes := #[] }])
  fields := #[{ name := "serialVersionUID", type := .long, accessFlags := 26, slot := 0, constantValue := 0 }, { name := "DEFAULT_CAPACITY", type := .int, accessFlags := 26, slot := 1, constantValue := 0 }, { name := "EMPTY_ELEMENTDATA", type := (.array (.object "java/lang/Object")), accessFlags := 26, slot := 2, constantValue := 0 }, { name := "DEFAULTCAPACITY_EMPTY_ELEMENTDATA", type := (.array (.object "java/lang/Object")), accessFlags := 26, slot := 3, constantValue := 0 }, { name := "elementData", type := (.array (.object "java/lang/Object")), accessFlags := 128, slot := 1, constantValue := 0 }, { name := "size", type := .int, accessFlags := 2, slot := 2, constantValue := 0 }]
  methods := #[k22m0]
  instanceTypes := #[.int, (.array (.object "java/lang/Object")), .int]
  staticTypes := #[.long, .int, (.array (.object "java/lang/Object")), (.array (.object "java/lang/Object"))]
  resolved := Array.replicate 509 none
  statics := some 1 }

def pool23 : Array CpInfo := pool [(1, .class_ 2), (0, u "java/lang/Appendable"), (0, .class_ 4), (0, u "java/lang/Object")] 9

/-- java/lang/Appendable -/
def k23 : Class := { plain "java/lang/Appendable" (some 0) with
  accessFlags := 1537
  interfaces := #[]
  cf := some (fileOf pool23 1 #[] #[] 1537 3 #[] #[])
  fields := #[]
  methods := #[]
  instanceTypes := #[]
  staticTypes := #[]
  resolved := Array.replicate 14 none
  statics := none }

def pool24 : Array CpInfo := pool [(1, .class_ 2), (0, u "java/lang/String"), (0, .methodref 4 5), (0, .class_ 6), (0, .nameAndType 7 8), (0, u "java/lang/Object"), (0, u "<init>"), (0, u "()V"), (1, .class_ 12), (1, u "java/lang/AbstractStringBuilder"), (0, u "EMPTYVALUE"), (0, u "[B"), (0, .fieldref 10 16), (0, .nameAndType 17 14), (0, u "value"), (0, .fieldref 1 19), (0, .nameAndType 20 21), (0, u "COMPACT_STRINGS"), (0, u "Z"), (0, .fieldref 10 23), (0, .nameAndType 24 25), (0, u "coder"), (0, u "B"), (0, .methodref 27 28), (0, .class_ 29), (0, .nameAndType 30 31), (0, u "java/lang/StringUTF16"), (0, u "newBytesFor"), (0, u "(I)[B"), (2, u "length"), (0, u "()I"), (9, u "append"), (2, .class_ 49), (0, u "java/lang/CharSequence"), (25, u "maybeLatin1"), (3, .fieldref 10 80), (0, .nameAndType 81 82), (0, u "count"), (0, u "I"), (0, .methodref 10 84), (0, .nameAndType 85 86), (0, u "isLatin1"), (0, u "()Z"), (1, .class_ 90), (1, u "java/lang/StringLatin1"), (9, .methodref 10 101), (0, .nameAndType 102 103), (0, u "ensureCapacityInternal"), (0, u "(I)V"), (21, .methodref 88 126), (0, .nameAndType 127 128), (0, u "inflate"), (0, u "([BI[BII)V"), (32, .methodref 162 163), (0, .class_ 164), (0, .nameAndType 165 166), (0, u "jdk/internal/util/Preconditions"), (0, u "checkFromToIndex"), (0, u "(IIILjava/util/function/BiFunction;)I"), (15, u "Ljava/util/function/BiFunction;"), (0, .fieldref 162 184), (0, .nameAndType 185 182), (0, u "IOOBE_FORMATTER"), (5, .methodref 88 192), (0, .nameAndType 193 194), (0, u "canEncode"), (0, u "(C)Z"), (0, .methodref 10 196), (0, .nameAndType 127 8), (37, u "appendChars"), (4, .methodref 10 240), (0, .nameAndType 234 241), (0, u "([CII)V"), (144, .methodref 27 387), (0, .nameAndType 388 389), (0, u "putCharsSB"), (0, u "([BI[CII)V"), (13, u "()[B"), (40, .class_ 445), (0, u "java/lang/Appendable"), (60, u "([CII)Ljava/lang/AbstractStringBuilder;"), (45, u "getValue")] 56

def k24m0 : Method := { name := "<init>", desc := "()V", sig := { parameters := [], returnType := none }, accessFlags := 0, code := none }
def k24c1 : Code := { maxStack := 2, maxLocals := 2, code := jdk_68_method_2_code, exceptionTable := #[], attributes := #[] }
def k24m1 : Method := { name := "<init>", desc := "(I)V", sig := { parameters := [.int], returnType := none }, accessFlags := 0, code := some k24c1 }
def k24c2 : Code := { maxStack := 1, maxLocals := 1, code := jdk_68_method_6_code, exceptionTable := #[], attributes := #[] }
def k24m2 : Method := { name := "length", desc := "()I", sig := { parameters := [], returnType := some .int }, accessFlags := 1, code := some k24c2 }
def k24c3 : Code := { maxStack := 4, maxLocals := 3, code := jdk_68_method_9_code, exceptionTable := #[], attributes := #[] }
def k24m3 : Method := { name := "ensureCapacityInternal", desc := "(I)V", sig := { parameters := [.int], returnType := none }, accessFlags := 2, code := some k24c3 }
def k24c4 : Code := { maxStack := 5, maxLocals := 2, code := jdk_68_method_11_code, exceptionTable := #[], attributes := #[] }
def k24m4 : Method := { name := "inflate", desc := "()V", sig := { parameters := [], returnType := none }, accessFlags := 2, code := some k24c4 }
def k24c5 : Code := { maxStack := 4, maxLocals := 5, code := jdk_68_method_29_code, exceptionTable := #[], attributes := #[] }
def k24m5 : Method := { name := "append", desc := "([CII)Ljava/lang/AbstractStringBuilder;", sig := { parameters := [(.array .char), .int, .int], returnType := some (.object "java/lang/AbstractStringBuilder") }, accessFlags := 1, code := some k24c5 }
def k24c6 : Code := { maxStack := 1, maxLocals := 1, code := jdk_68_method_64_code, exceptionTable := #[], attributes := #[] }
def k24m6 : Method := { name := "getValue", desc := "()[B", sig := { parameters := [], returnType := some (.array .byte) }, accessFlags := 16, code := some k24c6 }
def k24c7 : Code := { maxStack := 1, maxLocals := 1, code := jdk_68_method_68_code, exceptionTable := #[], attributes := #[] }
def k24m7 : Method := { name := "isLatin1", desc := "()Z", sig := { parameters := [], returnType := some .boolean }, accessFlags := 16, code := some k24c7 }
def k24c8 : Code := { maxStack := 5, maxLocals := 9, code := jdk_68_method_74_code, exceptionTable := #[], attributes := #[] }
def k24m8 : Method := { name := "appendChars", desc := "([CII)V", sig := { parameters := [(.array .char), .int, .int], returnType := none }, accessFlags := 18, code := some k24c8 }
/-- java/lang/AbstractStringBuilder -/
def k24 : Class := { plain "java/lang/AbstractStringBuilder" (some 0) with
  accessFlags := 1056
  interfaces := #[23, 5]
  cf := some (fileOf pool24 10 #[] #[{ accessFlags := 0, nameIndex := 7, descriptorIndex := 8, attributes := #[] }, { accessFlags := 0, nameIndex := 7, descriptorIndex := 103, attributes := #[] }, { accessFlags := 1, nameIndex := 34, descriptorIndex := 35, attributes := #[] }, { accessFlags := 2, nameIndex := 102, descriptorIndex := 103, attributes := #[] }, { accessFlags := 2, nameIndex := 127, descriptorIndex := 8, attributes := #[] }, { accessFlags := 1, nameIndex := 45, descriptorIndex := 506, attributes := #[] }, { accessFlags := 16, nameIndex := 552, descriptorIndex := 403, attributes := #[] }, { accessFlags := 16, nameIndex := 85, descriptorIndex := 86, attributes := #[] }, { accessFlags := 18, nameIndex := 234, descriptorIndex := 241, attributes := #[] }] 1056 4 #[444, 48] #[{ accessFlags := 0, nameIndex := 17, descriptorIndex := 14, attributes := #[] }, { accessFlags := 0, nameIndex := 24, descriptorIndex := 25, attributes := #[] }, { accessFlags := 0, nameIndex := 75, descriptorIndex := 21, attributes := #[] }, { accessFlags := 0, nameIndex := 81, descriptorIndex := 82, attributes := #[] }, { accessFlags := 26, nameIndex := 13, descriptorIndex := 14, attributes := #[] }])
  fields := #[{ name := "value", type := (.array .byte), accessFlags := 0, slot := 0, constantValue := 0 }, { name := "coder", type := .byte, accessFlags := 0, slot := 1, constantValue := 0 }, { name := "maybeLatin1", type := .boolean, accessFlags := 0, slot := 2, constantValue := 0 }, { name := "count", type := .int, accessFlags := 0, slot := 3, constantValue := 0 }, { name := "EMPTYVALUE", type := (.array .byte), accessFlags := 26, slot := 0, constantValue := 0 }]
  methods := #[k24m0, k24m1, k24m2, k24m3, k24m4, k24m5, k24m6, k24m7, k24m8]
  instanceTypes := #[(.array .byte), .byte, .boolean, .int]
  staticTypes := #[(.array .byte)]
  resolved := Array.replicate 609 none
  statics := none }

def pool25 : Array CpInfo := pool [(1, .methodref 2 3), (0, .class_ 4), (0, .nameAndType 5 6), (0, u "java/lang/AbstractStringBuilder"), (0, u "<init>"), (0, u "(I)V"), (11, .class_ 20), (1, u "java/lang/String"), (3, .class_ 26), (1, u "java/lang/StringBuilder"), (0, u "append"), (16, .methodref 2 45), (0, .nameAndType 27 46), (0, u "([CII)Ljava/lang/AbstractStringBuilder;"), (90, .methodref 18 138), (0, .nameAndType 5 139), (0, u "(Ljava/lang/StringBuilder;)V"), (5, u "()V"), (10, u "()I"), (135, u "([CII)Ljava/lang/StringBuilder;"), (50, .methodref 2 344), (0, .nameAndType 345 156), (0, u "length"), (3, .class_ 350), (0, u "java/lang/Appendable"), (0, .class_ 352), (0, u "java/io/Serializable"), (0, .class_ 354), (0, u "java/lang/Comparable"), (0, .class_ 356), (0, u "java/lang/CharSequence"), (0, u "serialVersionUID"), (0, u "J"), (40, u "toString"), (0, u "()Ljava/lang/String;")] 21

def k25c0 : Code := { maxStack := 2, maxLocals := 1, code := jdk_67_method_1_code, exceptionTable := #[], attributes := #[] }
def k25m0 : Method := { name := "<init>", desc := "()V", sig := { parameters := [], returnType := none }, accessFlags := 1, code := some k25c0 }
def k25c1 : Code := { maxStack := 4, maxLocals := 4, code := jdk_67_method_12_code, exceptionTable := #[], attributes := #[] }
def k25m1 : Method := { name := "append", desc := "([CII)Ljava/lang/StringBuilder;", sig := { parameters := [(.array .char), .int, .int], returnType := some (.object "java/lang/StringBuilder") }, accessFlags := 1, code := some k25c1 }
def k25c2 : Code := { maxStack := 3, maxLocals := 1, code := jdk_67_method_42_code, exceptionTable := #[], attributes := #[] }
def k25m2 : Method := { name := "toString", desc := "()Ljava/lang/String;", sig := { parameters := [], returnType := some (.object "java/lang/String") }, accessFlags := 1, code := some k25c2 }
def k25c3 : Code := { maxStack := 1, maxLocals := 1, code := jdk_67_method_93_code, exceptionTable := #[], attributes := #[] }
def k25m3 : Method := { name := "length", desc := "()I", sig := { parameters := [], returnType := some .int }, accessFlags := 4161, code := some k25c3 }
/-- java/lang/StringBuilder -/
def k25 : Class := { plain "java/lang/StringBuilder" (some 24) with
  accessFlags := 49
  interfaces := #[23, 3, 4, 5]
  cf := some (fileOf pool25 24 #[] #[{ accessFlags := 1, nameIndex := 5, descriptorIndex := 145, attributes := #[] }, { accessFlags := 1, nameIndex := 27, descriptorIndex := 292, attributes := #[] }, { accessFlags := 1, nameIndex := 399, descriptorIndex := 400, attributes := #[] }, { accessFlags := 4161, nameIndex := 345, descriptorIndex := 156, attributes := #[] }] 49 2 #[349, 351, 353, 355] #[{ accessFlags := 24, nameIndex := 357, descriptorIndex := 358, attributes := #[] }])
  fields := #[{ name := "serialVersionUID", type := .long, accessFlags := 24, slot := 0, constantValue := 0 }]
  methods := #[k25m0, k25m1, k25m2, k25m3]
  instanceTypes := #[(.array .byte), .byte, .boolean, .int]
  staticTypes := #[.long]
  resolved := Array.replicate 422 none
  statics := none }

def pool26 : Array CpInfo := pool [(2, .class_ 4), (1, u "java/lang/Object"), (0, u "<init>"), (0, u "()V"), (7, .class_ 16), (1, u "java/util/Arrays"), (57, .class_ 76), (1, u "java/util/Arrays$NaturalOrder"), (36, .class_ 115), (1, u "java/util/Arrays$LegacyMergeSort"), (1, u "Z"), (21, u "copyOfRange"), (10, .methodref 151 152), (0, .class_ 153), (0, .nameAndType 154 155), (0, u "java/lang/System"), (0, u "arraycopy"), (0, u "(Ljava/lang/Object;ILjava/lang/Object;II)V"), (148, .methodref 305 306), (0, .class_ 307), (0, .nameAndType 308 309), (0, u "java/lang/Math"), (0, u "min"), (0, u "(II)I"), (29, .methodref 14 340), (0, .nameAndType 341 342), (0, u "copyOfRangeByte"), (0, u "([BII)[B"), (0, .methodref 14 344), (0, .nameAndType 345 346), (0, u "checkLength"), (0, u "(II)V"), (28, .class_ 376), (0, u "java/util/Arrays$ArrayList"), (68, u "$assertionsDisabled"), (269, u "MIN_ARRAY_SORT_GRAN"), (0, u "I"), (2, u "INSERTIONSORT_THRESHOLD"), (255, .class_ 976), (0, u "java/util/Arrays$ArrayItr")] 52

def k26m0 : Method := { name := "<init>", desc := "()V", sig := { parameters := [], returnType := none }, accessFlags := 2, code := none }
def k26c1 : Code := { maxStack := 4, maxLocals := 2, code := jdk_65_method_131_code, exceptionTable := #[], attributes := #[] }
def k26m1 : Method := { name := "checkLength", desc := "(II)V", sig := { parameters := [.int, .int], returnType := none }, accessFlags := 10, code := some k26c1 }
def k26c2 : Code := { maxStack := 3, maxLocals := 3, code := jdk_65_method_132_code, exceptionTable := #[], attributes := #[] }
def k26m2 : Method := { name := "copyOfRange", desc := "([BII)[B", sig := { parameters := [(.array .byte), .int, .int], returnType := some (.array .byte) }, accessFlags := 9, code := some k26c2 }
def k26c3 : Code := { maxStack := 6, maxLocals := 5, code := jdk_65_method_133_code, exceptionTable := #[], attributes := #[] }
def k26m3 : Method := { name := "copyOfRangeByte", desc := "([BII)[B", sig := { parameters := [(.array .byte), .int, .int], returnType := some (.array .byte) }, accessFlags := 10, code := some k26c3 }
/-- java/util/Arrays -/
def k26 : Class := { plain "java/util/Arrays" (some 0) with
  accessFlags := 49
  interfaces := #[]
  cf := some (fileOf pool26 14 #[.nestMembers #[975, 375, 113, 74]] #[{ accessFlags := 2, nameIndex := 5, descriptorIndex := 6, attributes := #[] }, { accessFlags := 10, nameIndex := 345, descriptorIndex := 346, attributes := #[] }, { accessFlags := 9, nameIndex := 139, descriptorIndex := 342, attributes := #[] }, { accessFlags := 10, nameIndex := 341, descriptorIndex := 342, attributes := #[] }] 49 2 #[] #[{ accessFlags := 26, nameIndex := 715, descriptorIndex := 716, attributes := #[] }, { accessFlags := 26, nameIndex := 719, descriptorIndex := 716, attributes := #[] }, { accessFlags := 4120, nameIndex := 445, descriptorIndex := 117, attributes := #[] }])
  fields := #[{ name := "MIN_ARRAY_SORT_GRAN", type := .int, accessFlags := 26, slot := 0, constantValue := 0 }, { name := "INSERTIONSORT_THRESHOLD", type := .int, accessFlags := 26, slot := 1, constantValue := 0 }, { name := "$assertionsDisabled", type := .boolean, accessFlags := 4120, slot := 2, constantValue := 0 }]
  methods := #[k26m0, k26m1, k26m2, k26m3]
  instanceTypes := #[]
  staticTypes := #[.int, .int, .boolean]
  resolved := Array.replicate 1029 none
  statics := none }

def pool27 : Array CpInfo := pool [(1, .class_ 2), (0, u "java/lang/Math"), (1, .class_ 6), (1, u "java/lang/Object"), (0, u "<init>"), (0, u "()V"), (89, .class_ 100), (1, u "java/lang/Math$RandomNumberGeneratorHolder"), (71, u "negativeZeroFloatBits"), (0, u "J"), (2, u "negativeZeroDoubleBits"), (24, u "min"), (43, u "$assertionsDisabled"), (0, u "Z"), (88, u "(II)I"), (2, u "twoToTheDoubleScaleDown"), (0, u "D"), (4, u "twoToTheDoubleScaleUp"), (9, u "E"), (3, u "PI"), (2, u "TAU"), (2, u "DEGREES_TO_RADIANS"), (0, u "RADIANS_TO_DEGREES")] 94

def k27m0 : Method := { name := "<init>", desc := "()V", sig := { parameters := [], returnType := none }, accessFlags := 2, code := none }
def k27c1 : Code := { maxStack := 2, maxLocals := 2, code := jdk_29_method_69_code, exceptionTable := #[], attributes := #[] }
def k27m1 : Method := { name := "min", desc := "(II)I", sig := { parameters := [.int, .int], returnType := some .int }, accessFlags := 9, code := some k27c1 }
/-- java/lang/Math -/
def k27 : Class := { plain "java/lang/Math" (some 0) with
  accessFlags := 49
  interfaces := #[]
  cf := some (fileOf pool27 1 #[.nestMembers #[98]] #[{ accessFlags := 2, nameIndex := 7, descriptorIndex := 8, attributes := #[] }, { accessFlags := 9, nameIndex := 201, descriptorIndex := 335, attributes := #[] }] 49 4 #[] #[{ accessFlags := 25, nameIndex := 354, descriptorIndex := 339, attributes := #[] }, { accessFlags := 25, nameIndex := 358, descriptorIndex := 339, attributes := #[] }, { accessFlags := 25, nameIndex := 361, descriptorIndex := 339, attributes := #[] }, { accessFlags := 26, nameIndex := 364, descriptorIndex := 339, attributes := #[] }, { accessFlags := 26, nameIndex := 365, descriptorIndex := 339, attributes := #[] }, { accessFlags := 26, nameIndex := 172, descriptorIndex := 173, attributes := #[] }, { accessFlags := 26, nameIndex := 176, descriptorIndex := 173, attributes := #[] }, { accessFlags := 8, nameIndex := 344, descriptorIndex := 339, attributes := #[] }, { accessFlags := 8, nameIndex := 338, descriptorIndex := 339, attributes := #[] }, { accessFlags := 4120, nameIndex := 245, descriptorIndex := 246, attributes := #[] }])
  fields := #[{ name := "E", type := .double, accessFlags := 25, slot := 0, constantValue := 0 }, { name := "PI", type := .double, accessFlags := 25, slot := 1, constantValue := 0 }, { name := "TAU", type := .double, accessFlags := 25, slot := 2, constantValue := 0 }, { name := "DEGREES_TO_RADIANS", type := .double, accessFlags := 26, slot := 3, constantValue := 0 }, { name := "RADIANS_TO_DEGREES", type := .double, accessFlags := 26, slot := 4, constantValue := 0 }, { name := "negativeZeroFloatBits", type := .long, accessFlags := 26, slot := 5, constantValue := 0 }, { name := "negativeZeroDoubleBits", type := .long, accessFlags := 26, slot := 6, constantValue := 0 }, { name := "twoToTheDoubleScaleUp", type := .double, accessFlags := 8, slot := 7, constantValue := 0 }, { name := "twoToTheDoubleScaleDown", type := .double, accessFlags := 8, slot := 8, constantValue := 0 }, { name := "$assertionsDisabled", type := .boolean, accessFlags := 4120, slot := 9, constantValue := 0 }]
  methods := #[k27m0, k27m1]
  instanceTypes := #[]
  staticTypes := #[.double, .double, .double, .double, .double, .long, .long, .double, .double, .boolean]
  resolved := Array.replicate 460 none
  statics := none }

def pool28 : Array CpInfo := pool [(2, .class_ 4), (1, u "java/lang/Object"), (0, u "<init>"), (0, u "()V"), (1, .class_ 10), (1, u "java/lang/System"), (0, u "allowSecurityManager"), (0, u "I"), (16, u "cons"), (0, u "Ljava/io/Console;"), (77, .class_ 110), (1, u "java/lang/System$CallersHolder"), (43, u "initialErrStream"), (0, u "Ljava/io/PrintStream;"), (19, u "security"), (0, u "Ljava/lang/SecurityManager;"), (31, .class_ 209), (0, u "java/lang/System$1"), (7, u "props"), (0, u "Ljava/util/Properties;"), (2, u "lineSeparator"), (0, u "Ljava/lang/String;"), (96, .class_ 321), (1, u "java/lang/System$LoggerFinder"), (5, .class_ 328), (0, u "java/lang/System$Logger"), (67, u "err"), (2, u "out"), (91, u "notSupportedJnuEncoding"), (15, u "in"), (17, u "initialIn"), (0, u "Ljava/io/InputStream;"), (35, u "bootLayer"), (0, u "Ljava/lang/ModuleLayer;"), (99, .class_ 664), (0, u "java/lang/System$2"), (9, u "NEVER"), (2, u "MAYBE"), (49, u "arraycopy"), (0, u "(Ljava/lang/Object;ILjava/lang/Object;II)V"), (72, .class_ 802), (0, u "java/lang/System$Logger$Level")] 31

def k28m0 : Method := { name := "<init>", desc := "()V", sig := { parameters := [], returnType := none }, accessFlags := 2, code := none }
def k28m1 : Method := { name := "arraycopy", desc := "(Ljava/lang/Object;ILjava/lang/Object;II)V", sig := { parameters := [(.object "java/lang/Object"), .int, (.object "java/lang/Object"), .int, .int], returnType := none }, accessFlags := 265, code := none }
/-- java/lang/System -/
def k28 : Class := { plain "java/lang/System" (some 0) with
  accessFlags := 49
  interfaces := #[]
  cf := some (fileOf pool28 8 #[.nestMembers #[319, 327, 801, 108, 663, 208]] #[{ accessFlags := 2, nameIndex := 5, descriptorIndex := 6, attributes := #[] }, { accessFlags := 265, nameIndex := 727, descriptorIndex := 728, attributes := #[] }] 49 2 #[] #[{ accessFlags := 25, nameIndex := 507, descriptorIndex := 526, attributes := #[] }, { accessFlags := 25, nameIndex := 399, descriptorIndex := 155, attributes := #[] }, { accessFlags := 25, nameIndex := 396, descriptorIndex := 155, attributes := #[] }, { accessFlags := 10, nameIndex := 525, descriptorIndex := 526, attributes := #[] }, { accessFlags := 26, nameIndex := 674, descriptorIndex := 12, attributes := #[] }, { accessFlags := 26, nameIndex := 677, descriptorIndex := 12, attributes := #[] }, { accessFlags := 10, nameIndex := 11, descriptorIndex := 12, attributes := #[] }, { accessFlags := 74, nameIndex := 175, descriptorIndex := 176, attributes := #[] }, { accessFlags := 10, nameIndex := 491, descriptorIndex := 222, attributes := #[] }, { accessFlags := 74, nameIndex := 29, descriptorIndex := 30, attributes := #[] }, { accessFlags := 74, nameIndex := 154, descriptorIndex := 155, attributes := #[] }, { accessFlags := 10, nameIndex := 217, descriptorIndex := 218, attributes := #[] }, { accessFlags := 10, nameIndex := 221, descriptorIndex := 222, attributes := #[] }, { accessFlags := 8, nameIndex := 562, descriptorIndex := 563, attributes := #[] }])
  fields := #[{ name := "in", type := (.object "java/io/InputStream"), accessFlags := 25, slot := 0, constantValue := 0 }, { name := "out", type := (.object "java/io/PrintStream"), accessFlags := 25, slot := 1, constantValue := 0 }, { name := "err", type := (.object "java/io/PrintStream"), accessFlags := 25, slot := 2, constantValue := 0 }, { name := "initialIn", type := (.object "java/io/InputStream"), accessFlags := 10, slot := 3, constantValue := 0 }, { name := "NEVER", type := .int, accessFlags := 26, slot := 4, constantValue := 0 }, { name := "MAYBE", type := .int, accessFlags := 26, slot := 5, constantValue := 0 }, { name := "allowSecurityManager", type := .int, accessFlags := 10, slot := 6, constantValue := 0 }, { name := "security", type := (.object "java/lang/SecurityManager"), accessFlags := 74, slot := 7, constantValue := 0 }, { name := "notSupportedJnuEncoding", type := (.object "java/lang/String"), accessFlags := 10, slot := 8, constantValue := 0 }, { name := "cons", type := (.object "java/io/Console"), accessFlags := 74, slot := 9, constantValue := 0 }, { name := "initialErrStream", type := (.object "java/io/PrintStream"), accessFlags := 74, slot := 10, constantValue := 0 }, { name := "props", type := (.object "java/util/Properties"), accessFlags := 10, slot := 11, constantValue := 0 }, { name := "lineSeparator", type := (.object "java/lang/String"), accessFlags := 10, slot := 12, constantValue := 0 }, { name := "bootLayer", type := (.object "java/lang/ModuleLayer"), accessFlags := 8, slot := 13, constantValue := 0 }]
  methods := #[k28m0, k28m1]
  instanceTypes := #[]
  staticTypes := #[(.object "java/io/InputStream"), (.object "java/io/PrintStream"), (.object "java/io/PrintStream"), (.object "java/io/InputStream"), .int, .int, .int, (.object "java/lang/SecurityManager"), (.object "java/lang/String"), (.object "java/io/Console"), (.object "java/io/PrintStream"), (.object "java/util/Properties"), (.object "java/lang/String"), (.object "java/lang/ModuleLayer")]
  resolved := Array.replicate 834 none
  statics := none }

def pool29 : Array CpInfo := pool [(2, .class_ 4), (1, u "java/lang/Object"), (0, u "<init>"), (0, u "()V"), (17, .class_ 26), (1, u "jdk/internal/util/Preconditions"), (6, u "checkIndex"), (13, u "checkFromToIndex"), (1, u "checkFromIndexSize"), (5, .class_ 56), (0, u "jdk/internal/util/Preconditions$4"), (57, .class_ 115), (0, u "jdk/internal/util/Preconditions$1"), (7, u "SIOOBE_FORMATTER"), (0, u "Ljava/util/function/BiFunction;"), (0, .class_ 126), (0, u "jdk/internal/util/Preconditions$2"), (3, u "AIOOBE_FORMATTER"), (0, .class_ 132), (0, u "jdk/internal/util/Preconditions$3"), (3, u "IOOBE_FORMATTER"), (41, u "(IILjava/util/function/BiFunction;)I"), (4, u "(IIILjava/util/function/BiFunction;)I")] 10

def k29m0 : Method := { name := "<init>", desc := "()V", sig := { parameters := [], returnType := none }, accessFlags := 1, code := none }
def k29c1 : Code := { maxStack := 3, maxLocals := 3, code := jdk_41_method_11_code, exceptionTable := #[], attributes := #[] }
def k29m1 : Method := { name := "checkIndex", desc := "(IILjava/util/function/BiFunction;)I", sig := { parameters := [.int, .int, (.object "java/util/function/BiFunction")], returnType := some .int }, accessFlags := 9, code := some k29c1 }
def k29c2 : Code := { maxStack := 4, maxLocals := 4, code := jdk_41_method_12_code, exceptionTable := #[], attributes := #[] }
def k29m2 : Method := { name := "checkFromToIndex", desc := "(IIILjava/util/function/BiFunction;)I", sig := { parameters := [.int, .int, .int, (.object "java/util/function/BiFunction")], returnType := some .int }, accessFlags := 9, code := some k29c2 }
def k29c3 : Code := { maxStack := 4, maxLocals := 4, code := jdk_41_method_13_code, exceptionTable := #[], attributes := #[] }
def k29m3 : Method := { name := "checkFromIndexSize", desc := "(IIILjava/util/function/BiFunction;)I", sig := { parameters := [.int, .int, .int, (.object "java/util/function/BiFunction")], returnType := some .int }, accessFlags := 9, code := some k29c3 }
/-- jdk/internal/util/Preconditions -/
def k29 : Class := { plain "jdk/internal/util/Preconditions" (some 0) with
  accessFlags := 33
  interfaces := #[]
  cf := some (fileOf pool29 24 #[.nestMembers #[55, 131, 125, 114]] #[{ accessFlags := 1, nameIndex := 5, descriptorIndex := 6, attributes := #[] }, { accessFlags := 9, nameIndex := 33, descriptorIndex := 178, attributes := #[] }, { accessFlags := 9, nameIndex := 47, descriptorIndex := 183, attributes := #[] }, { accessFlags := 9, nameIndex := 49, descriptorIndex := 183, attributes := #[] }] 33 2 #[] #[{ accessFlags := 25, nameIndex := 123, descriptorIndex := 124, attributes := #[] }, { accessFlags := 25, nameIndex := 130, descriptorIndex := 124, attributes := #[] }, { accessFlags := 25, nameIndex := 136, descriptorIndex := 124, attributes := #[] }])
  fields := #[{ name := "SIOOBE_FORMATTER", type := (.object "java/util/function/BiFunction"), accessFlags := 25, slot := 0, constantValue := 0 }, { name := "AIOOBE_FORMATTER", type := (.object "java/util/function/BiFunction"), accessFlags := 25, slot := 1, constantValue := 0 }, { name := "IOOBE_FORMATTER", type := (.object "java/util/function/BiFunction"), accessFlags := 25, slot := 2, constantValue := 0 }]
  methods := #[k29m0, k29m1, k29m2, k29m3]
  instanceTypes := #[]
  staticTypes := #[(.object "java/util/function/BiFunction"), (.object "java/util/function/BiFunction"), (.object "java/util/function/BiFunction")]
  resolved := Array.replicate 194 none
  statics := some 2 }

def pool30 : Array CpInfo := pool [(1, .class_ 2), (0, u "java/lang/String"), (1, .class_ 6), (1, u "java/lang/Object"), (0, u "<init>"), (0, u "()V"), (0, .methodref 1 10), (0, .nameAndType 11 12), (0, u "checkIndex"), (0, u "(II)V"), (1, .class_ 16), (1, u "java/lang/StringLatin1"), (0, u "inflate"), (2, .class_ 22), (1, u "java/lang/StringUTF16"), (3, .nameAndType 17 27), (0, u "([BI[BII)V"), (25, u "([BI)C"), (36, u "canEncode"), (14, u "(C)Z"), (15, u "$assertionsDisabled"), (0, u "Z"), (98, .class_ 223), (1, u "java/lang/StringLatin1$LinesSpliterator"), (16, .methodref 20 26), (11, u "charAt"), (137, .class_ 391), (0, u "java/lang/StringLatin1$CharsSpliterator")] 3

def k30m0 : Method := { name := "<init>", desc := "()V", sig := { parameters := [], returnType := none }, accessFlags := 0, code := none }
def k30c1 : Code := { maxStack := 2, maxLocals := 2, code := jdk_43_method_2_code, exceptionTable := #[], attributes := #[] }
def k30m1 : Method := { name := "charAt", desc := "([BI)C", sig := { parameters := [(.array .byte), .int], returnType := some .char }, accessFlags := 9, code := some k30c1 }
def k30c2 : Code := { maxStack := 2, maxLocals := 1, code := jdk_43_method_3_code, exceptionTable := #[], attributes := #[] }
def k30m2 : Method := { name := "canEncode", desc := "(C)Z", sig := { parameters := [.char], returnType := some .boolean }, accessFlags := 9, code := some k30c2 }
def k30c3 : Code := { maxStack := 5, maxLocals := 5, code := jdk_43_method_50_code, exceptionTable := #[], attributes := #[] }
def k30m3 : Method := { name := "inflate", desc := "([BI[BII)V", sig := { parameters := [(.array .byte), .int, (.array .byte), .int, .int], returnType := none }, accessFlags := 9, code := some k30c3 }
/-- java/lang/StringLatin1 -/
def k30 : Class := { plain "java/lang/StringLatin1" (some 0) with
  accessFlags := 48
  interfaces := #[]
  cf := some (fileOf pool30 14 #[.nestMembers #[390, 221]] #[{ accessFlags := 0, nameIndex := 7, descriptorIndex := 8, attributes := #[] }, { accessFlags := 9, nameIndex := 252, descriptorIndex := 53, attributes := #[] }, { accessFlags := 9, nameIndex := 90, descriptorIndex := 105, attributes := #[] }, { accessFlags := 9, nameIndex := 17, descriptorIndex := 27, attributes := #[] }] 48 4 #[] #[{ accessFlags := 4120, nameIndex := 121, descriptorIndex := 122, attributes := #[] }])
  fields := #[{ name := "$assertionsDisabled", type := .boolean, accessFlags := 4120, slot := 0, constantValue := 0 }]
  methods := #[k30m0, k30m1, k30m2, k30m3]
  instanceTypes := #[]
  staticTypes := #[.boolean]
  resolved := Array.replicate 395 none
  statics := none }

def pool31 : Array CpInfo := pool [(3, .class_ 4), (0, u "java/lang/String"), (1, .class_ 8), (1, u "java/lang/Object"), (0, u "<init>"), (0, u "()V"), (0, .methodref 12 13), (0, .class_ 14), (0, .nameAndType 15 16), (0, u "java/lang/StringUTF16"), (0, u "newBytesLength"), (0, u "(I)I"), (3, .integer 1073741823), (23, .fieldref 12 45), (0, .nameAndType 46 47), (0, u "$assertionsDisabled"), (0, u "Z"), (0, .methodref 12 49), (0, .nameAndType 50 51), (0, u "length"), (0, u "([B)I"), (7, .fieldref 12 60), (0, .nameAndType 61 62), (0, u "HI_BYTE_SHIFT"), (0, u "I"), (0, .fieldref 12 64), (0, .nameAndType 65 62), (0, u "LO_BYTE_SHIFT"), (1, .methodref 12 68), (0, .nameAndType 69 70), (0, u "checkIndex"), (0, u "(I[B)V"), (0, .methodref 12 72), (0, .nameAndType 73 74), (0, u "getChar"), (0, u "([BI)C"), (21, .methodref 12 97), (0, .nameAndType 98 99), (0, u "checkBoundsBeginEnd"), (0, u "(II[B)V"), (9, u "newBytesFor"), (0, u "(I)[B"), (0, .methodref 12 112), (0, .nameAndType 113 114), (0, u "putChar"), (0, u "([BII)V"), (25, u "inflate"), (0, u "([BI[BII)V"), (31, .methodref 12 174), (0, .nameAndType 175 99), (0, u "checkBoundsOffCount"), (65, .methodref 3 242), (0, .nameAndType 98 243), (0, u "(III)V"), (37, u "(III)I"), (87, .class_ 371), (1, u "java/lang/StringUTF16$LinesSpliterator"), (12, .methodref 12 385), (0, .nameAndType 386 387), (0, u "putChars"), (0, u "([BI[CII)V"), (4, u "charAt"), (21, .methodref 3 415), (0, .nameAndType 69 416), (0, u "(II)V"), (2, .methodref 3 420), (0, .nameAndType 175 281), (9, u "MAX_LENGTH"), (156, u "putCharsSB"), (39, .class_ 628), (0, u "java/lang/StringUTF16$CodePointsSpliterator"), (0, .class_ 630), (0, u "java/lang/StringUTF16$CharsSpliterator")] 4

def k31m0 : Method := { name := "<init>", desc := "()V", sig := { parameters := [], returnType := none }, accessFlags := 0, code := none }
def k31c1 : Code := { maxStack := 1, maxLocals := 1, code := jdk_52_method_2_code, exceptionTable := #[], attributes := #[] }
def k31m1 : Method := { name := "newBytesFor", desc := "(I)[B", sig := { parameters := [.int], returnType := some (.array .byte) }, accessFlags := 9, code := some k31c1 }
def k31c2 : Code := { maxStack := 4, maxLocals := 1, code := jdk_52_method_3_code, exceptionTable := #[], attributes := #[] }
def k31m2 : Method := { name := "newBytesLength", desc := "(I)I", sig := { parameters := [.int], returnType := some .int }, accessFlags := 9, code := some k31c2 }
def k31c3 : Code := { maxStack := 4, maxLocals := 3, code := jdk_52_method_4_code, exceptionTable := #[], attributes := #[] }
def k31m3 : Method := { name := "putChar", desc := "([BII)V", sig := { parameters := [(.array .byte), .int, .int], returnType := none }, accessFlags := 8, code := some k31c3 }
def k31c4 : Code := { maxStack := 3, maxLocals := 2, code := jdk_52_method_5_code, exceptionTable := #[], attributes := #[] }
def k31m4 : Method := { name := "getChar", desc := "([BI)C", sig := { parameters := [(.array .byte), .int], returnType := some .char }, accessFlags := 8, code := some k31c4 }
def k31c5 : Code := { maxStack := 2, maxLocals := 1, code := jdk_52_method_6_code, exceptionTable := #[], attributes := #[] }
def k31m5 : Method := { name := "length", desc := "([B)I", sig := { parameters := [(.array .byte)], returnType := some .int }, accessFlags := 9, code := some k31c5 }
def k31c6 : Code := { maxStack := 4, maxLocals := 5, code := jdk_52_method_68_code, exceptionTable := #[], attributes := #[] }
def k31m6 : Method := { name := "putChars", desc := "([BI[CII)V", sig := { parameters := [(.array .byte), .int, (.array .char), .int, .int], returnType := none }, accessFlags := 10, code := some k31c6 }
def k31c7 : Code := { maxStack := 5, maxLocals := 5, code := jdk_52_method_72_code, exceptionTable := #[], attributes := #[] }
def k31m7 : Method := { name := "putCharsSB", desc := "([BI[CII)V", sig := { parameters := [(.array .byte), .int, (.array .char), .int, .int], returnType := none }, accessFlags := 9, code := some k31c7 }
def k31c8 : Code := { maxStack := 2, maxLocals := 2, code := jdk_52_method_83_code, exceptionTable := #[], attributes := #[] }
def k31m8 : Method := { name := "charAt", desc := "([BI)C", sig := { parameters := [(.array .byte), .int], returnType := some .char }, accessFlags := 9, code := some k31c8 }
def k31c9 : Code := { maxStack := 4, maxLocals := 6, code := jdk_52_method_86_code, exceptionTable := #[], attributes := #[] }
def k31m9 : Method := { name := "inflate", desc := "([BI[BII)V", sig := { parameters := [(.array .byte), .int, (.array .byte), .int, .int], returnType := none }, accessFlags := 9, code := some k31c9 }
def k31c10 : Code := { maxStack := 2, maxLocals := 2, code := jdk_52_method_91_code, exceptionTable := #[], attributes := #[] }
def k31m10 : Method := { name := "checkIndex", desc := "(I[B)V", sig := { parameters := [.int, (.array .byte)], returnType := none }, accessFlags := 9, code := some k31c10 }
def k31c11 : Code := { maxStack := 3, maxLocals := 3, code := jdk_52_method_93_code, exceptionTable := #[], attributes := #[] }
def k31m11 : Method := { name := "checkBoundsBeginEnd", desc := "(II[B)V", sig := { parameters := [.int, .int, (.array .byte)], returnType := none }, accessFlags := 9, code := some k31c11 }
def k31c12 : Code := { maxStack := 3, maxLocals := 3, code := jdk_52_method_94_code, exceptionTable := #[], attributes := #[] }
def k31m12 : Method := { name := "checkBoundsOffCount", desc := "(II[B)V", sig := { parameters := [.int, .int, (.array .byte)], returnType := none }, accessFlags := 9, code := some k31c12 }
/-- java/lang/StringUTF16 -/
def k31 : Class := { plain "java/lang/StringUTF16" (some 0) with
  accessFlags := 48
  interfaces := #[]
  cf := some (fileOf pool31 12 #[.nestMembers #[627, 629, 369]] #[{ accessFlags := 0, nameIndex := 9, descriptorIndex := 10, attributes := #[] }, { accessFlags := 9, nameIndex := 109, descriptorIndex := 110, attributes := #[] }, { accessFlags := 9, nameIndex := 15, descriptorIndex := 16, attributes := #[] }, { accessFlags := 8, nameIndex := 113, descriptorIndex := 114, attributes := #[] }, { accessFlags := 8, nameIndex := 73, descriptorIndex := 74, attributes := #[] }, { accessFlags := 9, nameIndex := 50, descriptorIndex := 51, attributes := #[] }, { accessFlags := 10, nameIndex := 386, descriptorIndex := 387, attributes := #[] }, { accessFlags := 9, nameIndex := 587, descriptorIndex := 387, attributes := #[] }, { accessFlags := 9, nameIndex := 392, descriptorIndex := 74, attributes := #[] }, { accessFlags := 9, nameIndex := 140, descriptorIndex := 141, attributes := #[] }, { accessFlags := 9, nameIndex := 69, descriptorIndex := 70, attributes := #[] }, { accessFlags := 9, nameIndex := 98, descriptorIndex := 99, attributes := #[] }, { accessFlags := 9, nameIndex := 175, descriptorIndex := 99, attributes := #[] }] 48 6 #[] #[{ accessFlags := 26, nameIndex := 61, descriptorIndex := 62, attributes := #[] }, { accessFlags := 26, nameIndex := 65, descriptorIndex := 62, attributes := #[] }, { accessFlags := 24, nameIndex := 430, descriptorIndex := 62, attributes := #[] }, { accessFlags := 4120, nameIndex := 46, descriptorIndex := 47, attributes := #[] }])
  fields := #[{ name := "HI_BYTE_SHIFT", type := .int, accessFlags := 26, slot := 0, constantValue := 0 }, { name := "LO_BYTE_SHIFT", type := .int, accessFlags := 26, slot := 1, constantValue := 0 }, { name := "MAX_LENGTH", type := .int, accessFlags := 24, slot := 2, constantValue := 0 }, { name := "$assertionsDisabled", type := .boolean, accessFlags := 4120, slot := 3, constantValue := 0 }]
  methods := #[k31m0, k31m1, k31m2, k31m3, k31m4, k31m5, k31m6, k31m7, k31m8, k31m9, k31m10, k31m11, k31m12]
  instanceTypes := #[]
  staticTypes := #[.int, .int, .int, .boolean]
  resolved := Array.replicate 635 none
  statics := some 3 }

def pool32 : Array CpInfo := pool [(9, u "<init>"), (6, .class_ 18), (1, u "java/lang/Object"), (0, u "()V"), (1, .class_ 23), (1, u "jdk/internal/util/ArraysSupport"), (0, u "LOG2_ARRAY_LONG_INDEX_SCALE"), (0, u "I"), (2, u "U"), (0, u "Ljdk/internal/misc/Unsafe;"), (8, u "BIG_ENDIAN"), (0, u "Z"), (8, u "LOG2_BYTE_BIT_SIZE"), (4, u "LOG2_ARRAY_INT_INDEX_SCALE"), (54, u "JLA"), (0, u "Ljdk/internal/access/JavaLangAccess;"), (11, u "LOG2_ARRAY_BOOLEAN_INDEX_SCALE"), (9, u "LOG2_ARRAY_BYTE_INDEX_SCALE"), (5, u "LOG2_ARRAY_CHAR_INDEX_SCALE"), (5, u "LOG2_ARRAY_SHORT_INDEX_SCALE"), (18, u "LOG2_ARRAY_FLOAT_INDEX_SCALE"), (24, u "LOG2_ARRAY_DOUBLE_INDEX_SCALE"), (89, u "T_BOOLEAN"), (2, u "T_CHAR"), (1, u "T_FLOAT"), (1, u "T_DOUBLE"), (1, u "T_BYTE"), (1, u "T_SHORT"), (1, u "T_INT"), (1, u "T_LONG"), (1, u "SOFT_MAX_ARRAY_LENGTH")] 83

def k32m0 : Method := { name := "<init>", desc := "()V", sig := { parameters := [], returnType := none }, accessFlags := 2, code := none }
/-- jdk/internal/util/ArraysSupport -/
def k32 : Class := { plain "jdk/internal/util/ArraysSupport" (some 0) with
  accessFlags := 33
  interfaces := #[]
  cf := some (fileOf pool32 21 #[] #[{ accessFlags := 2, nameIndex := 9, descriptorIndex := 19, attributes := #[] }] 33 16 #[] #[{ accessFlags := 24, nameIndex := 28, descriptorIndex := 29, attributes := #[] }, { accessFlags := 26, nameIndex := 38, descriptorIndex := 39, attributes := #[] }, { accessFlags := 25, nameIndex := 121, descriptorIndex := 25, attributes := #[] }, { accessFlags := 25, nameIndex := 131, descriptorIndex := 25, attributes := #[] }, { accessFlags := 25, nameIndex := 137, descriptorIndex := 25, attributes := #[] }, { accessFlags := 25, nameIndex := 143, descriptorIndex := 25, attributes := #[] }, { accessFlags := 25, nameIndex := 53, descriptorIndex := 25, attributes := #[] }, { accessFlags := 25, nameIndex := 24, descriptorIndex := 25, attributes := #[] }, { accessFlags := 25, nameIndex := 162, descriptorIndex := 25, attributes := #[] }, { accessFlags := 25, nameIndex := 187, descriptorIndex := 25, attributes := #[] }, { accessFlags := 26, nameIndex := 48, descriptorIndex := 25, attributes := #[] }, { accessFlags := 25, nameIndex := 277, descriptorIndex := 25, attributes := #[] }, { accessFlags := 25, nameIndex := 280, descriptorIndex := 25, attributes := #[] }, { accessFlags := 25, nameIndex := 282, descriptorIndex := 25, attributes := #[] }, { accessFlags := 25, nameIndex := 284, descriptorIndex := 25, attributes := #[] }, { accessFlags := 25, nameIndex := 286, descriptorIndex := 25, attributes := #[] }, { accessFlags := 25, nameIndex := 288, descriptorIndex := 25, attributes := #[] }, { accessFlags := 25, nameIndex := 290, descriptorIndex := 25, attributes := #[] }, { accessFlags := 25, nameIndex := 292, descriptorIndex := 25, attributes := #[] }, { accessFlags := 26, nameIndex := 108, descriptorIndex := 109, attributes := #[] }, { accessFlags := 25, nameIndex := 294, descriptorIndex := 25, attributes := #[] }])
  fields := #[{ name := "U", type := (.object "jdk/internal/misc/Unsafe"), accessFlags := 24, slot := 0, constantValue := 0 }, { name := "BIG_ENDIAN", type := .boolean, accessFlags := 26, slot := 1, constantValue := 0 }, { name := "LOG2_ARRAY_BOOLEAN_INDEX_SCALE", type := .int, accessFlags := 25, slot := 2, constantValue := 0 }, { name := "LOG2_ARRAY_BYTE_INDEX_SCALE", type := .int, accessFlags := 25, slot := 3, constantValue := 0 }, { name := "LOG2_ARRAY_CHAR_INDEX_SCALE", type := .int, accessFlags := 25, slot := 4, constantValue := 0 }, { name := "LOG2_ARRAY_SHORT_INDEX_SCALE", type := .int, accessFlags := 25, slot := 5, constantValue := 0 }, { name := "LOG2_ARRAY_INT_INDEX_SCALE", type := .int, accessFlags := 25, slot := 6, constantValue := 0 }, { name := "LOG2_ARRAY_LONG_INDEX_SCALE", type := .int, accessFlags := 25, slot := 7, constantValue := 0 }, { name := "LOG2_ARRAY_FLOAT_INDEX_SCALE", type := .int, accessFlags := 25, slot := 8, constantValue := 0 }, { name := "LOG2_ARRAY_DOUBLE_INDEX_SCALE", type := .int, accessFlags := 25, slot := 9, constantValue := 0 }, { name := "LOG2_BYTE_BIT_SIZE", type := .int, accessFlags := 26, slot := 10, constantValue := 0 }, { name := "T_BOOLEAN", type := .int, accessFlags := 25, slot := 11, constantValue := 0 }, { name := "T_CHAR", type := .int, accessFlags := 25, slot := 12, constantValue := 0 }, { name := "T_FLOAT", type := .int, accessFlags := 25, slot := 13, constantValue := 0 }, { name := "T_DOUBLE", type := .int, accessFlags := 25, slot := 14, constantValue := 0 }, { name := "T_BYTE", type := .int, accessFlags := 25, slot := 15, constantValue := 0 }, { name := "T_SHORT", type := .int, accessFlags := 25, slot := 16, constantValue := 0 }, { name := "T_INT", type := .int, accessFlags := 25, slot := 17, constantValue := 0 }, { name := "T_LONG", type := .int, accessFlags := 25, slot := 18, constantValue := 0 }, { name := "JLA", type := (.object "jdk/internal/access/JavaLangAccess"), accessFlags := 26, slot := 19, constantValue := 0 }, { name := "SOFT_MAX_ARRAY_LENGTH", type := .int, accessFlags := 25, slot := 20, constantValue := 0 }]
  methods := #[k32m0]
  instanceTypes := #[]
  staticTypes := #[(.object "jdk/internal/misc/Unsafe"), .boolean, .int, .int, .int, .int, .int, .int, .int, .int, .int, .int, .int, .int, .int, .int, .int, .int, .int, (.object "jdk/internal/access/JavaLangAccess"), .int]
  resolved := Array.replicate 378 none
  statics := none }

/-- the primitive byte -/
def k33 : Class := { plain "byte" none with kind := .primitive 'B', accessFlags := 0x411 }
/-- [B -/
def k34 : Class := { plain "[B" (some 0) with kind := .array 33 .byte, interfaces := #[11, 3], accessFlags := 1041 }

/-- the primitive char -/
def k35 : Class := { plain "char" none with kind := .primitive 'C', accessFlags := 0x411 }
/-- [C -/
def k36 : Class := { plain "[C" (some 0) with kind := .array 35 .char, interfaces := #[11, 3], accessFlags := 1041 }

/-- the primitive int -/
def k37 : Class := { plain "int" none with kind := .primitive 'I', accessFlags := 0x411 }
/-- [I -/
def k38 : Class := { plain "[I" (some 0) with kind := .array 37 .int, interfaces := #[11, 3], accessFlags := 1041 }

/-- [Ljava/lang/Object; -/
def k39 : Class := { plain "[Ljava/lang/Object;" (some 0) with kind := .array 0 (.object "java/lang/Object"), interfaces := #[11, 3], accessFlags := 1041 }

def heap : Heap := #[{ cls := 8, slots := #[.long 0, .int 1, .null, .int 0, .null, .int 0, .int 0], vm := .statics 8 },
  { cls := 22, slots := #[.long 0, .int 0, .ref 4, .ref 5], vm := .statics 22 },
  { cls := 29, slots := #[.null, .null, .null], vm := .statics 29 },
  { cls := 31, slots := #[.int 0, .int 8, .int 0, .int 1], vm := .statics 31 },
  { cls := 39, slots := #[], vm := .none },
  { cls := 39, slots := #[], vm := .none }]
def classes : Array Class := #[k0, k1, k2, k3, k4, k5, k6, k7, k8, k9, k10, k11, k12, k13, k14, k15, k16, k17, k18, k19, k20, k21, k22, k23, k24, k25, k26, k27, k28, k29, k30, k31, k32, k33, k34, k35, k36, k37, k38, k39]
def interned : List (Array UInt16 × Addr) := []
def slotsUsed : Nat := 18
def theMethod : MethodId := ⟨1, 2⟩
def args0 : Array Value := #[.int 5, .int 6, .int 7, .int 8, .int 9, .int 10]
def aboutOver (below : List Frame) : State where
  vm := { classes := classes, interned := interned.toArray }
  heap := heap
  slotsUsed := slotsUsed
  threads := #[{ frames := .invoking theMethod args0 :: below }]
def below0 : List Frame := [.native { method := ⟨0, 0⟩, args := #[] }]
def about1 : State := aboutOver below0
def p0 : Program := .bare "" "" ""
def e0 : Env := launch0.env 0 0 0
theorem w_frames : about1.frames = Frame.invoking theMethod args0 :: below0 := rfl
set_option maxRecDepth 65536 in
theorem w_args : argsFit about1.vm theMethod args0 = true := by decide +kernel
set_option maxRecDepth 65536 in
theorem w_heap : heapFits about1 = true := by decide +kernel
set_option maxRecDepth 65536 in
theorem w_runnable : about1.curStatus? = some .runnable := by decide +kernel
set_option maxRecDepth 65536 in
theorem w_alone : about1.alone = true := by decide +kernel
set_option maxRecDepth 65536 in
theorem w_named : about1.methodNamed? x = some theMethod := by decide +kernel
set_option maxRecDepth 65536 in
theorem w_hears : about1.hears theMethod below0 = true := by decide +kernel
set_option maxRecDepth 65536 in
theorem w_ripe : about1.ripe theMethod args0 below0 = true := by decide +kernel
theorem w_running : about1.status = .running := rfl
set_option maxRecDepth 65536 in
theorem w_room : about1.hasRoom e0.platform room_1 = true :=
  launch0.hasRoom_least _ room_1 (by decide +kernel) (by decide +kernel) (by decide +kernel) (by decide +kernel) (by decide +kernel) (by decide +kernel)
theorem allAtoms_all (ts : List Jvm.Cond) (a : Array Jvm.Value) (st : Jvm.State) : (allAtoms ts).before a st = ts.all (fun c => c.before a st) := by
  induction ts with
  | nil => rfl
  | cons c t ih =>
    show (Jvm.Cond.and c (allAtoms t)).before a st = _
    rw [Jvm.Cond.before_and, ih, List.all_cons]
def words1 : List Jvm.Cond := Jvm.Cond.code x code maxLocals ret :: tables_1
/-- a 'code' word, met by the world's own term for the bytes: nothing is compared byte by byte -/
theorem code_word {y : MethodName} {bytes : ByteArray} {mx : Nat} {rt : Option FieldType} {a : Array Value} {s : State} {m : MethodId} {meth : Method} {c : Code} (h1 : s.methodNamed? y = some m) (h2 : s.vm.method? m = some meth) (h3 : meth.code = some c) (h4 : c.code = bytes)
    (h5 : (c.maxLocals == mx && c.exceptionTable.isEmpty && decide (c.maxStack ≤ mostOperands) && decide (meth.sig.returnType = rt) && !meth.locks && decide (parseMethodDescriptor y.desc = some meth.sig)) = true) : (Jvm.Cond.code y bytes mx rt).before a s = true := by
  simp only [Bool.and_eq_true, beq_iff_eq, Bool.not_eq_true', decide_eq_true_eq] at h5
  obtain ⟨⟨⟨⟨⟨g1, g2⟩, g3⟩, g4⟩, g5⟩, g6⟩ := h5
  simp [Cond.before, Cond.holds, Cond.value, h1, h2, h3, h4, g1, g2, g3, g4, g5, g6]
def isCode : Jvm.Cond → Bool
  | .code _ _ _ _ => true
  | _ => false
theorem all_split {L : List Jvm.Cond} {P : Jvm.Cond → Bool} (h1 : L.all (fun c => isCode c || P c) = true) (h2 : ∀ c ∈ L.filter isCode, P c = true) : L.all P = true := by
  refine List.all_eq_true.mpr fun c hc => ?_
  have h := List.all_eq_true.mp h1 c hc
  rcases Bool.eq_false_or_eq_true (isCode c) with hi | hi
  · exact h2 c (List.mem_filter.mpr ⟨hc, hi⟩)
  · simpa [hi] using h
set_option maxRecDepth 65536 in
theorem w_c0 : (Jvm.Cond.code x code maxLocals ret).before args0 about1 = true := code_word (m := ⟨1, 2⟩) (meth := k1m2) (c := k1c2) (by decide +kernel) rfl rfl rfl (by decide +kernel)
set_option maxRecDepth 65536 in
theorem w_c1 : (Jvm.Cond.code ({ cls := "com/example/autowire/autowire/xml/XmlElement", name := "<init>", desc := "(Ljava/lang/String;I)V" } : Jvm.MethodName) prog_41_method_1_code (3 : Nat) (Option.none : Option Jvm.ClassFile.FieldType)).before args0 about1 = true := code_word (m := ⟨2, 0⟩) (meth := k2m0) (c := k2c0) (by decide +kernel) rfl rfl rfl (by decide +kernel)
set_option maxRecDepth 65536 in
theorem w_c2 : (Jvm.Cond.code ({ cls := "java/lang/Object", name := "<init>", desc := "()V" } : Jvm.MethodName) object_method_1_code (1 : Nat) (Option.none : Option Jvm.ClassFile.FieldType)).before args0 about1 = true := code_word (m := ⟨0, 0⟩) (meth := k0m0) (c := k0c0) (by decide +kernel) rfl rfl rfl (by decide +kernel)
set_option maxRecDepth 65536 in
theorem w_c3 : (Jvm.Cond.code ({ cls := "java/util/LinkedHashMap", name := "<init>", desc := "()V" } : Jvm.MethodName) jdk_94_method_16_code (1 : Nat) (Option.none : Option Jvm.ClassFile.FieldType)).before args0 about1 = true := code_word (m := ⟨14, 0⟩) (meth := k14m0) (c := k14c0) (by decide +kernel) rfl rfl rfl (by decide +kernel)
set_option maxRecDepth 65536 in
theorem w_c4 : (Jvm.Cond.code ({ cls := "java/util/HashMap", name := "<init>", desc := "()V" } : Jvm.MethodName) jdk_69_method_7_code (1 : Nat) (Option.none : Option Jvm.ClassFile.FieldType)).before args0 about1 = true := code_word (m := ⟨12, 0⟩) (meth := k12m0) (c := k12c0) (by decide +kernel) rfl rfl rfl (by decide +kernel)
set_option maxRecDepth 65536 in
theorem w_c5 : (Jvm.Cond.code ({ cls := "java/util/AbstractMap", name := "<init>", desc := "()V" } : Jvm.MethodName) jdk_71_method_1_code (1 : Nat) (Option.none : Option Jvm.ClassFile.FieldType)).before args0 about1 = true := code_word (m := ⟨10, 0⟩) (meth := k10m0) (c := k10c0) (by decide +kernel) rfl rfl rfl (by decide +kernel)
set_option maxRecDepth 65536 in
theorem w_c6 : (Jvm.Cond.code ({ cls := "java/util/ArrayList", name := "<init>", desc := "()V" } : Jvm.MethodName) jdk_38_method_2_code (1 : Nat) (Option.none : Option Jvm.ClassFile.FieldType)).before args0 about1 = true := code_word (m := ⟨22, 0⟩) (meth := k22m0) (c := k22c0) (by decide +kernel) rfl rfl rfl (by decide +kernel)
set_option maxRecDepth 65536 in
theorem w_c7 : (Jvm.Cond.code ({ cls := "java/util/AbstractList", name := "<init>", desc := "()V" } : Jvm.MethodName) jdk_39_method_1_code (1 : Nat) (Option.none : Option Jvm.ClassFile.FieldType)).before args0 about1 = true := code_word (m := ⟨20, 0⟩) (meth := k20m0) (c := k20c0) (by decide +kernel) rfl rfl rfl (by decide +kernel)
set_option maxRecDepth 65536 in
theorem w_c8 : (Jvm.Cond.code ({ cls := "java/util/AbstractCollection", name := "<init>", desc := "()V" } : Jvm.MethodName) jdk_22_method_1_code (1 : Nat) (Option.none : Option Jvm.ClassFile.FieldType)).before args0 about1 = true := code_word (m := ⟨17, 0⟩) (meth := k17m0) (c := k17c0) (by decide +kernel) rfl rfl rfl (by decide +kernel)
set_option maxRecDepth 65536 in
theorem w_c9 : (Jvm.Cond.code ({ cls := "java/lang/StringBuilder", name := "<init>", desc := "()V" } : Jvm.MethodName) jdk_67_method_1_code (1 : Nat) (Option.none : Option Jvm.ClassFile.FieldType)).before args0 about1 = true := code_word (m := ⟨25, 0⟩) (meth := k25m0) (c := k25c0) (by decide +kernel) rfl rfl rfl (by decide +kernel)
set_option maxRecDepth 65536 in
theorem w_c10 : (Jvm.Cond.code ({ cls := "java/lang/AbstractStringBuilder", name := "<init>", desc := "(I)V" } : Jvm.MethodName) jdk_68_method_2_code (2 : Nat) (Option.none : Option Jvm.ClassFile.FieldType)).before args0 about1 = true := code_word (m := ⟨24, 1⟩) (meth := k24m1) (c := k24c1) (by decide +kernel) rfl rfl rfl (by decide +kernel)
set_option maxRecDepth 65536 in
theorem w_c11 : (Jvm.Cond.code ({ cls := "com/example/autowire/autowire/xml/XmlElement", name := "text", desc := "()Ljava/lang/String;" } : Jvm.MethodName) prog_41_method_8_code (1 : Nat) (Option.some (Jvm.ClassFile.FieldType.object "java/lang/String"))).before args0 about1 = true := code_word (m := ⟨2, 1⟩) (meth := k2m1) (c := k2c1) (by decide +kernel) rfl rfl rfl (by decide +kernel)
set_option maxRecDepth 65536 in
theorem w_c12 : (Jvm.Cond.code ({ cls := "java/lang/StringBuilder", name := "toString", desc := "()Ljava/lang/String;" } : Jvm.MethodName) jdk_67_method_42_code (1 : Nat) (Option.some (Jvm.ClassFile.FieldType.object "java/lang/String"))).before args0 about1 = true := code_word (m := ⟨25, 2⟩) (meth := k25m2) (c := k25c2) (by decide +kernel) rfl rfl rfl (by decide +kernel)
set_option maxRecDepth 65536 in
theorem w_c13 : (Jvm.Cond.code ({ cls := "java/lang/String", name := "<init>", desc := "(Ljava/lang/StringBuilder;)V" } : Jvm.MethodName) jdk_42_method_53_code (2 : Nat) (Option.none : Option Jvm.ClassFile.FieldType)).before args0 about1 = true := code_word (m := ⟨8, 1⟩) (meth := k8m1) (c := k8c1) (by decide +kernel) rfl rfl rfl (by decide +kernel)
set_option maxRecDepth 65536 in
theorem w_c14 : (Jvm.Cond.code ({ cls := "java/lang/String", name := "<init>", desc := "(Ljava/lang/AbstractStringBuilder;Ljava/lang/Void;)V" } : Jvm.MethodName) jdk_42_method_150_code (5 : Nat) (Option.none : Option Jvm.ClassFile.FieldType)).before args0 about1 = true := code_word (m := ⟨8, 5⟩) (meth := k8m5) (c := k8c5) (by decide +kernel) rfl rfl rfl (by decide +kernel)
set_option maxRecDepth 65536 in
theorem w_c15 : (Jvm.Cond.code ({ cls := "java/lang/AbstractStringBuilder", name := "getValue", desc := "()[B" } : Jvm.MethodName) jdk_68_method_64_code (1 : Nat) (Option.some (Jvm.ClassFile.FieldType.array Jvm.ClassFile.FieldType.byte))).before args0 about1 = true := code_word (m := ⟨24, 6⟩) (meth := k24m6) (c := k24c6) (by decide +kernel) rfl rfl rfl (by decide +kernel)
set_option maxRecDepth 65536 in
theorem w_c16 : (Jvm.Cond.code ({ cls := "java/lang/StringBuilder", name := "length", desc := "()I" } : Jvm.MethodName) jdk_67_method_93_code (1 : Nat) (Option.some Jvm.ClassFile.FieldType.int)).before args0 about1 = true := code_word (m := ⟨25, 3⟩) (meth := k25m3) (c := k25c3) (by decide +kernel) rfl rfl rfl (by decide +kernel)
set_option maxRecDepth 65536 in
theorem w_c17 : (Jvm.Cond.code ({ cls := "java/lang/AbstractStringBuilder", name := "length", desc := "()I" } : Jvm.MethodName) jdk_68_method_6_code (1 : Nat) (Option.some Jvm.ClassFile.FieldType.int)).before args0 about1 = true := code_word (m := ⟨24, 2⟩) (meth := k24m2) (c := k24c2) (by decide +kernel) rfl rfl rfl (by decide +kernel)
set_option maxRecDepth 65536 in
theorem w_c18 : (Jvm.Cond.code ({ cls := "java/lang/AbstractStringBuilder", name := "isLatin1", desc := "()Z" } : Jvm.MethodName) jdk_68_method_68_code (1 : Nat) (Option.some Jvm.ClassFile.FieldType.boolean)).before args0 about1 = true := code_word (m := ⟨24, 7⟩) (meth := k24m7) (c := k24c7) (by decide +kernel) rfl rfl rfl (by decide +kernel)
set_option maxRecDepth 65536 in
theorem w_c19 : (Jvm.Cond.code ({ cls := "java/util/Arrays", name := "copyOfRange", desc := "([BII)[B" } : Jvm.MethodName) jdk_65_method_132_code (3 : Nat) (Option.some (Jvm.ClassFile.FieldType.array Jvm.ClassFile.FieldType.byte))).before args0 about1 = true := code_word (m := ⟨26, 2⟩) (meth := k26m2) (c := k26c2) (by decide +kernel) rfl rfl rfl (by decide +kernel)
set_option maxRecDepth 65536 in
theorem w_c20 : (Jvm.Cond.code ({ cls := "java/util/Arrays", name := "copyOfRangeByte", desc := "([BII)[B" } : Jvm.MethodName) jdk_65_method_133_code (5 : Nat) (Option.some (Jvm.ClassFile.FieldType.array Jvm.ClassFile.FieldType.byte))).before args0 about1 = true := code_word (m := ⟨26, 3⟩) (meth := k26m3) (c := k26c3) (by decide +kernel) rfl rfl rfl (by decide +kernel)
set_option maxRecDepth 65536 in
theorem w_c21 : (Jvm.Cond.code ({ cls := "java/util/Arrays", name := "checkLength", desc := "(II)V" } : Jvm.MethodName) jdk_65_method_131_code (2 : Nat) (Option.none : Option Jvm.ClassFile.FieldType)).before args0 about1 = true := code_word (m := ⟨26, 1⟩) (meth := k26m1) (c := k26c1) (by decide +kernel) rfl rfl rfl (by decide +kernel)
set_option maxRecDepth 65536 in
theorem w_c22 : (Jvm.Cond.code ({ cls := "java/lang/Math", name := "min", desc := "(II)I" } : Jvm.MethodName) jdk_29_method_69_code (2 : Nat) (Option.some Jvm.ClassFile.FieldType.int)).before args0 about1 = true := code_word (m := ⟨27, 1⟩) (meth := k27m1) (c := k27c1) (by decide +kernel) rfl rfl rfl (by decide +kernel)
set_option maxRecDepth 65536 in
theorem w_c23 : (Jvm.Cond.code ({ cls := "com/example/autowire/autowire/xml/XmlElement", name := "addText", desc := "([CII)V" } : Jvm.MethodName) prog_41_method_11_code (4 : Nat) (Option.none : Option Jvm.ClassFile.FieldType)).before args0 about1 = true := code_word (m := ⟨2, 2⟩) (meth := k2m2) (c := k2c2) (by decide +kernel) rfl rfl rfl (by decide +kernel)
set_option maxRecDepth 65536 in
theorem w_c24 : (Jvm.Cond.code ({ cls := "java/lang/StringBuilder", name := "append", desc := "([CII)Ljava/lang/StringBuilder;" } : Jvm.MethodName) jdk_67_method_12_code (4 : Nat) (Option.some (Jvm.ClassFile.FieldType.object "java/lang/StringBuilder"))).before args0 about1 = true := code_word (m := ⟨25, 1⟩) (meth := k25m1) (c := k25c1) (by decide +kernel) rfl rfl rfl (by decide +kernel)
set_option maxRecDepth 65536 in
theorem w_c25 : (Jvm.Cond.code ({ cls := "java/lang/AbstractStringBuilder", name := "append", desc := "([CII)Ljava/lang/AbstractStringBuilder;" } : Jvm.MethodName) jdk_68_method_29_code (5 : Nat) (Option.some (Jvm.ClassFile.FieldType.object "java/lang/AbstractStringBuilder"))).before args0 about1 = true := code_word (m := ⟨24, 5⟩) (meth := k24m5) (c := k24c5) (by decide +kernel) rfl rfl rfl (by decide +kernel)
set_option maxRecDepth 65536 in
theorem w_c26 : (Jvm.Cond.code ({ cls := "jdk/internal/util/Preconditions", name := "checkFromToIndex", desc := "(IIILjava/util/function/BiFunction;)I" } : Jvm.MethodName) jdk_41_method_12_code (4 : Nat) (Option.some Jvm.ClassFile.FieldType.int)).before args0 about1 = true := code_word (m := ⟨29, 2⟩) (meth := k29m2) (c := k29c2) (by decide +kernel) rfl rfl rfl (by decide +kernel)
set_option maxRecDepth 65536 in
theorem w_c27 : (Jvm.Cond.code ({ cls := "java/lang/AbstractStringBuilder", name := "ensureCapacityInternal", desc := "(I)V" } : Jvm.MethodName) jdk_68_method_9_code (3 : Nat) (Option.none : Option Jvm.ClassFile.FieldType)).before args0 about1 = true := code_word (m := ⟨24, 3⟩) (meth := k24m3) (c := k24c3) (by decide +kernel) rfl rfl rfl (by decide +kernel)
set_option maxRecDepth 65536 in
theorem w_c28 : (Jvm.Cond.code ({ cls := "java/lang/AbstractStringBuilder", name := "appendChars", desc := "([CII)V" } : Jvm.MethodName) jdk_68_method_74_code (9 : Nat) (Option.none : Option Jvm.ClassFile.FieldType)).before args0 about1 = true := code_word (m := ⟨24, 8⟩) (meth := k24m8) (c := k24c8) (by decide +kernel) rfl rfl rfl (by decide +kernel)
set_option maxRecDepth 65536 in
theorem w_c29 : (Jvm.Cond.code ({ cls := "java/lang/StringLatin1", name := "canEncode", desc := "(C)Z" } : Jvm.MethodName) jdk_43_method_3_code (1 : Nat) (Option.some Jvm.ClassFile.FieldType.boolean)).before args0 about1 = true := code_word (m := ⟨30, 2⟩) (meth := k30m2) (c := k30c2) (by decide +kernel) rfl rfl rfl (by decide +kernel)
set_option maxRecDepth 65536 in
theorem w_c30 : (Jvm.Cond.code ({ cls := "java/lang/String", name := "isEmpty", desc := "()Z" } : Jvm.MethodName) jdk_42_method_55_code (1 : Nat) (Option.some Jvm.ClassFile.FieldType.boolean)).before args0 about1 = true := code_word (m := ⟨8, 3⟩) (meth := k8m3) (c := k8c3) (by decide +kernel) rfl rfl rfl (by decide +kernel)
set_option maxRecDepth 65536 in
theorem w_c31 : (Jvm.Cond.code ({ cls := "java/lang/String", name := "length", desc := "()I" } : Jvm.MethodName) jdk_42_method_54_code (1 : Nat) (Option.some Jvm.ClassFile.FieldType.int)).before args0 about1 = true := code_word (m := ⟨8, 2⟩) (meth := k8m2) (c := k8c2) (by decide +kernel) rfl rfl rfl (by decide +kernel)
set_option maxRecDepth 65536 in
theorem w_c32 : (Jvm.Cond.code ({ cls := "java/lang/String", name := "coder", desc := "()B" } : Jvm.MethodName) jdk_42_method_152_code (1 : Nat) (Option.some Jvm.ClassFile.FieldType.byte)).before args0 about1 = true := code_word (m := ⟨8, 6⟩) (meth := k8m6) (c := k8c6) (by decide +kernel) rfl rfl rfl (by decide +kernel)
set_option maxRecDepth 65536 in
theorem w_c33 : (Jvm.Cond.code ({ cls := "com/example/autowire/autowire/xml/XmlElementAddTextPinLaw", name := "at", desc := "(Ljava/lang/String;[CIIIII)Z" } : Jvm.MethodName) method_2_code (8 : Nat) (Option.some Jvm.ClassFile.FieldType.boolean)).before args0 about1 = true := code_word (m := ⟨1, 1⟩) (meth := k1m1) (c := k1c1) (by decide +kernel) rfl rfl rfl (by decide +kernel)
set_option maxRecDepth 65536 in
theorem w_c34 : (Jvm.Cond.code ({ cls := "java/lang/String", name := "charAt", desc := "(I)C" } : Jvm.MethodName) jdk_42_method_56_code (2 : Nat) (Option.some Jvm.ClassFile.FieldType.char)).before args0 about1 = true := code_word (m := ⟨8, 4⟩) (meth := k8m4) (c := k8c4) (by decide +kernel) rfl rfl rfl (by decide +kernel)
set_option maxRecDepth 65536 in
theorem w_c35 : (Jvm.Cond.code ({ cls := "java/lang/String", name := "isLatin1", desc := "()Z" } : Jvm.MethodName) jdk_42_method_154_code (1 : Nat) (Option.some Jvm.ClassFile.FieldType.boolean)).before args0 about1 = true := code_word (m := ⟨8, 7⟩) (meth := k8m7) (c := k8c7) (by decide +kernel) rfl rfl rfl (by decide +kernel)
set_option maxRecDepth 65536 in
theorem w_c36 : (Jvm.Cond.code ({ cls := "java/lang/StringLatin1", name := "charAt", desc := "([BI)C" } : Jvm.MethodName) jdk_43_method_2_code (2 : Nat) (Option.some Jvm.ClassFile.FieldType.char)).before args0 about1 = true := code_word (m := ⟨30, 1⟩) (meth := k30m1) (c := k30c1) (by decide +kernel) rfl rfl rfl (by decide +kernel)
set_option maxRecDepth 65536 in
theorem w_c37 : (Jvm.Cond.code ({ cls := "java/lang/String", name := "checkIndex", desc := "(II)V" } : Jvm.MethodName) jdk_42_method_155_code (2 : Nat) (Option.none : Option Jvm.ClassFile.FieldType)).before args0 about1 = true := code_word (m := ⟨8, 8⟩) (meth := k8m8) (c := k8c8) (by decide +kernel) rfl rfl rfl (by decide +kernel)
set_option maxRecDepth 65536 in
theorem w_c38 : (Jvm.Cond.code ({ cls := "jdk/internal/util/Preconditions", name := "checkIndex", desc := "(IILjava/util/function/BiFunction;)I" } : Jvm.MethodName) jdk_41_method_11_code (3 : Nat) (Option.some Jvm.ClassFile.FieldType.int)).before args0 about1 = true := code_word (m := ⟨29, 1⟩) (meth := k29m1) (c := k29c1) (by decide +kernel) rfl rfl rfl (by decide +kernel)
set_option maxRecDepth 65536 in
theorem w_c39 : (Jvm.Cond.code ({ cls := "java/lang/AbstractStringBuilder", name := "inflate", desc := "()V" } : Jvm.MethodName) jdk_68_method_11_code (2 : Nat) (Option.none : Option Jvm.ClassFile.FieldType)).before args0 about1 = true := code_word (m := ⟨24, 4⟩) (meth := k24m4) (c := k24c4) (by decide +kernel) rfl rfl rfl (by decide +kernel)
set_option maxRecDepth 65536 in
theorem w_c40 : (Jvm.Cond.code ({ cls := "java/lang/StringUTF16", name := "newBytesFor", desc := "(I)[B" } : Jvm.MethodName) jdk_52_method_2_code (1 : Nat) (Option.some (Jvm.ClassFile.FieldType.array Jvm.ClassFile.FieldType.byte))).before args0 about1 = true := code_word (m := ⟨31, 1⟩) (meth := k31m1) (c := k31c1) (by decide +kernel) rfl rfl rfl (by decide +kernel)
set_option maxRecDepth 65536 in
theorem w_c41 : (Jvm.Cond.code ({ cls := "java/lang/StringUTF16", name := "newBytesLength", desc := "(I)I" } : Jvm.MethodName) jdk_52_method_3_code (1 : Nat) (Option.some Jvm.ClassFile.FieldType.int)).before args0 about1 = true := code_word (m := ⟨31, 2⟩) (meth := k31m2) (c := k31c2) (by decide +kernel) rfl rfl rfl (by decide +kernel)
set_option maxRecDepth 65536 in
theorem w_c42 : (Jvm.Cond.code ({ cls := "java/lang/StringLatin1", name := "inflate", desc := "([BI[BII)V" } : Jvm.MethodName) jdk_43_method_50_code (5 : Nat) (Option.none : Option Jvm.ClassFile.FieldType)).before args0 about1 = true := code_word (m := ⟨30, 3⟩) (meth := k30m3) (c := k30c3) (by decide +kernel) rfl rfl rfl (by decide +kernel)
set_option maxRecDepth 65536 in
theorem w_c43 : (Jvm.Cond.code ({ cls := "java/lang/StringUTF16", name := "inflate", desc := "([BI[BII)V" } : Jvm.MethodName) jdk_52_method_86_code (6 : Nat) (Option.none : Option Jvm.ClassFile.FieldType)).before args0 about1 = true := code_word (m := ⟨31, 9⟩) (meth := k31m9) (c := k31c9) (by decide +kernel) rfl rfl rfl (by decide +kernel)
set_option maxRecDepth 65536 in
theorem w_c44 : (Jvm.Cond.code ({ cls := "java/lang/StringUTF16", name := "checkBoundsOffCount", desc := "(II[B)V" } : Jvm.MethodName) jdk_52_method_94_code (3 : Nat) (Option.none : Option Jvm.ClassFile.FieldType)).before args0 about1 = true := code_word (m := ⟨31, 12⟩) (meth := k31m12) (c := k31c12) (by decide +kernel) rfl rfl rfl (by decide +kernel)
set_option maxRecDepth 65536 in
theorem w_c45 : (Jvm.Cond.code ({ cls := "java/lang/StringUTF16", name := "length", desc := "([B)I" } : Jvm.MethodName) jdk_52_method_6_code (1 : Nat) (Option.some Jvm.ClassFile.FieldType.int)).before args0 about1 = true := code_word (m := ⟨31, 5⟩) (meth := k31m5) (c := k31c5) (by decide +kernel) rfl rfl rfl (by decide +kernel)
set_option maxRecDepth 65536 in
theorem w_c46 : (Jvm.Cond.code ({ cls := "java/lang/String", name := "checkBoundsOffCount", desc := "(III)I" } : Jvm.MethodName) jdk_42_method_157_code (3 : Nat) (Option.some Jvm.ClassFile.FieldType.int)).before args0 about1 = true := code_word (m := ⟨8, 9⟩) (meth := k8m9) (c := k8c9) (by decide +kernel) rfl rfl rfl (by decide +kernel)
set_option maxRecDepth 65536 in
theorem w_c47 : (Jvm.Cond.code ({ cls := "jdk/internal/util/Preconditions", name := "checkFromIndexSize", desc := "(IIILjava/util/function/BiFunction;)I" } : Jvm.MethodName) jdk_41_method_13_code (4 : Nat) (Option.some Jvm.ClassFile.FieldType.int)).before args0 about1 = true := code_word (m := ⟨29, 3⟩) (meth := k29m3) (c := k29c3) (by decide +kernel) rfl rfl rfl (by decide +kernel)
set_option maxRecDepth 65536 in
theorem w_c48 : (Jvm.Cond.code ({ cls := "java/lang/StringUTF16", name := "putCharsSB", desc := "([BI[CII)V" } : Jvm.MethodName) jdk_52_method_72_code (5 : Nat) (Option.none : Option Jvm.ClassFile.FieldType)).before args0 about1 = true := code_word (m := ⟨31, 7⟩) (meth := k31m7) (c := k31c7) (by decide +kernel) rfl rfl rfl (by decide +kernel)
set_option maxRecDepth 65536 in
theorem w_c49 : (Jvm.Cond.code ({ cls := "java/lang/StringUTF16", name := "checkBoundsBeginEnd", desc := "(II[B)V" } : Jvm.MethodName) jdk_52_method_93_code (3 : Nat) (Option.none : Option Jvm.ClassFile.FieldType)).before args0 about1 = true := code_word (m := ⟨31, 11⟩) (meth := k31m11) (c := k31c11) (by decide +kernel) rfl rfl rfl (by decide +kernel)
set_option maxRecDepth 65536 in
theorem w_c50 : (Jvm.Cond.code ({ cls := "java/lang/String", name := "checkBoundsBeginEnd", desc := "(III)V" } : Jvm.MethodName) jdk_42_method_158_code (3 : Nat) (Option.none : Option Jvm.ClassFile.FieldType)).before args0 about1 = true := code_word (m := ⟨8, 10⟩) (meth := k8m10) (c := k8c10) (by decide +kernel) rfl rfl rfl (by decide +kernel)
set_option maxRecDepth 65536 in
theorem w_c51 : (Jvm.Cond.code ({ cls := "java/lang/StringUTF16", name := "putChars", desc := "([BI[CII)V" } : Jvm.MethodName) jdk_52_method_68_code (5 : Nat) (Option.none : Option Jvm.ClassFile.FieldType)).before args0 about1 = true := code_word (m := ⟨31, 6⟩) (meth := k31m6) (c := k31c6) (by decide +kernel) rfl rfl rfl (by decide +kernel)
set_option maxRecDepth 65536 in
theorem w_c52 : (Jvm.Cond.code ({ cls := "java/lang/StringUTF16", name := "putChar", desc := "([BII)V" } : Jvm.MethodName) jdk_52_method_4_code (3 : Nat) (Option.none : Option Jvm.ClassFile.FieldType)).before args0 about1 = true := code_word (m := ⟨31, 3⟩) (meth := k31m3) (c := k31c3) (by decide +kernel) rfl rfl rfl (by decide +kernel)
set_option maxRecDepth 65536 in
theorem w_c53 : (Jvm.Cond.code ({ cls := "java/lang/StringUTF16", name := "charAt", desc := "([BI)C" } : Jvm.MethodName) jdk_52_method_83_code (2 : Nat) (Option.some Jvm.ClassFile.FieldType.char)).before args0 about1 = true := code_word (m := ⟨31, 8⟩) (meth := k31m8) (c := k31c8) (by decide +kernel) rfl rfl rfl (by decide +kernel)
set_option maxRecDepth 65536 in
theorem w_c54 : (Jvm.Cond.code ({ cls := "java/lang/StringUTF16", name := "checkIndex", desc := "(I[B)V" } : Jvm.MethodName) jdk_52_method_91_code (2 : Nat) (Option.none : Option Jvm.ClassFile.FieldType)).before args0 about1 = true := code_word (m := ⟨31, 10⟩) (meth := k31m10) (c := k31c10) (by decide +kernel) rfl rfl rfl (by decide +kernel)
set_option maxRecDepth 65536 in
theorem w_c55 : (Jvm.Cond.code ({ cls := "java/lang/StringUTF16", name := "getChar", desc := "([BI)C" } : Jvm.MethodName) jdk_52_method_5_code (2 : Nat) (Option.some Jvm.ClassFile.FieldType.char)).before args0 about1 = true := code_word (m := ⟨31, 4⟩) (meth := k31m4) (c := k31c4) (by decide +kernel) rfl rfl rfl (by decide +kernel)
def codes1 : List Jvm.Cond := [Jvm.Cond.code x code maxLocals ret, Jvm.Cond.code ({ cls := "com/example/autowire/autowire/xml/XmlElement", name := "<init>", desc := "(Ljava/lang/String;I)V" } : Jvm.MethodName) prog_41_method_1_code (3 : Nat) (Option.none : Option Jvm.ClassFile.FieldType), Jvm.Cond.code ({ cls := "java/lang/Object", name := "<init>", desc := "()V" } : Jvm.MethodName) object_method_1_code (1 : Nat) (Option.none : Option Jvm.ClassFile.FieldType), Jvm.Cond.code ({ cls := "java/util/LinkedHashMap", name := "<init>", desc := "()V" } : Jvm.MethodName) jdk_94_method_16_code (1 : Nat) (Option.none : Option Jvm.ClassFile.FieldType), Jvm.Cond.code ({ cls := "java/util/HashMap", name := "<init>", desc := "()V" } : Jvm.MethodName) jdk_69_method_7_code (1 : Nat) (Option.none : Option Jvm.ClassFile.FieldType), Jvm.Cond.code ({ cls := "java/util/AbstractMap", name := "<init>", desc := "()V" } : Jvm.MethodName) jdk_71_method_1_code (1 : Nat) (Option.none : Option Jvm.ClassFile.FieldType), Jvm.Cond.code ({ cls := "java/util/ArrayList", name := "<init>", desc := "()V" } : Jvm.MethodName) jdk_38_method_2_code (1 : Nat) (Option.none : Option Jvm.ClassFile.FieldType), Jvm.Cond.code ({ cls := "java/util/AbstractList", name := "<init>", desc := "()V" } : Jvm.MethodName) jdk_39_method_1_code (1 : Nat) (Option.none : Option Jvm.ClassFile.FieldType), Jvm.Cond.code ({ cls := "java/util/AbstractCollection", name := "<init>", desc := "()V" } : Jvm.MethodName) jdk_22_method_1_code (1 : Nat) (Option.none : Option Jvm.ClassFile.FieldType), Jvm.Cond.code ({ cls := "java/lang/StringBuilder", name := "<init>", desc := "()V" } : Jvm.MethodName) jdk_67_method_1_code (1 : Nat) (Option.none : Option Jvm.ClassFile.FieldType), Jvm.Cond.code ({ cls := "java/lang/AbstractStringBuilder", name := "<init>", desc := "(I)V" } : Jvm.MethodName) jdk_68_method_2_code (2 : Nat) (Option.none : Option Jvm.ClassFile.FieldType), Jvm.Cond.code ({ cls := "com/example/autowire/autowire/xml/XmlElement", name := "text", desc := "()Ljava/lang/String;" } : Jvm.MethodName) prog_41_method_8_code (1 : Nat) (Option.some (Jvm.ClassFile.FieldType.object "java/lang/String")), Jvm.Cond.code ({ cls := "java/lang/StringBuilder", name := "toString", desc := "()Ljava/lang/String;" } : Jvm.MethodName) jdk_67_method_42_code (1 : Nat) (Option.some (Jvm.ClassFile.FieldType.object "java/lang/String")), Jvm.Cond.code ({ cls := "java/lang/String", name := "<init>", desc := "(Ljava/lang/StringBuilder;)V" } : Jvm.MethodName) jdk_42_method_53_code (2 : Nat) (Option.none : Option Jvm.ClassFile.FieldType), Jvm.Cond.code ({ cls := "java/lang/String", name := "<init>", desc := "(Ljava/lang/AbstractStringBuilder;Ljava/lang/Void;)V" } : Jvm.MethodName) jdk_42_method_150_code (5 : Nat) (Option.none : Option Jvm.ClassFile.FieldType), Jvm.Cond.code ({ cls := "java/lang/AbstractStringBuilder", name := "getValue", desc := "()[B" } : Jvm.MethodName) jdk_68_method_64_code (1 : Nat) (Option.some (Jvm.ClassFile.FieldType.array Jvm.ClassFile.FieldType.byte)), Jvm.Cond.code ({ cls := "java/lang/StringBuilder", name := "length", desc := "()I" } : Jvm.MethodName) jdk_67_method_93_code (1 : Nat) (Option.some Jvm.ClassFile.FieldType.int), Jvm.Cond.code ({ cls := "java/lang/AbstractStringBuilder", name := "length", desc := "()I" } : Jvm.MethodName) jdk_68_method_6_code (1 : Nat) (Option.some Jvm.ClassFile.FieldType.int), Jvm.Cond.code ({ cls := "java/lang/AbstractStringBuilder", name := "isLatin1", desc := "()Z" } : Jvm.MethodName) jdk_68_method_68_code (1 : Nat) (Option.some Jvm.ClassFile.FieldType.boolean), Jvm.Cond.code ({ cls := "java/util/Arrays", name := "copyOfRange", desc := "([BII)[B" } : Jvm.MethodName) jdk_65_method_132_code (3 : Nat) (Option.some (Jvm.ClassFile.FieldType.array Jvm.ClassFile.FieldType.byte)), Jvm.Cond.code ({ cls := "java/util/Arrays", name := "copyOfRangeByte", desc := "([BII)[B" } : Jvm.MethodName) jdk_65_method_133_code (5 : Nat) (Option.some (Jvm.ClassFile.FieldType.array Jvm.ClassFile.FieldType.byte)), Jvm.Cond.code ({ cls := "java/util/Arrays", name := "checkLength", desc := "(II)V" } : Jvm.MethodName) jdk_65_method_131_code (2 : Nat) (Option.none : Option Jvm.ClassFile.FieldType), Jvm.Cond.code ({ cls := "java/lang/Math", name := "min", desc := "(II)I" } : Jvm.MethodName) jdk_29_method_69_code (2 : Nat) (Option.some Jvm.ClassFile.FieldType.int), Jvm.Cond.code ({ cls := "com/example/autowire/autowire/xml/XmlElement", name := "addText", desc := "([CII)V" } : Jvm.MethodName) prog_41_method_11_code (4 : Nat) (Option.none : Option Jvm.ClassFile.FieldType), Jvm.Cond.code ({ cls := "java/lang/StringBuilder", name := "append", desc := "([CII)Ljava/lang/StringBuilder;" } : Jvm.MethodName) jdk_67_method_12_code (4 : Nat) (Option.some (Jvm.ClassFile.FieldType.object "java/lang/StringBuilder")), Jvm.Cond.code ({ cls := "java/lang/AbstractStringBuilder", name := "append", desc := "([CII)Ljava/lang/AbstractStringBuilder;" } : Jvm.MethodName) jdk_68_method_29_code (5 : Nat) (Option.some (Jvm.ClassFile.FieldType.object "java/lang/AbstractStringBuilder")), Jvm.Cond.code ({ cls := "jdk/internal/util/Preconditions", name := "checkFromToIndex", desc := "(IIILjava/util/function/BiFunction;)I" } : Jvm.MethodName) jdk_41_method_12_code (4 : Nat) (Option.some Jvm.ClassFile.FieldType.int), Jvm.Cond.code ({ cls := "java/lang/AbstractStringBuilder", name := "ensureCapacityInternal", desc := "(I)V" } : Jvm.MethodName) jdk_68_method_9_code (3 : Nat) (Option.none : Option Jvm.ClassFile.FieldType), Jvm.Cond.code ({ cls := "java/lang/AbstractStringBuilder", name := "appendChars", desc := "([CII)V" } : Jvm.MethodName) jdk_68_method_74_code (9 : Nat) (Option.none : Option Jvm.ClassFile.FieldType), Jvm.Cond.code ({ cls := "java/lang/StringLatin1", name := "canEncode", desc := "(C)Z" } : Jvm.MethodName) jdk_43_method_3_code (1 : Nat) (Option.some Jvm.ClassFile.FieldType.boolean), Jvm.Cond.code ({ cls := "java/lang/String", name := "isEmpty", desc := "()Z" } : Jvm.MethodName) jdk_42_method_55_code (1 : Nat) (Option.some Jvm.ClassFile.FieldType.boolean), Jvm.Cond.code ({ cls := "java/lang/String", name := "length", desc := "()I" } : Jvm.MethodName) jdk_42_method_54_code (1 : Nat) (Option.some Jvm.ClassFile.FieldType.int), Jvm.Cond.code ({ cls := "java/lang/String", name := "coder", desc := "()B" } : Jvm.MethodName) jdk_42_method_152_code (1 : Nat) (Option.some Jvm.ClassFile.FieldType.byte), Jvm.Cond.code ({ cls := "com/example/autowire/autowire/xml/XmlElementAddTextPinLaw", name := "at", desc := "(Ljava/lang/String;[CIIIII)Z" } : Jvm.MethodName) method_2_code (8 : Nat) (Option.some Jvm.ClassFile.FieldType.boolean), Jvm.Cond.code ({ cls := "java/lang/String", name := "charAt", desc := "(I)C" } : Jvm.MethodName) jdk_42_method_56_code (2 : Nat) (Option.some Jvm.ClassFile.FieldType.char), Jvm.Cond.code ({ cls := "java/lang/String", name := "isLatin1", desc := "()Z" } : Jvm.MethodName) jdk_42_method_154_code (1 : Nat) (Option.some Jvm.ClassFile.FieldType.boolean), Jvm.Cond.code ({ cls := "java/lang/StringLatin1", name := "charAt", desc := "([BI)C" } : Jvm.MethodName) jdk_43_method_2_code (2 : Nat) (Option.some Jvm.ClassFile.FieldType.char), Jvm.Cond.code ({ cls := "java/lang/String", name := "checkIndex", desc := "(II)V" } : Jvm.MethodName) jdk_42_method_155_code (2 : Nat) (Option.none : Option Jvm.ClassFile.FieldType), Jvm.Cond.code ({ cls := "jdk/internal/util/Preconditions", name := "checkIndex", desc := "(IILjava/util/function/BiFunction;)I" } : Jvm.MethodName) jdk_41_method_11_code (3 : Nat) (Option.some Jvm.ClassFile.FieldType.int), Jvm.Cond.code ({ cls := "java/lang/AbstractStringBuilder", name := "inflate", desc := "()V" } : Jvm.MethodName) jdk_68_method_11_code (2 : Nat) (Option.none : Option Jvm.ClassFile.FieldType), Jvm.Cond.code ({ cls := "java/lang/StringUTF16", name := "newBytesFor", desc := "(I)[B" } : Jvm.MethodName) jdk_52_method_2_code (1 : Nat) (Option.some (Jvm.ClassFile.FieldType.array Jvm.ClassFile.FieldType.byte)), Jvm.Cond.code ({ cls := "java/lang/StringUTF16", name := "newBytesLength", desc := "(I)I" } : Jvm.MethodName) jdk_52_method_3_code (1 : Nat) (Option.some Jvm.ClassFile.FieldType.int), Jvm.Cond.code ({ cls := "java/lang/StringLatin1", name := "inflate", desc := "([BI[BII)V" } : Jvm.MethodName) jdk_43_method_50_code (5 : Nat) (Option.none : Option Jvm.ClassFile.FieldType), Jvm.Cond.code ({ cls := "java/lang/StringUTF16", name := "inflate", desc := "([BI[BII)V" } : Jvm.MethodName) jdk_52_method_86_code (6 : Nat) (Option.none : Option Jvm.ClassFile.FieldType), Jvm.Cond.code ({ cls := "java/lang/StringUTF16", name := "checkBoundsOffCount", desc := "(II[B)V" } : Jvm.MethodName) jdk_52_method_94_code (3 : Nat) (Option.none : Option Jvm.ClassFile.FieldType), Jvm.Cond.code ({ cls := "java/lang/StringUTF16", name := "length", desc := "([B)I" } : Jvm.MethodName) jdk_52_method_6_code (1 : Nat) (Option.some Jvm.ClassFile.FieldType.int), Jvm.Cond.code ({ cls := "java/lang/String", name := "checkBoundsOffCount", desc := "(III)I" } : Jvm.MethodName) jdk_42_method_157_code (3 : Nat) (Option.some Jvm.ClassFile.FieldType.int), Jvm.Cond.code ({ cls := "jdk/internal/util/Preconditions", name := "checkFromIndexSize", desc := "(IIILjava/util/function/BiFunction;)I" } : Jvm.MethodName) jdk_41_method_13_code (4 : Nat) (Option.some Jvm.ClassFile.FieldType.int), Jvm.Cond.code ({ cls := "java/lang/StringUTF16", name := "putCharsSB", desc := "([BI[CII)V" } : Jvm.MethodName) jdk_52_method_72_code (5 : Nat) (Option.none : Option Jvm.ClassFile.FieldType), Jvm.Cond.code ({ cls := "java/lang/StringUTF16", name := "checkBoundsBeginEnd", desc := "(II[B)V" } : Jvm.MethodName) jdk_52_method_93_code (3 : Nat) (Option.none : Option Jvm.ClassFile.FieldType), Jvm.Cond.code ({ cls := "java/lang/String", name := "checkBoundsBeginEnd", desc := "(III)V" } : Jvm.MethodName) jdk_42_method_158_code (3 : Nat) (Option.none : Option Jvm.ClassFile.FieldType), Jvm.Cond.code ({ cls := "java/lang/StringUTF16", name := "putChars", desc := "([BI[CII)V" } : Jvm.MethodName) jdk_52_method_68_code (5 : Nat) (Option.none : Option Jvm.ClassFile.FieldType), Jvm.Cond.code ({ cls := "java/lang/StringUTF16", name := "putChar", desc := "([BII)V" } : Jvm.MethodName) jdk_52_method_4_code (3 : Nat) (Option.none : Option Jvm.ClassFile.FieldType), Jvm.Cond.code ({ cls := "java/lang/StringUTF16", name := "charAt", desc := "([BI)C" } : Jvm.MethodName) jdk_52_method_83_code (2 : Nat) (Option.some Jvm.ClassFile.FieldType.char), Jvm.Cond.code ({ cls := "java/lang/StringUTF16", name := "checkIndex", desc := "(I[B)V" } : Jvm.MethodName) jdk_52_method_91_code (2 : Nat) (Option.none : Option Jvm.ClassFile.FieldType), Jvm.Cond.code ({ cls := "java/lang/StringUTF16", name := "getChar", desc := "([BI)C" } : Jvm.MethodName) jdk_52_method_5_code (2 : Nat) (Option.some Jvm.ClassFile.FieldType.char)]
set_option maxRecDepth 65536 in
theorem codes_eq : words1.filter isCode = codes1 := rfl
theorem w_codes : ∀ c ∈ words1.filter isCode, c.before args0 about1 = true := by
  rw [codes_eq]
  intro c hc
  simp only [codes1, List.mem_cons, List.not_mem_nil, or_false] at hc
  rcases hc with rfl | rfl | rfl | rfl | rfl | rfl | rfl | rfl | rfl | rfl | rfl | rfl | rfl | rfl | rfl | rfl | rfl | rfl | rfl | rfl | rfl | rfl | rfl | rfl | rfl | rfl | rfl | rfl | rfl | rfl | rfl | rfl | rfl | rfl | rfl | rfl | rfl | rfl | rfl | rfl | rfl | rfl | rfl | rfl | rfl | rfl | rfl | rfl | rfl | rfl | rfl | rfl | rfl | rfl | rfl | rfl
  · exact w_c0
  · exact w_c1
  · exact w_c2
  · exact w_c3
  · exact w_c4
  · exact w_c5
  · exact w_c6
  · exact w_c7
  · exact w_c8
  · exact w_c9
  · exact w_c10
  · exact w_c11
  · exact w_c12
  · exact w_c13
  · exact w_c14
  · exact w_c15
  · exact w_c16
  · exact w_c17
  · exact w_c18
  · exact w_c19
  · exact w_c20
  · exact w_c21
  · exact w_c22
  · exact w_c23
  · exact w_c24
  · exact w_c25
  · exact w_c26
  · exact w_c27
  · exact w_c28
  · exact w_c29
  · exact w_c30
  · exact w_c31
  · exact w_c32
  · exact w_c33
  · exact w_c34
  · exact w_c35
  · exact w_c36
  · exact w_c37
  · exact w_c38
  · exact w_c39
  · exact w_c40
  · exact w_c41
  · exact w_c42
  · exact w_c43
  · exact w_c44
  · exact w_c45
  · exact w_c46
  · exact w_c47
  · exact w_c48
  · exact w_c49
  · exact w_c50
  · exact w_c51
  · exact w_c52
  · exact w_c53
  · exact w_c54
  · exact w_c55
set_option maxRecDepth 65536 in
theorem w_t1 : (words1.take 24).all (fun c => isCode c || c.before args0 about1) = true := by decide +kernel
set_option maxRecDepth 65536 in
theorem w_t2 : ((words1.drop 24).take 24).all (fun c => isCode c || c.before args0 about1) = true := by decide +kernel
set_option maxRecDepth 65536 in
theorem w_t3 : (((words1.drop 24).drop 24).take 24).all (fun c => isCode c || c.before args0 about1) = true := by decide +kernel
set_option maxRecDepth 65536 in
theorem w_t4 : ((((words1.drop 24).drop 24).drop 24).take 24).all (fun c => isCode c || c.before args0 about1) = true := by decide +kernel
set_option maxRecDepth 65536 in
theorem w_t5 : (((((words1.drop 24).drop 24).drop 24).drop 24).take 24).all (fun c => isCode c || c.before args0 about1) = true := by decide +kernel
set_option maxRecDepth 65536 in
theorem w_t6 : ((((((words1.drop 24).drop 24).drop 24).drop 24).drop 24).take 24).all (fun c => isCode c || c.before args0 about1) = true := by decide +kernel
set_option maxRecDepth 65536 in
theorem w_t7 : (((((((words1.drop 24).drop 24).drop 24).drop 24).drop 24).drop 24).take 24).all (fun c => isCode c || c.before args0 about1) = true := by decide +kernel
set_option maxRecDepth 65536 in
theorem w_t8 : ((((((((words1.drop 24).drop 24).drop 24).drop 24).drop 24).drop 24).drop 24).take 24).all (fun c => isCode c || c.before args0 about1) = true := by decide +kernel
set_option maxRecDepth 65536 in
theorem w_t9 : (((((((((words1.drop 24).drop 24).drop 24).drop 24).drop 24).drop 24).drop 24).drop 24).take 24).all (fun c => isCode c || c.before args0 about1) = true := by decide +kernel
set_option maxRecDepth 65536 in
theorem w_t10 : ((((((((((words1.drop 24).drop 24).drop 24).drop 24).drop 24).drop 24).drop 24).drop 24).drop 24).take 24).all (fun c => isCode c || c.before args0 about1) = true := by decide +kernel
set_option maxRecDepth 65536 in
theorem w_t11 : (((((((((((words1.drop 24).drop 24).drop 24).drop 24).drop 24).drop 24).drop 24).drop 24).drop 24).drop 24).take 24).all (fun c => isCode c || c.before args0 about1) = true := by decide +kernel
set_option maxRecDepth 65536 in
theorem w_t12 : ((((((((((((words1.drop 24).drop 24).drop 24).drop 24).drop 24).drop 24).drop 24).drop 24).drop 24).drop 24).drop 24).take 24).all (fun c => isCode c || c.before args0 about1) = true := by decide +kernel
set_option maxRecDepth 65536 in
theorem w_t13 : ((((((((((((words1.drop 24).drop 24).drop 24).drop 24).drop 24).drop 24).drop 24).drop 24).drop 24).drop 24).drop 24).drop 24).all (fun c => isCode c || c.before args0 about1) = true := by decide +kernel
theorem w_tables : (allAtoms (Jvm.Cond.code x code maxLocals ret :: tables_1)).before args0 about1 = true := by
  rw [allAtoms_all]
  show words1.all (fun c => c.before args0 about1) = true
  refine all_split ?_ w_codes
  rw [← List.take_append_drop 24 words1, List.all_append, w_t1, ← List.take_append_drop 24 (words1.drop 24), List.all_append, w_t2, ← List.take_append_drop 24 ((words1.drop 24).drop 24), List.all_append, w_t3, ← List.take_append_drop 24 (((words1.drop 24).drop 24).drop 24), List.all_append, w_t4, ← List.take_append_drop 24 ((((words1.drop 24).drop 24).drop 24).drop 24), List.all_append, w_t5, ← List.take_append_drop 24 (((((words1.drop 24).drop 24).drop 24).drop 24).drop 24), List.all_append, w_t6, ← List.take_append_drop 24 ((((((words1.drop 24).drop 24).drop 24).drop 24).drop 24).drop 24), List.all_append, w_t7, ← List.take_append_drop 24 (((((((words1.drop 24).drop 24).drop 24).drop 24).drop 24).drop 24).drop 24), List.all_append, w_t8, ← List.take_append_drop 24 ((((((((words1.drop 24).drop 24).drop 24).drop 24).drop 24).drop 24).drop 24).drop 24), List.all_append, w_t9, ← List.take_append_drop 24 (((((((((words1.drop 24).drop 24).drop 24).drop 24).drop 24).drop 24).drop 24).drop 24).drop 24), List.all_append, w_t10, ← List.take_append_drop 24 ((((((((((words1.drop 24).drop 24).drop 24).drop 24).drop 24).drop 24).drop 24).drop 24).drop 24).drop 24), List.all_append, w_t11, ← List.take_append_drop 24 (((((((((((words1.drop 24).drop 24).drop 24).drop 24).drop 24).drop 24).drop 24).drop 24).drop 24).drop 24).drop 24), List.all_append, w_t12, w_t13]
  rfl
set_option maxRecDepth 65536 in
theorem w_rest : rest_1_c.before args0 about1 = true := by decide +kernel
set_option maxRecDepth 65536 in
theorem w_case : (Jvm.Cond.and given_1 narrow_1).before args0 about1 = true := by decide +kernel
theorem w_applies : (headSpec (Jvm.Cond.code x code maxLocals ret :: tables_1) room_1).applies x e0.platform about1 = true :=
  (Spec.applies_iff w_frames).mpr ⟨w_running, w_runnable, w_alone, w_named, w_hears, w_ripe, w_room, w_tables⟩
theorem atStart : AtStart classFile x code maxLocals ret World_1 tables_1 room_1 Calls_1 rest_1 Pre_1 launch0 p0 e0 about1 theMethod args0 below0 :=
  ⟨lists_1, trivial, launch0.admits_env _ _ _, launch0.least_env, fairChoices_fair.cas, fairChoices_fair.clock, w_frames, w_args, w_heap, w_applies, trivial, w_rest, w_case⟩
end start1
theorem witness_1 : WitnessClaimed_1 := ⟨start1.p0, start1.e0, start1.about1, start1.theMethod, start1.args0, start1.below0, start1.atStart⟩
end Jvm.Pilot.@@N@@
