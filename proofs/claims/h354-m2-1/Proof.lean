import JvmDerived
import JvmDerived.Pilot.@@N@@Statement
import JvmDerived.Pilot.@@N@@Code
set_option linter.unusedVariables false
set_option linter.unusedSimpArgs false
namespace Jvm.Pilot.@@N@@
open Jvm Jvm.ClassFile Sem Op Lib Jvm.Free Jvm.Stand Jvm.LawKit Jvm.RoadKit Bundle Jvm.Pilot.@@N@@.Jvm.D
/-! the walk's own layer (narrow form): Go = "from here the body returns, and Q" -/
abbrev Cx : Type := Program × Env × State × MethodId × Array Value × List Frame × Method × Code
def Wds (Z : State) : Prop := ∃ a0 : Array Value, ∀ d ∈ tables_1, d.before a0 Z = true
def Ok (Z : State) (K : Cx) (own : String) (bytes : ByteArray) (maxL : Nat) (ret : Option FieldType) (nm : String) : Prop :=
  match K with
  | (p, e, s, m, args, below, meth, c) => p.tables.exec = Jvm.exec ∧ c.code = bytes ∧ c.maxLocals = maxL ∧ meth.sig.returnType = ret ∧ s.vm.findClass own = some m.cls ∧ Z.Warmed39 s.vm ∧ meth.name = nm ∧ meth.locks = false ∧ Wds Z
def Go (l : Launch) (Z : State) (n0 : Nat) (R : Room) (K : Cx) (Q : Option Value → Heap → List Addr → Prop) (h : Heap) (sf : List Addr) (k j : Nat) (pc : Nat) (ls : Array Slot) (st : List Value) : Prop :=
  match K with
  | (p, e, s, m, args, below, meth, c) => ∀ (T : State) (locs : List Loc), Stand p l e R s m args below meth c T locs k j → T.heap = h → Fr n0 locs → Old Z n0 h →
      ∃ (s₂ : State) (o : Outcome), Steps p.tables e below (T.setTop (mkF m pc ls st)) s₂ ∧ s₂.status = .running ∧ Ended s₂ below o ∧ ∃ (v : Option Value) (L : List Loc), o = .returned v ∧ ((∃ sn, Q v s₂.heap sn) ∧ Fr n0 L ∧ Old Z n0 s₂.heap) ∧ FrameEnd s o s₂ L R.cells R.slots
def Ctr (l : Launch) (Z : State) (n0 : Nat) (y : MethodName) (bytes : ByteArray) (maxL : Nat) (ret : Option FieldType) (rm : Room) (as : Array Value) (h : Heap) (sf : List Addr) (Q : Option Value → Heap → List Addr → Prop) : Prop :=
  Old Z n0 h → ∀ ws : List Jvm.Cond, MetFree l y (head1 (Jvm.Cond.code y bytes maxL ret :: ws) rm) (fun a U => a = as ∧ Z.Warmed39 U.vm ∧ U.heap = h) (fun _ _ _ _ _ => True) (fun _ U o U' => ∃ v L, o = .returned v ∧ ((∃ sn, Q v U'.heap sn) ∧ Fr n0 L ∧ Old Z n0 U'.heap) ∧ FrameEnd U o U' L rm.cells rm.slots)
section Kit
variable {l : Launch} {Z : State} {n0 : Nat} {R : Room} {K : Cx} {Q : Option Value → Heap → List Addr → Prop} {h : Heap} {sf : List Addr} {k j pc pc' : Nat} {ls : Array Slot} {st : List Value} {own : String} {bytes : ByteArray} {maxL : Nat} {ret : Option FieldType} {nm : String}
theorem Ctr.of_go {y : MethodName} {rm : Room} {as : Array Value} (W : Wds Z) (hp : plainFor y = true) (hef : ∀ m, entryFrame m as maxL = mkF m 0 ls []) (hgo : ∀ K, Ok Z K y.cls bytes maxL ret y.name → Go l Z n0 rm K Q h sf 0 0 0 ls []) : Ctr l Z n0 y bytes maxL ret rm as h sf Q := fun hO ws => by
  refine MetFree.of_bodySF hp hisR ?_
  intro p e s m args below meth c s₁ Bd hml0 hP hK
  obtain ⟨rfl, hZ, hh⟩ := hP
  have X0 : Stand p l e rm s m args below meth c s₁ [] 0 0 := Stand.of_body Bd
  have e0 : s₁.heap = h := by rw [← hh, Bd.state]; rfl
  have hnm := (name_of_methodNamed Bd.named Bd.method).1
  have hlk : meth.locks = false := BodyLoose.notSynchronized Bd
  obtain ⟨s₂, o, h1, h2⟩ := hgo (p, e, s, m, args, below, meth, c) ⟨Bd.exec, Bd.bytes, hml0, Bd.returns, findClass_of_methodNamed Bd.named, hZ, hnm, hlk, W⟩ s₁ [] X0 e0 (Fr.nil n0) hO
  exact ⟨s₂, o, castTop (hef m) h1, h2⟩
theorem Go.of {ls' : Array Slot} {st' : List Value} (H : Ok Z K own bytes maxL ret nm) (step : ∀ (p : Program) (e : Env) (below : List Frame) (T target : State) (m : MethodId) (c : Code), At T m c below → p.tables.exec = Jvm.exec → c.code = bytes → Steps p.tables e below (T.setTop (mkF m pc' ls' st')) target → Steps p.tables e below (T.setTop (mkF m pc ls st)) target) (r : Go l Z n0 R K Q h sf k j pc' ls' st') : Go l Z n0 R K Q h sf k j pc ls st := by
  obtain ⟨p, e, s, m, args, below, meth, c⟩ := K
  intro T locs X eT hF hO
  obtain ⟨s₂, o, h1, h2⟩ := r T locs X eT hF hO
  exact ⟨s₂, o, step p e below T s₂ m c X.here H.1 H.2.1 h1, h2⟩
/-- a step that keeps the heap and may warm the tables -/
theorem Go.of2 {st' : List Value} (H : Ok Z K own bytes maxL ret nm) (step : ∀ (p : Program) (e : Env) (s : State) (m : MethodId) (args : Array Value) (below : List Frame) (meth : Method) (c : Code) (T : State) (locs : List Loc) (a0 : Array Value), (∀ d ∈ tables_1, d.before a0 Z = true) → Stand p l e R s m args below meth c T locs k j → p.tables.exec = Jvm.exec → c.code = bytes → c.maxLocals = maxL → Z.Warmed39 s.vm → s.vm.findClass own = some m.cls → T.heap = h → Old Z n0 h →
      ∃ T', Stand p l e R s m args below meth c T' locs k j ∧ T'.heap = h ∧ ∀ target, Steps p.tables e below (T'.setTop (mkF m pc' ls st')) target → Steps p.tables e below (T.setTop (mkF m pc ls st)) target) (r : Go l Z n0 R K Q h sf k j pc' ls st') : Go l Z n0 R K Q h sf k j pc ls st := by
  obtain ⟨p, e, s, m, args, below, meth, c⟩ := K
  intro T locs X eT hF hO
  obtain ⟨H1, H2, H3, H4, H5, H6, H7, H8, a0, hw⟩ := H
  obtain ⟨T', X', eT', st⟩ := step p e s m args below meth c T locs a0 hw X H1 H2 H3 H6 H5 eT hO
  obtain ⟨s₂, o, h1, h2⟩ := r T' locs X' eT' hF hO
  exact ⟨s₂, o, st _ h1, h2⟩
/-- a step that makes cells -/
theorem Go.ofNew {st' : List Value} {dk dj : Nat} {P : Addr → Heap → Prop} (H : Ok Z K own bytes maxL ret nm) (step : ∀ (p : Program) (e : Env) (s : State) (m : MethodId) (args : Array Value) (below : List Frame) (meth : Method) (c : Code) (T : State) (locs : List Loc) (a0 : Array Value), (∀ d ∈ tables_1, d.before a0 Z = true) → Stand p l e R s m args below meth c T locs k j → p.tables.exec = Jvm.exec → c.code = bytes → Z.Warmed39 s.vm → s.vm.findClass own = some m.cls → T.heap = h →
      ∃ T' h', Stand p l e R s m args below meth c T' locs (k + dk) (j + dj) ∧ T'.heap = h' ∧ Ext h h' ∧ P h.size h' ∧ ∀ target, Steps p.tables e below (T'.setTop (mkF m pc' ls (.ref h.size :: st'))) target → Steps p.tables e below (T.setTop (mkF m pc ls st)) target)
    (r : ∀ (a : Addr) (h' : Heap), a = h.size → n0 ≤ a → Ext h h' → P a h' → Go l Z n0 R K Q h' (a :: sf) (k + dk) (j + dj) pc' ls (.ref a :: st')) : Go l Z n0 R K Q h sf k j pc ls st := by
  obtain ⟨p, e, s, m, args, below, meth, c⟩ := K
  intro T locs X eT hF hO
  obtain ⟨H1, H2, H3, H4, H5, H6, H7, H8, a0, hw⟩ := H
  obtain ⟨T', h', X', eT', E, hP, st⟩ := step p e s m args below meth c T locs a0 hw X H1 H2 H6 H5 eT
  obtain ⟨s₂, o, h1, h2⟩ := r h.size h' rfl (hO.1 ▸ hO.2.1) E hP T' locs X' eT' hF (hO.ext E)
  exact ⟨s₂, o, st _ h1, h2⟩
/-- a step that writes one slot of a cell that is new since n0 -/
theorem Go.ofWr {st' : List Value} {a : Addr} {sl : Nat} {v : Value} (H : Ok Z K own bytes maxL ret nm) (ha : n0 ≤ a) (hs : a ∈ sf) (step : ∀ (p : Program) (e : Env) (s : State) (m : MethodId) (args : Array Value) (below : List Frame) (meth : Method) (c : Code) (T : State) (locs : List Loc) (a0 : Array Value), (∀ d ∈ tables_1, d.before a0 Z = true) → Stand p l e R s m args below meth c T locs k j → p.tables.exec = Jvm.exec → c.code = bytes → Z.Warmed39 s.vm → s.vm.findClass own = some m.cls → meth.name = nm → T.heap = h →
      ∃ T' h', Stand p l e R s m args below meth c T' (locs ++ [⟨a, sl⟩]) k j ∧ T'.heap = h' ∧ Wr h h' a sl v ∧ ∀ target, Steps p.tables e below (T'.setTop (mkF m pc' ls st')) target → Steps p.tables e below (T.setTop (mkF m pc ls st)) target)
    (r : ∀ (h' : Heap), Wr h h' a sl v → Go l Z n0 R K Q h' sf k j pc' ls st') : Go l Z n0 R K Q h sf k j pc ls st := by
  obtain ⟨p, e, s, m, args, below, meth, c⟩ := K
  intro T locs X eT hF hO
  obtain ⟨H1, H2, H3, H4, H5, H6, H7, H8, a0, hw⟩ := H
  obtain ⟨T', h', X', eT', W, st⟩ := step p e s m args below meth c T locs a0 hw X H1 H2 H6 H5 H7 eT
  obtain ⟨s₂, o, h1, h2⟩ := r h' W T' _ X' eT' (Fr.snoc X' hF ha) (hO.wr W ha)
  exact ⟨s₂, o, st _ h1, h2⟩
/-- a step that may write any slots of one cell that is new since n0 -/
theorem Go.ofKeep {st' : List Value} {b : Addr} {P : Heap → Prop} (H : Ok Z K own bytes maxL ret nm) (ha : n0 ≤ b) (hs : b ∈ sf) (step : ∀ (p : Program) (e : Env) (s : State) (m : MethodId) (args : Array Value) (below : List Frame) (meth : Method) (c : Code) (T : State) (locs : List Loc) (a0 : Array Value), (∀ d ∈ tables_1, d.before a0 Z = true) → Stand p l e R s m args below meth c T locs k j → p.tables.exec = Jvm.exec → c.code = bytes → c.maxLocals = maxL → Z.Warmed39 s.vm → s.vm.findClass own = some m.cls → T.heap = h → Fr n0 locs →
      ∃ T' h' L, Stand p l e R s m args below meth c T' L k j ∧ T'.heap = h' ∧ Fr n0 L ∧ Keep h h' [b] ∧ P h' ∧ ∀ target, Steps p.tables e below (T'.setTop (mkF m pc' ls st')) target → Steps p.tables e below (T.setTop (mkF m pc ls st)) target)
    (r : ∀ (h' : Heap), Keep h h' [b] → P h' → Go l Z n0 R K Q h' sf k j pc' ls st') : Go l Z n0 R K Q h sf k j pc ls st := by
  obtain ⟨p, e, s, m, args, below, meth, c⟩ := K
  intro T locs X eT hF hO
  obtain ⟨H1, H2, H3, H4, H5, H6, H7, H8, a0, hw⟩ := H
  obtain ⟨T', h', L, X', eT', hL, hK, hP, st⟩ := step p e s m args below meth c T locs a0 hw X H1 H2 H3 H6 H5 eT hF
  obtain ⟨s₂, o, h1, h2⟩ := r h' hK hP T' L X' eT' hL (hO.keep hK (allS ha all0))
  exact ⟨s₂, o, st _ h1, h2⟩
/-- a call, by whatever law of calls -/
theorem Go.ofCall {y : MethodName} {ybytes : ByteArray} {ymaxL : Nat} {yret : Option FieldType} {rm : Room} {as : Array Value} {Qc : Option Value → Heap → List Addr → Prop} {sfc : List Addr} {rest : List Value} {W : Nat} (H : Ok Z K own bytes maxL ret nm) (ct : Ctr l Z n0 y ybytes ymaxL yret rm as h sfc Qc) (hsf : ∀ x ∈ sfc, x ∈ sf)
    (hc : Jvm.Cond.code y ybytes ymaxL yret ∈ tables_1) (hi : Jvm.Cond.initialized y.cls ∈ tables_1) (hfr : rm.frames + 1 ≤ R.frames) (hlo : W + (ymaxL + 11) + rm.locals ≤ R.locals) (hce : k + rm.cells ≤ R.cells) (hsl : j + rm.slots ≤ R.slots)
    (law : ∀ (p : Program) (e : Env) (s : State) (m : MethodId) (args : Array Value) (below : List Frame) (meth : Method) (c : Code) (T : State) (locs : List Loc) (a0 : Array Value), (∀ d ∈ tables_1, d.before a0 Z = true) → Stand p l e R s m args below meth c T locs k j → p.tables.exec = Jvm.exec → c.code = bytes → c.maxLocals = maxL → Z.Warmed39 s.vm → s.vm.findClass own = some m.cls → T.heap = h →
      ∀ (Pre : Pt → Array Value → Prop) (Post : Pt → Array Value → Option Value → Pt → Prop), Back l R p e below s args y 3 W Pre Post → (∀ vm₁, s.WarmedH vm₁ → Pre ⟨T.setVm vm₁, locs, k, j⟩ as) →
      ∃ (v : Option Value) (vm₁ : Vm) (B : Pt), Stand p l e R s m args below meth c B.U B.locs B.cells B.slots ∧ Post ⟨T.setVm vm₁, locs, k, j⟩ as v B ∧ ∀ target, Steps p.tables e below (B.U.setTop (mkF m pc' ls (v.toList ++ rest))) target → Steps p.tables e below (T.setTop (mkF m pc ls st)) target)
    (r : ∀ (v : Option Value) (h' : Heap) (sn : List Addr), Qc v h' sn → Go l Z n0 R K Q h' (sn ++ sf) (k + rm.cells) (j + rm.slots) pc' ls (v.toList ++ rest)) : Go l Z n0 R K Q h sf k j pc ls st := by
  obtain ⟨p, e, s, m, args, below, meth, c⟩ := K
  intro T locs X eT hF hO
  obtain ⟨H1, H2, H3, H4, H5, H6, H7, H8, a0, hw⟩ := H
  have hB := backOf (p := p) (e := e) (below := below) (args := args) (R := R) (len := 3) (W := W) (Q := fun v h' L => (∃ sn, Qc v h' sn) ∧ Fr n0 L ∧ Old Z n0 h') (ct hO []) H6 (hw _ hc) (hw _ hi) hfr hlo
  obtain ⟨v, vm₁, B, X', ⟨L, ⟨⟨sn, hq⟩, hFL, hO'⟩, e1, e2, e3⟩, stp⟩ := law p e s m args below meth c T locs a0 hw X H1 H2 H3 H6 H5 eT _ _ hB (fun vm₁ _ => ⟨rfl, eT, hce, hsl⟩)
  obtain ⟨U, Lc, kc, jc⟩ := B
  dsimp only [Pt.U, Pt.locs, Pt.cells, Pt.slots] at X' hq hO' e1 e2 e3 stp
  subst e1 e2 e3
  obtain ⟨s₂, o, h1, h2⟩ := r v _ sn hq U _ X' rfl (hF.app hFL) hO'
  exact ⟨s₂, o, stp _ h1, h2⟩
theorem Go.callS {y : MethodName} {ybytes : ByteArray} {ymaxL : Nat} {yret : Option FieldType} {rm : Room} {Qc : Option Value → Heap → List Addr → Prop} {sfc : List Addr} {rest : List Value} (W : Nat) {idx : Nat} (argsL : List Value) {ps : List FieldType} {rt : Option FieldType} (H : Ok Z K own bytes maxL ret nm) (d : decode bytes pc = .ok (.invokestatic idx, 3)) (hp : pc + 3 = pc')
    (hl : Jvm.Cond.methodLink own idx y ∈ tables_1) (hst : Jvm.Cond.static y ∈ tables_1) (hi : Jvm.Cond.initialized y.cls ∈ tables_1) (hc : Jvm.Cond.code y ybytes ymaxL yret ∈ tables_1) (hpd : parseMethodDescriptor y.desc = some ⟨ps, rt⟩)
    (ct : Ctr l Z n0 y ybytes ymaxL yret rm argsL.toArray h sfc Qc) (hsf : ∀ x ∈ sfc, x ∈ sf) (hlen : argsL.length = ps.length) (hsz : ls.size = maxL) (hstk : st = argsL.reverse ++ rest) (hW : (rest.map fun v => v.category).sum ≤ W)
    (hfr : rm.frames + 1 ≤ R.frames) (hlo : W + (ymaxL + 11) + rm.locals ≤ R.locals) (hce : k + rm.cells ≤ R.cells) (hsl : j + rm.slots ≤ R.slots) (hy : y.cls ≠ "java/lang/invoke/MethodHandle" ∧ y.cls ≠ "java/lang/invoke/VarHandle")
    (r : ∀ (v : Option Value) (h' : Heap) (sn : List Addr), Qc v h' sn → Go l Z n0 R K Q h' (sn ++ sf) (k + rm.cells) (j + rm.slots) pc' ls (v.toList ++ rest)) : Go l Z n0 R K Q h sf k j pc ls st := by
  subst hp
  refine Go.ofCall (W := W) (rest := rest) H ct hsf hc hi hfr hlo hce hsl ?_ r
  intro p e s m args below meth c T locs a0 hw X hx hby hml hZ hown eT Pre Post hB hpre
  obtain ⟨v, vm₁, B, -, X', hpost, stp⟩ := Jvm.LawKit.callS X hx (y := y) hown (mvT hZ (hw _ hl)) (mvT hZ (hw _ hst)) (mvT hZ (hw _ hi)) (mvT hZ (hw _ hc)) hy hB (g := mkF m pc ls st) rfl (by rw [hml]; exact hsz) (argsL := argsL) (rest := rest) (lenOf hpd hlen) hstk (by show 2 * 0 + _ ≤ _; simpa using hW) (hb hby d) hpre
  exact ⟨v, vm₁, B, X', hpost, stp⟩
theorem Go.callI {y : MethodName} {ybytes : ByteArray} {ymaxL : Nat} {rm : Room} {Qc : Option Value → Heap → List Addr → Prop} {sfc : List Addr} {rest : List Value} (W : Nat) {idx : Nat} {a : Addr} (argsL : List Value) {ps : List FieldType} {rt : Option FieldType} (H : Ok Z K own bytes maxL ret nm) (d : decode bytes pc = .ok (.invokespecial idx, 3)) (hp : pc + 3 = pc') (hy1 : y.name = "<init>")
    (hl : Jvm.Cond.methodLink own idx y ∈ tables_1) (hst : Jvm.Cond.instanceMethod y ∈ tables_1) (hi : Jvm.Cond.initialized y.cls ∈ tables_1) (hc : Jvm.Cond.code y ybytes ymaxL none ∈ tables_1) (hpd : parseMethodDescriptor y.desc = some ⟨ps, rt⟩)
    (ct : Ctr l Z n0 y ybytes ymaxL none rm (.ref a :: argsL).toArray h sfc Qc) (hsf : ∀ x ∈ sfc, x ∈ sf) (hlen : argsL.length = ps.length) (hsz : ls.size = maxL) (hstk : st = argsL.reverse ++ .ref a :: rest) (hW : (rest.map fun v => v.category).sum ≤ W)
    (hfr : rm.frames + 1 ≤ R.frames) (hlo : W + (ymaxL + 11) + rm.locals ≤ R.locals) (hce : k + rm.cells ≤ R.cells) (hsl : j + rm.slots ≤ R.slots) (hy : y.cls ≠ "java/lang/invoke/MethodHandle" ∧ y.cls ≠ "java/lang/invoke/VarHandle")
    (r : ∀ (v : Option Value) (h' : Heap) (sn : List Addr), Qc v h' sn → Go l Z n0 R K Q h' (sn ++ sf) (k + rm.cells) (j + rm.slots) pc' ls (v.toList ++ rest)) : Go l Z n0 R K Q h sf k j pc ls st := by
  subst hp
  refine Go.ofCall (W := W) (rest := rest) H ct hsf hc hi hfr hlo hce hsl ?_ r
  intro p e s m args below meth c T locs a0 hw X hx hby hml hZ hown eT Pre Post hB hpre
  obtain ⟨v, vm₁, B, -, X', hpost, stp⟩ := X.specialBack hx (y := y) hy1 hown (mvT hZ (hw _ hl)) (mvT hZ (hw _ hst)) (mvT hZ (hw _ hc)) hy hB (g := mkF m pc ls st) rfl (by rw [hml]; exact hsz) (Steps.refl _) (a := a) (argsL := argsL) (rest := rest) (lenOf hpd hlen) hstk (by show 2 * 0 + _ ≤ _; simpa using hW) (hb hby d) hpre
  exact ⟨v, vm₁, B, X', hpost, fun t ht => stp.trans ht⟩
theorem Go.callV {y : MethodName} {C : String} {ybytes : ByteArray} {ymaxL : Nat} {yret : Option FieldType} {rm : Room} {Qc : Option Value → Heap → List Addr → Prop} {sfc : List Addr} {rest : List Value} (W : Nat) {idx : Nat} {a : Addr} (argsL : List Value) {ps : List FieldType} {rt : Option FieldType} (H : Ok Z K own bytes maxL ret nm) (d : decode bytes pc = .ok (.invokevirtual idx, 3)) (hp : pc + 3 = pc') (E : Exa Z h a C)
    (hl : Jvm.Cond.methodLink own idx y ∈ tables_1) (hde : Jvm.Cond.declares y ∈ tables_1) (hse : Jvm.Cond.selects C y y ∈ tables_1) (hst : Jvm.Cond.instanceMethod y ∈ tables_1) (hi : Jvm.Cond.initialized y.cls ∈ tables_1) (hc : Jvm.Cond.code y ybytes ymaxL yret ∈ tables_1) (hpd : parseMethodDescriptor y.desc = some ⟨ps, rt⟩)
    (ct : Ctr l Z n0 y ybytes ymaxL yret rm (.ref a :: argsL).toArray h sfc Qc) (hsf : ∀ x ∈ sfc, x ∈ sf) (hlen : argsL.length = ps.length) (hsz : ls.size = maxL) (hstk : st = argsL.reverse ++ .ref a :: rest) (hW : (rest.map fun v => v.category).sum ≤ W)
    (hfr : rm.frames + 1 ≤ R.frames) (hlo : W + (ymaxL + 11) + rm.locals ≤ R.locals) (hce : k + rm.cells ≤ R.cells) (hsl : j + rm.slots ≤ R.slots) (hy : y.cls ≠ "java/lang/invoke/MethodHandle" ∧ y.cls ≠ "java/lang/invoke/VarHandle")
    (r : ∀ (v : Option Value) (h' : Heap) (sn : List Addr), Qc v h' sn → Go l Z n0 R K Q h' (sn ++ sf) (k + rm.cells) (j + rm.slots) pc' ls (v.toList ++ rest)) : Go l Z n0 R K Q h sf k j pc ls st := by
  subst hp
  refine Go.ofCall (W := W) (rest := rest) H ct hsf hc hi hfr hlo hce hsl ?_ r
  intro p e s m args below meth c T locs a0 hw X hx hby hml hZ hown eT Pre Post hB hpre
  obtain ⟨cq, kq, qa, qb, qc⟩ := isOf hZ eT E
  obtain ⟨v, vm₁, B, -, X', hpost, stp⟩ := X.virtualBack hx (y := y) (z := y) hown (mvT hZ (hw _ hl)) (mvT hZ (hw _ hde)) (notFace_of_selects (args := #[]) (mvT hZ (hw _ hse))) (mvT hZ (hw _ hse)) (mvT hZ (hw _ hst)) hy hB qa qc (g := mkF m pc ls st) rfl (by rw [hml]; exact hsz) (Steps.refl _) (argsL := argsL) (rest := rest) (lenOf hpd hlen) hstk (by show 2 * 0 + _ ≤ _; simpa using hW) (hb hby d) hpre
  exact ⟨v, vm₁, B, X', hpost, fun t ht => stp.trans ht⟩
theorem Go.ret0 {sn : List Addr} {v : Option Value} (H : Ok Z K own bytes maxL ret nm) (hv : ret = none → v = none) (hq : Q v h sn) (hs : ∀ x ∈ sn, x ∈ sf) (hk : k ≤ R.cells) (hj : j ≤ R.slots)
    (step : ∀ (p : Program) (e : Env) (s : State) (m : MethodId) (args : Array Value) (below : List Frame) (meth : Method) (c : Code) (T : State) (locs : List Loc) (fs : List Frame), Stand p l e R s m args below meth c T locs k j → p.tables.exec = Jvm.exec → c.code = bytes → meth.sig.returnType = ret →
      (∀ (f : JFrame) (acts : List Action), f.method = m → f.locked = none → f.entered = [] → (doReturn e (T.setTop f) acts v).1 = T.setFrames fs) → Steps p.tables e below (T.setTop (mkF m pc ls st)) (T.setFrames fs)) : Go l Z n0 R K Q h sf k j pc ls st := by
  obtain ⟨p, e, s, m, args, below, meth, c⟩ := K
  intro T locs X eT hF hO
  obtain ⟨H1, H2, H3, H4, H5, H6, H7, H8, a0, hw⟩ := H
  obtain ⟨fs, hr, hrun, hended, hW, hsame⟩ := X.leave (v := v) (fun q => hv (H4.symm.trans q)) H8
  refine ⟨_, _, step p e s m args below meth c T locs fs X H1 H2 H4 hr, hrun, hended, v, locs, rfl, ⟨⟨sn, ?_⟩, hF, ?_⟩, ⟨_, rfl⟩, hW, hsame.mono hk hj⟩
  · show Q v T.heap sn
    rw [eT]; exact hq
  · show Old Z n0 T.heap
    rw [eT]; exact hO
end Kit
section Steps1
variable {l : Launch} {Z : State} {n0 : Nat} {R : Room} {K : Cx} {Q : Option Value → Heap → List Addr → Prop} {h : Heap} {sf : List Addr} {k j pc pc' : Nat} {ls ls' : Array Slot} {st : List Value} {own : String} {bytes : ByteArray} {maxL : Nat} {ret : Option FieldType} {nm : String}
theorem Go.aload {i : Nat} {v : Value} (H : Ok Z K own bytes maxL ret nm) (d : decode bytes pc = .ok (.aload i, 2)) (hp : pc + 2 = pc') (hl : ls[i]? = some (.val v)) (hv : v.isRef = true) (r : Go l Z n0 R K Q h sf k j pc' ls (v :: st)) : Go l Z n0 R K Q h sf k j pc ls st := by
  subst hp
  exact Go.of H (fun p e below T t m c hA hx hby hr => XS.aload hA hx rfl (hb hby d) hl hv hr) r
theorem Go.aloadN {i : Fin 4} {v : Value} (H : Ok Z K own bytes maxL ret nm) (d : decode bytes pc = .ok (.aload_n i, 1)) (hp : pc + 1 = pc') (hl : ls[i.val]? = some (.val v)) (hv : v.isRef = true) (r : Go l Z n0 R K Q h sf k j pc' ls (v :: st)) : Go l Z n0 R K Q h sf k j pc ls st := by
  subst hp
  exact Go.of H (fun p e below T t m c hA hx hby hr => XS.aloadN hA hx rfl (hb hby d) hl hv hr) r
theorem Go.iload {i : Nat} {v : Int32} (H : Ok Z K own bytes maxL ret nm) (d : decode bytes pc = .ok (.iload i, 2)) (hp : pc + 2 = pc') (hl : ls[i]? = some (.val (.int v))) (r : Go l Z n0 R K Q h sf k j pc' ls (.int v :: st)) : Go l Z n0 R K Q h sf k j pc ls st := by
  subst hp
  exact Go.of H (fun p e below T t m c hA hx hby hr => XS.iload hA hx rfl (hb hby d) hl hr) r
theorem Go.iloadN {i : Fin 4} {v : Int32} (H : Ok Z K own bytes maxL ret nm) (d : decode bytes pc = .ok (.iload_n i, 1)) (hp : pc + 1 = pc') (hl : ls[i.val]? = some (.val (.int v))) (r : Go l Z n0 R K Q h sf k j pc' ls (.int v :: st)) : Go l Z n0 R K Q h sf k j pc ls st := by
  subst hp
  exact Go.of H (fun p e below T t m c hA hx hby hr => XS.iloadN hA hx rfl (hb hby d) hl hr) r
theorem Go.lload {i : Nat} {v : Int64} (H : Ok Z K own bytes maxL ret nm) (d : decode bytes pc = .ok (.lload i, 2)) (hp : pc + 2 = pc') (hl : ls[i]? = some (.val (.long v))) (r : Go l Z n0 R K Q h sf k j pc' ls (.long v :: st)) : Go l Z n0 R K Q h sf k j pc ls st := by
  subst hp
  exact Go.of H (fun p e below T t m c hA hx hby hr => XS.lload hA hx rfl (hb hby d) hl hr) r
theorem Go.lloadN {i : Fin 4} {v : Int64} (H : Ok Z K own bytes maxL ret nm) (d : decode bytes pc = .ok (.lload_n i, 1)) (hp : pc + 1 = pc') (hl : ls[i.val]? = some (.val (.long v))) (r : Go l Z n0 R K Q h sf k j pc' ls (.long v :: st)) : Go l Z n0 R K Q h sf k j pc ls st := by
  subst hp
  exact Go.of H (fun p e below T t m c hA hx hby hr => XS.lloadN hA hx rfl (hb hby d) hl hr) r
theorem Go.istore {i : Nat} {x : Int32} (H : Ok Z K own bytes maxL ret nm) (d : decode bytes pc = .ok (.istore i, 2)) (hp : pc + 2 = pc') (hl : storeLocals ls i (.int x) = some ls') (r : Go l Z n0 R K Q h sf k j pc' ls' st) : Go l Z n0 R K Q h sf k j pc ls (.int x :: st) := by
  subst hp
  exact Go.of H (fun p e below T t m c hA hx hby hr => XS.istore hA hx rfl (hb hby d) rfl hl hr) r
theorem Go.istoreN {i : Fin 4} {x : Int32} (H : Ok Z K own bytes maxL ret nm) (d : decode bytes pc = .ok (.istore_n i, 1)) (hp : pc + 1 = pc') (hl : storeLocals ls i.val (.int x) = some ls') (r : Go l Z n0 R K Q h sf k j pc' ls' st) : Go l Z n0 R K Q h sf k j pc ls (.int x :: st) := by
  subst hp
  exact Go.of H (fun p e below T t m c hA hx hby hr => XS.istoreN hA hx rfl (hb hby d) rfl hl hr) r
theorem Go.lstore {i : Nat} {x : Int64} (H : Ok Z K own bytes maxL ret nm) (d : decode bytes pc = .ok (.lstore i, 2)) (hp : pc + 2 = pc') (hl : storeLocals ls i (.long x) = some ls') (r : Go l Z n0 R K Q h sf k j pc' ls' st) : Go l Z n0 R K Q h sf k j pc ls (.long x :: st) := by
  subst hp
  exact Go.of H (fun p e below T t m c hA hx hby hr => XS.lstore hA hx rfl (hb hby d) rfl hl hr) r
theorem Go.lstoreN {i : Fin 4} {x : Int64} (H : Ok Z K own bytes maxL ret nm) (d : decode bytes pc = .ok (.lstore_n i, 1)) (hp : pc + 1 = pc') (hl : storeLocals ls i.val (.long x) = some ls') (r : Go l Z n0 R K Q h sf k j pc' ls' st) : Go l Z n0 R K Q h sf k j pc ls (.long x :: st) := by
  subst hp
  exact Go.of H (fun p e below T t m c hA hx hby hr => XS.lstoreN hA hx rfl (hb hby d) rfl hl hr) r
theorem Go.astore {i : Nat} {x : Value} (H : Ok Z K own bytes maxL ret nm) (d : decode bytes pc = .ok (.astore i, 2)) (hp : pc + 2 = pc') (hv : x.isRef = true) (hl : storeLocals ls i x = some ls') (r : Go l Z n0 R K Q h sf k j pc' ls' st) : Go l Z n0 R K Q h sf k j pc ls (x :: st) := by
  subst hp
  exact Go.of H (fun p e below T t m c hA hx hby hr => XS.astore hA hx rfl (hb hby d) rfl hv hl hr) r
theorem Go.astoreN {i : Fin 4} {x : Value} (H : Ok Z K own bytes maxL ret nm) (d : decode bytes pc = .ok (.astore_n i, 1)) (hp : pc + 1 = pc') (hv : x.isRef = true) (hl : storeLocals ls i.val x = some ls') (r : Go l Z n0 R K Q h sf k j pc' ls' st) : Go l Z n0 R K Q h sf k j pc ls (x :: st) := by
  subst hp
  exact Go.of H (fun p e below T t m c hA hx hby hr => XS.astoreN hA hx rfl (hb hby d) rfl hv hl hr) r
theorem Go.iconst {i : Int} (v : Int32) (H : Ok Z K own bytes maxL ret nm) (d : decode bytes pc = .ok (.iconst i, 1)) (hp : pc + 1 = pc') (hv : Int32.ofInt i = v) (r : Go l Z n0 R K Q h sf k j pc' ls (.int v :: st)) : Go l Z n0 R K Q h sf k j pc ls st := by
  subst hp
  exact Go.of H (fun p e below T t m c hA hx hby hr => XS.iconst hA hx rfl (hb hby d) (hv ▸ hr)) r
theorem Go.bipush {i : Int} (v : Int32) (H : Ok Z K own bytes maxL ret nm) (d : decode bytes pc = .ok (.bipush i, 2)) (hp : pc + 2 = pc') (hv : (Int8.ofInt i).toInt32 = v) (r : Go l Z n0 R K Q h sf k j pc' ls (.int v :: st)) : Go l Z n0 R K Q h sf k j pc ls st := by
  subst hp
  exact Go.of H (fun p e below T t m c hA hx hby hr => XS.bipush hA hx rfl (hb hby d) (hv ▸ hr)) r
theorem Go.sipush {i : Int} (v : Int32) (H : Ok Z K own bytes maxL ret nm) (d : decode bytes pc = .ok (.sipush i, 3)) (hp : pc + 3 = pc') (hv : (Int16.ofInt i).toInt32 = v) (r : Go l Z n0 R K Q h sf k j pc' ls (.int v :: st)) : Go l Z n0 R K Q h sf k j pc ls st := by
  subst hp
  exact Go.of H (fun p e below T t m c hA hx hby hr => XS.sipush hA hx rfl (hb hby d) (hv ▸ hr)) r
theorem Go.lconst {i : Fin 2} (v : Int64) (H : Ok Z K own bytes maxL ret nm) (d : decode bytes pc = .ok (.lconst i, 1)) (hp : pc + 1 = pc') (hv : Int64.ofNat i.val = v) (r : Go l Z n0 R K Q h sf k j pc' ls (.long v :: st)) : Go l Z n0 R K Q h sf k j pc ls st := by
  subst hp
  exact Go.of H (fun p e below T t m c hA hx hby hr => XS.lconst hA hx rfl (hb hby d) (hv ▸ hr)) r
theorem Go.aconstNull  (H : Ok Z K own bytes maxL ret nm) (d : decode bytes pc = .ok (.aconst_null, 1)) (hp : pc + 1 = pc')  (r : Go l Z n0 R K Q h sf k j pc' ls (.null :: st)) : Go l Z n0 R K Q h sf k j pc ls st := by
  subst hp
  exact Go.of H (fun p e below T t m c hA hx hby hr => XS.aconstNull hA hx rfl (hb hby d) hr) r
theorem Go.iadd {x y : Int32} (H : Ok Z K own bytes maxL ret nm) (d : decode bytes pc = .ok (.iadd, 1)) (hp : pc + 1 = pc')  (r : Go l Z n0 R K Q h sf k j pc' ls (.int (x + y) :: st)) : Go l Z n0 R K Q h sf k j pc ls (.int y :: .int x :: st) := by
  subst hp
  exact Go.of H (fun p e below T t m c hA hx hby hr => XS.iadd hA hx rfl (hb hby d) rfl hr) r
theorem Go.isub {x y : Int32} (H : Ok Z K own bytes maxL ret nm) (d : decode bytes pc = .ok (.isub, 1)) (hp : pc + 1 = pc')  (r : Go l Z n0 R K Q h sf k j pc' ls (.int (x - y) :: st)) : Go l Z n0 R K Q h sf k j pc ls (.int y :: .int x :: st) := by
  subst hp
  exact Go.of H (fun p e below T t m c hA hx hby hr => XS.isub hA hx rfl (hb hby d) rfl hr) r
theorem Go.imul {x y : Int32} (H : Ok Z K own bytes maxL ret nm) (d : decode bytes pc = .ok (.imul, 1)) (hp : pc + 1 = pc')  (r : Go l Z n0 R K Q h sf k j pc' ls (.int (x * y) :: st)) : Go l Z n0 R K Q h sf k j pc ls (.int y :: .int x :: st) := by
  subst hp
  exact Go.of H (fun p e below T t m c hA hx hby hr => XS.imul hA hx rfl (hb hby d) rfl hr) r
theorem Go.iand {x y : Int32} (H : Ok Z K own bytes maxL ret nm) (d : decode bytes pc = .ok (.iand, 1)) (hp : pc + 1 = pc')  (r : Go l Z n0 R K Q h sf k j pc' ls (.int (x &&& y) :: st)) : Go l Z n0 R K Q h sf k j pc ls (.int y :: .int x :: st) := by
  subst hp
  exact Go.of H (fun p e below T t m c hA hx hby hr => XS.iand hA hx rfl (hb hby d) rfl hr) r
theorem Go.ior {x y : Int32} (H : Ok Z K own bytes maxL ret nm) (d : decode bytes pc = .ok (.ior, 1)) (hp : pc + 1 = pc')  (r : Go l Z n0 R K Q h sf k j pc' ls (.int (x ||| y) :: st)) : Go l Z n0 R K Q h sf k j pc ls (.int y :: .int x :: st) := by
  subst hp
  exact Go.of H (fun p e below T t m c hA hx hby hr => XS.ior hA hx rfl (hb hby d) rfl hr) r
theorem Go.ixor {x y : Int32} (H : Ok Z K own bytes maxL ret nm) (d : decode bytes pc = .ok (.ixor, 1)) (hp : pc + 1 = pc')  (r : Go l Z n0 R K Q h sf k j pc' ls (.int (x ^^^ y) :: st)) : Go l Z n0 R K Q h sf k j pc ls (.int y :: .int x :: st) := by
  subst hp
  exact Go.of H (fun p e below T t m c hA hx hby hr => XS.ixor hA hx rfl (hb hby d) rfl hr) r
theorem Go.ladd {x y : Int64} (H : Ok Z K own bytes maxL ret nm) (d : decode bytes pc = .ok (.ladd, 1)) (hp : pc + 1 = pc')  (r : Go l Z n0 R K Q h sf k j pc' ls (.long (x + y) :: st)) : Go l Z n0 R K Q h sf k j pc ls (.long y :: .long x :: st) := by
  subst hp
  exact Go.of H (fun p e below T t m c hA hx hby hr => XS.ladd hA hx rfl (hb hby d) rfl hr) r
theorem Go.lsub {x y : Int64} (H : Ok Z K own bytes maxL ret nm) (d : decode bytes pc = .ok (.lsub, 1)) (hp : pc + 1 = pc')  (r : Go l Z n0 R K Q h sf k j pc' ls (.long (x - y) :: st)) : Go l Z n0 R K Q h sf k j pc ls (.long y :: .long x :: st) := by
  subst hp
  exact Go.of H (fun p e below T t m c hA hx hby hr => XS.lsub hA hx rfl (hb hby d) rfl hr) r
theorem Go.lmul {x y : Int64} (H : Ok Z K own bytes maxL ret nm) (d : decode bytes pc = .ok (.lmul, 1)) (hp : pc + 1 = pc')  (r : Go l Z n0 R K Q h sf k j pc' ls (.long (x * y) :: st)) : Go l Z n0 R K Q h sf k j pc ls (.long y :: .long x :: st) := by
  subst hp
  exact Go.of H (fun p e below T t m c hA hx hby hr => XS.lmul hA hx rfl (hb hby d) rfl hr) r
theorem Go.land {x y : Int64} (H : Ok Z K own bytes maxL ret nm) (d : decode bytes pc = .ok (.land, 1)) (hp : pc + 1 = pc')  (r : Go l Z n0 R K Q h sf k j pc' ls (.long (x &&& y) :: st)) : Go l Z n0 R K Q h sf k j pc ls (.long y :: .long x :: st) := by
  subst hp
  exact Go.of H (fun p e below T t m c hA hx hby hr => XS.land hA hx rfl (hb hby d) rfl hr) r
theorem Go.lor {x y : Int64} (H : Ok Z K own bytes maxL ret nm) (d : decode bytes pc = .ok (.lor, 1)) (hp : pc + 1 = pc')  (r : Go l Z n0 R K Q h sf k j pc' ls (.long (x ||| y) :: st)) : Go l Z n0 R K Q h sf k j pc ls (.long y :: .long x :: st) := by
  subst hp
  exact Go.of H (fun p e below T t m c hA hx hby hr => XS.lor hA hx rfl (hb hby d) rfl hr) r
theorem Go.lxor {x y : Int64} (H : Ok Z K own bytes maxL ret nm) (d : decode bytes pc = .ok (.lxor, 1)) (hp : pc + 1 = pc')  (r : Go l Z n0 R K Q h sf k j pc' ls (.long (x ^^^ y) :: st)) : Go l Z n0 R K Q h sf k j pc ls (.long y :: .long x :: st) := by
  subst hp
  exact Go.of H (fun p e below T t m c hA hx hby hr => XS.lxor hA hx rfl (hb hby d) rfl hr) r
theorem Go.ishl {x y : Int32} (H : Ok Z K own bytes maxL ret nm) (d : decode bytes pc = .ok (.ishl, 1)) (hp : pc + 1 = pc')  (r : Go l Z n0 R K Q h sf k j pc' ls (.int (x <<< (y &&& 31)) :: st)) : Go l Z n0 R K Q h sf k j pc ls (.int y :: .int x :: st) := by
  subst hp
  exact Go.of H (fun p e below T t m c hA hx hby hr => XS.ishl hA hx rfl (hb hby d) rfl hr) r
theorem Go.ishr {x y : Int32} (H : Ok Z K own bytes maxL ret nm) (d : decode bytes pc = .ok (.ishr, 1)) (hp : pc + 1 = pc')  (r : Go l Z n0 R K Q h sf k j pc' ls (.int (x >>> (y &&& 31)) :: st)) : Go l Z n0 R K Q h sf k j pc ls (.int y :: .int x :: st) := by
  subst hp
  exact Go.of H (fun p e below T t m c hA hx hby hr => XS.ishr hA hx rfl (hb hby d) rfl hr) r
theorem Go.iushr {x y : Int32} (H : Ok Z K own bytes maxL ret nm) (d : decode bytes pc = .ok (.iushr, 1)) (hp : pc + 1 = pc')  (r : Go l Z n0 R K Q h sf k j pc' ls (.int ((x.toUInt32 >>> (y &&& 31).toUInt32).toInt32) :: st)) : Go l Z n0 R K Q h sf k j pc ls (.int y :: .int x :: st) := by
  subst hp
  exact Go.of H (fun p e below T t m c hA hx hby hr => XS.iushr hA hx rfl (hb hby d) rfl hr) r
theorem Go.lshl {x : Int64} {y : Int32} (H : Ok Z K own bytes maxL ret nm) (d : decode bytes pc = .ok (.lshl, 1)) (hp : pc + 1 = pc')  (r : Go l Z n0 R K Q h sf k j pc' ls (.long (x <<< (y &&& 0x3f).toInt64) :: st)) : Go l Z n0 R K Q h sf k j pc ls (.int y :: .long x :: st) := by
  subst hp
  exact Go.of H (fun p e below T t m c hA hx hby hr => XS.lshl hA hx rfl (hb hby d) rfl hr) r
theorem Go.lshr {x : Int64} {y : Int32} (H : Ok Z K own bytes maxL ret nm) (d : decode bytes pc = .ok (.lshr, 1)) (hp : pc + 1 = pc')  (r : Go l Z n0 R K Q h sf k j pc' ls (.long (x >>> (y &&& 0x3f).toInt64) :: st)) : Go l Z n0 R K Q h sf k j pc ls (.int y :: .long x :: st) := by
  subst hp
  exact Go.of H (fun p e below T t m c hA hx hby hr => XS.lshr hA hx rfl (hb hby d) rfl hr) r
theorem Go.lushr {x : Int64} {y : Int32} (H : Ok Z K own bytes maxL ret nm) (d : decode bytes pc = .ok (.lushr, 1)) (hp : pc + 1 = pc')  (r : Go l Z n0 R K Q h sf k j pc' ls (.long ((x.toUInt64 >>> (y &&& 0x3f).toInt64.toUInt64).toInt64) :: st)) : Go l Z n0 R K Q h sf k j pc ls (.int y :: .long x :: st) := by
  subst hp
  exact Go.of H (fun p e below T t m c hA hx hby hr => XS.lushr hA hx rfl (hb hby d) rfl hr) r
theorem Go.idiv {x y : Int32} (H : Ok Z K own bytes maxL ret nm) (d : decode bytes pc = .ok (.idiv, 1)) (hp : pc + 1 = pc') (hy : y ≠ 0) (r : Go l Z n0 R K Q h sf k j pc' ls (.int (x / y) :: st)) : Go l Z n0 R K Q h sf k j pc ls (.int y :: .int x :: st) := by
  subst hp
  exact Go.of H (fun p e below T t m c hA hx hby hr => XS.idiv hA hx rfl (hb hby d) rfl hy hr) r
theorem Go.irem {x y : Int32} (H : Ok Z K own bytes maxL ret nm) (d : decode bytes pc = .ok (.irem, 1)) (hp : pc + 1 = pc') (hy : y ≠ 0) (r : Go l Z n0 R K Q h sf k j pc' ls (.int (x % y) :: st)) : Go l Z n0 R K Q h sf k j pc ls (.int y :: .int x :: st) := by
  subst hp
  exact Go.of H (fun p e below T t m c hA hx hby hr => XS.irem hA hx rfl (hb hby d) rfl hy (by rw [irem_eq_mod x y]; exact hr)) r
theorem Go.ldiv {x y : Int64} (H : Ok Z K own bytes maxL ret nm) (d : decode bytes pc = .ok (.ldiv, 1)) (hp : pc + 1 = pc') (hy : y ≠ 0) (r : Go l Z n0 R K Q h sf k j pc' ls (.long (x / y) :: st)) : Go l Z n0 R K Q h sf k j pc ls (.long y :: .long x :: st) := by
  subst hp
  exact Go.of H (fun p e below T t m c hA hx hby hr => XS.ldiv hA hx rfl (hb hby d) rfl hy hr) r
theorem Go.lrem {x y : Int64} (H : Ok Z K own bytes maxL ret nm) (d : decode bytes pc = .ok (.lrem, 1)) (hp : pc + 1 = pc') (hy : y ≠ 0) (r : Go l Z n0 R K Q h sf k j pc' ls (.long (x % y) :: st)) : Go l Z n0 R K Q h sf k j pc ls (.long y :: .long x :: st) := by
  subst hp
  exact Go.of H (fun p e below T t m c hA hx hby hr => XS.lrem hA hx rfl (hb hby d) rfl hy (by rw [lrem_mod x y]; exact hr)) r
theorem Go.ineg {x : Int32} (H : Ok Z K own bytes maxL ret nm) (d : decode bytes pc = .ok (.ineg, 1)) (hp : pc + 1 = pc')  (r : Go l Z n0 R K Q h sf k j pc' ls (.int (-x) :: st)) : Go l Z n0 R K Q h sf k j pc ls (.int x :: st) := by
  subst hp
  exact Go.of H (fun p e below T t m c hA hx hby hr => XS.ineg hA hx rfl (hb hby d) rfl hr) r
theorem Go.lneg {x : Int64} (H : Ok Z K own bytes maxL ret nm) (d : decode bytes pc = .ok (.lneg, 1)) (hp : pc + 1 = pc')  (r : Go l Z n0 R K Q h sf k j pc' ls (.long (-x) :: st)) : Go l Z n0 R K Q h sf k j pc ls (.long x :: st) := by
  subst hp
  exact Go.of H (fun p e below T t m c hA hx hby hr => XS.lneg hA hx rfl (hb hby d) rfl hr) r
theorem Go.i2c {x : Int32} (H : Ok Z K own bytes maxL ret nm) (d : decode bytes pc = .ok (.i2c, 1)) (hp : pc + 1 = pc')  (r : Go l Z n0 R K Q h sf k j pc' ls (.int (nar .char x) :: st)) : Go l Z n0 R K Q h sf k j pc ls (.int x :: st) := by
  subst hp
  exact Go.of H (fun p e below T t m c hA hx hby hr => XS.i2c hA hx rfl (hb hby d) rfl hr) r
theorem Go.i2b {x : Int32} (H : Ok Z K own bytes maxL ret nm) (d : decode bytes pc = .ok (.i2b, 1)) (hp : pc + 1 = pc')  (r : Go l Z n0 R K Q h sf k j pc' ls (.int (nar .byte x) :: st)) : Go l Z n0 R K Q h sf k j pc ls (.int x :: st) := by
  subst hp
  exact Go.of H (fun p e below T t m c hA hx hby hr => XS.i2b hA hx rfl (hb hby d) rfl hr) r
theorem Go.i2s {x : Int32} (H : Ok Z K own bytes maxL ret nm) (d : decode bytes pc = .ok (.i2s, 1)) (hp : pc + 1 = pc')  (r : Go l Z n0 R K Q h sf k j pc' ls (.int (nar .short x) :: st)) : Go l Z n0 R K Q h sf k j pc ls (.int x :: st) := by
  subst hp
  exact Go.of H (fun p e below T t m c hA hx hby hr => XS.i2s hA hx rfl (hb hby d) rfl hr) r
theorem Go.i2l {x : Int32} (H : Ok Z K own bytes maxL ret nm) (d : decode bytes pc = .ok (.i2l, 1)) (hp : pc + 1 = pc')  (r : Go l Z n0 R K Q h sf k j pc' ls (.long x.toInt64 :: st)) : Go l Z n0 R K Q h sf k j pc ls (.int x :: st) := by
  subst hp
  exact Go.of H (fun p e below T t m c hA hx hby hr => XS.i2l hA hx rfl (hb hby d) rfl hr) r
theorem Go.l2i {x : Int64} (H : Ok Z K own bytes maxL ret nm) (d : decode bytes pc = .ok (.l2i, 1)) (hp : pc + 1 = pc')  (r : Go l Z n0 R K Q h sf k j pc' ls (.int x.toInt32 :: st)) : Go l Z n0 R K Q h sf k j pc ls (.long x :: st) := by
  subst hp
  exact Go.of H (fun p e below T t m c hA hx hby hr => XS.l2i hA hx rfl (hb hby d) rfl hr) r
theorem Go.lcmp {x y : Int64} (H : Ok Z K own bytes maxL ret nm) (d : decode bytes pc = .ok (.lcmp, 1)) (hp : pc + 1 = pc')  (r : Go l Z n0 R K Q h sf k j pc' ls (.int (lcmpW x y) :: st)) : Go l Z n0 R K Q h sf k j pc ls (.long y :: .long x :: st) := by
  subst hp
  exact Go.of H (fun p e below T t m c hA hx hby hr => XS.lcmp hA hx rfl (hb hby d) rfl hr) r
theorem Go.iinc {i : Nat} {cst : Int} {x : Int32} (v : Int32) (H : Ok Z K own bytes maxL ret nm) (d : decode bytes pc = .ok (.iinc i cst, 3)) (hp : pc + 3 = pc') (hl : ls[i]? = some (.val (.int x))) (hv : Int32.ofInt cst = v) (hl' : storeLocals ls i (.int (x + v)) = some ls') (r : Go l Z n0 R K Q h sf k j pc' ls' st) : Go l Z n0 R K Q h sf k j pc ls st := by
  subst hp
  exact Go.of H (fun p e below T t m c hA hx hby hr => XS.iinc hA hx rfl (hb hby d) hl (by rw [hv]; exact hl') hr) r
theorem Go.dup {x : Value} (H : Ok Z K own bytes maxL ret nm) (d : decode bytes pc = .ok (.dup, 1)) (hp : pc + 1 = pc') (hc : x.category = 1) (r : Go l Z n0 R K Q h sf k j pc' ls (x :: x :: st)) : Go l Z n0 R K Q h sf k j pc ls (x :: st) := by
  subst hp
  exact Go.of H (fun p e below T t m c hA hx hby hr => XS.dup hA hx rfl (hb hby d) rfl hc hr) r
theorem Go.pop {x : Value} (H : Ok Z K own bytes maxL ret nm) (d : decode bytes pc = .ok (.pop, 1)) (hp : pc + 1 = pc') (hc : x.category = 1) (r : Go l Z n0 R K Q h sf k j pc' ls st) : Go l Z n0 R K Q h sf k j pc ls (x :: st) := by
  subst hp
  exact Go.of H (fun p e below T t m c hA hx hby hr => XS.pop hA hx rfl (hb hby d) rfl hc hr) r
theorem Go.dupX1 {x y : Value} (H : Ok Z K own bytes maxL ret nm) (d : decode bytes pc = .ok (.dup_x1, 1)) (hp : pc + 1 = pc') (hc : x.category = 1) (hc' : y.category = 1) (r : Go l Z n0 R K Q h sf k j pc' ls (x :: y :: x :: st)) : Go l Z n0 R K Q h sf k j pc ls (x :: y :: st) := by
  subst hp
  exact Go.of H (fun p e below T t m c hA hx hby hr => XT.dupX1 hA hx rfl (hb hby d) rfl hc hc' hr) r
theorem Go.dup2 {x y : Value} (H : Ok Z K own bytes maxL ret nm) (d : decode bytes pc = .ok (.dup2, 1)) (hp : pc + 1 = pc') (hc : x.category = 1) (hc' : y.category = 1) (r : Go l Z n0 R K Q h sf k j pc' ls (x :: y :: x :: y :: st)) : Go l Z n0 R K Q h sf k j pc ls (x :: y :: st) := by
  subst hp
  exact Go.of H (fun p e below T t m c hA hx hby hr => XT.dup2 hA hx rfl (hb hby d) rfl hc hc' hr) r
theorem Go.goto {o : Int} (H : Ok Z K own bytes maxL ret nm) (d : decode bytes pc = .ok (.goto o, 3)) (ho : 0 ≤ (pc : Int) + o) (hp : ((pc : Int) + o).toNat = pc') (r : Go l Z n0 R K Q h sf k j pc' ls st) : Go l Z n0 R K Q h sf k j pc ls st := Go.of H (fun p e below T t m c hA hx hby hr => XS.goto hA hx rfl (pc0 := pc) (pc' := pc') rfl (hb hby d) ho hp hr) r
theorem Go.icmpY {cd : ClassFile.Cond} {x y : Int32} {o : Int} (H : Ok Z K own bytes maxL ret nm) (d : decode bytes pc = .ok (.if_icmp cd o, 3)) (hc : if_icmp.holds cd x y = true) (ho : 0 ≤ (pc : Int) + o) (hp : ((pc : Int) + o).toNat = pc') (r : Go l Z n0 R K Q h sf k j pc' ls st) : Go l Z n0 R K Q h sf k j pc ls (.int y :: .int x :: st) := Go.of H (fun p e below T t m c hA hx hby hr => XS.icmpYes hA hx rfl (pc0 := pc) (pc' := pc') rfl (hb hby d) rfl hc ho hp hr) r
theorem Go.icmpN {cd : ClassFile.Cond} {x y : Int32} {o : Int} (H : Ok Z K own bytes maxL ret nm) (d : decode bytes pc = .ok (.if_icmp cd o, 3)) (hc : if_icmp.holds cd x y = false) (hp : pc + 3 = pc') (r : Go l Z n0 R K Q h sf k j pc' ls st) : Go l Z n0 R K Q h sf k j pc ls (.int y :: .int x :: st) := by
  subst hp
  exact Go.of H (fun p e below T t m c hA hx hby hr => XS.icmpNo hA hx rfl (hb hby d) rfl hc hr) r
theorem Go.ifY {cd : ClassFile.Cond} {x : Int32} {o : Int} (H : Ok Z K own bytes maxL ret nm) (d : decode bytes pc = .ok (.ifCond cd o, 3)) (hc : if_icmp.holds cd x 0 = true) (ho : 0 ≤ (pc : Int) + o) (hp : ((pc : Int) + o).toNat = pc') (r : Go l Z n0 R K Q h sf k j pc' ls st) : Go l Z n0 R K Q h sf k j pc ls (.int x :: st) := Go.of H (fun p e below T t m c hA hx hby hr => XS.ifYes hA hx rfl (pc0 := pc) (pc' := pc') rfl (hb hby d) rfl ((if0 _ _).trans hc) ho hp hr) r
theorem Go.ifN {cd : ClassFile.Cond} {x : Int32} {o : Int} (H : Ok Z K own bytes maxL ret nm) (d : decode bytes pc = .ok (.ifCond cd o, 3)) (hc : if_icmp.holds cd x 0 = false) (hp : pc + 3 = pc') (r : Go l Z n0 R K Q h sf k j pc' ls st) : Go l Z n0 R K Q h sf k j pc ls (.int x :: st) := by
  subst hp
  exact Go.of H (fun p e below T t m c hA hx hby hr => XS.ifNo hA hx rfl (hb hby d) rfl ((if0 _ _).trans hc) hr) r
theorem Go.ifnullY {o : Int} (H : Ok Z K own bytes maxL ret nm) (d : decode bytes pc = .ok (.ifnull o, 3)) (ho : 0 ≤ (pc : Int) + o) (hp : ((pc : Int) + o).toNat = pc') (r : Go l Z n0 R K Q h sf k j pc' ls st) : Go l Z n0 R K Q h sf k j pc ls (.null :: st) := Go.of H (fun p e below T t m c hA hx hby hr => XS.ifnullYes hA hx rfl (pc0 := pc) (pc' := pc') rfl (hb hby d) rfl ho hp hr) r
theorem Go.ifnullN {b : Addr} {o : Int} (H : Ok Z K own bytes maxL ret nm) (d : decode bytes pc = .ok (.ifnull o, 3)) (hp : pc + 3 = pc') (r : Go l Z n0 R K Q h sf k j pc' ls st) : Go l Z n0 R K Q h sf k j pc ls (.ref b :: st) := by
  subst hp
  exact Go.of H (fun p e below T t m c hA hx hby hr => XS.ifnullNo hA hx rfl (hb hby d) rfl hr) r
theorem Go.ifnonnullY {b : Addr} {o : Int} (H : Ok Z K own bytes maxL ret nm) (d : decode bytes pc = .ok (.ifnonnull o, 3)) (ho : 0 ≤ (pc : Int) + o) (hp : ((pc : Int) + o).toNat = pc') (r : Go l Z n0 R K Q h sf k j pc' ls st) : Go l Z n0 R K Q h sf k j pc ls (.ref b :: st) := Go.of H (fun p e below T t m c hA hx hby hr => XS.ifnonnullYes hA hx rfl (pc0 := pc) (pc' := pc') rfl (hb hby d) rfl ho hp hr) r
theorem Go.ifnonnullN {o : Int} (H : Ok Z K own bytes maxL ret nm) (d : decode bytes pc = .ok (.ifnonnull o, 3)) (hp : pc + 3 = pc') (r : Go l Z n0 R K Q h sf k j pc' ls st) : Go l Z n0 R K Q h sf k j pc ls (.null :: st) := by
  subst hp
  exact Go.of H (fun p e below T t m c hA hx hby hr => XS.ifnonnullNo hA hx rfl (hb hby d) rfl hr) r
theorem Go.acmpY {cd : ClassFile.ACond} {x y : Value} {o : Int} (H : Ok Z K own bytes maxL ret nm) (d : decode bytes pc = .ok (.if_acmp cd o, 3)) (h1 : x.isRef = true) (h2 : y.isRef = true) (hc : XT.acmp cd x y = true) (ho : 0 ≤ (pc : Int) + o) (hp : ((pc : Int) + o).toNat = pc') (r : Go l Z n0 R K Q h sf k j pc' ls st) : Go l Z n0 R K Q h sf k j pc ls (y :: x :: st) := Go.of H (fun p e below T t m c hA hx hby hr => XT.acmpYes hA hx rfl (pc0 := pc) (pc' := pc') rfl (hb hby d) rfl h1 h2 hc ho hp hr) r
theorem Go.acmpN {cd : ClassFile.ACond} {x y : Value} {o : Int} (H : Ok Z K own bytes maxL ret nm) (d : decode bytes pc = .ok (.if_acmp cd o, 3)) (h1 : x.isRef = true) (h2 : y.isRef = true) (hc : XT.acmp cd x y = false) (hp : pc + 3 = pc') (r : Go l Z n0 R K Q h sf k j pc' ls st) : Go l Z n0 R K Q h sf k j pc ls (y :: x :: st) := by
  subst hp
  exact Go.of H (fun p e below T t m c hA hx hby hr => XT.acmpNo hA hx rfl (hb hby d) rfl h1 h2 hc hr) r
theorem Go.ldcInt {idx : Nat} {v : Int32} (H : Ok Z K own bytes maxL ret nm) (d : decode bytes pc = .ok (.ldc idx, 2)) (hp : pc + 2 = pc') (w : Jvm.Cond.constant own idx v ∈ tables_1) (r : Go l Z n0 R K Q h sf k j pc' ls (.int v :: st)) : Go l Z n0 R K Q h sf k j pc ls st := by
  subst hp
  refine Go.of2 H ?_ r
  intro p e s m args below meth c T locs a0 hw X hx hby hml hZ hown eT hO
  exact ⟨T, X, eT, fun t hr => X.ldcInt hx hown (mvT hZ (hw _ w)) (g := mkF m pc ls st) rfl (hb hby d) t hr⟩
theorem Go.ldcWInt {idx : Nat} {v : Int32} (H : Ok Z K own bytes maxL ret nm) (d : decode bytes pc = .ok (.ldc_w idx, 3)) (hp : pc + 3 = pc') (w : Jvm.Cond.constant own idx v ∈ tables_1) (r : Go l Z n0 R K Q h sf k j pc' ls (.int v :: st)) : Go l Z n0 R K Q h sf k j pc ls st := by
  subst hp
  refine Go.of2 H ?_ r
  intro p e s m args below meth c T locs a0 hw X hx hby hml hZ hown eT hO
  exact ⟨T, X, eT, fun t hr => X.ldcwInt hx hown (mvT hZ (hw _ w)) (g := mkF m pc ls st) rfl (hb hby d) t hr⟩
theorem Go.ldc2 {idx : Nat} {v : Int64} (H : Ok Z K own bytes maxL ret nm) (d : decode bytes pc = .ok (.ldc2_w idx, 3)) (hp : pc + 3 = pc') (w : Jvm.Cond.constantLong own idx v ∈ tables_1) (r : Go l Z n0 R K Q h sf k j pc' ls (.long v :: st)) : Go l Z n0 R K Q h sf k j pc ls st := by
  subst hp
  refine Go.of2 H ?_ r
  intro p e s m args below meth c T locs a0 hw X hx hby hml hZ hown eT hO
  exact ⟨T, X, eT, fun t hr => X.ldc2Long hx hown (mvT hZ (hw _ w)) (g := mkF m pc ls st) rfl (hb hby d) t hr⟩
theorem Go.getfield {idx : Nat} {O n d' : String} {a : Addr} {v : Value} (H : Ok Z K own bytes maxL ret nm) (d : decode bytes pc = .ok (.getfield idx, 3)) (hp : pc + 3 = pc') (w : Jvm.Cond.fieldLink own idx O n d' ∈ tables_1) (F : Fld Z h a O n d' v) (r : Go l Z n0 R K Q h sf k j pc' ls (v :: st)) : Go l Z n0 R K Q h sf k j pc ls (.ref a :: st) := by
  subst hp
  refine Go.of2 H ?_ r
  intro p e s m args below meth c T locs a0 hw X hx hby hml hZ hown eT hO
  exact getF X hx hZ hown (host := "") (Or.inl (hw _ w)) Via.refl eT F (g := mkF m pc ls (.ref a :: st)) rfl rfl (hb hby d)
theorem Go.getstatic {idx : Nat} {O n d' : String} {v : Value} (H : Ok Z K own bytes maxL ret nm) (d : decode bytes pc = .ok (.getstatic idx, 3)) (hp : pc + 3 = pc') (w : Jvm.Cond.fieldLink own idx O n d' ∈ tables_1) (F : Sta Z Z.heap O n d' v) (r : Go l Z n0 R K Q h sf k j pc' ls (v :: st)) : Go l Z n0 R K Q h sf k j pc ls st := by
  subst hp
  refine Go.of2 H ?_ r
  intro p e s m args below meth c T locs a0 hw X hx hby hml hZ hown eT hO
  exact getS (host := "") X hx hZ hown (hw _ w) Via.refl eT (F.ext hO.2) (g := mkF m pc ls st) rfl (hb hby d)
theorem Go.checkcast {idx : Nat} {C : String} {a : Addr} (H : Ok Z K own bytes maxL ret nm) (d : decode bytes pc = .ok (.checkcast idx, 3)) (hp : pc + 3 = pc') (w : Jvm.Cond.classLink own idx C ∈ tables_1) (F : Ins Z h a C true) (r : Go l Z n0 R K Q h sf k j pc' ls (.ref a :: st)) : Go l Z n0 R K Q h sf k j pc ls (.ref a :: st) := by
  subst hp
  refine Go.of2 H ?_ r
  intro p e s m args below meth c T locs a0 hw X hx hby hml hZ hown eT hO
  exact castY X hx hZ hown (hw _ w) eT F (g := mkF m pc ls (.ref a :: st)) rfl rfl (hb hby d)
theorem Go.instanceofY {idx : Nat} {C : String} {a : Addr} (H : Ok Z K own bytes maxL ret nm) (d : decode bytes pc = .ok (.instanceof idx, 3)) (hp : pc + 3 = pc') (w : Jvm.Cond.classLink own idx C ∈ tables_1) (F : Ins Z h a C true) (r : Go l Z n0 R K Q h sf k j pc' ls (.int 1 :: st)) : Go l Z n0 R K Q h sf k j pc ls (.ref a :: st) := by
  subst hp
  refine Go.of2 H ?_ r
  intro p e s m args below meth c T locs a0 hw X hx hby hml hZ hown eT hO
  exact instY X hx hZ hown (hw _ w) eT F (g := mkF m pc ls (.ref a :: st)) rfl rfl (hb hby d)
theorem Go.initObj {idx : Nat} {a : Addr} (H : Ok Z K own bytes maxL ret nm) (d : decode bytes pc = .ok (.invokespecial idx, 3)) (hp : pc + 3 = pc') (w1 : Jvm.Cond.methodLink own idx Lib.objectInit ∈ tables_1) (w2 : Jvm.Cond.instanceMethod Lib.objectInit ∈ tables_1) (w3 : Jvm.Cond.code Lib.objectInit ⟨#[0xb1]⟩ 1 none ∈ tables_1) (W : Nat) (hsz : ls.size = maxL) (hW : (st.map fun v => v.category).sum ≤ W) (hf : 1 ≤ R.frames) (hlo : W + 12 ≤ R.locals) (r : Go l Z n0 R K Q h sf k j pc' ls st) : Go l Z n0 R K Q h sf k j pc ls (.ref a :: st) := by
  subst hp
  refine Go.of2 H ?_ r
  intro p e s m args below meth c T locs a0 hw X hx hby hml hZ hown eT hO
  exact initO X hx hZ hown (hw _ w1) (hw _ w2) (hw _ w3) eT (g := mkF m pc ls (.ref a :: st)) rfl (by rw [hml]; exact hsz) rfl (hb hby d) hf (W := W) (by show 2 * 0 + _ ≤ _; simpa using hW) hlo
end Steps1
/-- an array whose components are just these ints -/
def Vec (Z : State) (h : Heap) (a : Addr) (ty : FieldType) (vs : List Int32) : Prop := ∃ c : Cell, Arr Z h a c ty ∧ c.slots.toList = vs.map Value.int ∧ ∀ v ∈ vs, fits ty (.int v) = true
section Vecs
variable {Z : State} {h h' : Heap} {a b : Addr} {ty : FieldType} {vs : List Int32} {ws : List Addr}
theorem Vec.lt (F : Vec Z h a ty vs) : a < h.size := by obtain ⟨c, A, -⟩ := F; exact A.lt
theorem Vec.ext (F : Vec Z h a ty vs) (E : Ext h h') : Vec Z h' a ty vs := by obtain ⟨c, A, q⟩ := F; exact ⟨c, A.ext E, q⟩
theorem Vec.keep (F : Vec Z h a ty vs) (K : Keep h h' ws) (q : a ∉ ws) : Vec Z h' a ty vs := by obtain ⟨c, A, r⟩ := F; exact ⟨c, ⟨K.2.1 a c A.1 q, A.2⟩, r⟩
theorem Vec.size {c : Cell} (q : c.slots.toList = vs.map Value.int) : c.slots.size = vs.length := by rw [← Array.length_toList, q, List.length_map]
theorem Vec.get {c : Cell} (q : c.slots.toList = vs.map Value.int) {i : Nat} {v : Int32} (hv : vs[i]? = some v) : c.slots[i]? = some (.int v) := by
  rw [← Array.getElem?_toList, q, List.getElem?_map, hv]; rfl
theorem Vec.set {i : Nat} {v : Int32} (F : Vec Z h a ty vs) (W : Wr h h' a i (.int v)) (hv : fits ty (.int v) = true) : Vec Z h' a ty (vs.set i v) := by
  obtain ⟨c, A, q, hf⟩ := F
  refine ⟨_, A.same W, ?_, fun u hu => (List.mem_or_eq_of_mem_set hu).elim (hf u) (fun e => e ▸ hv)⟩
  rw [List.map_set, ← q]
  show (c.slots.setIfInBounds i _).toList = _
  rw [Array.toList_setIfInBounds]
theorem Vec.ne {ty' : FieldType} {vs' : List Int32} (F : Vec Z h a ty vs) (G : Vec Z h b ty' vs') (hn : ty ≠ ty') : a ≠ b := fun e => by
  subst e
  obtain ⟨c, ⟨h1, ⟨-, k, g1, comp, g2⟩, -⟩, -, -⟩ := F
  obtain ⟨c', ⟨h1', ⟨-, k', g1', comp', g2'⟩, -⟩, -, -⟩ := G
  cases h1.symm.trans h1'
  cases g1.symm.trans g1'
  rw [g2] at g2'
  cases g2'
  exact hn rfl
theorem Vec.neExa {C : String} {x : Addr} {n : Nat} (F : Vec Z h a ty vs) (G : Exa Z h x C) (w : Wds Z) (hi : Jvm.Cond.instantiable C n ∈ tables_1) : a ≠ x := by
  obtain ⟨c, A, -⟩ := F
  obtain ⟨a0, hw⟩ := w
  exact (ne_arr G (hw _ hi) A).symm
end Vecs
section Steps2
variable {l : Launch} {Z : State} {n0 : Nat} {R : Room} {K : Cx} {Q : Option Value → Heap → List Addr → Prop} {h : Heap} {sf : List Addr} {k j pc pc' : Nat} {ls ls' : Array Slot} {st : List Value} {own : String} {bytes : ByteArray} {maxL : Nat} {ret : Option FieldType} {nm : String}
theorem Go.caload {a : Addr} {i : Int32} {v : Int32} {vs : List Int32} (H : Ok Z K own bytes maxL ret nm) (d : decode bytes pc = .ok (.caload, 1)) (hp : pc + 1 = pc') (F : Vec Z h a .char vs) (n : Nat) (hi : i.toNatClampNeg = n) (h0 : ¬ i < 0) (hv : vs[n]? = some v) (r : Go l Z n0 R K Q h sf k j pc' ls (.int v :: st)) : Go l Z n0 R K Q h sf k j pc ls (.int i :: .ref a :: st) := by
  subst hp
  refine Go.of2 H ?_ r
  intro p e s m args below meth c T locs a0 hw X hx hby hml hZ hown eT hO
  obtain ⟨c', A, q, -⟩ := F
  refine ⟨T, X, eT, fun t hr => X.caload hx (j := i) (v := .int v) (by rw [eT]; exact A.1) (State.isArrayOf_alike hZ.alike A.2.1) A.2.2 ?_ (by rw [hi]; exact Vec.get q hv) (g := mkF m pc ls (.int i :: .ref a :: st)) rfl rfl (hb hby d) t hr⟩
  rw [Vec.size q, hi]
  have := (List.getElem?_eq_some_iff.mp hv).1
  rintro (q | q)
  · exact h0 q
  · omega
theorem Go.baload {a : Addr} {i : Int32} {v : Int32} {vs : List Int32} (H : Ok Z K own bytes maxL ret nm) (d : decode bytes pc = .ok (.baload, 1)) (hp : pc + 1 = pc') (F : Vec Z h a .byte vs) (n : Nat) (hi : i.toNatClampNeg = n) (h0 : ¬ i < 0) (hv : vs[n]? = some v) (r : Go l Z n0 R K Q h sf k j pc' ls (.int v :: st)) : Go l Z n0 R K Q h sf k j pc ls (.int i :: .ref a :: st) := by
  subst hp
  refine Go.of2 H ?_ r
  intro p e s m args below meth c T locs a0 hw X hx hby hml hZ hown eT hO
  obtain ⟨c', A, q, -⟩ := F
  refine ⟨T, X, eT, fun t hr => X.baloadBytes hx (j := i) (v := .int v) (by rw [eT]; exact A.1) (State.isArrayOf_alike hZ.alike A.2.1) A.2.2 ?_ (by rw [hi]; exact Vec.get q hv) (g := mkF m pc ls (.int i :: .ref a :: st)) rfl rfl (hb hby d) t hr⟩
  rw [Vec.size q, hi]
  have := (List.getElem?_eq_some_iff.mp hv).1
  rintro (q | q)
  · exact h0 q
  · omega
theorem Go.iaload {a : Addr} {i : Int32} {v : Int32} {vs : List Int32} (H : Ok Z K own bytes maxL ret nm) (d : decode bytes pc = .ok (.iaload, 1)) (hp : pc + 1 = pc') (F : Vec Z h a .int vs) (n : Nat) (hi : i.toNatClampNeg = n) (h0 : ¬ i < 0) (hv : vs[n]? = some v) (r : Go l Z n0 R K Q h sf k j pc' ls (.int v :: st)) : Go l Z n0 R K Q h sf k j pc ls (.int i :: .ref a :: st) := by
  subst hp
  refine Go.of2 H ?_ r
  intro p e s m args below meth c T locs a0 hw X hx hby hml hZ hown eT hO
  obtain ⟨c', A, q, -⟩ := F
  refine ⟨T, X, eT, fun t hr => X.iaload hx (j := i) (v := .int v) (by rw [eT]; exact A.1) (State.isArrayOf_alike hZ.alike A.2.1) A.2.2 ?_ (by rw [hi]; exact Vec.get q hv) (g := mkF m pc ls (.int i :: .ref a :: st)) rfl rfl (hb hby d) t hr⟩
  rw [Vec.size q, hi]
  have := (List.getElem?_eq_some_iff.mp hv).1
  rintro (q | q)
  · exact h0 q
  · omega
theorem Go.arraylength {a : Addr} {ty : FieldType} {vs : List Int32} (v : Int32) (H : Ok Z K own bytes maxL ret nm) (d : decode bytes pc = .ok (.arraylength, 1)) (hp : pc + 1 = pc') (F : Vec Z h a ty vs) (hv : vs.length.toInt32 = v) (r : Go l Z n0 R K Q h sf k j pc' ls (.int v :: st)) : Go l Z n0 R K Q h sf k j pc ls (.ref a :: st) := by
  subst hp
  refine Go.of2 H ?_ r
  intro p e s m args below meth c T locs a0 hw X hx hby hml hZ hown eT hO
  obtain ⟨c', A, q, -⟩ := F
  refine ⟨T, X, eT, fun t hr => X.arraylength hx (by rw [eT]; exact A.1) (State.isArrayOf_alike hZ.alike A.2.1) (g := mkF m pc ls (.ref a :: st)) rfl rfl (hb hby d) t ?_⟩
  rw [Vec.size q, hv]; exact hr
theorem Go.castore {a : Addr} {i x : Int32} {vs : List Int32} (v : Int32) (H : Ok Z K own bytes maxL ret nm) (d : decode bytes pc = .ok (.castore, 1)) (hp : pc + 1 = pc') (F : Vec Z h a .char vs) (n : Nat) (hi : i.toNatClampNeg = n) (h0 : ¬ i < 0) (hn : n < vs.length) (hx : nar .char x = v) (ha : n0 ≤ a) (hs : a ∈ sf) (r : ∀ h', Keep h h' [a] → Vec Z h' a .char (vs.set n v) → Go l Z n0 R K Q h' sf k j pc' ls st) : Go l Z n0 R K Q h sf k j pc ls (.int x :: .int i :: .ref a :: st) := by
  subst hp hx
  refine Go.ofWr (a := a) (sl := i.toNatClampNeg) (v := .int (nar .char x)) H ha hs ?_ (fun h' W => r h' (Keep.of_wr W) (by rw [← hi]; exact F.set W (fits_nar_char _)))
  intro p e s m args below meth c T locs a0 hw X hx hby hZ hown hnm eT
  obtain ⟨c', A, q, -⟩ := F
  refine stC X hx hZ eT A (j := i) ?_ (g := mkF m pc ls (.int x :: .int i :: .ref a :: st)) rfl rfl (hb hby d)
  rw [Vec.size q, hi]
  rintro (q | q)
  · exact h0 q
  · omega
theorem Go.bastore {a : Addr} {i x : Int32} {vs : List Int32} (v : Int32) (H : Ok Z K own bytes maxL ret nm) (d : decode bytes pc = .ok (.bastore, 1)) (hp : pc + 1 = pc') (F : Vec Z h a .byte vs) (n : Nat) (hi : i.toNatClampNeg = n) (h0 : ¬ i < 0) (hn : n < vs.length) (hx : nar .byte x = v) (ha : n0 ≤ a) (hs : a ∈ sf) (r : ∀ h', Keep h h' [a] → Vec Z h' a .byte (vs.set n v) → Go l Z n0 R K Q h' sf k j pc' ls st) : Go l Z n0 R K Q h sf k j pc ls (.int x :: .int i :: .ref a :: st) := by
  subst hp hx
  refine Go.ofWr (a := a) (sl := i.toNatClampNeg) (v := .int (nar .byte x)) H ha hs ?_ (fun h' W => r h' (Keep.of_wr W) (by rw [← hi]; exact F.set W (fits_nar_byte _)))
  intro p e s m args below meth c T locs a0 hw X hx hby hZ hown hnm eT
  obtain ⟨c', A, q, -⟩ := F
  refine stB X hx hZ eT A (j := i) ?_ (g := mkF m pc ls (.int x :: .int i :: .ref a :: st)) rfl rfl (hb hby d)
  rw [Vec.size q, hi]
  rintro (q | q)
  · exact h0 q
  · omega
theorem Go.newarray {aty : ArrayType} {n : Int32} (N : Nat) (cap : Nat) (H : Ok Z K own bytes maxL ret nm) (d : decode bytes pc = .ok (.newarray aty, 2)) (hp : pc + 2 = pc') (w : Jvm.Cond.arrayClass (newarray.typeOf aty) ∈ tables_1) (hd : defaultValue (newarray.typeOf aty) = .int 0) (hft : fits (newarray.typeOf aty) (.int 0) = true) (hn : ¬ n < 0) (hN : n.toNatClampNeg = N) (hcap : N ≤ cap) (hb' : cap * 8 ≤ 536870912) (hce : k + 1 ≤ R.cells) (hsl : j + cap ≤ R.slots)
    (r : ∀ a h', a = h.size → n0 ≤ a → Ext h h' → Vec Z h' a (newarray.typeOf aty) (List.replicate N 0) → Go l Z n0 R K Q h' (a :: sf) (k + 1) (j + cap) pc' ls (.ref a :: st)) : Go l Z n0 R K Q h sf k j pc ls (.int n :: st) := by
  subst hp hN
  refine Go.ofNew (P := fun a h' => Vec Z h' a (newarray.typeOf aty) (List.replicate n.toNatClampNeg 0)) H ?_ r
  intro p e s m args below meth c T locs a0 hw X hx hby hZ hown eT
  obtain ⟨T', h', cA, X', eT', E, A, stp⟩ := newP X hx hZ (hw _ w) eT (g := mkF m pc ls (.int n :: st)) rfl (hb hby d) rfl hn (cap := cap) hcap hb' hce hsl
  refine ⟨T', h', X', eT', E, ⟨_, A, ?_, fun v hv => by rw [List.eq_of_mem_replicate hv]; exact hft⟩, stp⟩
  simp [newA, hd]
theorem Go.new {C : String} {idx n : Nat} (H : Ok Z K own bytes maxL ret nm) (d : decode bytes pc = .ok (.new idx, 3)) (hp : pc + 3 = pc') (w : Jvm.Cond.classLink own idx C ∈ tables_1) (wi : Jvm.Cond.instantiable C n ∈ tables_1) (wz : Jvm.Cond.initialized C ∈ tables_1) (hce : k + 1 ≤ R.cells) (hsl : j + n ≤ R.slots)
    (r : ∀ a h', a = h.size → n0 ≤ a → Ext h h' → Exa Z h' a C → (∀ {O nm d : String} {ty : FieldType}, (Jvm.Cond.lays C O nm d ∈ tables_1 ∨ Jvm.Cond.laysFinal C O nm d ∈ tables_1) → parseFieldDescriptor d = some ty → Fld Z h' a O nm d (defaultValue ty)) → Go l Z n0 R K Q h' (a :: sf) (k + 1) (j + n) pc' ls (.ref a :: st)) : Go l Z n0 R K Q h sf k j pc ls st := by
  subst hp
  refine Go.ofNew (P := fun a h' => Exa Z h' a C ∧ (∀ {O nm d : String} {ty : FieldType}, (Jvm.Cond.lays C O nm d ∈ tables_1 ∨ Jvm.Cond.laysFinal C O nm d ∈ tables_1) → parseFieldDescriptor d = some ty → Fld Z h' a O nm d (defaultValue ty))) H ?_ (fun a h' e1 e2 E hP => r a h' e1 e2 E hP.1 hP.2)
  intro p e s m args below meth c T locs a0 hw X hx hby hZ hown eT
  obtain ⟨T', h', X', eT', E, A, D, -, stp⟩ := newO X hx hZ hown (hw _ w) (hw _ wi) (hw _ wz) eT (g := mkF m pc ls st) rfl (hb hby d) hce hsl
  exact ⟨T', h', X', eT', E, ⟨A, fun L ht => D (L.imp (hw _) (hw _)) ht⟩, stp⟩
theorem Go.putfield {idx kk : Nat} {C O n d' : String} {ty : FieldType} {a : Addr} {x v old : Value} (H : Ok Z K own bytes maxL ret nm) (d : decode bytes pc = .ok (.putfield idx, 3)) (hp : pc + 3 = pc') (w : Jvm.Cond.fieldLink own idx O n d' ∈ tables_1) (F : Fld Z h a O n d' old) (E : Exa Z h a C) (L : Jvm.Cond.lays C O n d' ∈ tables_1 ∨ (Jvm.Cond.laysFinal C O n d' ∈ tables_1 ∧ own = O ∧ nm = "<init>")) (wi : Jvm.Cond.instantiable C kk ∈ tables_1) (hty : parseFieldDescriptor d' = some ty) (hn : narrow ty x = v) (hf : fits ty v = true) (ha : n0 ≤ a) (hs : a ∈ sf)
    (r : ∀ h', Wr h h' a (Jvm.RoadKit.slotOf Z O n d') v → Go l Z n0 R K Q h' sf k j pc' ls st) : Go l Z n0 R K Q h sf k j pc ls (x :: .ref a :: st) := by
  subst hp
  refine Go.ofWr (a := a) (sl := Jvm.RoadKit.slotOf Z O n d') (v := v) H ha hs ?_ r
  intro p e s m args below meth c T locs a0 hw X hx hby hZ hown hnm eT
  exact putFN X hx hZ hown (hw _ w) Via.refl eT F E (L.imp (hw _) (fun q => ⟨hw _ q.1, q.2.1, hnm.trans q.2.2⟩)) (hw _ wi) hty hn hf (g := mkF m pc ls (x :: .ref a :: st)) rfl rfl (hb hby d)
theorem Go.ireturn {x : Int32} {t : FieldType} (v : Int32) (sn : List Addr) (H : Ok Z K own bytes maxL (some t) nm) (d : decode bytes pc = .ok (.ireturn, 1)) (ht : t = .boolean ∨ t = .byte ∨ t = .char ∨ t = .short) (hv : nar t x = v) (hq : Q (some (.int v)) h sn) (hs : ∀ y ∈ sn, y ∈ sf) (hk : k ≤ R.cells) (hj : j ≤ R.slots) : Go l Z n0 R K Q h sf k j pc ls (.int x :: st) := by
  subst hv
  exact Go.ret0 H (v := some (.int (nar t x))) (fun q => nomatch q) hq hs hk hj (fun p e s m args below meth c T locs fs X hx hby hret hl => retN X hx hret ht (hb hby d) hl)
theorem Go.ireturnI {x : Int32} (sn : List Addr) (H : Ok Z K own bytes maxL (some .int) nm) (d : decode bytes pc = .ok (.ireturn, 1)) (hq : Q (some (.int x)) h sn) (hs : ∀ y ∈ sn, y ∈ sf) (hk : k ≤ R.cells) (hj : j ≤ R.slots) : Go l Z n0 R K Q h sf k j pc ls (.int x :: st) := by
  exact Go.ret0 H (v := some (.int x)) (fun q => nomatch q) hq hs hk hj (fun p e s m args below meth c T locs fs X hx hby hret hl => retOut X hx hret rfl (Or.inl ⟨rfl, Or.inl rfl, _, rfl⟩) (hb hby d) hl)
theorem Go.lreturn {x : Int64} (sn : List Addr) (H : Ok Z K own bytes maxL (some .long) nm) (d : decode bytes pc = .ok (.lreturn, 1)) (hq : Q (some (.long x)) h sn) (hs : ∀ y ∈ sn, y ∈ sf) (hk : k ≤ R.cells) (hj : j ≤ R.slots) : Go l Z n0 R K Q h sf k j pc ls (.long x :: st) := by
  exact Go.ret0 H (v := some (.long x)) (fun q => nomatch q) hq hs hk hj (fun p e s m args below meth c T locs fs X hx hby hret hl => retOut X hx hret rfl (Or.inr (Or.inl ⟨rfl, rfl, _, rfl⟩)) (hb hby d) hl)
theorem Go.areturn {x : Value} {t : FieldType} (sn : List Addr) (H : Ok Z K own bytes maxL (some t) nm) (d : decode bytes pc = .ok (.areturn, 1)) (ht : t.isReference = true) (hx : x.isRef = true) (hn : narrow t x = x) (hq : Q (some x) h sn) (hs : ∀ y ∈ sn, y ∈ sf) (hk : k ≤ R.cells) (hj : j ≤ R.slots) : Go l Z n0 R K Q h sf k j pc ls (x :: st) := by
  exact Go.ret0 H (v := some x) (fun q => nomatch q) hq hs hk hj (fun p e s m args below meth c T locs fs X hx' hby hret hl => retOut X hx' hret hn (Or.inr (Or.inr (Or.inr (Or.inr ⟨rfl, ht, hx⟩)))) (hb hby d) hl)
theorem Go.return_ (sn : List Addr) (H : Ok Z K own bytes maxL none nm) (d : decode bytes pc = .ok (.return_, 1)) (hq : Q none h sn) (hs : ∀ y ∈ sn, y ∈ sf) (hk : k ≤ R.cells) (hj : j ≤ R.slots) : Go l Z n0 R K Q h sf k j pc ls [] := by
  exact Go.ret0 H (v := none) (fun _ => rfl) hq hs hk hj (fun p e s m args below meth c T locs fs X hx hby hret hl => X.returnOut hx hret (hb hby d) hl)
theorem own_toarv {Z : State} {h : Heap} {a : Addr} {ty : FieldType} {vs : List Int32} (F : Vec Z h a ty vs) (hn : vs.length < 2 ^ 31) : ∃ kc, Arv Z h a kc ty vs.length.toInt32 (vs.map Value.int) (.int 0) := by
  obtain ⟨c, A, q, hf⟩ := F
  have hs := Vec.size q
  have e : vs.length.toInt32.toNatClampNeg = vs.length := by rw [Int32.toNatClampNeg, len_toInt hn]; simp
  have hg : ∀ i, i < vs.length → (vs.map Value.int).getD i (.int 0) = .int (vs.getD i 0) := fun i hi => by simp [List.getD, hi]
  refine ⟨c.cls, c, A, rfl, by rw [hs, e], by rw [Int32.lt_iff_toInt_lt, len_toInt hn]; simp, fun i hi => ?_, fun i hi => ?_⟩
  · rw [hg i (by omega)]
    exact Vec.get q (by simp [List.getD, show i < vs.length by omega])
  · rw [hg i (by omega)]
    exact hf _ (by have : i < vs.length := by omega
                   simp [List.getD, this])
theorem own_ofarv {Z : State} {h : Heap} {b : Addr} {k : ClassId} {ty : FieldType} {z : Int32} {bs : List Int32} (F : Arv Z h b k ty z (bs.map Value.int) (.int 0)) (hz : z.toNatClampNeg = bs.length) : Vec Z h b ty bs := by
  obtain ⟨c, A, -, S, -, H, G⟩ := F
  refine ⟨c, A, ?_, fun v hv => ?_⟩
  · apply List.ext_getElem?
    intro i
    rw [Array.getElem?_toList]
    by_cases hi : i < c.slots.size
    · have hb : i < bs.length := by omega
      rw [H i hi]; simp [List.getD, hb]
    · rw [Array.getElem?_eq_none (by omega), List.getElem?_eq_none (by simp; omega)]
  · obtain ⟨i, hi, rfl⟩ := List.mem_iff_getElem.mp hv
    have := G i (by omega)
    simpa [List.getD, hi] using this
/-- System.arraycopy between two arrays of one primitive kind; sp, dp, nn: the two places and how many -/
theorem Go.arraycopy {idx : Nat} {a b : Addr} {ty : FieldType} {us vs : List Int32} {sp dp nn : Int32} (S D N : Nat) (H : Ok Z K own bytes maxL ret nm) (d : decode bytes pc = .ok (.invokestatic idx, 3)) (hp : pc + 3 = pc') (w1 : Jvm.Cond.methodLink own idx Jvm.Stand.acN ∈ tables_1) (w2 : Jvm.Cond.native Jvm.Stand.acN ∈ tables_1) (w3 : Jvm.Cond.static Jvm.Stand.acN ∈ tables_1) (w4 : Jvm.Cond.initialized "java/lang/System" ∈ tables_1)
    (A : Vec Z h a ty us) (B : Vec Z h b ty vs) (hu : us.length < 2 ^ 31) (hv : vs.length < 2 ^ 31) (hty : refKind ty = false) (hS : sp.toNatClampNeg = S) (hD : dp.toNatClampNeg = D) (hN : nn.toNatClampNeg = N) (h1 : ¬ sp < 0) (h2 : ¬ dp < 0) (h3 : ¬ nn < 0) (h4 : S + N ≤ us.length) (h5 : D + N ≤ vs.length) (ha : n0 ≤ b) (hs : b ∈ sf) (W : Nat) (hsz : ls.size = maxL) (hW : (st.map fun v => v.category).sum ≤ W) (hf : 1 ≤ R.frames) (hlo : W + (nativeFrameWords "java/lang/System" "arraycopy" 5 + 11) ≤ R.locals)
    (r : ∀ h', Keep h h' [b] → Vec Z h' b ty (vs.take D ++ (us.drop S).take N ++ vs.drop (D + N)) → Go l Z n0 R K Q h' sf k j pc' ls st) : Go l Z n0 R K Q h sf k j pc ls (.int nn :: .int dp :: .ref b :: .int sp :: .ref a :: st) := by
  subst hp hS hD hN
  refine Go.ofKeep (b := b) (P := fun h' => Vec Z h' b ty (vs.take dp.toNatClampNeg ++ (us.drop sp.toNatClampNeg).take nn.toNatClampNeg ++ vs.drop (dp.toNatClampNeg + nn.toNatClampNeg))) H ha hs ?_ r
  intro p e s m args below meth c T locs a0 hw X hx hby hml hZ hown eT hF
  obtain ⟨ka, A'⟩ := own_toarv A hu
  obtain ⟨kb, B'⟩ := own_toarv B hv
  have eu : us.length.toInt32.toNatClampNeg = us.length := by rw [Int32.toNatClampNeg, len_toInt hu]; simp
  have ev : vs.length.toInt32.toNatClampNeg = vs.length := by rw [Int32.toNatClampNeg, len_toInt hv]; simp
  have hus : ((us.drop sp.toNatClampNeg).take nn.toNatClampNeg).map Value.int = (List.range nn.toNatClampNeg).map fun i => (us.map Value.int).getD (sp.toNatClampNeg + i) (.int 0) := by
    apply List.ext_getElem
    · simp; omega
    · intro i g1 g2
      simp only [List.length_map, List.length_take, List.length_drop] at g1
      have g3 : sp.toNatClampNeg + i < us.length := by omega
      simp [List.getD, g3]
  obtain ⟨T', h', L, X', eT', hL, hK, V, stp⟩ := cpA X hx hZ hown (hw _ w1) (hw _ w2) (hw _ w3) (hw _ w4) eT A' B' (Or.inl ⟨rfl, hty⟩) h1 h2 h3 (by rw [eu]; exact h4) (by rw [ev]; exact h5) hus (by simpa using h5) hF ha (g := mkF m pc ls (.int nn :: .int dp :: .ref b :: .int sp :: .ref a :: st)) rfl (by rw [hml]; exact hsz) rfl (hb hby d) hf (W := W) (by show 2 * 0 + _ ≤ _; simpa using hW) hlo
  refine ⟨T', h', L, X', eT', hL, hK, own_ofarv (by rw [List.map_append, List.map_append, List.map_take, List.map_drop]; exact V) ?_, stp⟩
  rw [ev]; simp; omega
end Steps2
/-! numbers and strings -/
theorem own_ins {Z : State} {h : Heap} {a : Addr} {C D : String} (W : Wds Z) (F : Exa Z h a C) (w : Jvm.Cond.castable C D ∈ tables_1) : Ins Z h a D true := by
  obtain ⟨a0, hw⟩ := W; exact Ins.of_exa F (hw _ w)
theorem own_sne {Z : State} {C O n d O' n' d' : String} {t t' : FieldType} (W : Wds Z) (L : Jvm.Cond.lays C O n d ∈ tables_1 ∨ Jvm.Cond.laysFinal C O n d ∈ tables_1) (L' : Jvm.Cond.lays C O' n' d' ∈ tables_1 ∨ Jvm.Cond.laysFinal C O' n' d' ∈ tables_1) (hn : n ≠ n') (ht : parseFieldDescriptor d = some t) (ht' : parseFieldDescriptor d' = some t') : Jvm.RoadKit.slotOf Z O n d ≠ Jvm.RoadKit.slotOf Z O' n' d' := by
  obtain ⟨a0, hw⟩ := W
  exact slot_ne (a0 := a0) (C := C) (L.imp (hw _) (hw _)) (L'.imp (hw _) (hw _)) hn ht ht'
theorem own_len {n : Nat} (h : n < 2 ^ 31) : n.toInt32.toInt = n := len_toInt h
theorem own_lt {i n : Nat} (hn : n < 2 ^ 31) (h : i < n) : i.toInt32 < n.toInt32 := by
  rw [Int32.lt_iff_toInt_lt, own_len hn, own_len (by omega)]; omega
theorem own_nlt {i n : Nat} (hi : i < 2 ^ 31) (h : n ≤ i) : ¬ i.toInt32 < n.toInt32 := by
  rw [Int32.lt_iff_toInt_lt, own_len hi, own_len (by omega)]; omega
theorem own_n0 {i : Nat} (h : i < 2 ^ 31) : ¬ i.toInt32 < 0 := by
  rw [Int32.lt_iff_toInt_lt, own_len h]; simp
theorem own_cl {i : Nat} (h : i < 2 ^ 31) : i.toInt32.toNatClampNeg = i := by
  rw [Int32.toNatClampNeg, own_len h]; simp
theorem own_s (i : Nat) : i.toInt32 + 1 = (i + 1).toInt32 := (Int32.ofNat_add i 1).symm
theorem own_ne0 {n : Nat} (hn : n < 2 ^ 31) (h : 0 < n) : ¬ n.toInt32 = 0 := fun e => by
  have := congrArg Int32.toInt e; rw [own_len hn] at this; simp at this; omega
def isL (c : Int32) : Prop := 0 ≤ c.toInt ∧ c.toInt ≤ 255
def isC (c : Int32) : Prop := 0 ≤ c.toInt ∧ c.toInt ≤ 65535
theorem isL.c {c : Int32} (h : isL c) : isC c := ⟨h.1, by have := h.2; omega⟩
theorem own_char {x : Int32} (h : isC x) : nar .char x = x := Int32.toInt_inj.mp (by have := c_i2c x; obtain ⟨h1, h2⟩ := h; simp only [nar]; omega)
theorem own_isC (x : Int32) : isC (nar .char x) := by have := c_i2c x; simp only [nar]; exact ⟨this.2.1, by omega⟩
theorem own_nn {x : Int32} : nar .char (nar .char x) = nar .char x := own_char (own_isC x)
theorem own_nb {x : Int32} : nar .byte (nar .byte x) = nar .byte x := by
  have h1 := c_i2b x
  have h2 := c_i2b (nar .byte x)
  simp only [nar] at *
  exact Int32.toInt_inj.mp (by omega)
theorem own_back {c : Int32} (h : isL c) : nar .char (nar .byte c &&& 255) = c := by
  have h1 := c_i2b c
  have h2 := c_mask (nar .byte c) 255 8 (by decide) (by decide)
  have h3 := c_i2c (nar .byte c &&& 255)
  obtain ⟨g1, g2⟩ := h
  simp only [nar] at *
  exact Int32.toInt_inj.mp (by omega)
theorem own_le255 {c : Int32} (h : isL c) : ¬ (255 : Int32) < c := by
  rw [Int32.lt_iff_toInt_lt]; have := h.2; simp only [Int32.reduceToInt]; omega
theorem own_cat {f : Value} (h : f.isRef = true) : f.category = 1 := by rcases ref_cases h with rfl | ⟨a, rfl⟩ <;> rfl
theorem own_ext {h h' : Heap} (K : Keep h h' []) : Ext h h' := ⟨K.1, fun a c q => K.2.1 a c q nin0⟩
theorem own_keep {h h' : Heap} {ws : List Addr} (E : Ext h h') : Keep h h' ws := (Keep.refl _ _).ext E
theorem Exa.ltb {Z : State} {h : Heap} {a : Addr} {C : String} (F : Exa Z h a C) : a < h.size := F.lt
/-- a Latin-1 String x whose bytes lie at b -/
def Str (Z : State) (h : Heap) (x b : Addr) (cs : List Int32) : Prop := Exa Z h x "java/lang/String" ∧ Fld Z h x "java/lang/String" "value" "[B" (.ref b) ∧ Fld Z h x "java/lang/String" "coder" "B" (.int 0) ∧ Vec Z h b .byte (cs.map (nar .byte)) ∧ (∀ c ∈ cs, isL c) ∧ cs.length < 2 ^ 31
section StrF
variable {Z : State} {h h' : Heap} {x b : Addr} {cs : List Int32} {ws : List Addr}
theorem Str.lt (F : Str Z h x b cs) : x < h.size := F.1.lt
theorem Str.ltb (F : Str Z h x b cs) : b < h.size := F.2.2.2.1.lt
theorem Str.ext (F : Str Z h x b cs) (E : Ext h h') : Str Z h' x b cs := ⟨F.1.ext E, F.2.1.ext E, F.2.2.1.ext E, F.2.2.2.1.ext E, F.2.2.2.2⟩
theorem Str.keep (F : Str Z h x b cs) (K : Keep h h' ws) (q : x ∉ ws) (q' : b ∉ ws) : Str Z h' x b cs := ⟨F.1.keep K, F.2.1.keep K q, F.2.2.1.keep K q, F.2.2.2.1.keep K q', F.2.2.2.2⟩
end StrF
theorem own_and255 (y : Int32) : isL (nar .char (y &&& 255)) := by
  have h1 := c_and y 255 (by decide)
  have h2 : (255 : Int32).toInt = 255 := by decide
  have h3 : nar .char (y &&& 255) = y &&& 255 := own_char ⟨h1.1, by omega⟩
  rw [h3]; exact ⟨h1.1, by omega⟩
theorem own_an {P : Int32 → Prop} : ∀ c ∈ ([] : List Int32), P c := fun _ q => nomatch q
theorem own_ac {P : Int32 → Prop} {a : Int32} {t : List Int32} (h : P a) (r : ∀ c ∈ t, P c) : ∀ c ∈ a :: t, P c := fun c q => by
  rcases List.mem_cons.mp q with rfl | q
  · exact h
  · exact r c q
theorem own_narR {t : FieldType} {v : Value} (h : v.isRef = true) : narrow t v = v := by rcases ref_cases h with rfl | ⟨a, rfl⟩ <;> cases t <;> rfl
theorem own_fitR {t : FieldType} {v : Value} (h : v.isRef = true) (ht : t.isReference = true) : fits t v = true := by rcases ref_cases h with rfl | ⟨a, rfl⟩ <;> cases t <;> first | rfl | (cases ht)
theorem Fld.det {Z : State} {h : Heap} {a : Addr} {C n d : String} {v w : Value} (F : Fld Z h a C n d v) (G : Fld Z h a C n d w) : v = w := Decidable.byContradiction fun q => (F.ne G q) rfl
theorem Vec.det {Z : State} {h : Heap} {a : Addr} {ty ty' : FieldType} {vs ws : List Int32} (F : Vec Z h a ty vs) (G : Vec Z h a ty' ws) : vs = ws := by
  obtain ⟨c, A, q, -⟩ := F
  obtain ⟨c', A', q', -⟩ := G
  cases A.1.symm.trans A'.1
  have e := q.symm.trans q'
  exact (List.map_inj_right (fun a b e => by cases e; rfl)).mp e
theorem own_inj {c d : Int32} (h : isL c) (g : isL d) (e : nar .byte c = nar .byte d) : c = d := by rw [← own_back h, ← own_back g, e]
theorem own_mapinj : ∀ {cs ds : List Int32}, (∀ c ∈ cs, isL c) → (∀ d ∈ ds, isL d) → cs.map (nar .byte) = ds.map (nar .byte) → cs = ds
  | [], [], _, _, _ => rfl
  | [], _ :: _, _, _, e => by cases e
  | _ :: _, [], _, _, e => by cases e
  | c :: cs, d :: ds, h, g, e => by
    simp only [List.map_cons, List.cons.injEq] at e
    rw [own_inj (h c (by simp)) (g d (by simp)) e.1, own_mapinj (fun c q => h c (by simp [q])) (fun c q => g c (by simp [q])) e.2]
theorem Str.det {Z : State} {h : Heap} {x b b' : Addr} {cs ds : List Int32} (F : Str Z h x b cs) (G : Str Z h x b' ds) : cs = ds := by
  have e := Fld.det F.2.1 G.2.1
  cases e
  exact own_mapinj F.2.2.2.2.1 G.2.2.2.2.1 (F.2.2.2.1.det G.2.2.2.1)
theorem own_ofinj {i n : Nat} (hi : i < 2 ^ 31) (hn : n < 2 ^ 31) (e : i.toInt32 = n.toInt32) : i = n := by
  have := congrArg Int32.toInt e; rw [own_len hi, own_len hn] at this; omega
theorem Go.newarrayB {l : Launch} {Z : State} {n0 : Nat} {R : Room} {K : Cx} {Q : Option Value → Heap → List Addr → Prop} {h : Heap} {sf : List Addr} {k j pc pc' : Nat} {ls : Array Slot} {st : List Value} {own : String} {bytes : ByteArray} {maxL : Nat} {ret : Option FieldType} {nm : String} {n : Int32} (N : Nat) (cap : Nat) (H : Ok Z K own bytes maxL ret nm) (d : decode bytes pc = .ok (.newarray .byte, 2)) (hp : pc + 2 = pc') (w : Jvm.Cond.arrayClass .byte ∈ tables_1) (hd : defaultValue .byte = .int 0) (hft : fits .byte (.int 0) = true) (hn : ¬ n < 0) (hN : n.toNatClampNeg = N) (hcap : N ≤ cap) (hb' : cap * 8 ≤ 536870912) (hce : k + 1 ≤ R.cells) (hsl : j + cap ≤ R.slots)
    (r : ∀ a h', a = h.size → n0 ≤ a → Ext h h' → Vec Z h' a .byte (List.replicate N 0) → Exa Z h' a "[B" → Go l Z n0 R K Q h' (a :: sf) (k + 1) (j + cap) pc' ls (.ref a :: st)) : Go l Z n0 R K Q h sf k j pc ls (.int n :: st) := by
  subst hp hN
  refine Go.ofNew (P := fun a h' => Vec Z h' a .byte (List.replicate n.toNatClampNeg 0) ∧ Exa Z h' a "[B") H ?_ (fun a h' e1 e2 E hP => r a h' e1 e2 E hP.1 hP.2)
  intro p e s m args below meth c T locs a0 hw X hx hby hZ hown eT
  obtain ⟨cA, kA, comp, q1, q2, q3, X', stp⟩ := X.newarrayPrim hx (atype := .byte) (mvA hZ (hw _ w)) (g := mkF m pc ls (.int n :: st)) rfl (hb hby d) rfl hn (by show n.toNatClampNeg * 1 ≤ _; omega) hce (by omega)
  have f1 : Z.vm.findClass "[B" = some cA := (hZ.alike.findClass _ _).symm.trans q1
  obtain ⟨kZ, z1, -⟩ := Vm.findClass_spec f1
  obtain ⟨k', z2, z3⟩ := hZ.alike.2.2 _ _ z1
  cases q2.symm.trans z2
  have zk : kZ.kind = .array comp .byte := by
    have q4 := q3
    rw [z3] at q4; exact q4
  subst eT
  have hg : (T.heap.push { cls := cA, slots := Array.replicate n.toNatClampNeg (defaultValue .byte), vm := .none })[T.heap.size]? = some { cls := cA, slots := Array.replicate n.toNatClampNeg (defaultValue .byte), vm := .none } := by simp
  refine ⟨_, _, X'.more (Nat.le_refl _) (by show j + n.toNatClampNeg ≤ _; omega), rfl, ⟨by show T.heap.size ≤ (T.heap.push _).size; simp, fun a c q => ?_⟩, ⟨⟨_, ⟨hg, ⟨by simp, kZ, z1, comp, zk⟩, by simp⟩, by simp [hd], fun v hv => by rw [List.eq_of_mem_replicate hv]; exact hft⟩, ⟨_, kZ, hg, f1, z1, rfl, fun q => by rw [zk] at q; cases q⟩⟩, stp⟩
  show (T.heap.push _)[a]? = _
  rw [Array.getElem?_push_lt (Array.getElem?_eq_some_iff.mp q).1]; exact (Array.getElem?_eq_getElem _).symm.trans q
section StepsX
variable {l : Launch} {Z : State} {n0 : Nat} {R : Room} {K : Cx} {Q : Option Value → Heap → List Addr → Prop} {h : Heap} {sf : List Addr} {k j pc pc' : Nat} {ls ls' : Array Slot} {st : List Value} {own : String} {bytes : ByteArray} {maxL : Nat} {ret : Option FieldType} {nm : String}
theorem Go.lookupswitch {dflt : Int} {ps : Array (Int × Int)} {len : Nat} {x : Int32} (o : Int) (H : Ok Z K own bytes maxL ret nm) (d : decode bytes pc = .ok (.lookupswitch dflt ps, len)) (hs : (ps.toList.zip (ps.toList.drop 1)).all (fun (a, next) => a.1 < next.1) = true) (hx : Jvm.Op.lookupswitch.offset ps.toList dflt x.toInt = o) (ho : 0 ≤ (pc : Int) + o) (hp : ((pc : Int) + o).toNat = pc') (r : Go l Z n0 R K Q h sf k j pc' ls st) : Go l Z n0 R K Q h sf k j pc ls (.int x :: st) := by
  subst hp
  refine Go.of H (fun p e below T t m c hA hex hby hr => ?_) r
  have hd := hb hby d
  show Steps p.tables e below (T.setTop { method := m, pc := pc, locals := ls, stack := .int x :: st, locked := none }) _
  jvm_step hA [hA.top, hex, hd, Jvm.Op.lookupswitch.wp_chain, hx, ho]
  refine ⟨fun a b c' d' hm => ?_, hr⟩
  have q := List.all_eq_true.mp hs ((a, b), (c', d')) (by simpa using hm)
  simpa using q
theorem Go.tableswitch {dflt low high : Int} {offs : Array Int} {len : Nat} {x : Int32} {o : Int} (H : Ok Z K own bytes maxL ret nm) (d : decode bytes pc = .ok (.tableswitch dflt low high offs, len)) (hin : ¬ (x.toInt < low ∨ x.toInt > high)) (hoff : offs[(x.toInt - low).toNat]? = some o) (ho : 0 ≤ (pc : Int) + o) (hp : ((pc : Int) + o).toNat = pc') (r : Go l Z n0 R K Q h sf k j pc' ls st) : Go l Z n0 R K Q h sf k j pc ls (.int x :: st) :=
  Go.of H (fun p e below T t m c hA hx hby hr => XS.tswIn hA hx rfl (pc0 := pc) (pc' := pc') rfl (hb hby d) rfl hin hoff ho hp hr) r
end StepsX
def Sx (Z : State) (z : Int32) (f : Value) : Prop := Wds Z ∧ ¬ z = 0 ∧ Sta Z Z.heap "java/lang/String" "COMPACT_STRINGS" "Z" (.int z) ∧ f.isRef = true ∧ Sta Z Z.heap "jdk/internal/util/Preconditions" "SIOOBE_FORMATTER" "Ljava/util/function/BiFunction;" f
theorem d8_3 : decode jdk_52_method_21_code 3 = .ok (.iload 5, 2) := by decide +kernel
theorem d8_5 : decode jdk_52_method_21_code 5 = .ok (.iload 4, 2) := by decide +kernel
theorem d8_7 : decode jdk_52_method_21_code 7 = .ok (.if_icmp .ge 37, 3) := by decide +kernel
theorem d8_44 : decode jdk_52_method_21_code 44 = .ok (.iload 4, 2) := by decide +kernel
theorem d8_46 : decode jdk_52_method_21_code 46 = .ok (.ireturn, 1) := by decide +kernel
theorem d8_10 : decode jdk_52_method_21_code 10 = .ok (.aload_n 0, 1) := by decide +kernel
theorem d8_11 : decode jdk_52_method_21_code 11 = .ok (.iload_n 1, 1) := by decide +kernel
theorem d8_12 : decode jdk_52_method_21_code 12 = .ok (.caload, 1) := by decide +kernel
theorem d8_13 : decode jdk_52_method_21_code 13 = .ok (.istore 6, 2) := by decide +kernel
theorem d8_15 : decode jdk_52_method_21_code 15 = .ok (.iload 6, 2) := by decide +kernel
theorem d8_17 : decode jdk_52_method_21_code 17 = .ok (.sipush 255, 3) := by decide +kernel
theorem d8_20 : decode jdk_52_method_21_code 20 = .ok (.if_icmp .le 6, 3) := by decide +kernel
theorem d8_26 : decode jdk_52_method_21_code 26 = .ok (.aload_n 2, 1) := by decide +kernel
theorem d8_27 : decode jdk_52_method_21_code 27 = .ok (.iload_n 3, 1) := by decide +kernel
theorem d8_28 : decode jdk_52_method_21_code 28 = .ok (.iload 6, 2) := by decide +kernel
theorem d8_30 : decode jdk_52_method_21_code 30 = .ok (.i2b, 1) := by decide +kernel
theorem d8_31 : decode jdk_52_method_21_code 31 = .ok (.bastore, 1) := by decide +kernel
theorem d8_32 : decode jdk_52_method_21_code 32 = .ok (.iinc 1 1, 3) := by decide +kernel
theorem d8_35 : decode jdk_52_method_21_code 35 = .ok (.iinc 3 1, 3) := by decide +kernel
theorem d8_38 : decode jdk_52_method_21_code 38 = .ok (.iinc 5 1, 3) := by decide +kernel
theorem d8_41 : decode jdk_52_method_21_code 41 = .ok (.goto (-38), 3) := by decide +kernel
abbrev N0 : MethodName := ⟨"java/lang/StringUTF16", "compress", "([CI[BII)I"⟩

theorem own_full {Z : State} {h : Heap} {d : Addr} {cs : List Int32} {i : Nat} (e : i = cs.length) (F : Vec Z h d .byte ((cs.take i).map (nar .byte) ++ List.replicate 0 0)) : Vec Z h d .byte (cs.map (nar .byte)) := by
  subst e; simpa using F
theorem own_fill {cs : List Int32} {g : Int32 → Int32} {i m : Nat} {c : Int32} (hc : cs[i]? = some c) : ((cs.take i).map g ++ List.replicate (m + 1) 0).set i (g c) = (cs.take (i + 1)).map g ++ List.replicate m 0 := by
  have hl : i < cs.length := (List.getElem?_eq_some_iff.mp hc).1
  have h1 : ((cs.take i).map g).length = i := by simp; omega
  rw [List.set_append_right _ _ (by omega), h1, Nat.sub_self, List.replicate_succ, List.set_cons_zero, List.take_add_one, hc]; simp
set_option maxRecDepth 65536 in
theorem lp_cmp5 (l : Launch) {Z : State} {n0 : Nat} (a d : Addr) (cs : List Int32) (h0 : Heap) (hL : ∀ c ∈ cs, isL c) (hn : cs.length < 2 ^ 31) (zd : n0 ≤ d) (hne : a ≠ d) {R : Room} {K : Cx} (H : Ok Z K "java/lang/StringUTF16" jdk_52_method_21_code 7 (some .int) "compress") :
    ∀ (m i : Nat), i + m = cs.length → ∀ (h : Heap) (s6 : Slot), One s6 → Vec Z h a .char cs → Vec Z h d .byte ((cs.take i).map (nar .byte) ++ List.replicate m 0) → Keep h0 h [d] →
      Go l Z n0 R K (fun v h' sn => v = some (.int cs.length.toInt32) ∧ Keep h0 h' [d] ∧ Vec Z h' d .byte (cs.map (nar .byte)) ∧ sn = []) h [d] 0 0 3 #[.val (.ref a), .val (.int i.toInt32), .val (.ref d), .val (.int i.toInt32), .val (.int cs.length.toInt32), .val (.int i.toInt32), s6] [] := by
  intro m
  induction m with
  | zero =>
    intro i hi h s6 h6 Fa Fd KK
    refine Go.iload H d8_3 rfl rfl ?_
    refine Go.iload H d8_5 rfl rfl ?_
    refine Go.icmpY (pc' := 44) H d8_7 (flt (own_nlt (by omega) (by omega))).2.1 (by decide) (by decide) ?_
    refine Go.iload H d8_44 rfl rfl ?_
    exact Go.ireturnI [] H d8_46 ⟨rfl, KK, own_full (by omega) Fd, rfl⟩ all0 (Nat.zero_le _) (Nat.zero_le _)
  | succ m ih =>
    intro i hi h s6 h6 Fa Fd KK
    have hlt : i < cs.length := by omega
    obtain ⟨c, hc⟩ : ∃ c, cs[i]? = some c := ⟨_, List.getElem?_eq_getElem hlt⟩
    have hLc : isL c := hL c (List.mem_of_getElem? hc)
    refine Go.iload H d8_3 rfl rfl ?_
    refine Go.iload H d8_5 rfl rfl ?_
    refine Go.icmpN H d8_7 (tlt (own_lt hn hlt)).2.1 rfl ?_
    refine Go.aloadN H d8_10 rfl rfl rfl ?_
    refine Go.iloadN H d8_11 rfl rfl ?_
    refine Go.caload (v := c) H d8_12 rfl Fa i (own_cl (by omega)) (own_n0 (by omega)) hc ?_
    refine Go.istore (ls' := #[.val (.ref a), .val (.int i.toInt32), .val (.ref d), .val (.int i.toInt32), .val (.int cs.length.toInt32), .val (.int i.toInt32), .val (.int c)]) H d8_13 rfl (XS.store1 rfl h6 rfl) ?_
    refine Go.iload H d8_15 rfl rfl ?_
    refine Go.sipush (255 : Int32) H d8_17 rfl rfl ?_
    refine Go.icmpY (pc' := 26) H d8_20 (flt (own_le255 hLc)).2.2.2 (by decide) (by decide) ?_
    refine Go.aloadN H d8_26 rfl rfl rfl ?_
    refine Go.iloadN H d8_27 rfl rfl ?_
    refine Go.iload H d8_28 rfl rfl ?_
    refine Go.i2b H d8_30 rfl ?_
    refine Go.bastore (nar .byte c) H d8_31 rfl Fd i (own_cl (by omega)) (own_n0 (by omega)) (by simp; omega) own_nb zd (by simp) ?_
    intro h1 K2 F3
    replace Fa := Fa.keep K2 (ninS hne nin0)
    replace KK := KK.trans K2 (allS (Or.inl (by simp)) all0)
    refine Go.iinc (ls' := #[.val (.ref a), .val (.int (i.toInt32 + (1 : Int32))), .val (.ref d), .val (.int i.toInt32), .val (.int cs.length.toInt32), .val (.int i.toInt32), .val (.int c)]) (1 : Int32) H d8_32 rfl rfl rfl rfl ?_
    refine Go.iinc (ls' := #[.val (.ref a), .val (.int (i.toInt32 + (1 : Int32))), .val (.ref d), .val (.int (i.toInt32 + (1 : Int32))), .val (.int cs.length.toInt32), .val (.int i.toInt32), .val (.int c)]) (1 : Int32) H d8_35 rfl rfl rfl rfl ?_
    refine Go.iinc (ls' := #[.val (.ref a), .val (.int (i.toInt32 + (1 : Int32))), .val (.ref d), .val (.int (i.toInt32 + (1 : Int32))), .val (.int cs.length.toInt32), .val (.int (i.toInt32 + (1 : Int32))), .val (.int c)]) (1 : Int32) H d8_38 rfl rfl rfl rfl ?_
    refine Go.goto (pc' := 3) H d8_41 (by decide) (by decide) ?_
    rw [own_fill hc] at F3
    rw [own_s i]
    exact ih (i + 1) (by omega) _ _ (One.val rfl) Fa F3 KK
theorem d8_0 : decode jdk_52_method_21_code 0 = .ok (.iconst 0, 1) := by decide +kernel
theorem d8_1 : decode jdk_52_method_21_code 1 = .ok (.istore 5, 2) := by decide +kernel
theorem pn_N0 : plainName N0.cls = true := by first | (simp [plainName, overriddenIn]; done) | decide +kernel

abbrev rm_cmp5 : Room := { frames := 0, cells := 0, slots := 0, locals := 0 }
set_option maxRecDepth 65536 in
set_option maxHeartbeats 4000000 in
theorem ct_cmp5 (l : Launch) {Z : State} {n0 : Nat} {z : Int32} {f : Value} (W : Sx Z z f) (a d : Addr) (cs : List Int32) (h : Heap) (Fa : Vec Z h a .char cs) (Fd : Vec Z h d .byte (List.replicate cs.length 0)) (hL : ∀ c ∈ cs, isL c) (hn : cs.length < 2 ^ 31) (zd : n0 ≤ d) (hne : a ≠ d) :
    Ctr l Z n0 N0 jdk_52_method_21_code 7 (some .int) rm_cmp5 #[(.ref a), (.int (0 : Int32)), (.ref d), (.int (0 : Int32)), (.int cs.length.toInt32)] h [d] (fun v h' sn => v = some (.int cs.length.toInt32) ∧ Keep h h' [d] ∧ Vec Z h' d .byte (cs.map (nar .byte)) ∧ sn = []) := by
  refine Ctr.of_go (ls := #[.val (.ref a), .val (.int (0 : Int32)), .val (.ref d), .val (.int (0 : Int32)), .val (.int cs.length.toInt32), .unset, .unset]) W.1 (plainFor_of_name pn_N0) (fun m => by first | (simp [entryFrame, mkF, argsToLocals, Value.category]; done) | rfl) (fun K H => ?_)
  refine Go.iconst (0 : Int32) H d8_0 rfl rfl ?_
  refine Go.istore (ls' := #[.val (.ref a), .val (.int (0 : Int32)), .val (.ref d), .val (.int (0 : Int32)), .val (.int cs.length.toInt32), .val (.int (0 : Int32)), .unset]) H d8_1 rfl rfl ?_
  exact lp_cmp5 l a d cs h hL hn zd hne H cs.length 0 (by omega) h _ One.u Fa (by simpa using Fd) (Keep.refl _ _)
theorem d7_0 : decode jdk_52_method_16_code 0 = .ok (.iload_n 2, 1) := by decide +kernel
theorem d7_1 : decode jdk_52_method_16_code 1 = .ok (.newarray .byte, 2) := by decide +kernel
theorem w30 : Jvm.Cond.arrayClass Jvm.ClassFile.FieldType.byte ∈ tables_1 := List.mem_of_getElem? (i := 30) rfl
theorem d7_3 : decode jdk_52_method_16_code 3 = .ok (.astore_n 3, 1) := by decide +kernel
theorem d7_4 : decode jdk_52_method_16_code 4 = .ok (.aload_n 0, 1) := by decide +kernel
theorem d7_5 : decode jdk_52_method_16_code 5 = .ok (.iload_n 1, 1) := by decide +kernel
theorem d7_6 : decode jdk_52_method_16_code 6 = .ok (.aload_n 3, 1) := by decide +kernel
theorem d7_7 : decode jdk_52_method_16_code 7 = .ok (.iconst 0, 1) := by decide +kernel
theorem d7_8 : decode jdk_52_method_16_code 8 = .ok (.iload_n 2, 1) := by decide +kernel
theorem d7_9 : decode jdk_52_method_16_code 9 = .ok (.invokestatic 115, 3) := by decide +kernel
theorem w33 : Jvm.Cond.code N0 jdk_52_method_21_code (7 : Nat) (Option.some Jvm.ClassFile.FieldType.int) ∈ tables_1 := List.mem_of_getElem? (i := 33) rfl
theorem w28 : Jvm.Cond.initialized "java/lang/StringUTF16" ∈ tables_1 := List.mem_of_getElem? (i := 28) rfl
theorem pd_N0 : parseMethodDescriptor N0.desc = some ⟨[(.array .char), .int, (.array .byte), .int, .int], (some .int)⟩ := by decide +kernel
theorem nh_N0 : N0.cls ≠ "java/lang/invoke/MethodHandle" ∧ N0.cls ≠ "java/lang/invoke/VarHandle" := by decide
theorem w31 : Jvm.Cond.methodLink "java/lang/StringUTF16" (115 : Nat) N0 ∈ tables_1 := List.mem_of_getElem? (i := 31) rfl
theorem w32 : Jvm.Cond.static N0 ∈ tables_1 := List.mem_of_getElem? (i := 32) rfl
theorem d7_12 : decode jdk_52_method_16_code 12 = .ok (.istore 4, 2) := by decide +kernel
theorem d7_14 : decode jdk_52_method_16_code 14 = .ok (.iload 4, 2) := by decide +kernel
theorem d7_16 : decode jdk_52_method_16_code 16 = .ok (.iload_n 2, 1) := by decide +kernel
theorem d7_17 : decode jdk_52_method_16_code 17 = .ok (.if_icmp .eq 40, 3) := by decide +kernel
theorem d7_57 : decode jdk_52_method_16_code 57 = .ok (.aload_n 3, 1) := by decide +kernel
theorem d7_58 : decode jdk_52_method_16_code 58 = .ok (.areturn, 1) := by decide +kernel
abbrev N1 : MethodName := ⟨"java/lang/StringUTF16", "compress", "([CII)[B"⟩

abbrev rm_cmp3 : Room := { frames := 1, cells := 1, slots := 4, locals := 18 }
set_option maxRecDepth 65536 in
set_option maxHeartbeats 4000000 in
theorem ct_cmp3 (l : Launch) {Z : State} {n0 : Nat} {z : Int32} {f : Value} (W : Sx Z z f) (a : Addr) (cs : List Int32) (h : Heap) (Fa : Vec Z h a .char cs) (hL : ∀ c ∈ cs, isL c) (hn : cs.length ≤ 4) :
    Ctr l Z n0 N1 jdk_52_method_16_code 6 (some (.array .byte)) rm_cmp3 #[(.ref a), (.int (0 : Int32)), (.int cs.length.toInt32)] h [] (fun v h' sn => ∃ b, v = some (.ref b) ∧ Ext h h' ∧ h.size ≤ b ∧ Vec Z h' b .byte (cs.map (nar .byte)) ∧ Exa Z h' b "[B" ∧ sn = []) := by
  refine Ctr.of_go (ls := #[.val (.ref a), .val (.int (0 : Int32)), .val (.int cs.length.toInt32), .unset, .unset, .unset]) W.1 (plainFor_of_name pn_N0) (fun m => by first | (simp [entryFrame, mkF, argsToLocals, Value.category]; done) | rfl) (fun K H => ?_)
  have KK : Keep h h [] := Keep.refl _ _
  refine Go.iloadN H d7_0 rfl rfl ?_
  refine Go.newarrayB cs.length 4 H d7_1 rfl w30 rfl (by decide) (own_n0 (by omega)) (own_cl (by omega)) hn (by decide) (by decide) (by decide) ?_
  intro a1 h2 g3 z4 E5 F6 X7
  have ne8 : a ≠ a1 := Nat.ne_of_lt (Nat.lt_of_lt_of_le Fa.lt (Nat.le_of_eq g3.symm))
  have sz9 := Nat.le_trans KK.1 (Nat.le_of_eq g3.symm)
  replace Fa := Fa.ext E5
  replace KK := KK.ext E5
  show Go _ _ _ _ _ _ h2 [a1] 1 4 3 #[.val (.ref a), .val (.int (0 : Int32)), .val (.int cs.length.toInt32), .unset, .unset, .unset] [(.ref a1)]
  refine Go.astoreN (ls' := #[.val (.ref a), .val (.int (0 : Int32)), .val (.int cs.length.toInt32), .val (.ref a1), .unset, .unset]) H d7_3 rfl rfl rfl ?_
  refine Go.aloadN H d7_4 rfl rfl rfl ?_
  refine Go.iloadN H d7_5 rfl rfl ?_
  refine Go.aloadN H d7_6 rfl rfl rfl ?_
  refine Go.iconst (0 : Int32) H d7_7 rfl rfl ?_
  refine Go.iloadN H d7_8 rfl rfl ?_
  refine Go.callS (rest := []) 0 [(.ref a), (.int (0 : Int32)), (.ref a1), (.int (0 : Int32)), (.int cs.length.toInt32)] H d7_9 rfl w31 w32 w28 w33 pd_N0 (ct_cmp5 l W a a1 cs h2 Fa F6 hL (by omega) z4 ne8) (by simp) rfl rfl rfl (Nat.le_of_eq rfl) (by decide) (by decide) (by decide) (by decide) nh_N0 ?_
  rintro _ h10 _ ⟨rfl, K11, F12, rfl⟩
  replace Fa := Fa.keep K11 (ninS ne8 nin0)
  replace X7 := X7.keep K11
  replace KK := KK.trans K11 (allS (Or.inr sz9) all0)
  show Go _ _ _ _ _ _ h10 [a1] 1 4 12 #[.val (.ref a), .val (.int (0 : Int32)), .val (.int cs.length.toInt32), .val (.ref a1), .unset, .unset] [(.int cs.length.toInt32)]
  refine Go.istore (ls' := #[.val (.ref a), .val (.int (0 : Int32)), .val (.int cs.length.toInt32), .val (.ref a1), .val (.int cs.length.toInt32), .unset]) H d7_12 rfl rfl ?_
  refine Go.iload H d7_14 rfl rfl ?_
  refine Go.iloadN H d7_16 rfl rfl ?_
  refine Go.icmpY (pc' := 57) H d7_17 (teq rfl).1 (by decide) (by decide) ?_
  refine Go.aloadN H d7_57 rfl rfl rfl ?_
  exact Go.areturn [] H d7_58 rfl rfl (own_narR rfl) ⟨_, rfl, own_ext KK, Nat.le_of_eq g3.symm, F12, X7, rfl⟩ all0 (by decide) (by decide)
theorem own_cod (x : Int32) : nar .byte (((x - x).toUInt32 >>> ((31 : Int32) &&& 31).toUInt32).toInt32) = 0 := by rw [Int32.sub_self]; decide
theorem d9_0 : decode jdk_52_method_15_code 0 = .ok (.iload_n 1, 1) := by decide +kernel
theorem d9_1 : decode jdk_52_method_15_code 1 = .ok (.aload_n 0, 1) := by decide +kernel
theorem d9_2 : decode jdk_52_method_15_code 2 = .ok (.arraylength, 1) := by decide +kernel
theorem d9_3 : decode jdk_52_method_15_code 3 = .ok (.isub, 1) := by decide +kernel
theorem d9_4 : decode jdk_52_method_15_code 4 = .ok (.bipush 31, 2) := by decide +kernel
theorem d9_6 : decode jdk_52_method_15_code 6 = .ok (.iushr, 1) := by decide +kernel
theorem d9_7 : decode jdk_52_method_15_code 7 = .ok (.i2b, 1) := by decide +kernel
theorem d9_8 : decode jdk_52_method_15_code 8 = .ok (.ireturn, 1) := by decide +kernel
abbrev N2 : MethodName := ⟨"java/lang/StringUTF16", "coderFromArrayLen", "([BI)B"⟩

abbrev rm_codl : Room := { frames := 0, cells := 0, slots := 0, locals := 0 }
set_option maxRecDepth 65536 in
set_option maxHeartbeats 4000000 in
theorem ct_codl (l : Launch) {Z : State} {n0 : Nat} {z : Int32} {f : Value} (W : Sx Z z f) (b : Addr) (bs : List Int32) (n : Int32) (h : Heap) (Fb : Vec Z h b .byte bs) (hb : bs.length.toInt32 = n) :
    Ctr l Z n0 N2 jdk_52_method_15_code 2 (some .byte) rm_codl #[(.ref b), (.int n)] h [] (fun v h' sn => v = some (.int 0) ∧ h = h' ∧ sn = []) := by
  refine Ctr.of_go (ls := #[.val (.ref b), .val (.int n)]) W.1 (plainFor_of_name pn_N0) (fun m => by first | (simp [entryFrame, mkF, argsToLocals, Value.category]; done) | rfl) (fun K H => ?_)
  refine Go.iloadN H d9_0 rfl rfl ?_
  refine Go.aloadN H d9_1 rfl rfl rfl ?_
  refine Go.arraylength n H d9_2 rfl Fb hb ?_
  refine Go.isub H d9_3 rfl ?_
  refine Go.bipush (31 : Int32) H d9_4 rfl rfl ?_
  refine Go.iushr H d9_6 rfl ?_
  refine Go.i2b H d9_7 rfl ?_
  exact Go.ireturn (0 : Int32) [] H d9_8 (by simp) (own_nb.trans (own_cod _)) ⟨rfl, rfl, rfl⟩ all0 (by decide) (by decide)
theorem w13 : Jvm.Cond.instantiable "java/lang/String" (4 : Nat) ∈ tables_1 := List.mem_of_getElem? (i := 13) rfl
theorem d5_0 : decode jdk_42_method_149_code 0 = .ok (.aload_n 0, 1) := by decide +kernel
theorem d5_1 : decode jdk_42_method_149_code 1 = .ok (.invokespecial 1, 3) := by decide +kernel
abbrev N3 : MethodName := ⟨"java/lang/Object", "<init>", "()V"⟩
theorem w22 : Jvm.Cond.methodLink "java/lang/String" (1 : Nat) N3 ∈ tables_1 := List.mem_of_getElem? (i := 22) rfl
theorem w23 : Jvm.Cond.instanceMethod N3 ∈ tables_1 := List.mem_of_getElem? (i := 23) rfl
theorem w24 : Jvm.Cond.code N3 object_method_1_code (1 : Nat) (Option.none : Option Jvm.ClassFile.FieldType) ∈ tables_1 := List.mem_of_getElem? (i := 24) rfl
theorem d5_4 : decode jdk_42_method_149_code 4 = .ok (.iload_n 3, 1) := by decide +kernel
theorem d5_5 : decode jdk_42_method_149_code 5 = .ok (.ifCond .ne 22, 3) := by decide +kernel
theorem d5_27 : decode jdk_42_method_149_code 27 = .ok (.getstatic 38, 3) := by decide +kernel
theorem w25 : Jvm.Cond.fieldLink "java/lang/String" (38 : Nat) "java/lang/String" "COMPACT_STRINGS" "Z" ∈ tables_1 := List.mem_of_getElem? (i := 25) rfl
theorem d5_30 : decode jdk_42_method_149_code 30 = .ok (.ifCond .eq 28, 3) := by decide +kernel
theorem d5_33 : decode jdk_42_method_149_code 33 = .ok (.aload_n 1, 1) := by decide +kernel
theorem d5_34 : decode jdk_42_method_149_code 34 = .ok (.iload_n 2, 1) := by decide +kernel
theorem d5_35 : decode jdk_42_method_149_code 35 = .ok (.iload_n 3, 1) := by decide +kernel
theorem d5_36 : decode jdk_42_method_149_code 36 = .ok (.invokestatic 177, 3) := by decide +kernel
theorem w29 : Jvm.Cond.code N1 jdk_52_method_16_code (6 : Nat) (Option.some (Jvm.ClassFile.FieldType.array Jvm.ClassFile.FieldType.byte)) ∈ tables_1 := List.mem_of_getElem? (i := 29) rfl
theorem pd_N1 : parseMethodDescriptor N1.desc = some ⟨[(.array .char), .int, .int], (some (.array .byte))⟩ := by decide +kernel
theorem w26 : Jvm.Cond.methodLink "java/lang/String" (177 : Nat) N1 ∈ tables_1 := List.mem_of_getElem? (i := 26) rfl
theorem w27 : Jvm.Cond.static N1 ∈ tables_1 := List.mem_of_getElem? (i := 27) rfl
theorem d5_39 : decode jdk_42_method_149_code 39 = .ok (.astore 5, 2) := by decide +kernel
theorem d5_41 : decode jdk_42_method_149_code 41 = .ok (.aload_n 0, 1) := by decide +kernel
theorem d5_42 : decode jdk_42_method_149_code 42 = .ok (.aload 5, 2) := by decide +kernel
theorem d5_44 : decode jdk_42_method_149_code 44 = .ok (.iload_n 3, 1) := by decide +kernel
theorem d5_45 : decode jdk_42_method_149_code 45 = .ok (.invokestatic 47, 3) := by decide +kernel
theorem w36 : Jvm.Cond.code N2 jdk_52_method_15_code (2 : Nat) (Option.some Jvm.ClassFile.FieldType.byte) ∈ tables_1 := List.mem_of_getElem? (i := 36) rfl
theorem pd_N2 : parseMethodDescriptor N2.desc = some ⟨[(.array .byte), .int], (some .byte)⟩ := by decide +kernel
theorem w34 : Jvm.Cond.methodLink "java/lang/String" (47 : Nat) N2 ∈ tables_1 := List.mem_of_getElem? (i := 34) rfl
theorem w35 : Jvm.Cond.static N2 ∈ tables_1 := List.mem_of_getElem? (i := 35) rfl
theorem d5_48 : decode jdk_42_method_149_code 48 = .ok (.putfield 15, 3) := by decide +kernel
theorem w37 : Jvm.Cond.fieldLink "java/lang/String" (15 : Nat) "java/lang/String" "coder" "B" ∈ tables_1 := List.mem_of_getElem? (i := 37) rfl
theorem w38 : Jvm.Cond.laysFinal "java/lang/String" "java/lang/String" "coder" "B" ∈ tables_1 := List.mem_of_getElem? (i := 38) rfl
theorem w40 : Jvm.Cond.laysFinal "java/lang/String" "java/lang/String" "value" "[B" ∈ tables_1 := List.mem_of_getElem? (i := 40) rfl
theorem w134 : Jvm.Cond.lays "java/lang/String" "java/lang/String" "hash" "I" ∈ tables_1 := List.mem_of_getElem? (i := 134) rfl
theorem w136 : Jvm.Cond.lays "java/lang/String" "java/lang/String" "hashIsZero" "Z" ∈ tables_1 := List.mem_of_getElem? (i := 136) rfl
theorem d5_51 : decode jdk_42_method_149_code 51 = .ok (.aload_n 0, 1) := by decide +kernel
theorem d5_52 : decode jdk_42_method_149_code 52 = .ok (.aload 5, 2) := by decide +kernel
theorem d5_54 : decode jdk_42_method_149_code 54 = .ok (.putfield 9, 3) := by decide +kernel
theorem w39 : Jvm.Cond.fieldLink "java/lang/String" (9 : Nat) "java/lang/String" "value" "[B" ∈ tables_1 := List.mem_of_getElem? (i := 39) rfl
theorem d5_57 : decode jdk_42_method_149_code 57 = .ok (.return_, 1) := by decide +kernel
abbrev N4 : MethodName := ⟨"java/lang/String", "<init>", "([CIILjava/lang/Void;)V"⟩
theorem pn_N4 : plainName N4.cls = true := by first | (simp [plainName, overriddenIn]; done) | decide +kernel

abbrev rm_new4 : Room := { frames := 2, cells := 1, slots := 4, locals := 35 }
set_option maxRecDepth 65536 in
set_option maxHeartbeats 4000000 in
theorem ct_new4 (l : Launch) {Z : State} {n0 : Nat} {z : Int32} {f : Value} (W : Sx Z z f) (x a : Addr) (cs : List Int32) (h : Heap) (A : Exa Z h x "java/lang/String") (Fv : Fld Z h x "java/lang/String" "value" "[B" .null) (Fc : Fld Z h x "java/lang/String" "coder" "B" (.int 0)) (Fh : Fld Z h x "java/lang/String" "hash" "I" (.int 0)) (Fz : Fld Z h x "java/lang/String" "hashIsZero" "Z" (.int 0)) (Fa : Vec Z h a .char cs) (hL : ∀ c ∈ cs, isL c) (hn : cs.length ≤ 4) (hp : 0 < cs.length) (zx : n0 ≤ x) :
    Ctr l Z n0 N4 jdk_42_method_149_code 6 none rm_new4 #[(.ref x), (.ref a), (.int (0 : Int32)), (.int cs.length.toInt32), .null] h [x] (fun v h' sn => v = none ∧ Keep h h' [x] ∧ (∃ b, h.size ≤ b ∧ Str Z h' x b cs ∧ Fld Z h' x "java/lang/String" "hash" "I" (.int 0) ∧ Fld Z h' x "java/lang/String" "hashIsZero" "Z" (.int 0) ∧ Exa Z h' b "[B") ∧ sn = []) := by
  refine Ctr.of_go (ls := #[.val (.ref x), .val (.ref a), .val (.int (0 : Int32)), .val (.int cs.length.toInt32), .val .null, .unset]) W.1 (plainFor_of_name pn_N4) (fun m => by first | (simp [entryFrame, mkF, argsToLocals, Value.category]; done) | rfl) (fun K H => ?_)
  have KK : Keep h h [x] := Keep.refl _ _
  have hax : a ≠ x := Vec.neExa Fa A W.1 w13
  refine Go.aloadN H d5_0 rfl rfl rfl ?_
  refine Go.initObj H d5_1 rfl w22 w23 w24 0 rfl (Nat.le_of_eq rfl) (by decide) (by decide) ?_
  refine Go.iloadN H d5_4 rfl rfl ?_
  refine Go.ifY (pc' := 27) H d5_5 (feq (own_ne0 (by omega) hp)).2 (by decide) (by decide) ?_
  refine Go.getstatic H d5_27 rfl w25 W.2.2.1 ?_
  refine Go.ifN H d5_30 (feq W.2.1).1 rfl ?_
  refine Go.aloadN H d5_33 rfl rfl rfl ?_
  refine Go.iloadN H d5_34 rfl rfl ?_
  refine Go.iloadN H d5_35 rfl rfl ?_
  refine Go.callS (rest := []) 0 [(.ref a), (.int (0 : Int32)), (.int cs.length.toInt32)] H d5_36 rfl w26 w27 w28 w29 pd_N1 (ct_cmp3 l W a cs h Fa hL hn) all0 rfl rfl rfl (Nat.le_of_eq rfl) (by decide) (by decide) (by decide) (by decide) nh_N0 ?_
  rintro _ h2 _ ⟨b1, rfl, E3, g4, F5, X6, rfl⟩
  have ne7 : x ≠ b1 := Nat.ne_of_lt (Nat.lt_of_lt_of_le A.lt g4)
  have ne8 : a ≠ b1 := Nat.ne_of_lt (Nat.lt_of_lt_of_le Fa.lt g4)
  replace A := A.ext E3
  replace Fv := Fv.ext E3
  replace Fc := Fc.ext E3
  replace Fa := Fa.ext E3
  replace Fh := Fh.ext E3
  replace Fz := Fz.ext E3
  replace KK := KK.ext E3
  show Go _ _ _ _ _ _ h2 [x] 1 4 39 #[.val (.ref x), .val (.ref a), .val (.int (0 : Int32)), .val (.int cs.length.toInt32), .val .null, .unset] [(.ref b1)]
  refine Go.astore (ls' := #[.val (.ref x), .val (.ref a), .val (.int (0 : Int32)), .val (.int cs.length.toInt32), .val .null, .val (.ref b1)]) H d5_39 rfl rfl rfl ?_
  refine Go.aloadN H d5_41 rfl rfl rfl ?_
  refine Go.aload H d5_42 rfl rfl rfl ?_
  refine Go.iloadN H d5_44 rfl rfl ?_
  refine Go.callS (rest := [(.ref x)]) 1 [(.ref b1), (.int cs.length.toInt32)] H d5_45 rfl w34 w35 w28 w36 pd_N2 (ct_codl l W b1 _ cs.length.toInt32 h2 F5 (by rw [List.length_map])) all0 rfl rfl rfl (Nat.le_of_eq rfl) (by decide) (by decide) (by decide) (by decide) nh_N0 ?_
  rintro _ _ _ ⟨rfl, rfl, rfl⟩
  show Go _ _ _ _ _ _ h2 [x] 1 4 48 #[.val (.ref x), .val (.ref a), .val (.int (0 : Int32)), .val (.int cs.length.toInt32), .val .null, .val (.ref b1)] [(.int (0 : Int32)), (.ref x)]
  refine Go.putfield (v := (.int (0 : Int32))) H d5_48 rfl w37 Fc A (Or.inr ⟨w38, rfl, rfl⟩) w13 (ty := .byte) (by decide) (by decide) (by decide) zx (by simp) ?_
  intro h9 Wr10
  have F11 := Fc.same Wr10
  have K12 := Keep.of_wr Wr10
  replace A := A.wr Wr10
  replace Fv := Fv.other Wr10 (Or.inr (own_sne W.1 (Or.inr w40) (Or.inr w38) (by decide) (t := (.array .byte)) (t' := .byte) (by decide) (by decide)))
  replace Fa := Fa.keep K12 (ninS hax nin0)
  replace Fh := Fh.other Wr10 (Or.inr (own_sne W.1 (Or.inl w134) (Or.inr w38) (by decide) (t := .int) (t' := .byte) (by decide) (by decide)))
  replace Fz := Fz.other Wr10 (Or.inr (own_sne W.1 (Or.inl w136) (Or.inr w38) (by decide) (t := .boolean) (t' := .byte) (by decide) (by decide)))
  replace F5 := F5.keep K12 (ninS (Ne.symm ne7) nin0)
  replace X6 := X6.wr Wr10
  replace KK := KK.wr Wr10 (Or.inl (by simp))
  refine Go.aloadN H d5_51 rfl rfl rfl ?_
  refine Go.aload H d5_52 rfl rfl rfl ?_
  refine Go.putfield (v := (.ref b1)) H d5_54 rfl w39 Fv A (Or.inr ⟨w40, rfl, rfl⟩) w13 (ty := (.array .byte)) (by decide) rfl rfl zx (by simp) ?_
  intro h13 Wr14
  have F15 := Fv.same Wr14
  have K16 := Keep.of_wr Wr14
  replace A := A.wr Wr14
  replace Fa := Fa.keep K16 (ninS hax nin0)
  replace Fh := Fh.other Wr14 (Or.inr (own_sne W.1 (Or.inl w134) (Or.inr w40) (by decide) (t := .int) (t' := (.array .byte)) (by decide) (by decide)))
  replace Fz := Fz.other Wr14 (Or.inr (own_sne W.1 (Or.inl w136) (Or.inr w40) (by decide) (t := .boolean) (t' := (.array .byte)) (by decide) (by decide)))
  replace F5 := F5.keep K16 (ninS (Ne.symm ne7) nin0)
  replace X6 := X6.wr Wr14
  replace F11 := F11.other Wr14 (Or.inr (own_sne W.1 (Or.inr w38) (Or.inr w40) (by decide) (t := .byte) (t' := (.array .byte)) (by decide) (by decide)))
  replace KK := KK.wr Wr14 (Or.inl (by simp))
  exact Go.return_ [] H d5_57 ⟨rfl, KK, ⟨_, g4, ⟨A, F15, F11, F5, hL, by omega⟩, Fh, Fz, X6⟩, rfl⟩ all0 (by decide) (by decide)
theorem d4_0 : decode jdk_42_method_3_code 0 = .ok (.aload_n 0, 1) := by decide +kernel
theorem d4_1 : decode jdk_42_method_3_code 1 = .ok (.aload_n 1, 1) := by decide +kernel
theorem d4_2 : decode jdk_42_method_3_code 2 = .ok (.iconst 0, 1) := by decide +kernel
theorem d4_3 : decode jdk_42_method_3_code 3 = .ok (.aload_n 1, 1) := by decide +kernel
theorem d4_4 : decode jdk_42_method_3_code 4 = .ok (.arraylength, 1) := by decide +kernel
theorem d4_5 : decode jdk_42_method_3_code 5 = .ok (.aconst_null, 1) := by decide +kernel
theorem d4_6 : decode jdk_42_method_3_code 6 = .ok (.invokespecial 27, 3) := by decide +kernel
theorem w21 : Jvm.Cond.code N4 jdk_42_method_149_code (6 : Nat) (Option.none : Option Jvm.ClassFile.FieldType) ∈ tables_1 := List.mem_of_getElem? (i := 21) rfl
theorem w14 : Jvm.Cond.initialized "java/lang/String" ∈ tables_1 := List.mem_of_getElem? (i := 14) rfl
theorem pd_N4 : parseMethodDescriptor N4.desc = some ⟨[(.array .char), .int, .int, (.object "java/lang/Void")], none⟩ := by decide +kernel
theorem nh_N4 : N4.cls ≠ "java/lang/invoke/MethodHandle" ∧ N4.cls ≠ "java/lang/invoke/VarHandle" := by decide
theorem w18 : Jvm.Cond.methodLink "java/lang/String" (27 : Nat) N4 ∈ tables_1 := List.mem_of_getElem? (i := 18) rfl
theorem w19 : Jvm.Cond.instanceMethod N4 ∈ tables_1 := List.mem_of_getElem? (i := 19) rfl
theorem d4_9 : decode jdk_42_method_3_code 9 = .ok (.return_, 1) := by decide +kernel
abbrev N5 : MethodName := ⟨"java/lang/String", "<init>", "([C)V"⟩

abbrev rm_new1 : Room := { frames := 3, cells := 1, slots := 4, locals := 52 }
set_option maxRecDepth 65536 in
set_option maxHeartbeats 4000000 in
theorem ct_new1 (l : Launch) {Z : State} {n0 : Nat} {z : Int32} {f : Value} (W : Sx Z z f) (x a : Addr) (cs : List Int32) (h : Heap) (A : Exa Z h x "java/lang/String") (Fv : Fld Z h x "java/lang/String" "value" "[B" .null) (Fc : Fld Z h x "java/lang/String" "coder" "B" (.int 0)) (Fh : Fld Z h x "java/lang/String" "hash" "I" (.int 0)) (Fz : Fld Z h x "java/lang/String" "hashIsZero" "Z" (.int 0)) (Fa : Vec Z h a .char cs) (hL : ∀ c ∈ cs, isL c) (hn : cs.length ≤ 4) (hp : 0 < cs.length) (zx : n0 ≤ x) :
    Ctr l Z n0 N5 jdk_42_method_3_code 2 none rm_new1 #[(.ref x), (.ref a)] h [x] (fun v h' sn => v = none ∧ Keep h h' [x] ∧ (∃ b, h.size ≤ b ∧ Str Z h' x b cs ∧ Fld Z h' x "java/lang/String" "hash" "I" (.int 0) ∧ Fld Z h' x "java/lang/String" "hashIsZero" "Z" (.int 0) ∧ Exa Z h' b "[B") ∧ sn = []) := by
  refine Ctr.of_go (ls := #[.val (.ref x), .val (.ref a)]) W.1 (plainFor_of_name pn_N4) (fun m => by first | (simp [entryFrame, mkF, argsToLocals, Value.category]; done) | rfl) (fun K H => ?_)
  have hax : a ≠ x := Vec.neExa Fa A W.1 w13
  refine Go.aloadN H d4_0 rfl rfl rfl ?_
  refine Go.aloadN H d4_1 rfl rfl rfl ?_
  refine Go.iconst (0 : Int32) H d4_2 rfl rfl ?_
  refine Go.aloadN H d4_3 rfl rfl rfl ?_
  refine Go.arraylength cs.length.toInt32 H d4_4 rfl Fa rfl ?_
  refine Go.aconstNull H d4_5 rfl ?_
  refine Go.callI (rest := []) 0 [(.ref a), (.int (0 : Int32)), (.int cs.length.toInt32), .null] H d4_6 rfl rfl w18 w19 w14 w21 pd_N4 (ct_new4 l W x a cs h A Fv Fc Fh Fz Fa hL hn hp zx) (by simp) rfl rfl rfl (Nat.le_of_eq rfl) (by decide) (by decide) (by decide) (by decide) nh_N4 ?_
  rintro _ h1 _ ⟨rfl, K2, ⟨b3, g4, S5, F6, F7, X8⟩, rfl⟩
  have ne9 : x ≠ b3 := Nat.ne_of_lt (Nat.lt_of_lt_of_le A.lt g4)
  have ne10 : a ≠ b3 := Nat.ne_of_lt (Nat.lt_of_lt_of_le Fa.lt g4)
  replace Fa := Fa.keep K2 (ninS hax nin0)
  show Go _ _ _ _ _ _ h1 [x] 1 4 9 #[.val (.ref x), .val (.ref a)] []
  exact Go.return_ [] H d4_9 ⟨rfl, K2, ⟨_, g4, S5, F6, F7, X8⟩, rfl⟩ all0 (by decide) (by decide)
theorem d15_0 : decode jdk_42_method_154_code 0 = .ok (.getstatic 38, 3) := by decide +kernel
theorem d15_3 : decode jdk_42_method_154_code 3 = .ok (.ifCond .eq 14, 3) := by decide +kernel
theorem d15_6 : decode jdk_42_method_154_code 6 = .ok (.aload_n 0, 1) := by decide +kernel
theorem d15_7 : decode jdk_42_method_154_code 7 = .ok (.getfield 15, 3) := by decide +kernel
theorem d15_10 : decode jdk_42_method_154_code 10 = .ok (.ifCond .ne 7, 3) := by decide +kernel
theorem d15_13 : decode jdk_42_method_154_code 13 = .ok (.iconst 1, 1) := by decide +kernel
theorem d15_14 : decode jdk_42_method_154_code 14 = .ok (.goto 4, 3) := by decide +kernel
theorem d15_18 : decode jdk_42_method_154_code 18 = .ok (.ireturn, 1) := by decide +kernel
abbrev N6 : MethodName := ⟨"java/lang/String", "isLatin1", "()Z"⟩

abbrev rm_isl : Room := { frames := 0, cells := 0, slots := 0, locals := 0 }
set_option maxRecDepth 65536 in
set_option maxHeartbeats 4000000 in
theorem ct_isl (l : Launch) {Z : State} {n0 : Nat} {z : Int32} {f : Value} (W : Sx Z z f) (x b : Addr) (cs : List Int32) (h : Heap) (S : Str Z h x b cs) :
    Ctr l Z n0 N6 jdk_42_method_154_code 1 (some .boolean) rm_isl #[(.ref x)] h [] (fun v h' sn => v = some (.int 1) ∧ h = h' ∧ sn = []) := by
  refine Ctr.of_go (ls := #[.val (.ref x)]) W.1 (plainFor_of_name pn_N4) (fun m => by first | (simp [entryFrame, mkF, argsToLocals, Value.category]; done) | rfl) (fun K H => ?_)
  obtain ⟨A, Fv, Fc, Fb, hL, hn⟩ := S
  refine Go.getstatic H d15_0 rfl w25 W.2.2.1 ?_
  refine Go.ifN H d15_3 (feq W.2.1).1 rfl ?_
  refine Go.aloadN H d15_6 rfl rfl rfl ?_
  refine Go.getfield H d15_7 rfl w37 Fc ?_
  refine Go.ifN H d15_10 (by decide) rfl ?_
  refine Go.iconst (1 : Int32) H d15_13 rfl rfl ?_
  refine Go.goto (pc' := 18) H d15_14 (by decide) (by decide) ?_
  exact Go.ireturn (1 : Int32) [] H d15_18 (by simp) (by decide) ⟨rfl, rfl, rfl⟩ all0 (by decide) (by decide)
theorem d18_0 : decode jdk_41_method_11_code 0 = .ok (.iload_n 0, 1) := by decide +kernel
theorem d18_1 : decode jdk_41_method_11_code 1 = .ok (.ifCond .lt 8, 3) := by decide +kernel
theorem d18_4 : decode jdk_41_method_11_code 4 = .ok (.iload_n 0, 1) := by decide +kernel
theorem d18_5 : decode jdk_41_method_11_code 5 = .ok (.iload_n 1, 1) := by decide +kernel
theorem d18_6 : decode jdk_41_method_11_code 6 = .ok (.if_icmp .lt 10, 3) := by decide +kernel
theorem d18_16 : decode jdk_41_method_11_code 16 = .ok (.iload_n 0, 1) := by decide +kernel
theorem d18_17 : decode jdk_41_method_11_code 17 = .ok (.ireturn, 1) := by decide +kernel
abbrev N7 : MethodName := ⟨"jdk/internal/util/Preconditions", "checkIndex", "(IILjava/util/function/BiFunction;)I"⟩
theorem pn_N7 : plainName N7.cls = true := by first | (simp [plainName, overriddenIn]; done) | decide +kernel

abbrev rm_pre : Room := { frames := 0, cells := 0, slots := 0, locals := 0 }
set_option maxRecDepth 65536 in
set_option maxHeartbeats 4000000 in
theorem ct_pre (l : Launch) {Z : State} {n0 : Nat} {z : Int32} {f : Value} (W : Sx Z z f) (i n : Int32) (h : Heap) (h0 : ¬ i < 0) (hi : i < n) :
    Ctr l Z n0 N7 jdk_41_method_11_code 3 (some .int) rm_pre #[(.int i), (.int n), f] h [] (fun v h' sn => v = some (.int i) ∧ h = h' ∧ sn = []) := by
  refine Ctr.of_go (ls := #[.val (.int i), .val (.int n), .val f]) W.1 (plainFor_of_name pn_N7) (fun m => (by rcases ref_cases W.2.2.2.1 with q | ⟨fa, q⟩ <;> rw [q] <;> rfl)) (fun K H => ?_)
  refine Go.iloadN H d18_0 rfl rfl ?_
  refine Go.ifN H d18_1 (flt h0).1 rfl ?_
  refine Go.iloadN H d18_4 rfl rfl ?_
  refine Go.iloadN H d18_5 rfl rfl ?_
  refine Go.icmpY (pc' := 16) H d18_6 (tlt hi).1 (by decide) (by decide) ?_
  refine Go.iloadN H d18_16 rfl rfl ?_
  exact Go.ireturnI [] H d18_17 ⟨rfl, rfl, rfl⟩ all0 (by decide) (by decide)
theorem d17_0 : decode jdk_42_method_155_code 0 = .ok (.iload_n 0, 1) := by decide +kernel
theorem d17_1 : decode jdk_42_method_155_code 1 = .ok (.iload_n 1, 1) := by decide +kernel
theorem d17_2 : decode jdk_42_method_155_code 2 = .ok (.getstatic 1053, 3) := by decide +kernel
theorem w77 : Jvm.Cond.fieldLink "java/lang/String" (1053 : Nat) "jdk/internal/util/Preconditions" "SIOOBE_FORMATTER" "Ljava/util/function/BiFunction;" ∈ tables_1 := List.mem_of_getElem? (i := 77) rfl
theorem d17_5 : decode jdk_42_method_155_code 5 = .ok (.invokestatic 1059, 3) := by decide +kernel
theorem w81 : Jvm.Cond.code N7 jdk_41_method_11_code (3 : Nat) (Option.some Jvm.ClassFile.FieldType.int) ∈ tables_1 := List.mem_of_getElem? (i := 81) rfl
theorem w78 : Jvm.Cond.initialized "jdk/internal/util/Preconditions" ∈ tables_1 := List.mem_of_getElem? (i := 78) rfl
theorem pd_N7 : parseMethodDescriptor N7.desc = some ⟨[.int, .int, (.object "java/util/function/BiFunction")], (some .int)⟩ := by decide +kernel
theorem nh_N7 : N7.cls ≠ "java/lang/invoke/MethodHandle" ∧ N7.cls ≠ "java/lang/invoke/VarHandle" := by decide
theorem w79 : Jvm.Cond.methodLink "java/lang/String" (1059 : Nat) N7 ∈ tables_1 := List.mem_of_getElem? (i := 79) rfl
theorem w80 : Jvm.Cond.static N7 ∈ tables_1 := List.mem_of_getElem? (i := 80) rfl
theorem d17_8 : decode jdk_42_method_155_code 8 = .ok (.pop, 1) := by decide +kernel
theorem d17_9 : decode jdk_42_method_155_code 9 = .ok (.return_, 1) := by decide +kernel
abbrev N8 : MethodName := ⟨"java/lang/String", "checkIndex", "(II)V"⟩

abbrev rm_chk : Room := { frames := 1, cells := 0, slots := 0, locals := 14 }
set_option maxRecDepth 65536 in
set_option maxHeartbeats 4000000 in
theorem ct_chk (l : Launch) {Z : State} {n0 : Nat} {z : Int32} {f : Value} (W : Sx Z z f) (i n : Int32) (h : Heap) (h0 : ¬ i < 0) (hi : i < n) :
    Ctr l Z n0 N8 jdk_42_method_155_code 2 none rm_chk #[(.int i), (.int n)] h [] (fun v h' sn => v = none ∧ h = h' ∧ sn = []) := by
  refine Ctr.of_go (ls := #[.val (.int i), .val (.int n)]) W.1 (plainFor_of_name pn_N4) (fun m => by first | (simp [entryFrame, mkF, argsToLocals, Value.category]; done) | rfl) (fun K H => ?_)
  refine Go.iloadN H d17_0 rfl rfl ?_
  refine Go.iloadN H d17_1 rfl rfl ?_
  refine Go.getstatic H d17_2 rfl w77 W.2.2.2.2 ?_
  refine Go.callS (rest := []) 0 [(.int i), (.int n), f] H d17_5 rfl w79 w80 w78 w81 pd_N7 (ct_pre l W i n h h0 hi) all0 rfl rfl rfl (Nat.le_of_eq rfl) (by decide) (by decide) (by decide) (by decide) nh_N7 ?_
  rintro _ _ _ ⟨rfl, rfl, rfl⟩
  show Go _ _ _ _ _ _ h [] 0 0 8 #[.val (.int i), .val (.int n)] [(.int i)]
  refine Go.pop H d17_8 rfl rfl ?_
  exact Go.return_ [] H d17_9 ⟨rfl, rfl, rfl⟩ all0 (by decide) (by decide)
theorem own_ltn {i : Int32} {n ni : Nat} (h0 : ¬ i < 0) (hi : i.toNatClampNeg = ni) (hn : n < 2 ^ 31) (h : ni < n) : i < n.toInt32 := by
  rw [Int32.lt_iff_toInt_lt] at h0 ⊢; rw [own_len hn]; simp only [Int32.toNatClampNeg] at hi; simp only [Int32.reduceToInt] at h0; omega
theorem own_getm {cs : List Int32} {ni : Nat} {c : Int32} (hc : cs[ni]? = some c) : (cs.map (nar .byte))[ni]? = some (nar .byte c) := by rw [List.getElem?_map, hc]; rfl
theorem d16_0 : decode jdk_43_method_2_code 0 = .ok (.iload_n 1, 1) := by decide +kernel
theorem d16_1 : decode jdk_43_method_2_code 1 = .ok (.aload_n 0, 1) := by decide +kernel
theorem d16_2 : decode jdk_43_method_2_code 2 = .ok (.arraylength, 1) := by decide +kernel
theorem d16_3 : decode jdk_43_method_2_code 3 = .ok (.invokestatic 9, 3) := by decide +kernel
theorem w76 : Jvm.Cond.code N8 jdk_42_method_155_code (2 : Nat) (Option.none : Option Jvm.ClassFile.FieldType) ∈ tables_1 := List.mem_of_getElem? (i := 76) rfl
theorem pd_N8 : parseMethodDescriptor N8.desc = some ⟨[.int, .int], none⟩ := by decide +kernel
theorem w74 : Jvm.Cond.methodLink "java/lang/StringLatin1" (9 : Nat) N8 ∈ tables_1 := List.mem_of_getElem? (i := 74) rfl
theorem w75 : Jvm.Cond.static N8 ∈ tables_1 := List.mem_of_getElem? (i := 75) rfl
theorem d16_6 : decode jdk_43_method_2_code 6 = .ok (.aload_n 0, 1) := by decide +kernel
theorem d16_7 : decode jdk_43_method_2_code 7 = .ok (.iload_n 1, 1) := by decide +kernel
theorem d16_8 : decode jdk_43_method_2_code 8 = .ok (.baload, 1) := by decide +kernel
theorem d16_9 : decode jdk_43_method_2_code 9 = .ok (.sipush 255, 3) := by decide +kernel
theorem d16_12 : decode jdk_43_method_2_code 12 = .ok (.iand, 1) := by decide +kernel
theorem d16_13 : decode jdk_43_method_2_code 13 = .ok (.i2c, 1) := by decide +kernel
theorem d16_14 : decode jdk_43_method_2_code 14 = .ok (.ireturn, 1) := by decide +kernel
abbrev N9 : MethodName := ⟨"java/lang/StringLatin1", "charAt", "([BI)C"⟩
theorem pn_N9 : plainName N9.cls = true := by first | (simp [plainName, overriddenIn]; done) | decide +kernel

abbrev rm_lch : Room := { frames := 2, cells := 0, slots := 0, locals := 27 }
set_option maxRecDepth 65536 in
set_option maxHeartbeats 4000000 in
theorem ct_lch (l : Launch) {Z : State} {n0 : Nat} {z : Int32} {f : Value} (W : Sx Z z f) (b : Addr) (cs : List Int32) (i c : Int32) (ni : Nat) (h : Heap) (Fb : Vec Z h b .byte (cs.map (nar .byte))) (hL : ∀ c ∈ cs, isL c) (hn : cs.length < 2 ^ 31) (h0 : ¬ i < 0) (hi : i.toNatClampNeg = ni) (hc : cs[ni]? = some c) :
    Ctr l Z n0 N9 jdk_43_method_2_code 2 (some .char) rm_lch #[(.ref b), (.int i)] h [] (fun v h' sn => v = some (.int c) ∧ h = h' ∧ sn = []) := by
  refine Ctr.of_go (ls := #[.val (.ref b), .val (.int i)]) W.1 (plainFor_of_name pn_N9) (fun m => by first | (simp [entryFrame, mkF, argsToLocals, Value.category]; done) | rfl) (fun K H => ?_)
  refine Go.iloadN H d16_0 rfl rfl ?_
  refine Go.aloadN H d16_1 rfl rfl rfl ?_
  refine Go.arraylength cs.length.toInt32 H d16_2 rfl Fb (by rw [List.length_map]) ?_
  refine Go.callS (rest := []) 0 [(.int i), (.int cs.length.toInt32)] H d16_3 rfl w74 w75 w14 w76 pd_N8 (ct_chk l W i cs.length.toInt32 h h0 (own_ltn h0 hi hn (List.getElem?_eq_some_iff.mp hc).1)) all0 rfl rfl rfl (Nat.le_of_eq rfl) (by decide) (by decide) (by decide) (by decide) nh_N4 ?_
  rintro _ _ _ ⟨rfl, rfl, rfl⟩
  show Go _ _ _ _ _ _ h [] 0 0 6 #[.val (.ref b), .val (.int i)] []
  refine Go.aloadN H d16_6 rfl rfl rfl ?_
  refine Go.iloadN H d16_7 rfl rfl ?_
  refine Go.baload (v := (nar .byte c)) H d16_8 rfl Fb ni hi h0 (own_getm hc) ?_
  refine Go.sipush (255 : Int32) H d16_9 rfl rfl ?_
  refine Go.iand H d16_12 rfl ?_
  refine Go.i2c H d16_13 rfl ?_
  exact Go.ireturn c [] H d16_14 (by simp) (own_nn.trans (own_back (hL c (List.mem_of_getElem? hc)))) ⟨rfl, rfl, rfl⟩ all0 (by decide) (by decide)
theorem d14_0 : decode jdk_42_method_56_code 0 = .ok (.aload_n 0, 1) := by decide +kernel
theorem d14_1 : decode jdk_42_method_56_code 1 = .ok (.invokevirtual 492, 3) := by decide +kernel
theorem w69 : Jvm.Cond.code N6 jdk_42_method_154_code (1 : Nat) (Option.some Jvm.ClassFile.FieldType.boolean) ∈ tables_1 := List.mem_of_getElem? (i := 69) rfl
theorem pd_N6 : parseMethodDescriptor N6.desc = some ⟨[], (some .boolean)⟩ := by decide +kernel
theorem w65 : Jvm.Cond.methodLink "java/lang/String" (492 : Nat) N6 ∈ tables_1 := List.mem_of_getElem? (i := 65) rfl
theorem w66 : Jvm.Cond.declares N6 ∈ tables_1 := List.mem_of_getElem? (i := 66) rfl
theorem w68 : Jvm.Cond.selects "java/lang/String" N6 N6 ∈ tables_1 := List.mem_of_getElem? (i := 68) rfl
theorem w67 : Jvm.Cond.instanceMethod N6 ∈ tables_1 := List.mem_of_getElem? (i := 67) rfl
theorem d14_4 : decode jdk_42_method_56_code 4 = .ok (.ifCond .eq 12, 3) := by decide +kernel
theorem d14_7 : decode jdk_42_method_56_code 7 = .ok (.aload_n 0, 1) := by decide +kernel
theorem d14_8 : decode jdk_42_method_56_code 8 = .ok (.getfield 9, 3) := by decide +kernel
theorem d14_11 : decode jdk_42_method_56_code 11 = .ok (.iload_n 1, 1) := by decide +kernel
theorem d14_12 : decode jdk_42_method_56_code 12 = .ok (.invokestatic 495, 3) := by decide +kernel
theorem w73 : Jvm.Cond.code N9 jdk_43_method_2_code (2 : Nat) (Option.some Jvm.ClassFile.FieldType.char) ∈ tables_1 := List.mem_of_getElem? (i := 73) rfl
theorem w72 : Jvm.Cond.initialized "java/lang/StringLatin1" ∈ tables_1 := List.mem_of_getElem? (i := 72) rfl
theorem pd_N9 : parseMethodDescriptor N9.desc = some ⟨[(.array .byte), .int], (some .char)⟩ := by decide +kernel
theorem nh_N9 : N9.cls ≠ "java/lang/invoke/MethodHandle" ∧ N9.cls ≠ "java/lang/invoke/VarHandle" := by decide
theorem w70 : Jvm.Cond.methodLink "java/lang/String" (495 : Nat) N9 ∈ tables_1 := List.mem_of_getElem? (i := 70) rfl
theorem w71 : Jvm.Cond.static N9 ∈ tables_1 := List.mem_of_getElem? (i := 71) rfl
theorem d14_15 : decode jdk_42_method_56_code 15 = .ok (.ireturn, 1) := by decide +kernel
abbrev N10 : MethodName := ⟨"java/lang/String", "charAt", "(I)C"⟩

abbrev rm_cha : Room := { frames := 3, cells := 0, slots := 0, locals := 40 }
set_option maxRecDepth 65536 in
set_option maxHeartbeats 4000000 in
theorem ct_cha (l : Launch) {Z : State} {n0 : Nat} {z : Int32} {f : Value} (W : Sx Z z f) (x b : Addr) (cs : List Int32) (i c : Int32) (ni : Nat) (h : Heap) (S : Str Z h x b cs) (h0 : ¬ i < 0) (hi : i.toNatClampNeg = ni) (hc : cs[ni]? = some c) :
    Ctr l Z n0 N10 jdk_42_method_56_code 2 (some .char) rm_cha #[(.ref x), (.int i)] h [] (fun v h' sn => v = some (.int c) ∧ h = h' ∧ sn = []) := by
  refine Ctr.of_go (ls := #[.val (.ref x), .val (.int i)]) W.1 (plainFor_of_name pn_N4) (fun m => by first | (simp [entryFrame, mkF, argsToLocals, Value.category]; done) | rfl) (fun K H => ?_)
  have S0 := S
  obtain ⟨A, Fv, Fc, Fb, hL, hn⟩ := S
  refine Go.aloadN H d14_0 rfl rfl rfl ?_
  refine Go.callV (rest := []) 0 [] H d14_1 rfl A w65 w66 w68 w67 w14 w69 pd_N6 (ct_isl l W x b cs h S0) all0 rfl rfl rfl (Nat.le_of_eq rfl) (by decide) (by decide) (by decide) (by decide) nh_N4 ?_
  rintro _ _ _ ⟨rfl, rfl, rfl⟩
  show Go _ _ _ _ _ _ h [] 0 0 4 #[.val (.ref x), .val (.int i)] [(.int (1 : Int32))]
  refine Go.ifN H d14_4 (by decide) rfl ?_
  refine Go.aloadN H d14_7 rfl rfl rfl ?_
  refine Go.getfield H d14_8 rfl w39 Fv ?_
  refine Go.iloadN H d14_11 rfl rfl ?_
  refine Go.callS (rest := []) 0 [(.ref b), (.int i)] H d14_12 rfl w70 w71 w72 w73 pd_N9 (ct_lch l W b cs i c ni h Fb hL hn h0 hi hc) all0 rfl rfl rfl (Nat.le_of_eq rfl) (by decide) (by decide) (by decide) (by decide) nh_N9 ?_
  rintro _ _ _ ⟨rfl, rfl, rfl⟩
  show Go _ _ _ _ _ _ h [] 0 0 15 #[.val (.ref x), .val (.int i)] [(.int c)]
  exact Go.ireturn c [] H d14_15 (by simp) (own_char (hL c (List.mem_of_getElem? hc)).c) ⟨rfl, rfl, rfl⟩ all0 (by decide) (by decide)
theorem d13_0 : decode jdk_42_method_152_code 0 = .ok (.getstatic 38, 3) := by decide +kernel
theorem d13_3 : decode jdk_42_method_152_code 3 = .ok (.ifCond .eq 10, 3) := by decide +kernel
theorem d13_6 : decode jdk_42_method_152_code 6 = .ok (.aload_n 0, 1) := by decide +kernel
theorem d13_7 : decode jdk_42_method_152_code 7 = .ok (.getfield 15, 3) := by decide +kernel
theorem d13_10 : decode jdk_42_method_152_code 10 = .ok (.goto 4, 3) := by decide +kernel
theorem d13_14 : decode jdk_42_method_152_code 14 = .ok (.ireturn, 1) := by decide +kernel
abbrev N11 : MethodName := ⟨"java/lang/String", "coder", "()B"⟩

abbrev rm_cod : Room := { frames := 0, cells := 0, slots := 0, locals := 0 }
set_option maxRecDepth 65536 in
set_option maxHeartbeats 4000000 in
theorem ct_cod (l : Launch) {Z : State} {n0 : Nat} {z : Int32} {f : Value} (W : Sx Z z f) (x b : Addr) (cs : List Int32) (h : Heap) (S : Str Z h x b cs) :
    Ctr l Z n0 N11 jdk_42_method_152_code 1 (some .byte) rm_cod #[(.ref x)] h [] (fun v h' sn => v = some (.int 0) ∧ h = h' ∧ sn = []) := by
  refine Ctr.of_go (ls := #[.val (.ref x)]) W.1 (plainFor_of_name pn_N4) (fun m => by first | (simp [entryFrame, mkF, argsToLocals, Value.category]; done) | rfl) (fun K H => ?_)
  obtain ⟨A, Fv, Fc, Fb, hL, hn⟩ := S
  refine Go.getstatic H d13_0 rfl w25 W.2.2.1 ?_
  refine Go.ifN H d13_3 (feq W.2.1).1 rfl ?_
  refine Go.aloadN H d13_6 rfl rfl rfl ?_
  refine Go.getfield H d13_7 rfl w37 Fc ?_
  refine Go.goto (pc' := 14) H d13_10 (by decide) (by decide) ?_
  exact Go.ireturn (0 : Int32) [] H d13_14 (by simp) (by decide) ⟨rfl, rfl, rfl⟩ all0 (by decide) (by decide)
theorem own_shr0 (x : Int32) : x >>> ((0 : Int32) &&& 31) = x := Int32.toInt_inj.mp (by rw [c_ishr x 0 0 (by decide)]; simp)
theorem d12_0 : decode jdk_42_method_54_code 0 = .ok (.aload_n 0, 1) := by decide +kernel
theorem d12_1 : decode jdk_42_method_54_code 1 = .ok (.getfield 9, 3) := by decide +kernel
theorem d12_4 : decode jdk_42_method_54_code 4 = .ok (.arraylength, 1) := by decide +kernel
theorem d12_5 : decode jdk_42_method_54_code 5 = .ok (.aload_n 0, 1) := by decide +kernel
theorem d12_6 : decode jdk_42_method_54_code 6 = .ok (.invokevirtual 335, 3) := by decide +kernel
theorem w59 : Jvm.Cond.code N11 jdk_42_method_152_code (1 : Nat) (Option.some Jvm.ClassFile.FieldType.byte) ∈ tables_1 := List.mem_of_getElem? (i := 59) rfl
theorem pd_N11 : parseMethodDescriptor N11.desc = some ⟨[], (some .byte)⟩ := by decide +kernel
theorem w55 : Jvm.Cond.methodLink "java/lang/String" (335 : Nat) N11 ∈ tables_1 := List.mem_of_getElem? (i := 55) rfl
theorem w56 : Jvm.Cond.declares N11 ∈ tables_1 := List.mem_of_getElem? (i := 56) rfl
theorem w58 : Jvm.Cond.selects "java/lang/String" N11 N11 ∈ tables_1 := List.mem_of_getElem? (i := 58) rfl
theorem w57 : Jvm.Cond.instanceMethod N11 ∈ tables_1 := List.mem_of_getElem? (i := 57) rfl
theorem d12_9 : decode jdk_42_method_54_code 9 = .ok (.ishr, 1) := by decide +kernel
theorem d12_10 : decode jdk_42_method_54_code 10 = .ok (.ireturn, 1) := by decide +kernel
abbrev N12 : MethodName := ⟨"java/lang/String", "length", "()I"⟩

abbrev rm_len : Room := { frames := 1, cells := 0, slots := 0, locals := 13 }
set_option maxRecDepth 65536 in
set_option maxHeartbeats 4000000 in
theorem ct_len (l : Launch) {Z : State} {n0 : Nat} {z : Int32} {f : Value} (W : Sx Z z f) (x b : Addr) (cs : List Int32) (h : Heap) (S : Str Z h x b cs) :
    Ctr l Z n0 N12 jdk_42_method_54_code 1 (some .int) rm_len #[(.ref x)] h [] (fun v h' sn => v = some (.int cs.length.toInt32) ∧ h = h' ∧ sn = []) := by
  refine Ctr.of_go (ls := #[.val (.ref x)]) W.1 (plainFor_of_name pn_N4) (fun m => by first | (simp [entryFrame, mkF, argsToLocals, Value.category]; done) | rfl) (fun K H => ?_)
  have S0 := S
  obtain ⟨A, Fv, Fc, Fb, hL, hn⟩ := S
  refine Go.aloadN H d12_0 rfl rfl rfl ?_
  refine Go.getfield H d12_1 rfl w39 Fv ?_
  refine Go.arraylength cs.length.toInt32 H d12_4 rfl Fb (by rw [List.length_map]) ?_
  refine Go.aloadN H d12_5 rfl rfl rfl ?_
  refine Go.callV (rest := [(.int cs.length.toInt32)]) 1 [] H d12_6 rfl A w55 w56 w58 w57 w14 w59 pd_N11 (ct_cod l W x b cs h S0) all0 rfl rfl rfl (Nat.le_of_eq rfl) (by decide) (by decide) (by decide) (by decide) nh_N4 ?_
  rintro _ _ _ ⟨rfl, rfl, rfl⟩
  show Go _ _ _ _ _ _ h [] 0 0 9 #[.val (.ref x)] [(.int (0 : Int32)), (.int cs.length.toInt32)]
  refine Go.ishr H d12_9 rfl ?_
  exact Go.ireturnI [] H d12_10 ⟨by rw [own_shr0], rfl, rfl⟩ all0 (by decide) (by decide)
theorem own_eqt {u v : List Int32} {i : Nat} (hl : u.length = v.length) (e : u.take i = v.take i) {p q : Int32} (h1 : u[i]? = some p) (h2 : v[i]? = some q) (hpq : p = q) : u.take (i + 1) = v.take (i + 1) := by
  rw [List.take_add_one, List.take_add_one, h1, h2, hpq, e]
theorem d24_9 : decode jdk_43_method_13_code 9 = .ok (.iload_n 2, 1) := by decide +kernel
theorem d24_10 : decode jdk_43_method_13_code 10 = .ok (.aload_n 0, 1) := by decide +kernel
theorem d24_11 : decode jdk_43_method_13_code 11 = .ok (.arraylength, 1) := by decide +kernel
theorem d24_12 : decode jdk_43_method_13_code 12 = .ok (.if_icmp .ge 20, 3) := by decide +kernel
theorem d24_32 : decode jdk_43_method_13_code 32 = .ok (.iconst 1, 1) := by decide +kernel
theorem d24_33 : decode jdk_43_method_13_code 33 = .ok (.ireturn, 1) := by decide +kernel
theorem d24_15 : decode jdk_43_method_13_code 15 = .ok (.aload_n 0, 1) := by decide +kernel
theorem d24_16 : decode jdk_43_method_13_code 16 = .ok (.iload_n 2, 1) := by decide +kernel
theorem d24_17 : decode jdk_43_method_13_code 17 = .ok (.baload, 1) := by decide +kernel
theorem d24_18 : decode jdk_43_method_13_code 18 = .ok (.aload_n 1, 1) := by decide +kernel
theorem d24_19 : decode jdk_43_method_13_code 19 = .ok (.iload_n 2, 1) := by decide +kernel
theorem d24_20 : decode jdk_43_method_13_code 20 = .ok (.baload, 1) := by decide +kernel
theorem d24_21 : decode jdk_43_method_13_code 21 = .ok (.if_icmp .eq 5, 3) := by decide +kernel
theorem d24_26 : decode jdk_43_method_13_code 26 = .ok (.iinc 2 1, 3) := by decide +kernel
theorem d24_29 : decode jdk_43_method_13_code 29 = .ok (.goto (-20), 3) := by decide +kernel
theorem d24_24 : decode jdk_43_method_13_code 24 = .ok (.iconst 0, 1) := by decide +kernel
theorem d24_25 : decode jdk_43_method_13_code 25 = .ok (.ireturn, 1) := by decide +kernel

set_option maxRecDepth 65536 in
theorem lp_leq (l : Launch) {Z : State} {n0 : Nat} {h : Heap} (a b : Addr) (u w : List Int32) (Fa : Vec Z h a .byte u) (Fb : Vec Z h b .byte w) (hu : u.length < 2 ^ 31) (hl : u.length = w.length) {R : Room} {K : Cx} (H : Ok Z K "java/lang/StringLatin1" jdk_43_method_13_code 3 (some .boolean) "equals") :
    ∀ (m i : Nat), i + m = u.length → u.take i = w.take i → Go l Z n0 R K (fun x h' sn => x = some (.int (if u = w then 1 else 0)) ∧ h = h' ∧ sn = []) h [] 0 0 9 #[.val (.ref a), .val (.ref b), .val (.int i.toInt32)] [] := by
  intro m
  induction m with
  | zero =>
    intro i hi he
    refine Go.iloadN H d24_9 rfl rfl ?_
    refine Go.aloadN H d24_10 rfl rfl rfl ?_
    refine Go.arraylength u.length.toInt32 H d24_11 rfl Fa rfl ?_
    refine Go.icmpY (pc' := 32) H d24_12 (flt (own_nlt (by omega) (by omega))).2.1 (by decide) (by decide) ?_
    refine Go.iconst (1 : Int32) H d24_32 rfl rfl ?_
    exact Go.ireturn 1 [] H d24_33 (by simp) (by decide) ⟨by rw [if_pos (by rw [List.take_of_length_le (by omega), List.take_of_length_le (by omega)] at he; exact he)], rfl, rfl⟩ all0 (Nat.zero_le _) (Nat.zero_le _)
  | succ m ih =>
    intro i hi he
    have hlt : i < u.length := by omega
    obtain ⟨p, hp⟩ : ∃ p, u[i]? = some p := ⟨_, List.getElem?_eq_getElem hlt⟩
    obtain ⟨q, hq⟩ : ∃ q, w[i]? = some q := ⟨_, List.getElem?_eq_getElem (by omega)⟩
    refine Go.iloadN H d24_9 rfl rfl ?_
    refine Go.aloadN H d24_10 rfl rfl rfl ?_
    refine Go.arraylength u.length.toInt32 H d24_11 rfl Fa rfl ?_
    refine Go.icmpN H d24_12 (tlt (own_lt hu hlt)).2.1 rfl ?_
    refine Go.aloadN H d24_15 rfl rfl rfl ?_
    refine Go.iloadN H d24_16 rfl rfl ?_
    refine Go.baload (v := p) H d24_17 rfl Fa i (own_cl (by omega)) (own_n0 (by omega)) hp ?_
    refine Go.aloadN H d24_18 rfl rfl rfl ?_
    refine Go.iloadN H d24_19 rfl rfl ?_
    refine Go.baload (v := q) H d24_20 rfl Fb i (own_cl (by omega)) (own_n0 (by omega)) hq ?_
    by_cases c1 : p = q
    ·
      refine Go.icmpY (pc' := 26) H d24_21 (teq c1).1 (by decide) (by decide) ?_
      refine Go.iinc (ls' := #[.val (.ref a), .val (.ref b), .val (.int (i.toInt32 + (1 : Int32)))]) (1 : Int32) H d24_26 rfl rfl rfl rfl ?_
      refine Go.goto (pc' := 9) H d24_29 (by decide) (by decide) ?_
      rw [own_s i]
      exact ih (i + 1) (by omega) (own_eqt hl he hp hq c1)
    ·
      refine Go.icmpN H d24_21 (feq c1).1 rfl ?_
      refine Go.iconst (0 : Int32) H d24_24 rfl rfl ?_
      exact Go.ireturn 0 [] H d24_25 (by simp) (by decide) ⟨by rw [if_neg (fun e => c1 (Option.some.inj (hp.symm.trans ((congrArg (fun z : List Int32 => z[i]?) e).trans hq))))], rfl, rfl⟩ all0 (Nat.zero_le _) (Nat.zero_le _)
theorem d24_0 : decode jdk_43_method_13_code 0 = .ok (.aload_n 0, 1) := by decide +kernel
theorem d24_1 : decode jdk_43_method_13_code 1 = .ok (.arraylength, 1) := by decide +kernel
theorem d24_2 : decode jdk_43_method_13_code 2 = .ok (.aload_n 1, 1) := by decide +kernel
theorem d24_3 : decode jdk_43_method_13_code 3 = .ok (.arraylength, 1) := by decide +kernel
theorem d24_4 : decode jdk_43_method_13_code 4 = .ok (.if_icmp .ne 30, 3) := by decide +kernel
theorem d24_7 : decode jdk_43_method_13_code 7 = .ok (.iconst 0, 1) := by decide +kernel
theorem d24_8 : decode jdk_43_method_13_code 8 = .ok (.istore_n 2, 1) := by decide +kernel
theorem d24_34 : decode jdk_43_method_13_code 34 = .ok (.iconst 0, 1) := by decide +kernel
theorem d24_35 : decode jdk_43_method_13_code 35 = .ok (.ireturn, 1) := by decide +kernel
abbrev N13 : MethodName := ⟨"java/lang/StringLatin1", "equals", "([B[B)Z"⟩

abbrev rm_leq : Room := { frames := 0, cells := 0, slots := 0, locals := 0 }
set_option maxRecDepth 65536 in
set_option maxHeartbeats 4000000 in
theorem ct_leq (l : Launch) {Z : State} {n0 : Nat} {z : Int32} {f : Value} (W : Sx Z z f) (a b : Addr) (u w : List Int32) (h : Heap) (Fa : Vec Z h a .byte u) (Fb : Vec Z h b .byte w) (hu : u.length < 2 ^ 31) (hv : w.length < 2 ^ 31) :
    Ctr l Z n0 N13 jdk_43_method_13_code 3 (some .boolean) rm_leq #[(.ref a), (.ref b)] h [] (fun v h' sn => v = some (.int (if u = w then 1 else 0)) ∧ h = h' ∧ sn = []) := by
  refine Ctr.of_go (ls := #[.val (.ref a), .val (.ref b), .unset]) W.1 (plainFor_of_name pn_N9) (fun m => by first | (simp [entryFrame, mkF, argsToLocals, Value.category]; done) | rfl) (fun K H => ?_)
  refine Go.aloadN H d24_0 rfl rfl rfl ?_
  refine Go.arraylength u.length.toInt32 H d24_1 rfl Fa rfl ?_
  refine Go.aloadN H d24_2 rfl rfl rfl ?_
  refine Go.arraylength w.length.toInt32 H d24_3 rfl Fb rfl ?_
  by_cases c1 : u.length = w.length
  ·
    refine Go.icmpN H d24_4 (teq (congrArg Nat.toInt32 c1)).2 rfl ?_
    refine Go.iconst (0 : Int32) H d24_7 rfl rfl ?_
    refine Go.istoreN (ls' := #[.val (.ref a), .val (.ref b), .val (.int (0 : Int32))]) H d24_8 rfl rfl ?_
    exact lp_leq l a b u w Fa Fb hu c1 H u.length 0 (by omega) rfl
  ·
    refine Go.icmpY (pc' := 34) H d24_4 (feq (fun e => c1 (own_ofinj hu hv e))).2 (by decide) (by decide) ?_
    refine Go.iconst (0 : Int32) H d24_34 rfl rfl ?_
    exact Go.ireturn 0 [] H d24_35 (by simp) (by decide) ⟨by rw [if_neg (fun e => c1 (congrArg List.length e))], rfl, rfl⟩ all0 (by decide) (by decide)
theorem d22_0 : decode jdk_42_method_66_code 0 = .ok (.aload_n 0, 1) := by decide +kernel
theorem d22_1 : decode jdk_42_method_66_code 1 = .ok (.aload_n 1, 1) := by decide +kernel
theorem d22_2 : decode jdk_42_method_66_code 2 = .ok (.if_acmp .ne 5, 3) := by decide +kernel
theorem d22_5 : decode jdk_42_method_66_code 5 = .ok (.iconst 1, 1) := by decide +kernel
theorem d22_6 : decode jdk_42_method_66_code 6 = .ok (.ireturn, 1) := by decide +kernel
theorem d22_7 : decode jdk_42_method_66_code 7 = .ok (.aload_n 1, 1) := by decide +kernel
theorem d22_8 : decode jdk_42_method_66_code 8 = .ok (.instanceof 10, 3) := by decide +kernel
theorem w112 : Jvm.Cond.classLink "java/lang/String" (10 : Nat) "java/lang/String" ∈ tables_1 := List.mem_of_getElem? (i := 112) rfl
theorem d22_11 : decode jdk_42_method_66_code 11 = .ok (.ifCond .eq 43, 3) := by decide +kernel
theorem d22_14 : decode jdk_42_method_66_code 14 = .ok (.aload_n 1, 1) := by decide +kernel
theorem d22_15 : decode jdk_42_method_66_code 15 = .ok (.checkcast 10, 3) := by decide +kernel
theorem d22_18 : decode jdk_42_method_66_code 18 = .ok (.astore_n 2, 1) := by decide +kernel
theorem d22_19 : decode jdk_42_method_66_code 19 = .ok (.getstatic 38, 3) := by decide +kernel
theorem d22_22 : decode jdk_42_method_66_code 22 = .ok (.ifCond .eq 14, 3) := by decide +kernel
theorem d22_25 : decode jdk_42_method_66_code 25 = .ok (.aload_n 0, 1) := by decide +kernel
theorem d22_26 : decode jdk_42_method_66_code 26 = .ok (.getfield 15, 3) := by decide +kernel
theorem d22_29 : decode jdk_42_method_66_code 29 = .ok (.aload_n 2, 1) := by decide +kernel
theorem d22_30 : decode jdk_42_method_66_code 30 = .ok (.getfield 15, 3) := by decide +kernel
theorem d22_33 : decode jdk_42_method_66_code 33 = .ok (.if_icmp .ne 21, 3) := by decide +kernel
theorem d22_36 : decode jdk_42_method_66_code 36 = .ok (.aload_n 0, 1) := by decide +kernel
theorem d22_37 : decode jdk_42_method_66_code 37 = .ok (.getfield 9, 3) := by decide +kernel
theorem d22_40 : decode jdk_42_method_66_code 40 = .ok (.aload_n 2, 1) := by decide +kernel
theorem d22_41 : decode jdk_42_method_66_code 41 = .ok (.getfield 9, 3) := by decide +kernel
theorem d22_44 : decode jdk_42_method_66_code 44 = .ok (.invokestatic 541, 3) := by decide +kernel
theorem w115 : Jvm.Cond.code N13 jdk_43_method_13_code (3 : Nat) (Option.some Jvm.ClassFile.FieldType.boolean) ∈ tables_1 := List.mem_of_getElem? (i := 115) rfl
theorem pd_N13 : parseMethodDescriptor N13.desc = some ⟨[(.array .byte), (.array .byte)], (some .boolean)⟩ := by decide +kernel
theorem w113 : Jvm.Cond.methodLink "java/lang/String" (541 : Nat) N13 ∈ tables_1 := List.mem_of_getElem? (i := 113) rfl
theorem w114 : Jvm.Cond.static N13 ∈ tables_1 := List.mem_of_getElem? (i := 114) rfl
theorem d22_47 : decode jdk_42_method_66_code 47 = .ok (.ifCond .eq 7, 3) := by decide +kernel
theorem d22_50 : decode jdk_42_method_66_code 50 = .ok (.iconst 1, 1) := by decide +kernel
theorem d22_51 : decode jdk_42_method_66_code 51 = .ok (.goto 4, 3) := by decide +kernel
theorem d22_55 : decode jdk_42_method_66_code 55 = .ok (.ireturn, 1) := by decide +kernel
theorem d22_54 : decode jdk_42_method_66_code 54 = .ok (.iconst 0, 1) := by decide +kernel
abbrev N14 : MethodName := ⟨"java/lang/String", "equals", "(Ljava/lang/Object;)Z"⟩

abbrev rm_eq : Room := { frames := 1, cells := 0, slots := 0, locals := 14 }
set_option maxRecDepth 65536 in
set_option maxHeartbeats 4000000 in
theorem ct_eq (l : Launch) {Z : State} {n0 : Nat} {z : Int32} {f : Value} (W : Sx Z z f) (x b y d : Addr) (cs ds : List Int32) (h : Heap) (S : Str Z h x b cs) (S2 : Str Z h y d ds) :
    Ctr l Z n0 N14 jdk_42_method_66_code 3 (some .boolean) rm_eq #[(.ref x), (.ref y)] h [] (fun v h' sn => v = some (.int (if cs = ds then 1 else 0)) ∧ h = h' ∧ sn = []) := by
  refine Ctr.of_go (ls := #[.val (.ref x), .val (.ref y), .unset]) W.1 (plainFor_of_name pn_N4) (fun m => by first | (simp [entryFrame, mkF, argsToLocals, Value.category]; done) | rfl) (fun K H => ?_)
  have S0 := S
  have S20 := S2
  obtain ⟨A, Fv, Fc, Fb, hL, hn⟩ := S
  obtain ⟨A2, Fv2, Fc2, Fb2, hL2, hn2⟩ := S2
  refine Go.aloadN H d22_0 rfl rfl rfl ?_
  refine Go.aloadN H d22_1 rfl rfl rfl ?_
  by_cases c1 : x = y
  ·
    subst c1
    refine Go.acmpN H d22_2 rfl rfl (by simp [XT.acmp]) rfl ?_
    refine Go.iconst (1 : Int32) H d22_5 rfl rfl ?_
    exact Go.ireturn (1 : Int32) [] H d22_6 (by simp) (by decide) ⟨by rw [if_pos (S0.det S20)], rfl, rfl⟩ all0 (by decide) (by decide)
  ·
    refine Go.acmpY (pc' := 7) H d22_2 rfl rfl (by simp [XT.acmp, c1]) (by decide) (by decide) ?_
    refine Go.aloadN H d22_7 rfl rfl rfl ?_
    refine Go.instanceofY H d22_8 rfl w112 (Ins.self A2) ?_
    refine Go.ifN H d22_11 (by decide) rfl ?_
    refine Go.aloadN H d22_14 rfl rfl rfl ?_
    refine Go.checkcast H d22_15 rfl w112 (Ins.self A2) ?_
    refine Go.astoreN (ls' := #[.val (.ref x), .val (.ref y), .val (.ref y)]) H d22_18 rfl rfl rfl ?_
    refine Go.getstatic H d22_19 rfl w25 W.2.2.1 ?_
    refine Go.ifN H d22_22 (feq W.2.1).1 rfl ?_
    refine Go.aloadN H d22_25 rfl rfl rfl ?_
    refine Go.getfield H d22_26 rfl w37 Fc ?_
    refine Go.aloadN H d22_29 rfl rfl rfl ?_
    refine Go.getfield H d22_30 rfl w37 Fc2 ?_
    refine Go.icmpN H d22_33 (by decide) rfl ?_
    refine Go.aloadN H d22_36 rfl rfl rfl ?_
    refine Go.getfield H d22_37 rfl w39 Fv ?_
    refine Go.aloadN H d22_40 rfl rfl rfl ?_
    refine Go.getfield H d22_41 rfl w39 Fv2 ?_
    refine Go.callS (rest := []) 0 [(.ref b), (.ref d)] H d22_44 rfl w113 w114 w72 w115 pd_N13 (ct_leq l W b d _ _ h Fb Fb2 (by rw [List.length_map]; omega) (by rw [List.length_map]; omega)) all0 rfl rfl rfl (Nat.le_of_eq rfl) (by decide) (by decide) (by decide) (by decide) nh_N9 ?_
    rintro _ _ _ ⟨rfl, rfl, rfl⟩
    show Go _ _ _ _ _ _ h [] 0 0 47 #[.val (.ref x), .val (.ref y), .val (.ref y)] [(.int (if cs.map (nar .byte) = ds.map (nar .byte) then (1 : Int32) else 0))]
    by_cases c2 : cs = ds
    ·
      refine Go.ifN H d22_47 (feq (by rw [if_pos (congrArg _ c2)]; decide)).1 rfl ?_
      refine Go.iconst (1 : Int32) H d22_50 rfl rfl ?_
      refine Go.goto (pc' := 55) H d22_51 (by decide) (by decide) ?_
      exact Go.ireturn (1 : Int32) [] H d22_55 (by simp) (by decide) ⟨by rw [if_pos c2], rfl, rfl⟩ all0 (by decide) (by decide)
    ·
      refine Go.ifY (pc' := 54) H d22_47 (teq (by rw [if_neg (fun e => c2 (own_mapinj hL hL2 e))])).1 (by decide) (by decide) ?_
      refine Go.iconst (0 : Int32) H d22_54 rfl rfl ?_
      exact Go.ireturn (0 : Int32) [] H d22_55 (by simp) (by decide) ⟨by rw [if_neg c2], rfl, rfl⟩ all0 (by decide) (by decide)
theorem d11_0 : decode jdk_42_method_55_code 0 = .ok (.aload_n 0, 1) := by decide +kernel
theorem d11_1 : decode jdk_42_method_55_code 1 = .ok (.getfield 9, 3) := by decide +kernel
theorem d11_4 : decode jdk_42_method_55_code 4 = .ok (.arraylength, 1) := by decide +kernel
theorem d11_5 : decode jdk_42_method_55_code 5 = .ok (.ifCond .ne 7, 3) := by decide +kernel
theorem d11_8 : decode jdk_42_method_55_code 8 = .ok (.iconst 1, 1) := by decide +kernel
theorem d11_9 : decode jdk_42_method_55_code 9 = .ok (.goto 4, 3) := by decide +kernel
theorem d11_13 : decode jdk_42_method_55_code 13 = .ok (.ireturn, 1) := by decide +kernel
theorem d11_12 : decode jdk_42_method_55_code 12 = .ok (.iconst 0, 1) := by decide +kernel
abbrev N15 : MethodName := ⟨"java/lang/String", "isEmpty", "()Z"⟩

abbrev rm_emp : Room := { frames := 0, cells := 0, slots := 0, locals := 0 }
set_option maxRecDepth 65536 in
set_option maxHeartbeats 4000000 in
theorem ct_emp (l : Launch) {Z : State} {n0 : Nat} {z : Int32} {f : Value} (W : Sx Z z f) (x b : Addr) (cs : List Int32) (h : Heap) (S : Str Z h x b cs) :
    Ctr l Z n0 N15 jdk_42_method_55_code 1 (some .boolean) rm_emp #[(.ref x)] h [] (fun v h' sn => v = some (.int (if cs = [] then 1 else 0)) ∧ h = h' ∧ sn = []) := by
  refine Ctr.of_go (ls := #[.val (.ref x)]) W.1 (plainFor_of_name pn_N4) (fun m => by first | (simp [entryFrame, mkF, argsToLocals, Value.category]; done) | rfl) (fun K H => ?_)
  obtain ⟨A, Fv, Fc, Fb, hL, hn⟩ := S
  refine Go.aloadN H d11_0 rfl rfl rfl ?_
  refine Go.getfield H d11_1 rfl w39 Fv ?_
  refine Go.arraylength cs.length.toInt32 H d11_4 rfl Fb (by rw [List.length_map]) ?_
  by_cases c1 : cs = []
  ·
    refine Go.ifN H d11_5 (teq (by rw [c1]; rfl)).2 rfl ?_
    refine Go.iconst (1 : Int32) H d11_8 rfl rfl ?_
    refine Go.goto (pc' := 13) H d11_9 (by decide) (by decide) ?_
    exact Go.ireturn (1 : Int32) [] H d11_13 (by simp) (by decide) ⟨by rw [if_pos c1], rfl, rfl⟩ all0 (by decide) (by decide)
  ·
    refine Go.ifY (pc' := 12) H d11_5 (feq (own_ne0 hn (List.length_pos_iff.mpr c1))).2 (by decide) (by decide) ?_
    refine Go.iconst (0 : Int32) H d11_12 rfl rfl ?_
    exact Go.ireturn (0 : Int32) [] H d11_13 (by simp) (by decide) ⟨by rw [if_neg c1], rfl, rfl⟩ all0 (by decide) (by decide)
def idxF (a : Int32) : Int32 := ((a &&& (2147483647 : Int32)) % (65 : Int32))
theorem d2_0 : decode method_2_code 0 = .ok (.iload_n 0, 1) := by decide +kernel
theorem d2_1 : decode method_2_code 1 = .ok (.ldc 7, 2) := by decide +kernel
theorem w8 : Jvm.Cond.constant "com/example/rendezpoint/rendezpoint/core/NameOfPinLaw" (7 : Nat) (2147483647 : Int32) ∈ tables_1 := List.mem_of_getElem? (i := 8) rfl
theorem d2_3 : decode method_2_code 3 = .ok (.iand, 1) := by decide +kernel
theorem d2_4 : decode method_2_code 4 = .ok (.bipush 65, 2) := by decide +kernel
theorem d2_6 : decode method_2_code 6 = .ok (.irem, 1) := by decide +kernel
theorem d2_7 : decode method_2_code 7 = .ok (.ireturn, 1) := by decide +kernel
abbrev N16 : MethodName := ⟨"com/example/rendezpoint/rendezpoint/core/NameOfPinLaw", "index", "(I)I"⟩
theorem pn_N16 : plainName N16.cls = true := by first | (simp [plainName, overriddenIn]; done) | decide +kernel

abbrev rm_idx : Room := { frames := 0, cells := 0, slots := 0, locals := 0 }
set_option maxRecDepth 65536 in
set_option maxHeartbeats 4000000 in
theorem ct_idx (l : Launch) {Z : State} {n0 : Nat} {z : Int32} {f : Value} (W : Sx Z z f) (a : Int32) (h : Heap) :
    Ctr l Z n0 N16 method_2_code 1 (some .int) rm_idx #[(.int a)] h [] (fun v h' sn => v = some (.int (idxF a)) ∧ h = h' ∧ sn = []) := by
  refine Ctr.of_go (ls := #[.val (.int a)]) W.1 (plainFor_of_name pn_N16) (fun m => by first | (simp [entryFrame, mkF, argsToLocals, Value.category]; done) | rfl) (fun K H => ?_)
  refine Go.iloadN H d2_0 rfl rfl ?_
  refine Go.ldcInt H d2_1 rfl w8 ?_
  refine Go.iand H d2_3 rfl ?_
  refine Go.bipush (65 : Int32) H d2_4 rfl rfl ?_
  refine Go.irem H d2_6 rfl (by decide) ?_
  exact Go.ireturnI [] H d2_7 ⟨congrArg (fun q => some (Value.int q)) (show ((a &&& (2147483647 : Int32)) % (65 : Int32)) = idxF a from rfl), rfl, rfl⟩ all0 (by decide) (by decide)
def valF (a : Int32) : Int32 := if (idxF a) < (26 : Int32) then (nar .char ((65 : Int32) + (idxF a))) else if (idxF a) < (52 : Int32) then (nar .char ((97 : Int32) + ((idxF a) - (26 : Int32)))) else if (idxF a) < (62 : Int32) then (nar .char ((48 : Int32) + ((idxF a) - (52 : Int32)))) else if (idxF a) = (62 : Int32) then (95 : Int32) else if (idxF a) = (63 : Int32) then (45 : Int32) else (46 : Int32)
theorem d1_0 : decode method_3_code 0 = .ok (.iload_n 0, 1) := by decide +kernel
theorem d1_1 : decode method_3_code 1 = .ok (.invokestatic 8, 3) := by decide +kernel
theorem w7 : Jvm.Cond.code N16 method_2_code (1 : Nat) (Option.some Jvm.ClassFile.FieldType.int) ∈ tables_1 := List.mem_of_getElem? (i := 7) rfl
theorem w3 : Jvm.Cond.initialized "com/example/rendezpoint/rendezpoint/core/NameOfPinLaw" ∈ tables_1 := List.mem_of_getElem? (i := 3) rfl
theorem pd_N16 : parseMethodDescriptor N16.desc = some ⟨[.int], (some .int)⟩ := by decide +kernel
theorem nh_N16 : N16.cls ≠ "java/lang/invoke/MethodHandle" ∧ N16.cls ≠ "java/lang/invoke/VarHandle" := by decide
theorem w5 : Jvm.Cond.methodLink "com/example/rendezpoint/rendezpoint/core/NameOfPinLaw" (8 : Nat) N16 ∈ tables_1 := List.mem_of_getElem? (i := 5) rfl
theorem w6 : Jvm.Cond.static N16 ∈ tables_1 := List.mem_of_getElem? (i := 6) rfl
theorem d1_4 : decode method_3_code 4 = .ok (.istore_n 1, 1) := by decide +kernel
theorem d1_5 : decode method_3_code 5 = .ok (.iload_n 1, 1) := by decide +kernel
theorem d1_6 : decode method_3_code 6 = .ok (.bipush 26, 2) := by decide +kernel
theorem d1_8 : decode method_3_code 8 = .ok (.if_icmp .ge 9, 3) := by decide +kernel
theorem d1_11 : decode method_3_code 11 = .ok (.bipush 65, 2) := by decide +kernel
theorem d1_13 : decode method_3_code 13 = .ok (.iload_n 1, 1) := by decide +kernel
theorem d1_14 : decode method_3_code 14 = .ok (.iadd, 1) := by decide +kernel
theorem d1_15 : decode method_3_code 15 = .ok (.i2c, 1) := by decide +kernel
theorem d1_16 : decode method_3_code 16 = .ok (.ireturn, 1) := by decide +kernel
theorem d1_17 : decode method_3_code 17 = .ok (.iload_n 1, 1) := by decide +kernel
theorem d1_18 : decode method_3_code 18 = .ok (.bipush 52, 2) := by decide +kernel
theorem d1_20 : decode method_3_code 20 = .ok (.if_icmp .ge 12, 3) := by decide +kernel
theorem d1_23 : decode method_3_code 23 = .ok (.bipush 97, 2) := by decide +kernel
theorem d1_25 : decode method_3_code 25 = .ok (.iload_n 1, 1) := by decide +kernel
theorem d1_26 : decode method_3_code 26 = .ok (.bipush 26, 2) := by decide +kernel
theorem d1_28 : decode method_3_code 28 = .ok (.isub, 1) := by decide +kernel
theorem d1_29 : decode method_3_code 29 = .ok (.iadd, 1) := by decide +kernel
theorem d1_30 : decode method_3_code 30 = .ok (.i2c, 1) := by decide +kernel
theorem d1_31 : decode method_3_code 31 = .ok (.ireturn, 1) := by decide +kernel
theorem d1_32 : decode method_3_code 32 = .ok (.iload_n 1, 1) := by decide +kernel
theorem d1_33 : decode method_3_code 33 = .ok (.bipush 62, 2) := by decide +kernel
theorem d1_35 : decode method_3_code 35 = .ok (.if_icmp .ge 12, 3) := by decide +kernel
theorem d1_38 : decode method_3_code 38 = .ok (.bipush 48, 2) := by decide +kernel
theorem d1_40 : decode method_3_code 40 = .ok (.iload_n 1, 1) := by decide +kernel
theorem d1_41 : decode method_3_code 41 = .ok (.bipush 52, 2) := by decide +kernel
theorem d1_43 : decode method_3_code 43 = .ok (.isub, 1) := by decide +kernel
theorem d1_44 : decode method_3_code 44 = .ok (.iadd, 1) := by decide +kernel
theorem d1_45 : decode method_3_code 45 = .ok (.i2c, 1) := by decide +kernel
theorem d1_46 : decode method_3_code 46 = .ok (.ireturn, 1) := by decide +kernel
theorem d1_47 : decode method_3_code 47 = .ok (.iload_n 1, 1) := by decide +kernel
theorem d1_48 : decode method_3_code 48 = .ok (.bipush 62, 2) := by decide +kernel
theorem d1_50 : decode method_3_code 50 = .ok (.if_icmp .ne 6, 3) := by decide +kernel
theorem d1_53 : decode method_3_code 53 = .ok (.bipush 95, 2) := by decide +kernel
theorem d1_55 : decode method_3_code 55 = .ok (.ireturn, 1) := by decide +kernel
theorem d1_56 : decode method_3_code 56 = .ok (.iload_n 1, 1) := by decide +kernel
theorem d1_57 : decode method_3_code 57 = .ok (.bipush 63, 2) := by decide +kernel
theorem d1_59 : decode method_3_code 59 = .ok (.if_icmp .ne 6, 3) := by decide +kernel
theorem d1_62 : decode method_3_code 62 = .ok (.bipush 45, 2) := by decide +kernel
theorem d1_64 : decode method_3_code 64 = .ok (.ireturn, 1) := by decide +kernel
theorem d1_65 : decode method_3_code 65 = .ok (.bipush 46, 2) := by decide +kernel
theorem d1_67 : decode method_3_code 67 = .ok (.ireturn, 1) := by decide +kernel
abbrev N17 : MethodName := ⟨"com/example/rendezpoint/rendezpoint/core/NameOfPinLaw", "valid", "(I)C"⟩

abbrev rm_val : Room := { frames := 1, cells := 0, slots := 0, locals := 12 }
set_option maxRecDepth 65536 in
set_option maxHeartbeats 4000000 in
theorem ct_val (l : Launch) {Z : State} {n0 : Nat} {z : Int32} {f : Value} (W : Sx Z z f) (a : Int32) (h : Heap) :
    Ctr l Z n0 N17 method_3_code 2 (some .char) rm_val #[(.int a)] h [] (fun v h' sn => v = some (.int (valF a)) ∧ h = h' ∧ sn = []) := by
  refine Ctr.of_go (ls := #[.val (.int a), .unset]) W.1 (plainFor_of_name pn_N16) (fun m => by first | (simp [entryFrame, mkF, argsToLocals, Value.category]; done) | rfl) (fun K H => ?_)
  refine Go.iloadN H d1_0 rfl rfl ?_
  refine Go.callS (rest := []) 0 [(.int a)] H d1_1 rfl w5 w6 w3 w7 pd_N16 (ct_idx l W a h) all0 rfl rfl rfl (Nat.le_of_eq rfl) (by decide) (by decide) (by decide) (by decide) nh_N16 ?_
  rintro _ _ _ ⟨rfl, rfl, rfl⟩
  show Go _ _ _ _ _ _ h [] 0 0 4 #[.val (.int a), .unset] [(.int (idxF a))]
  refine Go.istoreN (ls' := #[.val (.int a), .val (.int (idxF a))]) H d1_4 rfl rfl ?_
  refine Go.iloadN H d1_5 rfl rfl ?_
  refine Go.bipush (26 : Int32) H d1_6 rfl rfl ?_
  by_cases c1 : (idxF a) < (26 : Int32)
  ·
    refine Go.icmpN H d1_8 (tlt c1).2.1 rfl ?_
    refine Go.bipush (65 : Int32) H d1_11 rfl rfl ?_
    refine Go.iloadN H d1_13 rfl rfl ?_
    refine Go.iadd H d1_14 rfl ?_
    refine Go.i2c H d1_15 rfl ?_
    exact Go.ireturn (nar .char ((65 : Int32) + (idxF a))) [] H d1_16 (by simp) own_nn ⟨congrArg (fun q => some (Value.int q)) (show (nar .char ((65 : Int32) + (idxF a))) = valF a from Eq.symm (by rw [valF, if_pos c1])), rfl, rfl⟩ all0 (by decide) (by decide)
  ·
    refine Go.icmpY (pc' := 17) H d1_8 (flt c1).2.1 (by decide) (by decide) ?_
    refine Go.iloadN H d1_17 rfl rfl ?_
    refine Go.bipush (52 : Int32) H d1_18 rfl rfl ?_
    by_cases c2 : (idxF a) < (52 : Int32)
    ·
      refine Go.icmpN H d1_20 (tlt c2).2.1 rfl ?_
      refine Go.bipush (97 : Int32) H d1_23 rfl rfl ?_
      refine Go.iloadN H d1_25 rfl rfl ?_
      refine Go.bipush (26 : Int32) H d1_26 rfl rfl ?_
      refine Go.isub H d1_28 rfl ?_
      refine Go.iadd H d1_29 rfl ?_
      refine Go.i2c H d1_30 rfl ?_
      exact Go.ireturn (nar .char ((97 : Int32) + ((idxF a) - (26 : Int32)))) [] H d1_31 (by simp) own_nn ⟨congrArg (fun q => some (Value.int q)) (show (nar .char ((97 : Int32) + ((idxF a) - (26 : Int32)))) = valF a from Eq.symm (by rw [valF, if_neg c1, if_pos c2])), rfl, rfl⟩ all0 (by decide) (by decide)
    ·
      refine Go.icmpY (pc' := 32) H d1_20 (flt c2).2.1 (by decide) (by decide) ?_
      refine Go.iloadN H d1_32 rfl rfl ?_
      refine Go.bipush (62 : Int32) H d1_33 rfl rfl ?_
      by_cases c3 : (idxF a) < (62 : Int32)
      ·
        refine Go.icmpN H d1_35 (tlt c3).2.1 rfl ?_
        refine Go.bipush (48 : Int32) H d1_38 rfl rfl ?_
        refine Go.iloadN H d1_40 rfl rfl ?_
        refine Go.bipush (52 : Int32) H d1_41 rfl rfl ?_
        refine Go.isub H d1_43 rfl ?_
        refine Go.iadd H d1_44 rfl ?_
        refine Go.i2c H d1_45 rfl ?_
        exact Go.ireturn (nar .char ((48 : Int32) + ((idxF a) - (52 : Int32)))) [] H d1_46 (by simp) own_nn ⟨congrArg (fun q => some (Value.int q)) (show (nar .char ((48 : Int32) + ((idxF a) - (52 : Int32)))) = valF a from Eq.symm (by rw [valF, if_neg c1, if_neg c2, if_pos c3])), rfl, rfl⟩ all0 (by decide) (by decide)
      ·
        refine Go.icmpY (pc' := 47) H d1_35 (flt c3).2.1 (by decide) (by decide) ?_
        refine Go.iloadN H d1_47 rfl rfl ?_
        refine Go.bipush (62 : Int32) H d1_48 rfl rfl ?_
        by_cases c4 : (idxF a) = (62 : Int32)
        ·
          refine Go.icmpN H d1_50 (teq c4).2 rfl ?_
          refine Go.bipush (95 : Int32) H d1_53 rfl rfl ?_
          exact Go.ireturn (95 : Int32) [] H d1_55 (by simp) (by decide) ⟨congrArg (fun q => some (Value.int q)) (show (95 : Int32) = valF a from Eq.symm (by rw [valF, if_neg c1, if_neg c2, if_neg c3, if_pos c4])), rfl, rfl⟩ all0 (by decide) (by decide)
        ·
          refine Go.icmpY (pc' := 56) H d1_50 (feq c4).2 (by decide) (by decide) ?_
          refine Go.iloadN H d1_56 rfl rfl ?_
          refine Go.bipush (63 : Int32) H d1_57 rfl rfl ?_
          by_cases c5 : (idxF a) = (63 : Int32)
          ·
            refine Go.icmpN H d1_59 (teq c5).2 rfl ?_
            refine Go.bipush (45 : Int32) H d1_62 rfl rfl ?_
            exact Go.ireturn (45 : Int32) [] H d1_64 (by simp) (by decide) ⟨congrArg (fun q => some (Value.int q)) (show (45 : Int32) = valF a from Eq.symm (by rw [valF, if_neg c1, if_neg c2, if_neg c3, if_neg c4, if_pos c5])), rfl, rfl⟩ all0 (by decide) (by decide)
          ·
            refine Go.icmpY (pc' := 65) H d1_59 (feq c5).2 (by decide) (by decide) ?_
            refine Go.bipush (46 : Int32) H d1_65 rfl rfl ?_
            exact Go.ireturn (46 : Int32) [] H d1_67 (by simp) (by decide) ⟨congrArg (fun q => some (Value.int q)) (show (46 : Int32) = valF a from Eq.symm (by rw [valF, if_neg c1, if_neg c2, if_neg c3, if_neg c4, if_neg c5])), rfl, rfl⟩ all0 (by decide) (by decide)
theorem valF_c (a : Int32) : nar .char (valF a) = valF a := by
  unfold valF
  repeat' split
  all_goals first | exact own_nn | decide
def folF (a : Int32) : Int32 := if (idxF a) < (26 : Int32) then (nar .char ((97 : Int32) + (idxF a))) else (valF a)
theorem d3_0 : decode method_4_code 0 = .ok (.iload_n 0, 1) := by decide +kernel
theorem d3_1 : decode method_4_code 1 = .ok (.invokestatic 8, 3) := by decide +kernel
theorem d3_4 : decode method_4_code 4 = .ok (.istore_n 1, 1) := by decide +kernel
theorem d3_5 : decode method_4_code 5 = .ok (.iload_n 1, 1) := by decide +kernel
theorem d3_6 : decode method_4_code 6 = .ok (.bipush 26, 2) := by decide +kernel
theorem d3_8 : decode method_4_code 8 = .ok (.if_icmp .ge 9, 3) := by decide +kernel
theorem d3_11 : decode method_4_code 11 = .ok (.bipush 97, 2) := by decide +kernel
theorem d3_13 : decode method_4_code 13 = .ok (.iload_n 1, 1) := by decide +kernel
theorem d3_14 : decode method_4_code 14 = .ok (.iadd, 1) := by decide +kernel
theorem d3_15 : decode method_4_code 15 = .ok (.i2c, 1) := by decide +kernel
theorem d3_16 : decode method_4_code 16 = .ok (.ireturn, 1) := by decide +kernel
theorem d3_17 : decode method_4_code 17 = .ok (.iload_n 0, 1) := by decide +kernel
theorem d3_18 : decode method_4_code 18 = .ok (.invokestatic 14, 3) := by decide +kernel
theorem w4 : Jvm.Cond.code N17 method_3_code (2 : Nat) (Option.some Jvm.ClassFile.FieldType.char) ∈ tables_1 := List.mem_of_getElem? (i := 4) rfl
theorem pd_N17 : parseMethodDescriptor N17.desc = some ⟨[.int], (some .char)⟩ := by decide +kernel
theorem w1 : Jvm.Cond.methodLink "com/example/rendezpoint/rendezpoint/core/NameOfPinLaw" (14 : Nat) N17 ∈ tables_1 := List.mem_of_getElem? (i := 1) rfl
theorem w2 : Jvm.Cond.static N17 ∈ tables_1 := List.mem_of_getElem? (i := 2) rfl
theorem d3_21 : decode method_4_code 21 = .ok (.ireturn, 1) := by decide +kernel
abbrev N18 : MethodName := ⟨"com/example/rendezpoint/rendezpoint/core/NameOfPinLaw", "folded", "(I)C"⟩

abbrev rm_fol : Room := { frames := 2, cells := 0, slots := 0, locals := 25 }
set_option maxRecDepth 65536 in
set_option maxHeartbeats 4000000 in
theorem ct_fol (l : Launch) {Z : State} {n0 : Nat} {z : Int32} {f : Value} (W : Sx Z z f) (a : Int32) (h : Heap) :
    Ctr l Z n0 N18 method_4_code 2 (some .char) rm_fol #[(.int a)] h [] (fun v h' sn => v = some (.int (folF a)) ∧ h = h' ∧ sn = []) := by
  refine Ctr.of_go (ls := #[.val (.int a), .unset]) W.1 (plainFor_of_name pn_N16) (fun m => by first | (simp [entryFrame, mkF, argsToLocals, Value.category]; done) | rfl) (fun K H => ?_)
  refine Go.iloadN H d3_0 rfl rfl ?_
  refine Go.callS (rest := []) 0 [(.int a)] H d3_1 rfl w5 w6 w3 w7 pd_N16 (ct_idx l W a h) all0 rfl rfl rfl (Nat.le_of_eq rfl) (by decide) (by decide) (by decide) (by decide) nh_N16 ?_
  rintro _ _ _ ⟨rfl, rfl, rfl⟩
  show Go _ _ _ _ _ _ h [] 0 0 4 #[.val (.int a), .unset] [(.int (idxF a))]
  refine Go.istoreN (ls' := #[.val (.int a), .val (.int (idxF a))]) H d3_4 rfl rfl ?_
  refine Go.iloadN H d3_5 rfl rfl ?_
  refine Go.bipush (26 : Int32) H d3_6 rfl rfl ?_
  by_cases c1 : (idxF a) < (26 : Int32)
  ·
    refine Go.icmpN H d3_8 (tlt c1).2.1 rfl ?_
    refine Go.bipush (97 : Int32) H d3_11 rfl rfl ?_
    refine Go.iloadN H d3_13 rfl rfl ?_
    refine Go.iadd H d3_14 rfl ?_
    refine Go.i2c H d3_15 rfl ?_
    exact Go.ireturn (nar .char ((97 : Int32) + (idxF a))) [] H d3_16 (by simp) own_nn ⟨congrArg (fun q => some (Value.int q)) (show (nar .char ((97 : Int32) + (idxF a))) = folF a from Eq.symm (by rw [folF, if_pos c1])), rfl, rfl⟩ all0 (by decide) (by decide)
  ·
    refine Go.icmpY (pc' := 17) H d3_8 (flt c1).2.1 (by decide) (by decide) ?_
    refine Go.iloadN H d3_17 rfl rfl ?_
    refine Go.callS (rest := []) 0 [(.int a)] H d3_18 rfl w1 w2 w3 w4 pd_N17 (ct_val l W a h) all0 rfl rfl rfl (Nat.le_of_eq rfl) (by decide) (by decide) (by decide) (by decide) nh_N16 ?_
    rintro _ _ _ ⟨rfl, rfl, rfl⟩
    show Go _ _ _ _ _ _ h [] 0 0 21 #[.val (.int a), .val (.int (idxF a))] [(.int (valF a))]
    exact Go.ireturn (valF a) [] H d3_21 (by simp) (valF_c _) ⟨congrArg (fun q => some (Value.int q)) (show (valF a) = folF a from Eq.symm (by rw [folF, if_neg c1])), rfl, rfl⟩ all0 (by decide) (by decide)
def lowF (c : Int32) : Int32 := if c < (65 : Int32) then (nar .char c) else if (90 : Int32) < c then (nar .char c) else (nar .char ((c - (65 : Int32)) + (97 : Int32)))
theorem d19_0 : decode prog_6_method_5_code 0 = .ok (.iload_n 0, 1) := by decide +kernel
theorem d19_1 : decode prog_6_method_5_code 1 = .ok (.bipush 65, 2) := by decide +kernel
theorem d19_3 : decode prog_6_method_5_code 3 = .ok (.if_icmp .lt 20, 3) := by decide +kernel
theorem d19_23 : decode prog_6_method_5_code 23 = .ok (.iload_n 0, 1) := by decide +kernel
theorem d19_24 : decode prog_6_method_5_code 24 = .ok (.ireturn, 1) := by decide +kernel
theorem d19_6 : decode prog_6_method_5_code 6 = .ok (.iload_n 0, 1) := by decide +kernel
theorem d19_7 : decode prog_6_method_5_code 7 = .ok (.bipush 90, 2) := by decide +kernel
theorem d19_9 : decode prog_6_method_5_code 9 = .ok (.if_icmp .gt 14, 3) := by decide +kernel
theorem d19_12 : decode prog_6_method_5_code 12 = .ok (.iload_n 0, 1) := by decide +kernel
theorem d19_13 : decode prog_6_method_5_code 13 = .ok (.bipush 65, 2) := by decide +kernel
theorem d19_15 : decode prog_6_method_5_code 15 = .ok (.isub, 1) := by decide +kernel
theorem d19_16 : decode prog_6_method_5_code 16 = .ok (.bipush 97, 2) := by decide +kernel
theorem d19_18 : decode prog_6_method_5_code 18 = .ok (.iadd, 1) := by decide +kernel
theorem d19_19 : decode prog_6_method_5_code 19 = .ok (.i2c, 1) := by decide +kernel
theorem d19_20 : decode prog_6_method_5_code 20 = .ok (.goto 4, 3) := by decide +kernel
abbrev N19 : MethodName := ⟨"com/example/rendezpoint/rendezpoint/core/Name", "lowerCase", "(C)C"⟩
theorem pn_N19 : plainName N19.cls = true := by first | (simp [plainName, overriddenIn]; done) | decide +kernel

abbrev rm_low : Room := { frames := 0, cells := 0, slots := 0, locals := 0 }
set_option maxRecDepth 65536 in
set_option maxHeartbeats 4000000 in
theorem ct_low (l : Launch) {Z : State} {n0 : Nat} {z : Int32} {f : Value} (W : Sx Z z f) (c : Int32) (h : Heap) :
    Ctr l Z n0 N19 prog_6_method_5_code 1 (some .char) rm_low #[(.int c)] h [] (fun v h' sn => v = some (.int (lowF c)) ∧ h = h' ∧ sn = []) := by
  refine Ctr.of_go (ls := #[.val (.int c)]) W.1 (plainFor_of_name pn_N19) (fun m => by first | (simp [entryFrame, mkF, argsToLocals, Value.category]; done) | rfl) (fun K H => ?_)
  refine Go.iloadN H d19_0 rfl rfl ?_
  refine Go.bipush (65 : Int32) H d19_1 rfl rfl ?_
  by_cases c1 : c < (65 : Int32)
  ·
    refine Go.icmpY (pc' := 23) H d19_3 (tlt c1).1 (by decide) (by decide) ?_
    refine Go.iloadN H d19_23 rfl rfl ?_
    exact Go.ireturn (nar .char c) [] H d19_24 (by simp) rfl ⟨congrArg (fun q => some (Value.int q)) (show (nar .char c) = lowF c from Eq.symm (by rw [lowF, if_pos c1])), rfl, rfl⟩ all0 (by decide) (by decide)
  ·
    refine Go.icmpN H d19_3 (flt c1).1 rfl ?_
    refine Go.iloadN H d19_6 rfl rfl ?_
    refine Go.bipush (90 : Int32) H d19_7 rfl rfl ?_
    by_cases c2 : (90 : Int32) < c
    ·
      refine Go.icmpY (pc' := 23) H d19_9 (tlt c2).2.2.1 (by decide) (by decide) ?_
      refine Go.iloadN H d19_23 rfl rfl ?_
      exact Go.ireturn (nar .char c) [] H d19_24 (by simp) rfl ⟨congrArg (fun q => some (Value.int q)) (show (nar .char c) = lowF c from Eq.symm (by rw [lowF, if_neg c1, if_pos c2])), rfl, rfl⟩ all0 (by decide) (by decide)
    ·
      refine Go.icmpN H d19_9 (flt c2).2.2.1 rfl ?_
      refine Go.iloadN H d19_12 rfl rfl ?_
      refine Go.bipush (65 : Int32) H d19_13 rfl rfl ?_
      refine Go.isub H d19_15 rfl ?_
      refine Go.bipush (97 : Int32) H d19_16 rfl rfl ?_
      refine Go.iadd H d19_18 rfl ?_
      refine Go.i2c H d19_19 rfl ?_
      refine Go.goto (pc' := 24) H d19_20 (by decide) (by decide) ?_
      exact Go.ireturn (nar .char ((c - (65 : Int32)) + (97 : Int32))) [] H d19_24 (by simp) own_nn ⟨congrArg (fun q => some (Value.int q)) (show (nar .char ((c - (65 : Int32)) + (97 : Int32))) = lowF c from Eq.symm (by rw [lowF, if_neg c1, if_neg c2])), rfl, rfl⟩ all0 (by decide) (by decide)
theorem lowF_c (c : Int32) : nar .char (lowF c) = lowF c := by
  unfold lowF
  repeat' split
  all_goals exact own_nn
def okF (c : Int32) : Prop := (¬ lowF c < 97 ∧ ¬ 122 < lowF c) ∨ (¬ c < 48 ∧ ¬ 57 < c) ∨ c = 95 ∨ c = 45 ∨ c = 46
def vK (k : Int32) : Int32 := if k < 26 then nar .char (65 + k) else if k < 52 then nar .char (97 + (k - 26)) else if k < 62 then nar .char (48 + (k - 52)) else if k = 62 then 95 else if k = 63 then 45 else 46
def fK (k : Int32) : Int32 := if k < 26 then nar .char (97 + k) else vK k
theorem valF_v (a : Int32) : valF a = vK (idxF a) := rfl
theorem folF_v (a : Int32) : folF a = fK (idxF a) := rfl
def goodK (v f : Int32) : Prop := (0 ≤ v.toInt ∧ v.toInt ≤ 255) ∧ (0 ≤ f.toInt ∧ f.toInt ≤ 255) ∧ lowF v = f ∧ lowF f = f ∧ ((¬ lowF v < 97 ∧ ¬ 122 < lowF v) ∨ (¬ v < 48 ∧ ¬ 57 < v) ∨ v = 95 ∨ v = 45 ∨ v = 46) ∧ ((¬ lowF f < 97 ∧ ¬ 122 < lowF f) ∨ (¬ f < 48 ∧ ¬ 57 < f) ∨ f = 95 ∨ f = 45 ∨ f = 46)
instance (v f : Int32) : Decidable (goodK v f) := by unfold goodK; infer_instance
theorem good_all : ∀ n : Fin 65, goodK (vK (Int32.ofNat n.val)) (fK (Int32.ofNat n.val)) := by decide +kernel
theorem good_a (a : Int32) : goodK (valF a) (folF a) := by
  rw [valF_v, folF_v]
  have m1 := c_mask a 2147483647 31 (by decide) (by decide)
  have q1 := (c_irem (a &&& 2147483647) 65 65 (by decide)).1 (by omega)
  have h : 0 ≤ (idxF a).toInt ∧ (idxF a).toInt < 65 := by unfold idxF; omega
  have e : idxF a = Int32.ofNat ((idxF a).toInt.toNat) := Int32.toInt_inj.mp (by
    have := own_len (n := (idxF a).toInt.toNat) (by omega)
    show _ = ((idxF a).toInt.toNat).toInt32.toInt
    rw [this]; omega)
  rw [e]; exact good_all ⟨(idxF a).toInt.toNat, by omega⟩
theorem val_l (a : Int32) : isL (valF a) := (good_a a).1
theorem fol_l (a : Int32) : isL (folF a) := (good_a a).2.1
theorem val_low (a : Int32) : lowF (valF a) = folF a := (good_a a).2.2.1
theorem fol_low (a : Int32) : lowF (folF a) = folF a := (good_a a).2.2.2.1
theorem val_ok (a : Int32) : okF (valF a) := (good_a a).2.2.2.2.1
theorem fol_ok (a : Int32) : okF (folF a) := (good_a a).2.2.2.2.2
theorem folF_c (a : Int32) : nar .char (folF a) = folF a := own_char (fol_l a).c
theorem d10_74 : decode prog_6_method_2_code 74 = .ok (.iload 4, 2) := by decide +kernel
theorem d10_76 : decode prog_6_method_2_code 76 = .ok (.bipush 97, 2) := by decide +kernel
theorem d10_78 : decode prog_6_method_2_code 78 = .ok (.if_icmp .lt 10, 3) := by decide +kernel
theorem d10_88 : decode prog_6_method_2_code 88 = .ok (.iload_n 3, 1) := by decide +kernel
theorem d10_89 : decode prog_6_method_2_code 89 = .ok (.bipush 48, 2) := by decide +kernel
theorem d10_91 : decode prog_6_method_2_code 91 = .ok (.if_icmp .lt 9, 3) := by decide +kernel
theorem d10_100 : decode prog_6_method_2_code 100 = .ok (.iload_n 3, 1) := by decide +kernel
theorem d10_101 : decode prog_6_method_2_code 101 = .ok (.bipush 95, 2) := by decide +kernel
theorem d10_103 : decode prog_6_method_2_code 103 = .ok (.if_icmp .eq 52, 3) := by decide +kernel
theorem d10_106 : decode prog_6_method_2_code 106 = .ok (.iload_n 3, 1) := by decide +kernel
theorem d10_107 : decode prog_6_method_2_code 107 = .ok (.bipush 45, 2) := by decide +kernel
theorem d10_109 : decode prog_6_method_2_code 109 = .ok (.if_icmp .eq 46, 3) := by decide +kernel
theorem d10_112 : decode prog_6_method_2_code 112 = .ok (.iload_n 3, 1) := by decide +kernel
theorem d10_113 : decode prog_6_method_2_code 113 = .ok (.bipush 46, 2) := by decide +kernel
theorem d10_115 : decode prog_6_method_2_code 115 = .ok (.if_icmp .eq 40, 3) := by decide +kernel
theorem d10_94 : decode prog_6_method_2_code 94 = .ok (.iload_n 3, 1) := by decide +kernel
theorem d10_95 : decode prog_6_method_2_code 95 = .ok (.bipush 57, 2) := by decide +kernel
theorem d10_97 : decode prog_6_method_2_code 97 = .ok (.if_icmp .le 58, 3) := by decide +kernel
theorem d10_81 : decode prog_6_method_2_code 81 = .ok (.iload 4, 2) := by decide +kernel
theorem d10_83 : decode prog_6_method_2_code 83 = .ok (.bipush 122, 2) := by decide +kernel
theorem d10_85 : decode prog_6_method_2_code 85 = .ok (.if_icmp .le 70, 3) := by decide +kernel

set_option maxRecDepth 65536 in
theorem nm_chk {l : Launch} {Z : State} {n0 : Nat} {R : Room} {K : Cx} {Q : Option Value → Heap → List Addr → Prop} {h : Heap} {sf : List Addr} {k j : Nat} {x a : Addr} {i c : Int32} (H : Ok Z K "com/example/rendezpoint/rendezpoint/core/Name" prog_6_method_2_code 5 (some (.object "com/example/rendezpoint/rendezpoint/core/Name")) "of") (ok : okF c) (r : Go l Z n0 R K Q h sf k j 155 #[.val (.ref x), .val (.ref a), .val (.int i), .val (.int c), .val (.int (lowF c))] []) : Go l Z n0 R K Q h sf k j 74 #[.val (.ref x), .val (.ref a), .val (.int i), .val (.int c), .val (.int (lowF c))] [] := by
  refine Go.iload H d10_74 rfl rfl ?_
  refine Go.bipush (97 : Int32) H d10_76 rfl rfl ?_
  by_cases c1 : (lowF c) < (97 : Int32)
  ·
    refine Go.icmpY (pc' := 88) H d10_78 (tlt c1).1 (by decide) (by decide) ?_
    refine Go.iloadN H d10_88 rfl rfl ?_
    refine Go.bipush (48 : Int32) H d10_89 rfl rfl ?_
    by_cases c2 : c < (48 : Int32)
    ·
      refine Go.icmpY (pc' := 100) H d10_91 (tlt c2).1 (by decide) (by decide) ?_
      refine Go.iloadN H d10_100 rfl rfl ?_
      refine Go.bipush (95 : Int32) H d10_101 rfl rfl ?_
      by_cases c3 : c = (95 : Int32)
      ·
        refine Go.icmpY (pc' := 155) H d10_103 (teq c3).1 (by decide) (by decide) ?_
        exact r
      ·
        refine Go.icmpN H d10_103 (feq c3).1 rfl ?_
        refine Go.iloadN H d10_106 rfl rfl ?_
        refine Go.bipush (45 : Int32) H d10_107 rfl rfl ?_
        by_cases c4 : c = (45 : Int32)
        ·
          refine Go.icmpY (pc' := 155) H d10_109 (teq c4).1 (by decide) (by decide) ?_
          exact r
        ·
          refine Go.icmpN H d10_109 (feq c4).1 rfl ?_
          refine Go.iloadN H d10_112 rfl rfl ?_
          refine Go.bipush (46 : Int32) H d10_113 rfl rfl ?_
          by_cases c5 : c = (46 : Int32)
          ·
            refine Go.icmpY (pc' := 155) H d10_115 (teq c5).1 (by decide) (by decide) ?_
            exact r
          ·
            refine Go.icmpN H d10_115 (feq c5).1 rfl ?_
            rcases ok with ⟨p, q⟩ | ⟨p, q⟩ | p | p | p <;> contradiction
    ·
      refine Go.icmpN H d10_91 (flt c2).1 rfl ?_
      refine Go.iloadN H d10_94 rfl rfl ?_
      refine Go.bipush (57 : Int32) H d10_95 rfl rfl ?_
      by_cases c6 : (57 : Int32) < c
      ·
        refine Go.icmpN H d10_97 (tlt c6).2.2.2 rfl ?_
        refine Go.iloadN H d10_100 rfl rfl ?_
        refine Go.bipush (95 : Int32) H d10_101 rfl rfl ?_
        by_cases c7 : c = (95 : Int32)
        ·
          refine Go.icmpY (pc' := 155) H d10_103 (teq c7).1 (by decide) (by decide) ?_
          exact r
        ·
          refine Go.icmpN H d10_103 (feq c7).1 rfl ?_
          refine Go.iloadN H d10_106 rfl rfl ?_
          refine Go.bipush (45 : Int32) H d10_107 rfl rfl ?_
          by_cases c8 : c = (45 : Int32)
          ·
            refine Go.icmpY (pc' := 155) H d10_109 (teq c8).1 (by decide) (by decide) ?_
            exact r
          ·
            refine Go.icmpN H d10_109 (feq c8).1 rfl ?_
            refine Go.iloadN H d10_112 rfl rfl ?_
            refine Go.bipush (46 : Int32) H d10_113 rfl rfl ?_
            by_cases c9 : c = (46 : Int32)
            ·
              refine Go.icmpY (pc' := 155) H d10_115 (teq c9).1 (by decide) (by decide) ?_
              exact r
            ·
              refine Go.icmpN H d10_115 (feq c9).1 rfl ?_
              rcases ok with ⟨p, q⟩ | ⟨p, q⟩ | p | p | p <;> contradiction
      ·
        refine Go.icmpY (pc' := 155) H d10_97 (flt c6).2.2.2 (by decide) (by decide) ?_
        exact r
  ·
    refine Go.icmpN H d10_78 (flt c1).1 rfl ?_
    refine Go.iload H d10_81 rfl rfl ?_
    refine Go.bipush (122 : Int32) H d10_83 rfl rfl ?_
    by_cases c10 : (122 : Int32) < (lowF c)
    ·
      refine Go.icmpN H d10_85 (tlt c10).2.2.2 rfl ?_
      refine Go.iloadN H d10_88 rfl rfl ?_
      refine Go.bipush (48 : Int32) H d10_89 rfl rfl ?_
      by_cases c11 : c < (48 : Int32)
      ·
        refine Go.icmpY (pc' := 100) H d10_91 (tlt c11).1 (by decide) (by decide) ?_
        refine Go.iloadN H d10_100 rfl rfl ?_
        refine Go.bipush (95 : Int32) H d10_101 rfl rfl ?_
        by_cases c12 : c = (95 : Int32)
        ·
          refine Go.icmpY (pc' := 155) H d10_103 (teq c12).1 (by decide) (by decide) ?_
          exact r
        ·
          refine Go.icmpN H d10_103 (feq c12).1 rfl ?_
          refine Go.iloadN H d10_106 rfl rfl ?_
          refine Go.bipush (45 : Int32) H d10_107 rfl rfl ?_
          by_cases c13 : c = (45 : Int32)
          ·
            refine Go.icmpY (pc' := 155) H d10_109 (teq c13).1 (by decide) (by decide) ?_
            exact r
          ·
            refine Go.icmpN H d10_109 (feq c13).1 rfl ?_
            refine Go.iloadN H d10_112 rfl rfl ?_
            refine Go.bipush (46 : Int32) H d10_113 rfl rfl ?_
            by_cases c14 : c = (46 : Int32)
            ·
              refine Go.icmpY (pc' := 155) H d10_115 (teq c14).1 (by decide) (by decide) ?_
              exact r
            ·
              refine Go.icmpN H d10_115 (feq c14).1 rfl ?_
              rcases ok with ⟨p, q⟩ | ⟨p, q⟩ | p | p | p <;> contradiction
      ·
        refine Go.icmpN H d10_91 (flt c11).1 rfl ?_
        refine Go.iloadN H d10_94 rfl rfl ?_
        refine Go.bipush (57 : Int32) H d10_95 rfl rfl ?_
        by_cases c15 : (57 : Int32) < c
        ·
          refine Go.icmpN H d10_97 (tlt c15).2.2.2 rfl ?_
          refine Go.iloadN H d10_100 rfl rfl ?_
          refine Go.bipush (95 : Int32) H d10_101 rfl rfl ?_
          by_cases c16 : c = (95 : Int32)
          ·
            refine Go.icmpY (pc' := 155) H d10_103 (teq c16).1 (by decide) (by decide) ?_
            exact r
          ·
            refine Go.icmpN H d10_103 (feq c16).1 rfl ?_
            refine Go.iloadN H d10_106 rfl rfl ?_
            refine Go.bipush (45 : Int32) H d10_107 rfl rfl ?_
            by_cases c17 : c = (45 : Int32)
            ·
              refine Go.icmpY (pc' := 155) H d10_109 (teq c17).1 (by decide) (by decide) ?_
              exact r
            ·
              refine Go.icmpN H d10_109 (feq c17).1 rfl ?_
              refine Go.iloadN H d10_112 rfl rfl ?_
              refine Go.bipush (46 : Int32) H d10_113 rfl rfl ?_
              by_cases c18 : c = (46 : Int32)
              ·
                refine Go.icmpY (pc' := 155) H d10_115 (teq c18).1 (by decide) (by decide) ?_
                exact r
              ·
                refine Go.icmpN H d10_115 (feq c18).1 rfl ?_
                rcases ok with ⟨p, q⟩ | ⟨p, q⟩ | p | p | p <;> contradiction
        ·
          refine Go.icmpY (pc' := 155) H d10_97 (flt c15).2.2.2 (by decide) (by decide) ?_
          exact r
    ·
      refine Go.icmpY (pc' := 155) H d10_85 (flt c10).2.2.2 (by decide) (by decide) ?_
      exact r
theorem d20_0 : decode prog_6_method_1_code 0 = .ok (.aload_n 0, 1) := by decide +kernel
theorem d20_1 : decode prog_6_method_1_code 1 = .ok (.invokespecial 1, 3) := by decide +kernel
theorem w92 : Jvm.Cond.methodLink "com/example/rendezpoint/rendezpoint/core/Name" (1 : Nat) N3 ∈ tables_1 := List.mem_of_getElem? (i := 92) rfl
theorem d20_4 : decode prog_6_method_1_code 4 = .ok (.aload_n 0, 1) := by decide +kernel
theorem d20_5 : decode prog_6_method_1_code 5 = .ok (.aload_n 1, 1) := by decide +kernel
theorem d20_6 : decode prog_6_method_1_code 6 = .ok (.putfield 7, 3) := by decide +kernel
theorem w93 : Jvm.Cond.fieldLink "com/example/rendezpoint/rendezpoint/core/Name" (7 : Nat) "com/example/rendezpoint/rendezpoint/core/Name" "_spelling" "Ljava/lang/String;" ∈ tables_1 := List.mem_of_getElem? (i := 93) rfl
theorem w94 : Jvm.Cond.laysFinal "com/example/rendezpoint/rendezpoint/core/Name" "com/example/rendezpoint/rendezpoint/core/Name" "_spelling" "Ljava/lang/String;" ∈ tables_1 := List.mem_of_getElem? (i := 94) rfl
theorem w86 : Jvm.Cond.instantiable "com/example/rendezpoint/rendezpoint/core/Name" (2 : Nat) ∈ tables_1 := List.mem_of_getElem? (i := 86) rfl
theorem w96 : Jvm.Cond.laysFinal "com/example/rendezpoint/rendezpoint/core/Name" "com/example/rendezpoint/rendezpoint/core/Name" "_key" "Ljava/lang/String;" ∈ tables_1 := List.mem_of_getElem? (i := 96) rfl
theorem d20_9 : decode prog_6_method_1_code 9 = .ok (.aload_n 0, 1) := by decide +kernel
theorem d20_10 : decode prog_6_method_1_code 10 = .ok (.aload_n 2, 1) := by decide +kernel
theorem d20_11 : decode prog_6_method_1_code 11 = .ok (.putfield 13, 3) := by decide +kernel
theorem w95 : Jvm.Cond.fieldLink "com/example/rendezpoint/rendezpoint/core/Name" (13 : Nat) "com/example/rendezpoint/rendezpoint/core/Name" "_key" "Ljava/lang/String;" ∈ tables_1 := List.mem_of_getElem? (i := 95) rfl
theorem d20_14 : decode prog_6_method_1_code 14 = .ok (.return_, 1) := by decide +kernel
abbrev N20 : MethodName := ⟨"com/example/rendezpoint/rendezpoint/core/Name", "<init>", "(Ljava/lang/String;Ljava/lang/String;)V"⟩

abbrev rm_nmi : Room := { frames := 1, cells := 0, slots := 0, locals := 12 }
set_option maxRecDepth 65536 in
set_option maxHeartbeats 4000000 in
theorem ct_nmi (l : Launch) {Z : State} {n0 : Nat} {z : Int32} {f : Value} (W : Sx Z z f) (a s1 s2 : Addr) (h : Heap) (A : Exa Z h a "com/example/rendezpoint/rendezpoint/core/Name") (F1 : Fld Z h a "com/example/rendezpoint/rendezpoint/core/Name" "_spelling" "Ljava/lang/String;" .null) (F2 : Fld Z h a "com/example/rendezpoint/rendezpoint/core/Name" "_key" "Ljava/lang/String;" .null) (za : n0 ≤ a) :
    Ctr l Z n0 N20 prog_6_method_1_code 3 none rm_nmi #[(.ref a), (.ref s1), (.ref s2)] h [a] (fun v h' sn => v = none ∧ Keep h h' [a] ∧ Exa Z h' a "com/example/rendezpoint/rendezpoint/core/Name" ∧ Fld Z h' a "com/example/rendezpoint/rendezpoint/core/Name" "_spelling" "Ljava/lang/String;" (.ref s1) ∧ Fld Z h' a "com/example/rendezpoint/rendezpoint/core/Name" "_key" "Ljava/lang/String;" (.ref s2) ∧ sn = []) := by
  refine Ctr.of_go (ls := #[.val (.ref a), .val (.ref s1), .val (.ref s2)]) W.1 (plainFor_of_name pn_N19) (fun m => by first | (simp [entryFrame, mkF, argsToLocals, Value.category]; done) | rfl) (fun K H => ?_)
  have KK : Keep h h [a] := Keep.refl _ _
  refine Go.aloadN H d20_0 rfl rfl rfl ?_
  refine Go.initObj H d20_1 rfl w92 w23 w24 0 rfl (Nat.le_of_eq rfl) (by decide) (by decide) ?_
  refine Go.aloadN H d20_4 rfl rfl rfl ?_
  refine Go.aloadN H d20_5 rfl rfl rfl ?_
  refine Go.putfield (v := (.ref s1)) H d20_6 rfl w93 F1 A (Or.inr ⟨w94, rfl, rfl⟩) w86 (ty := (.object "java/lang/String")) (by decide) rfl rfl za (by simp) ?_
  intro h1 Wr2
  have F3 := F1.same Wr2
  have K4 := Keep.of_wr Wr2
  replace A := A.wr Wr2
  replace F2 := F2.other Wr2 (Or.inr (own_sne W.1 (Or.inr w96) (Or.inr w94) (by decide) (t := (.object "java/lang/String")) (t' := (.object "java/lang/String")) (by decide) (by decide)))
  replace KK := KK.wr Wr2 (Or.inl (by simp))
  refine Go.aloadN H d20_9 rfl rfl rfl ?_
  refine Go.aloadN H d20_10 rfl rfl rfl ?_
  refine Go.putfield (v := (.ref s2)) H d20_11 rfl w95 F2 A (Or.inr ⟨w96, rfl, rfl⟩) w86 (ty := (.object "java/lang/String")) (by decide) rfl rfl za (by simp) ?_
  intro h5 Wr6
  have F7 := F2.same Wr6
  have K8 := Keep.of_wr Wr6
  replace A := A.wr Wr6
  replace F3 := F3.other Wr6 (Or.inr (own_sne W.1 (Or.inr w94) (Or.inr w96) (by decide) (t := (.object "java/lang/String")) (t' := (.object "java/lang/String")) (by decide) (by decide)))
  replace KK := KK.wr Wr6 (Or.inl (by simp))
  exact Go.return_ [] H d20_14 ⟨rfl, KK, A, F3, F7, rfl⟩ all0 (by decide) (by decide)
theorem d10_0 : decode prog_6_method_2_code 0 = .ok (.aload_n 0, 1) := by decide +kernel
theorem d10_1 : decode prog_6_method_2_code 1 = .ok (.ifnull 10, 3) := by decide +kernel
theorem d10_4 : decode prog_6_method_2_code 4 = .ok (.aload_n 0, 1) := by decide +kernel
theorem d10_5 : decode prog_6_method_2_code 5 = .ok (.invokevirtual 16, 3) := by decide +kernel
theorem w49 : Jvm.Cond.code N15 jdk_42_method_55_code (1 : Nat) (Option.some Jvm.ClassFile.FieldType.boolean) ∈ tables_1 := List.mem_of_getElem? (i := 49) rfl
theorem pd_N15 : parseMethodDescriptor N15.desc = some ⟨[], (some .boolean)⟩ := by decide +kernel
theorem w45 : Jvm.Cond.methodLink "com/example/rendezpoint/rendezpoint/core/Name" (16 : Nat) N15 ∈ tables_1 := List.mem_of_getElem? (i := 45) rfl
theorem w46 : Jvm.Cond.declares N15 ∈ tables_1 := List.mem_of_getElem? (i := 46) rfl
theorem w48 : Jvm.Cond.selects "java/lang/String" N15 N15 ∈ tables_1 := List.mem_of_getElem? (i := 48) rfl
theorem w47 : Jvm.Cond.instanceMethod N15 ∈ tables_1 := List.mem_of_getElem? (i := 47) rfl
theorem d10_8 : decode prog_6_method_2_code 8 = .ok (.ifCond .eq 13, 3) := by decide +kernel
theorem d10_21 : decode prog_6_method_2_code 21 = .ok (.aload_n 0, 1) := by decide +kernel
theorem d10_22 : decode prog_6_method_2_code 22 = .ok (.invokevirtual 29, 3) := by decide +kernel
theorem w54 : Jvm.Cond.code N12 jdk_42_method_54_code (1 : Nat) (Option.some Jvm.ClassFile.FieldType.int) ∈ tables_1 := List.mem_of_getElem? (i := 54) rfl
theorem pd_N12 : parseMethodDescriptor N12.desc = some ⟨[], (some .int)⟩ := by decide +kernel
theorem w50 : Jvm.Cond.methodLink "com/example/rendezpoint/rendezpoint/core/Name" (29 : Nat) N12 ∈ tables_1 := List.mem_of_getElem? (i := 50) rfl
theorem w51 : Jvm.Cond.declares N12 ∈ tables_1 := List.mem_of_getElem? (i := 51) rfl
theorem w53 : Jvm.Cond.selects "java/lang/String" N12 N12 ∈ tables_1 := List.mem_of_getElem? (i := 53) rfl
theorem w52 : Jvm.Cond.instanceMethod N12 ∈ tables_1 := List.mem_of_getElem? (i := 52) rfl
theorem d10_25 : decode prog_6_method_2_code 25 = .ok (.bipush 100, 2) := by decide +kernel
theorem d10_27 : decode prog_6_method_2_code 27 = .ok (.if_icmp .le 20, 3) := by decide +kernel
theorem d10_47 : decode prog_6_method_2_code 47 = .ok (.aload_n 0, 1) := by decide +kernel
theorem d10_48 : decode prog_6_method_2_code 48 = .ok (.invokevirtual 29, 3) := by decide +kernel
theorem d10_51 : decode prog_6_method_2_code 51 = .ok (.newarray .char, 2) := by decide +kernel
theorem w0 : Jvm.Cond.arrayClass Jvm.ClassFile.FieldType.char ∈ tables_1 := List.mem_of_getElem? (i := 0) rfl
theorem d10_53 : decode prog_6_method_2_code 53 = .ok (.astore_n 1, 1) := by decide +kernel
theorem d10_54 : decode prog_6_method_2_code 54 = .ok (.iconst 0, 1) := by decide +kernel
theorem d10_55 : decode prog_6_method_2_code 55 = .ok (.istore_n 2, 1) := by decide +kernel
theorem d10_56 : decode prog_6_method_2_code 56 = .ok (.iload_n 2, 1) := by decide +kernel
theorem d10_57 : decode prog_6_method_2_code 57 = .ok (.aload_n 1, 1) := by decide +kernel
theorem d10_58 : decode prog_6_method_2_code 58 = .ok (.arraylength, 1) := by decide +kernel
theorem d10_59 : decode prog_6_method_2_code 59 = .ok (.if_icmp .ge 107, 3) := by decide +kernel
theorem d10_62 : decode prog_6_method_2_code 62 = .ok (.aload_n 0, 1) := by decide +kernel
theorem d10_63 : decode prog_6_method_2_code 63 = .ok (.iload_n 2, 1) := by decide +kernel
theorem d10_64 : decode prog_6_method_2_code 64 = .ok (.invokevirtual 37, 3) := by decide +kernel
theorem w64 : Jvm.Cond.code N10 jdk_42_method_56_code (2 : Nat) (Option.some Jvm.ClassFile.FieldType.char) ∈ tables_1 := List.mem_of_getElem? (i := 64) rfl
theorem pd_N10 : parseMethodDescriptor N10.desc = some ⟨[.int], (some .char)⟩ := by decide +kernel
theorem w60 : Jvm.Cond.methodLink "com/example/rendezpoint/rendezpoint/core/Name" (37 : Nat) N10 ∈ tables_1 := List.mem_of_getElem? (i := 60) rfl
theorem w61 : Jvm.Cond.declares N10 ∈ tables_1 := List.mem_of_getElem? (i := 61) rfl
theorem w63 : Jvm.Cond.selects "java/lang/String" N10 N10 ∈ tables_1 := List.mem_of_getElem? (i := 63) rfl
theorem w62 : Jvm.Cond.instanceMethod N10 ∈ tables_1 := List.mem_of_getElem? (i := 62) rfl
theorem d10_67 : decode prog_6_method_2_code 67 = .ok (.istore_n 3, 1) := by decide +kernel
theorem d10_68 : decode prog_6_method_2_code 68 = .ok (.iload_n 3, 1) := by decide +kernel
theorem d10_69 : decode prog_6_method_2_code 69 = .ok (.invokestatic 41, 3) := by decide +kernel
theorem w84 : Jvm.Cond.code N19 prog_6_method_5_code (1 : Nat) (Option.some Jvm.ClassFile.FieldType.char) ∈ tables_1 := List.mem_of_getElem? (i := 84) rfl
theorem w43 : Jvm.Cond.initialized "com/example/rendezpoint/rendezpoint/core/Name" ∈ tables_1 := List.mem_of_getElem? (i := 43) rfl
theorem pd_N19 : parseMethodDescriptor N19.desc = some ⟨[.char], (some .char)⟩ := by decide +kernel
theorem nh_N19 : N19.cls ≠ "java/lang/invoke/MethodHandle" ∧ N19.cls ≠ "java/lang/invoke/VarHandle" := by decide
theorem w82 : Jvm.Cond.methodLink "com/example/rendezpoint/rendezpoint/core/Name" (41 : Nat) N19 ∈ tables_1 := List.mem_of_getElem? (i := 82) rfl
theorem w83 : Jvm.Cond.static N19 ∈ tables_1 := List.mem_of_getElem? (i := 83) rfl
theorem d10_72 : decode prog_6_method_2_code 72 = .ok (.istore 4, 2) := by decide +kernel
theorem d10_155 : decode prog_6_method_2_code 155 = .ok (.aload_n 1, 1) := by decide +kernel
theorem d10_156 : decode prog_6_method_2_code 156 = .ok (.iload_n 2, 1) := by decide +kernel
theorem d10_157 : decode prog_6_method_2_code 157 = .ok (.iload 4, 2) := by decide +kernel
theorem d10_159 : decode prog_6_method_2_code 159 = .ok (.castore, 1) := by decide +kernel
theorem d10_160 : decode prog_6_method_2_code 160 = .ok (.iinc 2 1, 3) := by decide +kernel
theorem d10_163 : decode prog_6_method_2_code 163 = .ok (.goto (-107), 3) := by decide +kernel
theorem d10_166 : decode prog_6_method_2_code 166 = .ok (.new 8, 3) := by decide +kernel
theorem w85 : Jvm.Cond.classLink "com/example/rendezpoint/rendezpoint/core/Name" (8 : Nat) "com/example/rendezpoint/rendezpoint/core/Name" ∈ tables_1 := List.mem_of_getElem? (i := 85) rfl
theorem d10_169 : decode prog_6_method_2_code 169 = .ok (.dup, 1) := by decide +kernel
theorem d10_170 : decode prog_6_method_2_code 170 = .ok (.aload_n 0, 1) := by decide +kernel
theorem d10_171 : decode prog_6_method_2_code 171 = .ok (.new 17, 3) := by decide +kernel
theorem w87 : Jvm.Cond.classLink "com/example/rendezpoint/rendezpoint/core/Name" (17 : Nat) "java/lang/String" ∈ tables_1 := List.mem_of_getElem? (i := 87) rfl
theorem d10_174 : decode prog_6_method_2_code 174 = .ok (.dup, 1) := by decide +kernel
theorem d10_175 : decode prog_6_method_2_code 175 = .ok (.aload_n 1, 1) := by decide +kernel
theorem d10_176 : decode prog_6_method_2_code 176 = .ok (.invokespecial 61, 3) := by decide +kernel
theorem w17 : Jvm.Cond.code N5 jdk_42_method_3_code (2 : Nat) (Option.none : Option Jvm.ClassFile.FieldType) ∈ tables_1 := List.mem_of_getElem? (i := 17) rfl
theorem pd_N5 : parseMethodDescriptor N5.desc = some ⟨[(.array .char)], none⟩ := by decide +kernel
theorem w88 : Jvm.Cond.methodLink "com/example/rendezpoint/rendezpoint/core/Name" (61 : Nat) N5 ∈ tables_1 := List.mem_of_getElem? (i := 88) rfl
theorem w16 : Jvm.Cond.instanceMethod N5 ∈ tables_1 := List.mem_of_getElem? (i := 16) rfl
theorem d10_179 : decode prog_6_method_2_code 179 = .ok (.invokespecial 64, 3) := by decide +kernel
theorem w91 : Jvm.Cond.code N20 prog_6_method_1_code (3 : Nat) (Option.none : Option Jvm.ClassFile.FieldType) ∈ tables_1 := List.mem_of_getElem? (i := 91) rfl
theorem pd_N20 : parseMethodDescriptor N20.desc = some ⟨[(.object "java/lang/String"), (.object "java/lang/String")], none⟩ := by decide +kernel
theorem w89 : Jvm.Cond.methodLink "com/example/rendezpoint/rendezpoint/core/Name" (64 : Nat) N20 ∈ tables_1 := List.mem_of_getElem? (i := 89) rfl
theorem w90 : Jvm.Cond.instanceMethod N20 ∈ tables_1 := List.mem_of_getElem? (i := 90) rfl
theorem d10_182 : decode prog_6_method_2_code 182 = .ok (.areturn, 1) := by decide +kernel
abbrev N21 : MethodName := ⟨"com/example/rendezpoint/rendezpoint/core/Name", "of", "(Ljava/lang/String;)Lcom/example/rendezpoint/rendezpoint/core/Name;"⟩

abbrev rm_of1 : Room := { frames := 4, cells := 4, slots := 11, locals := 69 }
set_option maxRecDepth 65536 in
set_option maxHeartbeats 4000000 in
theorem ct_of1 (l : Launch) {Z : State} {n0 : Nat} {z : Int32} {f : Value} (W : Sx Z z f) (x b : Addr) (c0 : Int32) (h : Heap) (S : Str Z h x b [c0]) (o0 : okF c0) (l0 : isL (lowF c0)) :
    Ctr l Z n0 N21 prog_6_method_2_code 5 (some (.object "com/example/rendezpoint/rendezpoint/core/Name")) rm_of1 #[(.ref x)] h [] (fun v h' sn => ∃ a kx kb, v = some (.ref a) ∧ Ext h h' ∧ h.size ≤ a ∧ h.size ≤ kx ∧ h.size ≤ kb ∧ a ≠ kx ∧ a ≠ kb ∧ n0 ≤ kx ∧ Exa Z h' a "com/example/rendezpoint/rendezpoint/core/Name" ∧ Fld Z h' a "com/example/rendezpoint/rendezpoint/core/Name" "_spelling" "Ljava/lang/String;" (.ref x) ∧ Fld Z h' a "com/example/rendezpoint/rendezpoint/core/Name" "_key" "Ljava/lang/String;" (.ref kx) ∧ Str Z h' kx kb [lowF c0] ∧ Fld Z h' kx "java/lang/String" "hash" "I" (.int 0) ∧ Fld Z h' kx "java/lang/String" "hashIsZero" "Z" (.int 0) ∧ Exa Z h' kb "[B" ∧ sn = [kx]) := by
  refine Ctr.of_go (ls := #[.val (.ref x), .unset, .unset, .unset, .unset]) W.1 (plainFor_of_name pn_N19) (fun m => by first | (simp [entryFrame, mkF, argsToLocals, Value.category]; done) | rfl) (fun K H => ?_)
  have KK : Keep h h [] := Keep.refl _ _
  refine Go.aloadN H d10_0 rfl rfl rfl ?_
  refine Go.ifnullN H d10_1 rfl ?_
  refine Go.aloadN H d10_4 rfl rfl rfl ?_
  refine Go.callV (rest := []) 0 [] H d10_5 rfl S.1 w45 w46 w48 w47 w14 w49 pd_N15 (ct_emp l W x b [c0] h S) all0 rfl rfl rfl (Nat.le_of_eq rfl) (by decide) (by decide) (by decide) (by decide) nh_N4 ?_
  rintro _ _ _ ⟨rfl, rfl, rfl⟩
  show Go _ _ _ _ _ _ h [] 0 0 8 #[.val (.ref x), .unset, .unset, .unset, .unset] [(.int (if [c0] = [] then (1 : Int32) else 0))]
  refine Go.ifY (pc' := 21) H d10_8 (teq (by rw [if_neg (by simp)])).1 (by decide) (by decide) ?_
  refine Go.aloadN H d10_21 rfl rfl rfl ?_
  refine Go.callV (rest := []) 0 [] H d10_22 rfl S.1 w50 w51 w53 w52 w14 w54 pd_N12 (ct_len l W x b [c0] h S) all0 rfl rfl rfl (Nat.le_of_eq rfl) (by decide) (by decide) (by decide) (by decide) nh_N4 ?_
  rintro _ _ _ ⟨rfl, rfl, rfl⟩
  show Go _ _ _ _ _ _ h [] 0 0 25 #[.val (.ref x), .unset, .unset, .unset, .unset] [(.int [c0].length.toInt32)]
  refine Go.bipush (100 : Int32) H d10_25 rfl rfl ?_
  refine Go.icmpY (pc' := 47) H d10_27 (flt (show ¬ (100 : Int32) < (1 : Int32) from by decide)).2.2.2 (by decide) (by decide) ?_
  refine Go.aloadN H d10_47 rfl rfl rfl ?_
  refine Go.callV (rest := []) 0 [] H d10_48 rfl S.1 w50 w51 w53 w52 w14 w54 pd_N12 (ct_len l W x b [c0] h S) all0 rfl rfl rfl (Nat.le_of_eq rfl) (by decide) (by decide) (by decide) (by decide) nh_N4 ?_
  rintro _ _ _ ⟨rfl, rfl, rfl⟩
  show Go _ _ _ _ _ _ h [] 0 0 51 #[.val (.ref x), .unset, .unset, .unset, .unset] [(.int [c0].length.toInt32)]
  show Go _ _ _ _ _ _ h [] 0 0 51 #[.val (.ref x), .unset, .unset, .unset, .unset] [(.int (1 : Int32))]
  refine Go.newarray 1 1 H d10_51 rfl w0 rfl (by decide) (by decide) (by decide) (by decide) (by decide) (by decide) (by decide) ?_
  intro a1 h2 g3 z4 E5 F6
  have ne7 : x ≠ a1 := Nat.ne_of_lt (Nat.lt_of_lt_of_le S.lt (Nat.le_of_eq g3.symm))
  have ne8 : b ≠ a1 := Nat.ne_of_lt (Nat.lt_of_lt_of_le S.ltb (Nat.le_of_eq g3.symm))
  have sz9 := Nat.le_trans KK.1 (Nat.le_of_eq g3.symm)
  replace S := S.ext E5
  replace KK := KK.ext E5
  replace F6 : Vec Z h2 a1 .char [(0 : Int32)] := F6
  show Go _ _ _ _ _ _ h2 [a1] 1 1 53 #[.val (.ref x), .unset, .unset, .unset, .unset] [(.ref a1)]
  refine Go.astoreN (ls' := #[.val (.ref x), .val (.ref a1), .unset, .unset, .unset]) H d10_53 rfl rfl rfl ?_
  refine Go.iconst (0 : Int32) H d10_54 rfl rfl ?_
  refine Go.istoreN (ls' := #[.val (.ref x), .val (.ref a1), .val (.int (0 : Int32)), .unset, .unset]) H d10_55 rfl rfl ?_
  refine Go.iloadN H d10_56 rfl rfl ?_
  refine Go.aloadN H d10_57 rfl rfl rfl ?_
  refine Go.arraylength (1 : Int32) H d10_58 rfl F6 rfl ?_
  refine Go.icmpN H d10_59 (by decide) rfl ?_
  refine Go.aloadN H d10_62 rfl rfl rfl ?_
  refine Go.iloadN H d10_63 rfl rfl ?_
  refine Go.callV (rest := []) 0 [(.int (0 : Int32))] H d10_64 rfl S.1 w60 w61 w63 w62 w14 w64 pd_N10 (ct_cha l W x b [c0] (0 : Int32) c0 0 h2 S (by decide) (by decide) rfl) all0 rfl rfl rfl (Nat.le_of_eq rfl) (by decide) (by decide) (by decide) (by decide) nh_N4 ?_
  rintro _ _ _ ⟨rfl, rfl, rfl⟩
  show Go _ _ _ _ _ _ h2 [a1] 1 1 67 #[.val (.ref x), .val (.ref a1), .val (.int (0 : Int32)), .unset, .unset] [(.int c0)]
  refine Go.istoreN (ls' := #[.val (.ref x), .val (.ref a1), .val (.int (0 : Int32)), .val (.int c0), .unset]) H d10_67 rfl rfl ?_
  refine Go.iloadN H d10_68 rfl rfl ?_
  refine Go.callS (rest := []) 0 [(.int c0)] H d10_69 rfl w82 w83 w43 w84 pd_N19 (ct_low l W c0 h2) all0 rfl rfl rfl (Nat.le_of_eq rfl) (by decide) (by decide) (by decide) (by decide) nh_N19 ?_
  rintro _ _ _ ⟨rfl, rfl, rfl⟩
  show Go _ _ _ _ _ _ h2 [a1] 1 1 72 #[.val (.ref x), .val (.ref a1), .val (.int (0 : Int32)), .val (.int c0), .unset] [(.int (lowF c0))]
  refine Go.istore (ls' := #[.val (.ref x), .val (.ref a1), .val (.int (0 : Int32)), .val (.int c0), .val (.int (lowF c0))]) H d10_72 rfl rfl ?_
  refine nm_chk H o0 ?_
  refine Go.aloadN H d10_155 rfl rfl rfl ?_
  refine Go.iloadN H d10_156 rfl rfl ?_
  refine Go.iload H d10_157 rfl rfl ?_
  refine Go.castore (lowF c0) H d10_159 rfl F6 0 (by decide) (by decide) (Nat.le_of_ble_eq_true rfl) (lowF_c _) z4 (by simp) ?_
  intro h10 K11 F12
  replace S := S.keep K11 (ninS ne7 nin0) (ninS ne8 nin0)
  replace KK := KK.trans K11 (allS (Or.inr sz9) all0)
  replace F12 : Vec Z h10 a1 .char [(lowF c0)] := F12
  refine Go.iinc (ls' := #[.val (.ref x), .val (.ref a1), .val (.int ((0 : Int32) + (1 : Int32))), .val (.int c0), .val (.int (lowF c0))]) (1 : Int32) H d10_160 rfl rfl rfl rfl ?_
  show Go _ _ _ _ _ _ h10 [a1] 1 1 163 #[.val (.ref x), .val (.ref a1), .val (.int (1 : Int32)), .val (.int c0), .val (.int (lowF c0))] []
  refine Go.goto (pc' := 56) H d10_163 (by decide) (by decide) ?_
  refine Go.iloadN H d10_56 rfl rfl ?_
  refine Go.aloadN H d10_57 rfl rfl rfl ?_
  refine Go.arraylength (1 : Int32) H d10_58 rfl F12 rfl ?_
  refine Go.icmpY (pc' := 166) H d10_59 (by decide) (by decide) (by decide) ?_
  refine Go.new H d10_166 rfl w85 w86 w43 (by decide) (by decide) ?_
  intro a13 h14 g15 z16 E17 A18 D19
  have ne20 : x ≠ a13 := Nat.ne_of_lt (Nat.lt_of_lt_of_le S.lt (Nat.le_of_eq g15.symm))
  have ne21 : b ≠ a13 := Nat.ne_of_lt (Nat.lt_of_lt_of_le S.ltb (Nat.le_of_eq g15.symm))
  have ne22 : a1 ≠ a13 := Nat.ne_of_lt (Nat.lt_of_lt_of_le F12.lt (Nat.le_of_eq g15.symm))
  have sz23 := Nat.le_trans KK.1 (Nat.le_of_eq g15.symm)
  replace S := S.ext E17
  replace F12 := F12.ext E17
  replace KK := KK.ext E17
  have F24 : Fld Z h14 a13 "com/example/rendezpoint/rendezpoint/core/Name" "_spelling" "Ljava/lang/String;" .null := D19 (Or.inr w94) (ty := (.object "java/lang/String")) (by decide)
  have F25 : Fld Z h14 a13 "com/example/rendezpoint/rendezpoint/core/Name" "_key" "Ljava/lang/String;" .null := D19 (Or.inr w96) (ty := (.object "java/lang/String")) (by decide)
  show Go _ _ _ _ _ _ h14 [a13, a1] 2 3 169 #[.val (.ref x), .val (.ref a1), .val (.int (1 : Int32)), .val (.int c0), .val (.int (lowF c0))] [(.ref a13)]
  refine Go.dup H d10_169 rfl rfl ?_
  refine Go.aloadN H d10_170 rfl rfl rfl ?_
  refine Go.new H d10_171 rfl w87 w13 w14 (by decide) (by decide) ?_
  intro a26 h27 g28 z29 E30 A31 D32
  have ne33 : x ≠ a26 := Nat.ne_of_lt (Nat.lt_of_lt_of_le S.lt (Nat.le_of_eq g28.symm))
  have ne34 : b ≠ a26 := Nat.ne_of_lt (Nat.lt_of_lt_of_le S.ltb (Nat.le_of_eq g28.symm))
  have ne35 : a1 ≠ a26 := Nat.ne_of_lt (Nat.lt_of_lt_of_le F12.lt (Nat.le_of_eq g28.symm))
  have ne36 : a13 ≠ a26 := Nat.ne_of_lt (Nat.lt_of_lt_of_le A18.lt (Nat.le_of_eq g28.symm))
  have sz37 := Nat.le_trans KK.1 (Nat.le_of_eq g28.symm)
  replace S := S.ext E30
  replace F12 := F12.ext E30
  replace A18 := A18.ext E30
  replace F24 := F24.ext E30
  replace F25 := F25.ext E30
  replace KK := KK.ext E30
  have F38 : Fld Z h27 a26 "java/lang/String" "coder" "B" (.int (0 : Int32)) := D32 (Or.inr w38) (ty := .byte) (by decide)
  have F39 : Fld Z h27 a26 "java/lang/String" "value" "[B" .null := D32 (Or.inr w40) (ty := (.array .byte)) (by decide)
  have F40 : Fld Z h27 a26 "java/lang/String" "hash" "I" (.int (0 : Int32)) := D32 (Or.inl w134) (ty := .int) (by decide)
  have F41 : Fld Z h27 a26 "java/lang/String" "hashIsZero" "Z" (.int (0 : Int32)) := D32 (Or.inl w136) (ty := .boolean) (by decide)
  show Go _ _ _ _ _ _ h27 [a26, a13, a1] 3 7 174 #[.val (.ref x), .val (.ref a1), .val (.int (1 : Int32)), .val (.int c0), .val (.int (lowF c0))] [(.ref a26), (.ref x), (.ref a13), (.ref a13)]
  refine Go.dup H d10_174 rfl rfl ?_
  refine Go.aloadN H d10_175 rfl rfl rfl ?_
  refine Go.callI (rest := [(.ref a26), (.ref x), (.ref a13), (.ref a13)]) 4 [(.ref a1)] H d10_176 rfl rfl w88 w16 w14 w17 pd_N5 (ct_new1 l W a26 a1 [(lowF c0)] h27 A31 F39 F38 F40 F41 F12 (own_ac l0 own_an) (Nat.le_of_ble_eq_true rfl) (Nat.le_of_ble_eq_true rfl) z29) (by simp) rfl rfl rfl (Nat.le_of_eq rfl) (by decide) (by decide) (by decide) (by decide) nh_N4 ?_
  have szk42 := KK.1
  rintro _ h43 _ ⟨rfl, K44, ⟨b45, g46, S47, F48, F49, X50⟩, rfl⟩
  have ne51 : x ≠ b45 := Nat.ne_of_lt (Nat.lt_of_lt_of_le S.lt g46)
  have ne52 : b ≠ b45 := Nat.ne_of_lt (Nat.lt_of_lt_of_le S.ltb g46)
  have ne53 : a1 ≠ b45 := Nat.ne_of_lt (Nat.lt_of_lt_of_le F12.lt g46)
  have ne54 : a13 ≠ b45 := Nat.ne_of_lt (Nat.lt_of_lt_of_le A18.lt g46)
  have ne55 : a26 ≠ b45 := Nat.ne_of_lt (Nat.lt_of_lt_of_le A31.lt g46)
  replace S := S.keep K44 (ninS ne33 nin0) (ninS ne34 nin0)
  replace F12 := F12.keep K44 (ninS ne35 nin0)
  replace A18 := A18.keep K44
  replace F24 := F24.keep K44 (ninS ne36 nin0)
  replace F25 := F25.keep K44 (ninS ne36 nin0)
  replace KK := KK.trans K44 (allS (Or.inr sz37) all0)
  have szb56 := Nat.le_trans szk42 g46
  show Go _ _ _ _ _ _ h43 [a26, a13, a1] 4 11 179 #[.val (.ref x), .val (.ref a1), .val (.int (1 : Int32)), .val (.int c0), .val (.int (lowF c0))] [(.ref a26), (.ref x), (.ref a13), (.ref a13)]
  refine Go.callI (rest := [(.ref a13)]) 1 [(.ref x), (.ref a26)] H d10_179 rfl rfl w89 w90 w43 w91 pd_N20 (ct_nmi l W a13 x a26 h43 A18 F24 F25 z16) (by simp) rfl rfl rfl (Nat.le_of_eq rfl) (by decide) (by decide) (by decide) (by decide) nh_N19 ?_
  rintro _ h57 _ ⟨rfl, K58, A59, F60, F61, rfl⟩
  replace S := S.keep K58 (ninS ne20 nin0) (ninS ne21 nin0)
  replace F12 := F12.keep K58 (ninS ne22 nin0)
  replace S47 := S47.keep K58 (ninS (Ne.symm ne36) nin0) (ninS (Ne.symm ne54) nin0)
  replace F48 := F48.keep K58 (ninS (Ne.symm ne36) nin0)
  replace F49 := F49.keep K58 (ninS (Ne.symm ne36) nin0)
  replace X50 := X50.keep K58
  replace KK := KK.trans K58 (allS (Or.inr sz23) all0)
  show Go _ _ _ _ _ _ h57 [a26, a13, a1] 4 11 182 #[.val (.ref x), .val (.ref a1), .val (.int (1 : Int32)), .val (.int c0), .val (.int (lowF c0))] [(.ref a13)]
  exact Go.areturn [a26] H d10_182 rfl rfl (own_narR rfl) ⟨_, _, _, rfl, own_ext KK, sz23, sz37, szb56, ne36, ne54, z29, A59, F60, F61, S47, F48, F49, X50, rfl⟩ (by simp) (by decide) (by decide)

abbrev rm_of4 : Room := { frames := 4, cells := 4, slots := 14, locals := 69 }
set_option maxRecDepth 65536 in
set_option maxHeartbeats 4000000 in
theorem ct_of4 (l : Launch) {Z : State} {n0 : Nat} {z : Int32} {f : Value} (W : Sx Z z f) (x b : Addr) (c0 c1 c2 c3 : Int32) (h : Heap) (S : Str Z h x b [c0, c1, c2, c3]) (o0 : okF c0) (o1 : okF c1) (o2 : okF c2) (o3 : okF c3) (l0 : isL (lowF c0)) (l1 : isL (lowF c1)) (l2 : isL (lowF c2)) (l3 : isL (lowF c3)) :
    Ctr l Z n0 N21 prog_6_method_2_code 5 (some (.object "com/example/rendezpoint/rendezpoint/core/Name")) rm_of4 #[(.ref x)] h [] (fun v h' sn => ∃ a kx kb, v = some (.ref a) ∧ Ext h h' ∧ h.size ≤ a ∧ h.size ≤ kx ∧ h.size ≤ kb ∧ a ≠ kx ∧ a ≠ kb ∧ n0 ≤ kx ∧ Exa Z h' a "com/example/rendezpoint/rendezpoint/core/Name" ∧ Fld Z h' a "com/example/rendezpoint/rendezpoint/core/Name" "_spelling" "Ljava/lang/String;" (.ref x) ∧ Fld Z h' a "com/example/rendezpoint/rendezpoint/core/Name" "_key" "Ljava/lang/String;" (.ref kx) ∧ Str Z h' kx kb [lowF c0, lowF c1, lowF c2, lowF c3] ∧ Fld Z h' kx "java/lang/String" "hash" "I" (.int 0) ∧ Fld Z h' kx "java/lang/String" "hashIsZero" "Z" (.int 0) ∧ Exa Z h' kb "[B" ∧ sn = [kx]) := by
  refine Ctr.of_go (ls := #[.val (.ref x), .unset, .unset, .unset, .unset]) W.1 (plainFor_of_name pn_N19) (fun m => by first | (simp [entryFrame, mkF, argsToLocals, Value.category]; done) | rfl) (fun K H => ?_)
  have KK : Keep h h [] := Keep.refl _ _
  refine Go.aloadN H d10_0 rfl rfl rfl ?_
  refine Go.ifnullN H d10_1 rfl ?_
  refine Go.aloadN H d10_4 rfl rfl rfl ?_
  refine Go.callV (rest := []) 0 [] H d10_5 rfl S.1 w45 w46 w48 w47 w14 w49 pd_N15 (ct_emp l W x b [c0, c1, c2, c3] h S) all0 rfl rfl rfl (Nat.le_of_eq rfl) (by decide) (by decide) (by decide) (by decide) nh_N4 ?_
  rintro _ _ _ ⟨rfl, rfl, rfl⟩
  show Go _ _ _ _ _ _ h [] 0 0 8 #[.val (.ref x), .unset, .unset, .unset, .unset] [(.int (if [c0, c1, c2, c3] = [] then (1 : Int32) else 0))]
  refine Go.ifY (pc' := 21) H d10_8 (teq (by rw [if_neg (by simp)])).1 (by decide) (by decide) ?_
  refine Go.aloadN H d10_21 rfl rfl rfl ?_
  refine Go.callV (rest := []) 0 [] H d10_22 rfl S.1 w50 w51 w53 w52 w14 w54 pd_N12 (ct_len l W x b [c0, c1, c2, c3] h S) all0 rfl rfl rfl (Nat.le_of_eq rfl) (by decide) (by decide) (by decide) (by decide) nh_N4 ?_
  rintro _ _ _ ⟨rfl, rfl, rfl⟩
  show Go _ _ _ _ _ _ h [] 0 0 25 #[.val (.ref x), .unset, .unset, .unset, .unset] [(.int [c0, c1, c2, c3].length.toInt32)]
  refine Go.bipush (100 : Int32) H d10_25 rfl rfl ?_
  refine Go.icmpY (pc' := 47) H d10_27 (flt (show ¬ (100 : Int32) < (4 : Int32) from by decide)).2.2.2 (by decide) (by decide) ?_
  refine Go.aloadN H d10_47 rfl rfl rfl ?_
  refine Go.callV (rest := []) 0 [] H d10_48 rfl S.1 w50 w51 w53 w52 w14 w54 pd_N12 (ct_len l W x b [c0, c1, c2, c3] h S) all0 rfl rfl rfl (Nat.le_of_eq rfl) (by decide) (by decide) (by decide) (by decide) nh_N4 ?_
  rintro _ _ _ ⟨rfl, rfl, rfl⟩
  show Go _ _ _ _ _ _ h [] 0 0 51 #[.val (.ref x), .unset, .unset, .unset, .unset] [(.int [c0, c1, c2, c3].length.toInt32)]
  show Go _ _ _ _ _ _ h [] 0 0 51 #[.val (.ref x), .unset, .unset, .unset, .unset] [(.int (4 : Int32))]
  refine Go.newarray 4 4 H d10_51 rfl w0 rfl (by decide) (by decide) (by decide) (by decide) (by decide) (by decide) (by decide) ?_
  intro a1 h2 g3 z4 E5 F6
  have ne7 : x ≠ a1 := Nat.ne_of_lt (Nat.lt_of_lt_of_le S.lt (Nat.le_of_eq g3.symm))
  have ne8 : b ≠ a1 := Nat.ne_of_lt (Nat.lt_of_lt_of_le S.ltb (Nat.le_of_eq g3.symm))
  have sz9 := Nat.le_trans KK.1 (Nat.le_of_eq g3.symm)
  replace S := S.ext E5
  replace KK := KK.ext E5
  replace F6 : Vec Z h2 a1 .char [(0 : Int32), (0 : Int32), (0 : Int32), (0 : Int32)] := F6
  show Go _ _ _ _ _ _ h2 [a1] 1 4 53 #[.val (.ref x), .unset, .unset, .unset, .unset] [(.ref a1)]
  refine Go.astoreN (ls' := #[.val (.ref x), .val (.ref a1), .unset, .unset, .unset]) H d10_53 rfl rfl rfl ?_
  refine Go.iconst (0 : Int32) H d10_54 rfl rfl ?_
  refine Go.istoreN (ls' := #[.val (.ref x), .val (.ref a1), .val (.int (0 : Int32)), .unset, .unset]) H d10_55 rfl rfl ?_
  refine Go.iloadN H d10_56 rfl rfl ?_
  refine Go.aloadN H d10_57 rfl rfl rfl ?_
  refine Go.arraylength (4 : Int32) H d10_58 rfl F6 rfl ?_
  refine Go.icmpN H d10_59 (by decide) rfl ?_
  refine Go.aloadN H d10_62 rfl rfl rfl ?_
  refine Go.iloadN H d10_63 rfl rfl ?_
  refine Go.callV (rest := []) 0 [(.int (0 : Int32))] H d10_64 rfl S.1 w60 w61 w63 w62 w14 w64 pd_N10 (ct_cha l W x b [c0, c1, c2, c3] (0 : Int32) c0 0 h2 S (by decide) (by decide) rfl) all0 rfl rfl rfl (Nat.le_of_eq rfl) (by decide) (by decide) (by decide) (by decide) nh_N4 ?_
  rintro _ _ _ ⟨rfl, rfl, rfl⟩
  show Go _ _ _ _ _ _ h2 [a1] 1 4 67 #[.val (.ref x), .val (.ref a1), .val (.int (0 : Int32)), .unset, .unset] [(.int c0)]
  refine Go.istoreN (ls' := #[.val (.ref x), .val (.ref a1), .val (.int (0 : Int32)), .val (.int c0), .unset]) H d10_67 rfl rfl ?_
  refine Go.iloadN H d10_68 rfl rfl ?_
  refine Go.callS (rest := []) 0 [(.int c0)] H d10_69 rfl w82 w83 w43 w84 pd_N19 (ct_low l W c0 h2) all0 rfl rfl rfl (Nat.le_of_eq rfl) (by decide) (by decide) (by decide) (by decide) nh_N19 ?_
  rintro _ _ _ ⟨rfl, rfl, rfl⟩
  show Go _ _ _ _ _ _ h2 [a1] 1 4 72 #[.val (.ref x), .val (.ref a1), .val (.int (0 : Int32)), .val (.int c0), .unset] [(.int (lowF c0))]
  refine Go.istore (ls' := #[.val (.ref x), .val (.ref a1), .val (.int (0 : Int32)), .val (.int c0), .val (.int (lowF c0))]) H d10_72 rfl rfl ?_
  refine nm_chk H o0 ?_
  refine Go.aloadN H d10_155 rfl rfl rfl ?_
  refine Go.iloadN H d10_156 rfl rfl ?_
  refine Go.iload H d10_157 rfl rfl ?_
  refine Go.castore (lowF c0) H d10_159 rfl F6 0 (by decide) (by decide) (Nat.le_of_ble_eq_true rfl) (lowF_c _) z4 (by simp) ?_
  intro h10 K11 F12
  replace S := S.keep K11 (ninS ne7 nin0) (ninS ne8 nin0)
  replace KK := KK.trans K11 (allS (Or.inr sz9) all0)
  replace F12 : Vec Z h10 a1 .char [(lowF c0), (0 : Int32), (0 : Int32), (0 : Int32)] := F12
  refine Go.iinc (ls' := #[.val (.ref x), .val (.ref a1), .val (.int ((0 : Int32) + (1 : Int32))), .val (.int c0), .val (.int (lowF c0))]) (1 : Int32) H d10_160 rfl rfl rfl rfl ?_
  show Go _ _ _ _ _ _ h10 [a1] 1 4 163 #[.val (.ref x), .val (.ref a1), .val (.int (1 : Int32)), .val (.int c0), .val (.int (lowF c0))] []
  refine Go.goto (pc' := 56) H d10_163 (by decide) (by decide) ?_
  refine Go.iloadN H d10_56 rfl rfl ?_
  refine Go.aloadN H d10_57 rfl rfl rfl ?_
  refine Go.arraylength (4 : Int32) H d10_58 rfl F12 rfl ?_
  refine Go.icmpN H d10_59 (by decide) rfl ?_
  refine Go.aloadN H d10_62 rfl rfl rfl ?_
  refine Go.iloadN H d10_63 rfl rfl ?_
  refine Go.callV (rest := []) 0 [(.int (1 : Int32))] H d10_64 rfl S.1 w60 w61 w63 w62 w14 w64 pd_N10 (ct_cha l W x b [c0, c1, c2, c3] (1 : Int32) c1 1 h10 S (by decide) (by decide) rfl) all0 rfl rfl rfl (Nat.le_of_eq rfl) (by decide) (by decide) (by decide) (by decide) nh_N4 ?_
  rintro _ _ _ ⟨rfl, rfl, rfl⟩
  show Go _ _ _ _ _ _ h10 [a1] 1 4 67 #[.val (.ref x), .val (.ref a1), .val (.int (1 : Int32)), .val (.int c0), .val (.int (lowF c0))] [(.int c1)]
  refine Go.istoreN (ls' := #[.val (.ref x), .val (.ref a1), .val (.int (1 : Int32)), .val (.int c1), .val (.int (lowF c0))]) H d10_67 rfl rfl ?_
  refine Go.iloadN H d10_68 rfl rfl ?_
  refine Go.callS (rest := []) 0 [(.int c1)] H d10_69 rfl w82 w83 w43 w84 pd_N19 (ct_low l W c1 h10) all0 rfl rfl rfl (Nat.le_of_eq rfl) (by decide) (by decide) (by decide) (by decide) nh_N19 ?_
  rintro _ _ _ ⟨rfl, rfl, rfl⟩
  show Go _ _ _ _ _ _ h10 [a1] 1 4 72 #[.val (.ref x), .val (.ref a1), .val (.int (1 : Int32)), .val (.int c1), .val (.int (lowF c0))] [(.int (lowF c1))]
  refine Go.istore (ls' := #[.val (.ref x), .val (.ref a1), .val (.int (1 : Int32)), .val (.int c1), .val (.int (lowF c1))]) H d10_72 rfl rfl ?_
  refine nm_chk H o1 ?_
  refine Go.aloadN H d10_155 rfl rfl rfl ?_
  refine Go.iloadN H d10_156 rfl rfl ?_
  refine Go.iload H d10_157 rfl rfl ?_
  refine Go.castore (lowF c1) H d10_159 rfl F12 1 (by decide) (by decide) (Nat.le_of_ble_eq_true rfl) (lowF_c _) z4 (by simp) ?_
  intro h13 K14 F15
  replace S := S.keep K14 (ninS ne7 nin0) (ninS ne8 nin0)
  replace KK := KK.trans K14 (allS (Or.inr sz9) all0)
  replace F15 : Vec Z h13 a1 .char [(lowF c0), (lowF c1), (0 : Int32), (0 : Int32)] := F15
  refine Go.iinc (ls' := #[.val (.ref x), .val (.ref a1), .val (.int ((1 : Int32) + (1 : Int32))), .val (.int c1), .val (.int (lowF c1))]) (1 : Int32) H d10_160 rfl rfl rfl rfl ?_
  show Go _ _ _ _ _ _ h13 [a1] 1 4 163 #[.val (.ref x), .val (.ref a1), .val (.int (2 : Int32)), .val (.int c1), .val (.int (lowF c1))] []
  refine Go.goto (pc' := 56) H d10_163 (by decide) (by decide) ?_
  refine Go.iloadN H d10_56 rfl rfl ?_
  refine Go.aloadN H d10_57 rfl rfl rfl ?_
  refine Go.arraylength (4 : Int32) H d10_58 rfl F15 rfl ?_
  refine Go.icmpN H d10_59 (by decide) rfl ?_
  refine Go.aloadN H d10_62 rfl rfl rfl ?_
  refine Go.iloadN H d10_63 rfl rfl ?_
  refine Go.callV (rest := []) 0 [(.int (2 : Int32))] H d10_64 rfl S.1 w60 w61 w63 w62 w14 w64 pd_N10 (ct_cha l W x b [c0, c1, c2, c3] (2 : Int32) c2 2 h13 S (by decide) (by decide) rfl) all0 rfl rfl rfl (Nat.le_of_eq rfl) (by decide) (by decide) (by decide) (by decide) nh_N4 ?_
  rintro _ _ _ ⟨rfl, rfl, rfl⟩
  show Go _ _ _ _ _ _ h13 [a1] 1 4 67 #[.val (.ref x), .val (.ref a1), .val (.int (2 : Int32)), .val (.int c1), .val (.int (lowF c1))] [(.int c2)]
  refine Go.istoreN (ls' := #[.val (.ref x), .val (.ref a1), .val (.int (2 : Int32)), .val (.int c2), .val (.int (lowF c1))]) H d10_67 rfl rfl ?_
  refine Go.iloadN H d10_68 rfl rfl ?_
  refine Go.callS (rest := []) 0 [(.int c2)] H d10_69 rfl w82 w83 w43 w84 pd_N19 (ct_low l W c2 h13) all0 rfl rfl rfl (Nat.le_of_eq rfl) (by decide) (by decide) (by decide) (by decide) nh_N19 ?_
  rintro _ _ _ ⟨rfl, rfl, rfl⟩
  show Go _ _ _ _ _ _ h13 [a1] 1 4 72 #[.val (.ref x), .val (.ref a1), .val (.int (2 : Int32)), .val (.int c2), .val (.int (lowF c1))] [(.int (lowF c2))]
  refine Go.istore (ls' := #[.val (.ref x), .val (.ref a1), .val (.int (2 : Int32)), .val (.int c2), .val (.int (lowF c2))]) H d10_72 rfl rfl ?_
  refine nm_chk H o2 ?_
  refine Go.aloadN H d10_155 rfl rfl rfl ?_
  refine Go.iloadN H d10_156 rfl rfl ?_
  refine Go.iload H d10_157 rfl rfl ?_
  refine Go.castore (lowF c2) H d10_159 rfl F15 2 (by decide) (by decide) (Nat.le_of_ble_eq_true rfl) (lowF_c _) z4 (by simp) ?_
  intro h16 K17 F18
  replace S := S.keep K17 (ninS ne7 nin0) (ninS ne8 nin0)
  replace KK := KK.trans K17 (allS (Or.inr sz9) all0)
  replace F18 : Vec Z h16 a1 .char [(lowF c0), (lowF c1), (lowF c2), (0 : Int32)] := F18
  refine Go.iinc (ls' := #[.val (.ref x), .val (.ref a1), .val (.int ((2 : Int32) + (1 : Int32))), .val (.int c2), .val (.int (lowF c2))]) (1 : Int32) H d10_160 rfl rfl rfl rfl ?_
  show Go _ _ _ _ _ _ h16 [a1] 1 4 163 #[.val (.ref x), .val (.ref a1), .val (.int (3 : Int32)), .val (.int c2), .val (.int (lowF c2))] []
  refine Go.goto (pc' := 56) H d10_163 (by decide) (by decide) ?_
  refine Go.iloadN H d10_56 rfl rfl ?_
  refine Go.aloadN H d10_57 rfl rfl rfl ?_
  refine Go.arraylength (4 : Int32) H d10_58 rfl F18 rfl ?_
  refine Go.icmpN H d10_59 (by decide) rfl ?_
  refine Go.aloadN H d10_62 rfl rfl rfl ?_
  refine Go.iloadN H d10_63 rfl rfl ?_
  refine Go.callV (rest := []) 0 [(.int (3 : Int32))] H d10_64 rfl S.1 w60 w61 w63 w62 w14 w64 pd_N10 (ct_cha l W x b [c0, c1, c2, c3] (3 : Int32) c3 3 h16 S (by decide) (by decide) rfl) all0 rfl rfl rfl (Nat.le_of_eq rfl) (by decide) (by decide) (by decide) (by decide) nh_N4 ?_
  rintro _ _ _ ⟨rfl, rfl, rfl⟩
  show Go _ _ _ _ _ _ h16 [a1] 1 4 67 #[.val (.ref x), .val (.ref a1), .val (.int (3 : Int32)), .val (.int c2), .val (.int (lowF c2))] [(.int c3)]
  refine Go.istoreN (ls' := #[.val (.ref x), .val (.ref a1), .val (.int (3 : Int32)), .val (.int c3), .val (.int (lowF c2))]) H d10_67 rfl rfl ?_
  refine Go.iloadN H d10_68 rfl rfl ?_
  refine Go.callS (rest := []) 0 [(.int c3)] H d10_69 rfl w82 w83 w43 w84 pd_N19 (ct_low l W c3 h16) all0 rfl rfl rfl (Nat.le_of_eq rfl) (by decide) (by decide) (by decide) (by decide) nh_N19 ?_
  rintro _ _ _ ⟨rfl, rfl, rfl⟩
  show Go _ _ _ _ _ _ h16 [a1] 1 4 72 #[.val (.ref x), .val (.ref a1), .val (.int (3 : Int32)), .val (.int c3), .val (.int (lowF c2))] [(.int (lowF c3))]
  refine Go.istore (ls' := #[.val (.ref x), .val (.ref a1), .val (.int (3 : Int32)), .val (.int c3), .val (.int (lowF c3))]) H d10_72 rfl rfl ?_
  refine nm_chk H o3 ?_
  refine Go.aloadN H d10_155 rfl rfl rfl ?_
  refine Go.iloadN H d10_156 rfl rfl ?_
  refine Go.iload H d10_157 rfl rfl ?_
  refine Go.castore (lowF c3) H d10_159 rfl F18 3 (by decide) (by decide) (Nat.le_of_ble_eq_true rfl) (lowF_c _) z4 (by simp) ?_
  intro h19 K20 F21
  replace S := S.keep K20 (ninS ne7 nin0) (ninS ne8 nin0)
  replace KK := KK.trans K20 (allS (Or.inr sz9) all0)
  replace F21 : Vec Z h19 a1 .char [(lowF c0), (lowF c1), (lowF c2), (lowF c3)] := F21
  refine Go.iinc (ls' := #[.val (.ref x), .val (.ref a1), .val (.int ((3 : Int32) + (1 : Int32))), .val (.int c3), .val (.int (lowF c3))]) (1 : Int32) H d10_160 rfl rfl rfl rfl ?_
  show Go _ _ _ _ _ _ h19 [a1] 1 4 163 #[.val (.ref x), .val (.ref a1), .val (.int (4 : Int32)), .val (.int c3), .val (.int (lowF c3))] []
  refine Go.goto (pc' := 56) H d10_163 (by decide) (by decide) ?_
  refine Go.iloadN H d10_56 rfl rfl ?_
  refine Go.aloadN H d10_57 rfl rfl rfl ?_
  refine Go.arraylength (4 : Int32) H d10_58 rfl F21 rfl ?_
  refine Go.icmpY (pc' := 166) H d10_59 (by decide) (by decide) (by decide) ?_
  refine Go.new H d10_166 rfl w85 w86 w43 (by decide) (by decide) ?_
  intro a22 h23 g24 z25 E26 A27 D28
  have ne29 : x ≠ a22 := Nat.ne_of_lt (Nat.lt_of_lt_of_le S.lt (Nat.le_of_eq g24.symm))
  have ne30 : b ≠ a22 := Nat.ne_of_lt (Nat.lt_of_lt_of_le S.ltb (Nat.le_of_eq g24.symm))
  have ne31 : a1 ≠ a22 := Nat.ne_of_lt (Nat.lt_of_lt_of_le F21.lt (Nat.le_of_eq g24.symm))
  have sz32 := Nat.le_trans KK.1 (Nat.le_of_eq g24.symm)
  replace S := S.ext E26
  replace F21 := F21.ext E26
  replace KK := KK.ext E26
  have F33 : Fld Z h23 a22 "com/example/rendezpoint/rendezpoint/core/Name" "_spelling" "Ljava/lang/String;" .null := D28 (Or.inr w94) (ty := (.object "java/lang/String")) (by decide)
  have F34 : Fld Z h23 a22 "com/example/rendezpoint/rendezpoint/core/Name" "_key" "Ljava/lang/String;" .null := D28 (Or.inr w96) (ty := (.object "java/lang/String")) (by decide)
  show Go _ _ _ _ _ _ h23 [a22, a1] 2 6 169 #[.val (.ref x), .val (.ref a1), .val (.int (4 : Int32)), .val (.int c3), .val (.int (lowF c3))] [(.ref a22)]
  refine Go.dup H d10_169 rfl rfl ?_
  refine Go.aloadN H d10_170 rfl rfl rfl ?_
  refine Go.new H d10_171 rfl w87 w13 w14 (by decide) (by decide) ?_
  intro a35 h36 g37 z38 E39 A40 D41
  have ne42 : x ≠ a35 := Nat.ne_of_lt (Nat.lt_of_lt_of_le S.lt (Nat.le_of_eq g37.symm))
  have ne43 : b ≠ a35 := Nat.ne_of_lt (Nat.lt_of_lt_of_le S.ltb (Nat.le_of_eq g37.symm))
  have ne44 : a1 ≠ a35 := Nat.ne_of_lt (Nat.lt_of_lt_of_le F21.lt (Nat.le_of_eq g37.symm))
  have ne45 : a22 ≠ a35 := Nat.ne_of_lt (Nat.lt_of_lt_of_le A27.lt (Nat.le_of_eq g37.symm))
  have sz46 := Nat.le_trans KK.1 (Nat.le_of_eq g37.symm)
  replace S := S.ext E39
  replace F21 := F21.ext E39
  replace A27 := A27.ext E39
  replace F33 := F33.ext E39
  replace F34 := F34.ext E39
  replace KK := KK.ext E39
  have F47 : Fld Z h36 a35 "java/lang/String" "coder" "B" (.int (0 : Int32)) := D41 (Or.inr w38) (ty := .byte) (by decide)
  have F48 : Fld Z h36 a35 "java/lang/String" "value" "[B" .null := D41 (Or.inr w40) (ty := (.array .byte)) (by decide)
  have F49 : Fld Z h36 a35 "java/lang/String" "hash" "I" (.int (0 : Int32)) := D41 (Or.inl w134) (ty := .int) (by decide)
  have F50 : Fld Z h36 a35 "java/lang/String" "hashIsZero" "Z" (.int (0 : Int32)) := D41 (Or.inl w136) (ty := .boolean) (by decide)
  show Go _ _ _ _ _ _ h36 [a35, a22, a1] 3 10 174 #[.val (.ref x), .val (.ref a1), .val (.int (4 : Int32)), .val (.int c3), .val (.int (lowF c3))] [(.ref a35), (.ref x), (.ref a22), (.ref a22)]
  refine Go.dup H d10_174 rfl rfl ?_
  refine Go.aloadN H d10_175 rfl rfl rfl ?_
  refine Go.callI (rest := [(.ref a35), (.ref x), (.ref a22), (.ref a22)]) 4 [(.ref a1)] H d10_176 rfl rfl w88 w16 w14 w17 pd_N5 (ct_new1 l W a35 a1 [(lowF c0), (lowF c1), (lowF c2), (lowF c3)] h36 A40 F48 F47 F49 F50 F21 (own_ac l0 (own_ac l1 (own_ac l2 (own_ac l3 own_an)))) (Nat.le_of_ble_eq_true rfl) (Nat.le_of_ble_eq_true rfl) z38) (by simp) rfl rfl rfl (Nat.le_of_eq rfl) (by decide) (by decide) (by decide) (by decide) nh_N4 ?_
  have szk51 := KK.1
  rintro _ h52 _ ⟨rfl, K53, ⟨b54, g55, S56, F57, F58, X59⟩, rfl⟩
  have ne60 : x ≠ b54 := Nat.ne_of_lt (Nat.lt_of_lt_of_le S.lt g55)
  have ne61 : b ≠ b54 := Nat.ne_of_lt (Nat.lt_of_lt_of_le S.ltb g55)
  have ne62 : a1 ≠ b54 := Nat.ne_of_lt (Nat.lt_of_lt_of_le F21.lt g55)
  have ne63 : a22 ≠ b54 := Nat.ne_of_lt (Nat.lt_of_lt_of_le A27.lt g55)
  have ne64 : a35 ≠ b54 := Nat.ne_of_lt (Nat.lt_of_lt_of_le A40.lt g55)
  replace S := S.keep K53 (ninS ne42 nin0) (ninS ne43 nin0)
  replace F21 := F21.keep K53 (ninS ne44 nin0)
  replace A27 := A27.keep K53
  replace F33 := F33.keep K53 (ninS ne45 nin0)
  replace F34 := F34.keep K53 (ninS ne45 nin0)
  replace KK := KK.trans K53 (allS (Or.inr sz46) all0)
  have szb65 := Nat.le_trans szk51 g55
  show Go _ _ _ _ _ _ h52 [a35, a22, a1] 4 14 179 #[.val (.ref x), .val (.ref a1), .val (.int (4 : Int32)), .val (.int c3), .val (.int (lowF c3))] [(.ref a35), (.ref x), (.ref a22), (.ref a22)]
  refine Go.callI (rest := [(.ref a22)]) 1 [(.ref x), (.ref a35)] H d10_179 rfl rfl w89 w90 w43 w91 pd_N20 (ct_nmi l W a22 x a35 h52 A27 F33 F34 z25) (by simp) rfl rfl rfl (Nat.le_of_eq rfl) (by decide) (by decide) (by decide) (by decide) nh_N19 ?_
  rintro _ h66 _ ⟨rfl, K67, A68, F69, F70, rfl⟩
  replace S := S.keep K67 (ninS ne29 nin0) (ninS ne30 nin0)
  replace F21 := F21.keep K67 (ninS ne31 nin0)
  replace S56 := S56.keep K67 (ninS (Ne.symm ne45) nin0) (ninS (Ne.symm ne63) nin0)
  replace F57 := F57.keep K67 (ninS (Ne.symm ne45) nin0)
  replace F58 := F58.keep K67 (ninS (Ne.symm ne45) nin0)
  replace X59 := X59.keep K67
  replace KK := KK.trans K67 (allS (Or.inr sz32) all0)
  show Go _ _ _ _ _ _ h66 [a35, a22, a1] 4 14 182 #[.val (.ref x), .val (.ref a1), .val (.int (4 : Int32)), .val (.int c3), .val (.int (lowF c3))] [(.ref a22)]
  exact Go.areturn [a35] H d10_182 rfl rfl (own_narR rfl) ⟨_, _, _, rfl, own_ext KK, sz32, sz46, szb65, ne45, ne63, z38, A68, F69, F70, S56, F57, F58, X59, rfl⟩ (by simp) (by decide) (by decide)
theorem d21_0 : decode prog_6_method_9_code 0 = .ok (.aload_n 0, 1) := by decide +kernel
theorem d21_1 : decode prog_6_method_9_code 1 = .ok (.getfield 7, 3) := by decide +kernel
theorem d21_4 : decode prog_6_method_9_code 4 = .ok (.areturn, 1) := by decide +kernel
abbrev N22 : MethodName := ⟨"com/example/rendezpoint/rendezpoint/core/Name", "toString", "()Ljava/lang/String;"⟩

abbrev rm_nm_toString : Room := { frames := 0, cells := 0, slots := 0, locals := 0 }
set_option maxRecDepth 65536 in
set_option maxHeartbeats 4000000 in
theorem ct_nm_toString (l : Launch) {Z : State} {n0 : Nat} {z : Int32} {f : Value} (W : Sx Z z f) (a s1 : Addr) (h : Heap) (F : Fld Z h a "com/example/rendezpoint/rendezpoint/core/Name" "_spelling" "Ljava/lang/String;" (.ref s1)) :
    Ctr l Z n0 N22 prog_6_method_9_code 1 (some (.object "java/lang/String")) rm_nm_toString #[(.ref a)] h [] (fun v h' sn => v = some (.ref s1) ∧ h = h' ∧ sn = []) := by
  refine Ctr.of_go (ls := #[.val (.ref a)]) W.1 (plainFor_of_name pn_N19) (fun m => by first | (simp [entryFrame, mkF, argsToLocals, Value.category]; done) | rfl) (fun K H => ?_)
  refine Go.aloadN H d21_0 rfl rfl rfl ?_
  refine Go.getfield H d21_1 rfl w93 F ?_
  exact Go.areturn [] H d21_4 rfl rfl (own_narR rfl) ⟨rfl, rfl, rfl⟩ all0 (by decide) (by decide)
theorem d23_0 : decode prog_6_method_8_code 0 = .ok (.aload_n 0, 1) := by decide +kernel
theorem d23_1 : decode prog_6_method_8_code 1 = .ok (.getfield 13, 3) := by decide +kernel
theorem d23_4 : decode prog_6_method_8_code 4 = .ok (.areturn, 1) := by decide +kernel
abbrev N23 : MethodName := ⟨"com/example/rendezpoint/rendezpoint/core/Name", "key", "()Ljava/lang/String;"⟩

abbrev rm_nm_key : Room := { frames := 0, cells := 0, slots := 0, locals := 0 }
set_option maxRecDepth 65536 in
set_option maxHeartbeats 4000000 in
theorem ct_nm_key (l : Launch) {Z : State} {n0 : Nat} {z : Int32} {f : Value} (W : Sx Z z f) (a s1 : Addr) (h : Heap) (F : Fld Z h a "com/example/rendezpoint/rendezpoint/core/Name" "_key" "Ljava/lang/String;" (.ref s1)) :
    Ctr l Z n0 N23 prog_6_method_8_code 1 (some (.object "java/lang/String")) rm_nm_key #[(.ref a)] h [] (fun v h' sn => v = some (.ref s1) ∧ h = h' ∧ sn = []) := by
  refine Ctr.of_go (ls := #[.val (.ref a)]) W.1 (plainFor_of_name pn_N19) (fun m => by first | (simp [entryFrame, mkF, argsToLocals, Value.category]; done) | rfl) (fun K H => ?_)
  refine Go.aloadN H d23_0 rfl rfl rfl ?_
  refine Go.getfield H d23_1 rfl w95 F ?_
  exact Go.areturn [] H d23_4 rfl rfl (own_narR rfl) ⟨rfl, rfl, rfl⟩ all0 (by decide) (by decide)
theorem d25_0 : decode prog_6_method_6_code 0 = .ok (.aload_n 1, 1) := by decide +kernel
theorem d25_1 : decode prog_6_method_6_code 1 = .ok (.instanceof 8, 3) := by decide +kernel
theorem d25_4 : decode prog_6_method_6_code 4 = .ok (.ifCond .eq 26, 3) := by decide +kernel
theorem d25_7 : decode prog_6_method_6_code 7 = .ok (.aload_n 1, 1) := by decide +kernel
theorem d25_8 : decode prog_6_method_6_code 8 = .ok (.checkcast 8, 3) := by decide +kernel
theorem d25_11 : decode prog_6_method_6_code 11 = .ok (.astore_n 2, 1) := by decide +kernel
theorem d25_12 : decode prog_6_method_6_code 12 = .ok (.aload_n 0, 1) := by decide +kernel
theorem d25_13 : decode prog_6_method_6_code 13 = .ok (.getfield 13, 3) := by decide +kernel
theorem d25_16 : decode prog_6_method_6_code 16 = .ok (.aload_n 2, 1) := by decide +kernel
theorem d25_17 : decode prog_6_method_6_code 17 = .ok (.getfield 13, 3) := by decide +kernel
theorem d25_20 : decode prog_6_method_6_code 20 = .ok (.invokevirtual 80, 3) := by decide +kernel
theorem w106 : Jvm.Cond.code N14 jdk_42_method_66_code (3 : Nat) (Option.some Jvm.ClassFile.FieldType.boolean) ∈ tables_1 := List.mem_of_getElem? (i := 106) rfl
theorem pd_N14 : parseMethodDescriptor N14.desc = some ⟨[(.object "java/lang/Object")], (some .boolean)⟩ := by decide +kernel
theorem w122 : Jvm.Cond.methodLink "com/example/rendezpoint/rendezpoint/core/Name" (80 : Nat) N14 ∈ tables_1 := List.mem_of_getElem? (i := 122) rfl
theorem w103 : Jvm.Cond.declares N14 ∈ tables_1 := List.mem_of_getElem? (i := 103) rfl
theorem w105 : Jvm.Cond.selects "java/lang/String" N14 N14 ∈ tables_1 := List.mem_of_getElem? (i := 105) rfl
theorem w104 : Jvm.Cond.instanceMethod N14 ∈ tables_1 := List.mem_of_getElem? (i := 104) rfl
theorem d25_23 : decode prog_6_method_6_code 23 = .ok (.ifCond .eq 7, 3) := by decide +kernel
theorem d25_26 : decode prog_6_method_6_code 26 = .ok (.iconst 1, 1) := by decide +kernel
theorem d25_27 : decode prog_6_method_6_code 27 = .ok (.goto 4, 3) := by decide +kernel
theorem d25_31 : decode prog_6_method_6_code 31 = .ok (.ireturn, 1) := by decide +kernel
abbrev N24 : MethodName := ⟨"com/example/rendezpoint/rendezpoint/core/Name", "equals", "(Ljava/lang/Object;)Z"⟩

abbrev rm_nmeq : Room := { frames := 2, cells := 0, slots := 0, locals := 28 }
set_option maxRecDepth 65536 in
set_option maxHeartbeats 4000000 in
theorem ct_nmeq (l : Launch) {Z : State} {n0 : Nat} {z : Int32} {f : Value} (W : Sx Z z f) (a d s1 s2 b1 b2 : Addr) (cs ds : List Int32) (h : Heap) (A2 : Exa Z h d "com/example/rendezpoint/rendezpoint/core/Name") (F1 : Fld Z h a "com/example/rendezpoint/rendezpoint/core/Name" "_key" "Ljava/lang/String;" (.ref s1)) (F2 : Fld Z h d "com/example/rendezpoint/rendezpoint/core/Name" "_key" "Ljava/lang/String;" (.ref s2)) (S1 : Str Z h s1 b1 cs) (S2 : Str Z h s2 b2 ds) (he : cs = ds) :
    Ctr l Z n0 N24 prog_6_method_6_code 3 (some .boolean) rm_nmeq #[(.ref a), (.ref d)] h [] (fun v h' sn => v = some (.int 1) ∧ h = h' ∧ sn = []) := by
  refine Ctr.of_go (ls := #[.val (.ref a), .val (.ref d), .unset]) W.1 (plainFor_of_name pn_N19) (fun m => by first | (simp [entryFrame, mkF, argsToLocals, Value.category]; done) | rfl) (fun K H => ?_)
  refine Go.aloadN H d25_0 rfl rfl rfl ?_
  refine Go.instanceofY H d25_1 rfl w85 (Ins.self A2) ?_
  refine Go.ifN H d25_4 (by decide) rfl ?_
  refine Go.aloadN H d25_7 rfl rfl rfl ?_
  refine Go.checkcast H d25_8 rfl w85 (Ins.self A2) ?_
  refine Go.astoreN (ls' := #[.val (.ref a), .val (.ref d), .val (.ref d)]) H d25_11 rfl rfl rfl ?_
  refine Go.aloadN H d25_12 rfl rfl rfl ?_
  refine Go.getfield H d25_13 rfl w95 F1 ?_
  refine Go.aloadN H d25_16 rfl rfl rfl ?_
  refine Go.getfield H d25_17 rfl w95 F2 ?_
  refine Go.callV (rest := []) 0 [(.ref s2)] H d25_20 rfl S1.1 w122 w103 w105 w104 w14 w106 pd_N14 (ct_eq l W s1 b1 s2 b2 cs ds h S1 S2) all0 rfl rfl rfl (Nat.le_of_eq rfl) (by decide) (by decide) (by decide) (by decide) nh_N4 ?_
  rintro _ _ _ ⟨rfl, rfl, rfl⟩
  show Go _ _ _ _ _ _ h [] 0 0 23 #[.val (.ref a), .val (.ref d), .val (.ref d)] [(.int (if cs = ds then (1 : Int32) else 0))]
  refine Go.ifN H d25_23 (feq (by rw [if_pos he]; decide)).1 rfl ?_
  refine Go.iconst (1 : Int32) H d25_26 rfl rfl ?_
  refine Go.goto (pc' := 31) H d25_27 (by decide) (by decide) ?_
  exact Go.ireturn (1 : Int32) [] H d25_31 (by simp) (by decide) ⟨rfl, rfl, rfl⟩ all0 (by decide) (by decide)
def h4F (u0 u1 u2 u3 : Int32) : Int32 := (((31 : Int32) * (((31 : Int32) * (((31 : Int32) * ((nar .byte u0) &&& (255 : Int32))) + ((nar .byte u1) &&& (255 : Int32)))) + ((nar .byte u2) &&& (255 : Int32)))) + ((nar .byte u3) &&& (255 : Int32)))
theorem d30_0 : decode jdk_48_method_5_code 0 = .ok (.iload_n 2, 1) := by decide +kernel
theorem d30_1 : decode jdk_48_method_5_code 1 = .ok (.iload_n 3, 1) := by decide +kernel
theorem d30_2 : decode jdk_48_method_5_code 2 = .ok (.iadd, 1) := by decide +kernel
theorem d30_3 : decode jdk_48_method_5_code 3 = .ok (.istore 4, 2) := by decide +kernel
theorem d30_5 : decode jdk_48_method_5_code 5 = .ok (.iload_n 2, 1) := by decide +kernel
theorem d30_6 : decode jdk_48_method_5_code 6 = .ok (.istore 5, 2) := by decide +kernel
theorem d30_8 : decode jdk_48_method_5_code 8 = .ok (.iload 5, 2) := by decide +kernel
theorem d30_10 : decode jdk_48_method_5_code 10 = .ok (.iload 4, 2) := by decide +kernel
theorem d30_12 : decode jdk_48_method_5_code 12 = .ok (.if_icmp .ge 23, 3) := by decide +kernel
theorem d30_15 : decode jdk_48_method_5_code 15 = .ok (.bipush 31, 2) := by decide +kernel
theorem d30_17 : decode jdk_48_method_5_code 17 = .ok (.iload_n 0, 1) := by decide +kernel
theorem d30_18 : decode jdk_48_method_5_code 18 = .ok (.imul, 1) := by decide +kernel
theorem d30_19 : decode jdk_48_method_5_code 19 = .ok (.aload_n 1, 1) := by decide +kernel
theorem d30_20 : decode jdk_48_method_5_code 20 = .ok (.iload 5, 2) := by decide +kernel
theorem d30_22 : decode jdk_48_method_5_code 22 = .ok (.baload, 1) := by decide +kernel
theorem d30_23 : decode jdk_48_method_5_code 23 = .ok (.sipush 255, 3) := by decide +kernel
theorem d30_26 : decode jdk_48_method_5_code 26 = .ok (.iand, 1) := by decide +kernel
theorem d30_27 : decode jdk_48_method_5_code 27 = .ok (.iadd, 1) := by decide +kernel
theorem d30_28 : decode jdk_48_method_5_code 28 = .ok (.istore_n 0, 1) := by decide +kernel
theorem d30_29 : decode jdk_48_method_5_code 29 = .ok (.iinc 5 1, 3) := by decide +kernel
theorem d30_32 : decode jdk_48_method_5_code 32 = .ok (.goto (-24), 3) := by decide +kernel
theorem d30_35 : decode jdk_48_method_5_code 35 = .ok (.iload_n 0, 1) := by decide +kernel
theorem d30_36 : decode jdk_48_method_5_code 36 = .ok (.ireturn, 1) := by decide +kernel
abbrev N25 : MethodName := ⟨"jdk/internal/util/ArraysSupport", "signedHashCode", "(I[BII)I"⟩
theorem pn_N25 : plainName N25.cls = true := by first | (simp [plainName, overriddenIn]; done) | decide +kernel

abbrev rm_shc : Room := { frames := 0, cells := 0, slots := 0, locals := 0 }
set_option maxRecDepth 65536 in
set_option maxHeartbeats 4000000 in
theorem ct_shc (l : Launch) {Z : State} {n0 : Nat} {z : Int32} {f : Value} (W : Sx Z z f) (b : Addr) (u0 u1 u2 u3 : Int32) (h : Heap) (Fb : Vec Z h b .byte [(nar .byte u0), (nar .byte u1), (nar .byte u2), (nar .byte u3)]) :
    Ctr l Z n0 N25 jdk_48_method_5_code 6 (some .int) rm_shc #[(.int (0 : Int32)), (.ref b), (.int (0 : Int32)), (.int (4 : Int32))] h [] (fun v h' sn => v = some (.int (h4F u0 u1 u2 u3)) ∧ h = h' ∧ sn = []) := by
  refine Ctr.of_go (ls := #[.val (.int (0 : Int32)), .val (.ref b), .val (.int (0 : Int32)), .val (.int (4 : Int32)), .unset, .unset]) W.1 (plainFor_of_name pn_N25) (fun m => by first | (simp [entryFrame, mkF, argsToLocals, Value.category]; done) | rfl) (fun K H => ?_)
  refine Go.iloadN H d30_0 rfl rfl ?_
  refine Go.iloadN H d30_1 rfl rfl ?_
  refine Go.iadd H d30_2 rfl ?_
  show Go _ _ _ _ _ _ h [] 0 0 3 #[.val (.int (0 : Int32)), .val (.ref b), .val (.int (0 : Int32)), .val (.int (4 : Int32)), .unset, .unset] [(.int (4 : Int32))]
  refine Go.istore (ls' := #[.val (.int (0 : Int32)), .val (.ref b), .val (.int (0 : Int32)), .val (.int (4 : Int32)), .val (.int (4 : Int32)), .unset]) H d30_3 rfl rfl ?_
  refine Go.iloadN H d30_5 rfl rfl ?_
  refine Go.istore (ls' := #[.val (.int (0 : Int32)), .val (.ref b), .val (.int (0 : Int32)), .val (.int (4 : Int32)), .val (.int (4 : Int32)), .val (.int (0 : Int32))]) H d30_6 rfl rfl ?_
  refine Go.iload H d30_8 rfl rfl ?_
  refine Go.iload H d30_10 rfl rfl ?_
  refine Go.icmpN H d30_12 (by decide) rfl ?_
  refine Go.bipush (31 : Int32) H d30_15 rfl rfl ?_
  refine Go.iloadN H d30_17 rfl rfl ?_
  refine Go.imul H d30_18 rfl ?_
  show Go _ _ _ _ _ _ h [] 0 0 19 #[.val (.int (0 : Int32)), .val (.ref b), .val (.int (0 : Int32)), .val (.int (4 : Int32)), .val (.int (4 : Int32)), .val (.int (0 : Int32))] [(.int (0 : Int32))]
  refine Go.aloadN H d30_19 rfl rfl rfl ?_
  refine Go.iload H d30_20 rfl rfl ?_
  refine Go.baload (v := (nar .byte u0)) H d30_22 rfl Fb 0 (by decide) (by decide) rfl ?_
  refine Go.sipush (255 : Int32) H d30_23 rfl rfl ?_
  refine Go.iand H d30_26 rfl ?_
  refine Go.iadd H d30_27 rfl ?_
  rw [Int32.zero_add]
  refine Go.istoreN (ls' := #[.val (.int ((nar .byte u0) &&& (255 : Int32))), .val (.ref b), .val (.int (0 : Int32)), .val (.int (4 : Int32)), .val (.int (4 : Int32)), .val (.int (0 : Int32))]) H d30_28 rfl rfl ?_
  refine Go.iinc (ls' := #[.val (.int ((nar .byte u0) &&& (255 : Int32))), .val (.ref b), .val (.int (0 : Int32)), .val (.int (4 : Int32)), .val (.int (4 : Int32)), .val (.int ((0 : Int32) + (1 : Int32)))]) (1 : Int32) H d30_29 rfl rfl rfl rfl ?_
  show Go _ _ _ _ _ _ h [] 0 0 32 #[.val (.int ((nar .byte u0) &&& (255 : Int32))), .val (.ref b), .val (.int (0 : Int32)), .val (.int (4 : Int32)), .val (.int (4 : Int32)), .val (.int (1 : Int32))] []
  refine Go.goto (pc' := 8) H d30_32 (by decide) (by decide) ?_
  refine Go.iload H d30_8 rfl rfl ?_
  refine Go.iload H d30_10 rfl rfl ?_
  refine Go.icmpN H d30_12 (by decide) rfl ?_
  refine Go.bipush (31 : Int32) H d30_15 rfl rfl ?_
  refine Go.iloadN H d30_17 rfl rfl ?_
  refine Go.imul H d30_18 rfl ?_
  refine Go.aloadN H d30_19 rfl rfl rfl ?_
  refine Go.iload H d30_20 rfl rfl ?_
  refine Go.baload (v := (nar .byte u1)) H d30_22 rfl Fb 1 (by decide) (by decide) rfl ?_
  refine Go.sipush (255 : Int32) H d30_23 rfl rfl ?_
  refine Go.iand H d30_26 rfl ?_
  refine Go.iadd H d30_27 rfl ?_
  refine Go.istoreN (ls' := #[.val (.int (((31 : Int32) * ((nar .byte u0) &&& (255 : Int32))) + ((nar .byte u1) &&& (255 : Int32)))), .val (.ref b), .val (.int (0 : Int32)), .val (.int (4 : Int32)), .val (.int (4 : Int32)), .val (.int (1 : Int32))]) H d30_28 rfl rfl ?_
  refine Go.iinc (ls' := #[.val (.int (((31 : Int32) * ((nar .byte u0) &&& (255 : Int32))) + ((nar .byte u1) &&& (255 : Int32)))), .val (.ref b), .val (.int (0 : Int32)), .val (.int (4 : Int32)), .val (.int (4 : Int32)), .val (.int ((1 : Int32) + (1 : Int32)))]) (1 : Int32) H d30_29 rfl rfl rfl rfl ?_
  show Go _ _ _ _ _ _ h [] 0 0 32 #[.val (.int (((31 : Int32) * ((nar .byte u0) &&& (255 : Int32))) + ((nar .byte u1) &&& (255 : Int32)))), .val (.ref b), .val (.int (0 : Int32)), .val (.int (4 : Int32)), .val (.int (4 : Int32)), .val (.int (2 : Int32))] []
  refine Go.goto (pc' := 8) H d30_32 (by decide) (by decide) ?_
  refine Go.iload H d30_8 rfl rfl ?_
  refine Go.iload H d30_10 rfl rfl ?_
  refine Go.icmpN H d30_12 (by decide) rfl ?_
  refine Go.bipush (31 : Int32) H d30_15 rfl rfl ?_
  refine Go.iloadN H d30_17 rfl rfl ?_
  refine Go.imul H d30_18 rfl ?_
  refine Go.aloadN H d30_19 rfl rfl rfl ?_
  refine Go.iload H d30_20 rfl rfl ?_
  refine Go.baload (v := (nar .byte u2)) H d30_22 rfl Fb 2 (by decide) (by decide) rfl ?_
  refine Go.sipush (255 : Int32) H d30_23 rfl rfl ?_
  refine Go.iand H d30_26 rfl ?_
  refine Go.iadd H d30_27 rfl ?_
  refine Go.istoreN (ls' := #[.val (.int (((31 : Int32) * (((31 : Int32) * ((nar .byte u0) &&& (255 : Int32))) + ((nar .byte u1) &&& (255 : Int32)))) + ((nar .byte u2) &&& (255 : Int32)))), .val (.ref b), .val (.int (0 : Int32)), .val (.int (4 : Int32)), .val (.int (4 : Int32)), .val (.int (2 : Int32))]) H d30_28 rfl rfl ?_
  refine Go.iinc (ls' := #[.val (.int (((31 : Int32) * (((31 : Int32) * ((nar .byte u0) &&& (255 : Int32))) + ((nar .byte u1) &&& (255 : Int32)))) + ((nar .byte u2) &&& (255 : Int32)))), .val (.ref b), .val (.int (0 : Int32)), .val (.int (4 : Int32)), .val (.int (4 : Int32)), .val (.int ((2 : Int32) + (1 : Int32)))]) (1 : Int32) H d30_29 rfl rfl rfl rfl ?_
  show Go _ _ _ _ _ _ h [] 0 0 32 #[.val (.int (((31 : Int32) * (((31 : Int32) * ((nar .byte u0) &&& (255 : Int32))) + ((nar .byte u1) &&& (255 : Int32)))) + ((nar .byte u2) &&& (255 : Int32)))), .val (.ref b), .val (.int (0 : Int32)), .val (.int (4 : Int32)), .val (.int (4 : Int32)), .val (.int (3 : Int32))] []
  refine Go.goto (pc' := 8) H d30_32 (by decide) (by decide) ?_
  refine Go.iload H d30_8 rfl rfl ?_
  refine Go.iload H d30_10 rfl rfl ?_
  refine Go.icmpN H d30_12 (by decide) rfl ?_
  refine Go.bipush (31 : Int32) H d30_15 rfl rfl ?_
  refine Go.iloadN H d30_17 rfl rfl ?_
  refine Go.imul H d30_18 rfl ?_
  refine Go.aloadN H d30_19 rfl rfl rfl ?_
  refine Go.iload H d30_20 rfl rfl ?_
  refine Go.baload (v := (nar .byte u3)) H d30_22 rfl Fb 3 (by decide) (by decide) rfl ?_
  refine Go.sipush (255 : Int32) H d30_23 rfl rfl ?_
  refine Go.iand H d30_26 rfl ?_
  refine Go.iadd H d30_27 rfl ?_
  refine Go.istoreN (ls' := #[.val (.int (((31 : Int32) * (((31 : Int32) * (((31 : Int32) * ((nar .byte u0) &&& (255 : Int32))) + ((nar .byte u1) &&& (255 : Int32)))) + ((nar .byte u2) &&& (255 : Int32)))) + ((nar .byte u3) &&& (255 : Int32)))), .val (.ref b), .val (.int (0 : Int32)), .val (.int (4 : Int32)), .val (.int (4 : Int32)), .val (.int (3 : Int32))]) H d30_28 rfl rfl ?_
  refine Go.iinc (ls' := #[.val (.int (((31 : Int32) * (((31 : Int32) * (((31 : Int32) * ((nar .byte u0) &&& (255 : Int32))) + ((nar .byte u1) &&& (255 : Int32)))) + ((nar .byte u2) &&& (255 : Int32)))) + ((nar .byte u3) &&& (255 : Int32)))), .val (.ref b), .val (.int (0 : Int32)), .val (.int (4 : Int32)), .val (.int (4 : Int32)), .val (.int ((3 : Int32) + (1 : Int32)))]) (1 : Int32) H d30_29 rfl rfl rfl rfl ?_
  show Go _ _ _ _ _ _ h [] 0 0 32 #[.val (.int (((31 : Int32) * (((31 : Int32) * (((31 : Int32) * ((nar .byte u0) &&& (255 : Int32))) + ((nar .byte u1) &&& (255 : Int32)))) + ((nar .byte u2) &&& (255 : Int32)))) + ((nar .byte u3) &&& (255 : Int32)))), .val (.ref b), .val (.int (0 : Int32)), .val (.int (4 : Int32)), .val (.int (4 : Int32)), .val (.int (4 : Int32))] []
  refine Go.goto (pc' := 8) H d30_32 (by decide) (by decide) ?_
  refine Go.iload H d30_8 rfl rfl ?_
  refine Go.iload H d30_10 rfl rfl ?_
  refine Go.icmpY (pc' := 35) H d30_12 (by decide) (by decide) (by decide) ?_
  refine Go.iloadN H d30_35 rfl rfl ?_
  exact Go.ireturnI [] H d30_36 ⟨rfl, rfl, rfl⟩ all0 (by decide) (by decide)
theorem d29_0 : decode jdk_48_method_4_code 0 = .ok (.iload 4, 2) := by decide +kernel
theorem d29_2 : decode jdk_48_method_4_code 2 = .ok (.tableswitch 127 4 10 #[42, 55, 127, 127, 88, 101, 114], 42) := by decide +kernel
theorem d29_44 : decode jdk_48_method_4_code 44 = .ok (.iload_n 3, 1) := by decide +kernel
theorem d29_45 : decode jdk_48_method_4_code 45 = .ok (.aload_n 0, 1) := by decide +kernel
theorem d29_46 : decode jdk_48_method_4_code 46 = .ok (.checkcast 60, 3) := by decide +kernel
theorem w144 : Jvm.Cond.classLink "jdk/internal/util/ArraysSupport" (60 : Nat) "[B" ∈ tables_1 := List.mem_of_getElem? (i := 144) rfl
theorem d29_49 : decode jdk_48_method_4_code 49 = .ok (.iload_n 1, 1) := by decide +kernel
theorem d29_50 : decode jdk_48_method_4_code 50 = .ok (.iload_n 2, 1) := by decide +kernel
theorem d29_51 : decode jdk_48_method_4_code 51 = .ok (.invokestatic 62, 3) := by decide +kernel
theorem w148 : Jvm.Cond.code N25 jdk_48_method_5_code (6 : Nat) (Option.some Jvm.ClassFile.FieldType.int) ∈ tables_1 := List.mem_of_getElem? (i := 148) rfl
theorem w142 : Jvm.Cond.initialized "jdk/internal/util/ArraysSupport" ∈ tables_1 := List.mem_of_getElem? (i := 142) rfl
theorem pd_N25 : parseMethodDescriptor N25.desc = some ⟨[.int, (.array .byte), .int, .int], (some .int)⟩ := by decide +kernel
theorem nh_N25 : N25.cls ≠ "java/lang/invoke/MethodHandle" ∧ N25.cls ≠ "java/lang/invoke/VarHandle" := by decide
theorem w146 : Jvm.Cond.methodLink "jdk/internal/util/ArraysSupport" (62 : Nat) N25 ∈ tables_1 := List.mem_of_getElem? (i := 146) rfl
theorem w147 : Jvm.Cond.static N25 ∈ tables_1 := List.mem_of_getElem? (i := 147) rfl
theorem d29_54 : decode jdk_48_method_4_code 54 = .ok (.goto 103, 3) := by decide +kernel
theorem d29_157 : decode jdk_48_method_4_code 157 = .ok (.ireturn, 1) := by decide +kernel
abbrev N26 : MethodName := ⟨"jdk/internal/util/ArraysSupport", "vectorizedHashCode", "(Ljava/lang/Object;IIII)I"⟩

abbrev rm_vhc : Room := { frames := 1, cells := 0, slots := 0, locals := 17 }
set_option maxRecDepth 65536 in
set_option maxHeartbeats 4000000 in
theorem ct_vhc (l : Launch) {Z : State} {n0 : Nat} {z : Int32} {f : Value} (W : Sx Z z f) (b : Addr) (u0 u1 u2 u3 : Int32) (h : Heap) (Fb : Vec Z h b .byte [(nar .byte u0), (nar .byte u1), (nar .byte u2), (nar .byte u3)]) (X : Exa Z h b "[B") :
    Ctr l Z n0 N26 jdk_48_method_4_code 5 (some .int) rm_vhc #[(.ref b), (.int (0 : Int32)), (.int (4 : Int32)), (.int (0 : Int32)), (.int (4 : Int32))] h [] (fun v h' sn => v = some (.int (h4F u0 u1 u2 u3)) ∧ h = h' ∧ sn = []) := by
  refine Ctr.of_go (ls := #[.val (.ref b), .val (.int (0 : Int32)), .val (.int (4 : Int32)), .val (.int (0 : Int32)), .val (.int (4 : Int32))]) W.1 (plainFor_of_name pn_N25) (fun m => by first | (simp [entryFrame, mkF, argsToLocals, Value.category]; done) | rfl) (fun K H => ?_)
  refine Go.iload H d29_0 rfl rfl ?_
  refine Go.tableswitch (pc' := 44) (o := 42) H d29_2 (by decide) (by decide) (by decide) (by decide) ?_
  refine Go.iloadN H d29_44 rfl rfl ?_
  refine Go.aloadN H d29_45 rfl rfl rfl ?_
  refine Go.checkcast H d29_46 rfl w144 (Ins.self X) ?_
  refine Go.iloadN H d29_49 rfl rfl ?_
  refine Go.iloadN H d29_50 rfl rfl ?_
  refine Go.callS (rest := []) 0 [(.int (0 : Int32)), (.ref b), (.int (0 : Int32)), (.int (4 : Int32))] H d29_51 rfl w146 w147 w142 w148 pd_N25 (ct_shc l W b u0 u1 u2 u3 h Fb) all0 rfl rfl rfl (Nat.le_of_eq rfl) (by decide) (by decide) (by decide) (by decide) nh_N25 ?_
  rintro _ _ _ ⟨rfl, rfl, rfl⟩
  show Go _ _ _ _ _ _ h [] 0 0 54 #[.val (.ref b), .val (.int (0 : Int32)), .val (.int (4 : Int32)), .val (.int (0 : Int32)), .val (.int (4 : Int32))] [(.int (h4F u0 u1 u2 u3))]
  refine Go.goto (pc' := 157) H d29_54 (by decide) (by decide) ?_
  exact Go.ireturnI [] H d29_157 ⟨rfl, rfl, rfl⟩ all0 (by decide) (by decide)
theorem d28_0 : decode jdk_43_method_21_code 0 = .ok (.aload_n 0, 1) := by decide +kernel
theorem d28_1 : decode jdk_43_method_21_code 1 = .ok (.arraylength, 1) := by decide +kernel
theorem d28_2 : decode jdk_43_method_21_code 2 = .ok (.lookupswitch 40 #[(0, 26), (1, 30)], 26) := by decide +kernel
theorem d28_32 : decode jdk_43_method_21_code 32 = .ok (.aload_n 0, 1) := by decide +kernel
theorem d28_33 : decode jdk_43_method_21_code 33 = .ok (.iconst 0, 1) := by decide +kernel
theorem d28_34 : decode jdk_43_method_21_code 34 = .ok (.baload, 1) := by decide +kernel
theorem d28_35 : decode jdk_43_method_21_code 35 = .ok (.sipush 255, 3) := by decide +kernel
theorem d28_38 : decode jdk_43_method_21_code 38 = .ok (.iand, 1) := by decide +kernel
theorem d28_39 : decode jdk_43_method_21_code 39 = .ok (.goto 12, 3) := by decide +kernel
theorem d28_51 : decode jdk_43_method_21_code 51 = .ok (.ireturn, 1) := by decide +kernel
abbrev N27 : MethodName := ⟨"java/lang/StringLatin1", "hashCode", "([B)I"⟩

abbrev rm_lhc1 : Room := { frames := 0, cells := 0, slots := 0, locals := 0 }
set_option maxRecDepth 65536 in
set_option maxHeartbeats 4000000 in
theorem ct_lhc1 (l : Launch) {Z : State} {n0 : Nat} {z : Int32} {f : Value} (W : Sx Z z f) (b : Addr) (u0 : Int32) (h : Heap) (Fb : Vec Z h b .byte [(nar .byte u0)]) (X : Exa Z h b "[B") :
    Ctr l Z n0 N27 jdk_43_method_21_code 1 (some .int) rm_lhc1 #[(.ref b)] h [] (fun v h' sn => v = some (.int (nar .byte u0 &&& (255 : Int32))) ∧ h = h' ∧ sn = []) := by
  refine Ctr.of_go (ls := #[.val (.ref b)]) W.1 (plainFor_of_name pn_N9) (fun m => by first | (simp [entryFrame, mkF, argsToLocals, Value.category]; done) | rfl) (fun K H => ?_)
  refine Go.aloadN H d28_0 rfl rfl rfl ?_
  refine Go.arraylength (1 : Int32) H d28_1 rfl Fb rfl ?_
  refine Go.lookupswitch (pc' := 32) 30 H d28_2 (by decide) (by decide) (by decide) (by decide) ?_
  refine Go.aloadN H d28_32 rfl rfl rfl ?_
  refine Go.iconst (0 : Int32) H d28_33 rfl rfl ?_
  refine Go.baload (v := (nar .byte u0)) H d28_34 rfl Fb 0 (by decide) (by decide) rfl ?_
  refine Go.sipush (255 : Int32) H d28_35 rfl rfl ?_
  refine Go.iand H d28_38 rfl ?_
  refine Go.goto (pc' := 51) H d28_39 (by decide) (by decide) ?_
  exact Go.ireturnI [] H d28_51 ⟨rfl, rfl, rfl⟩ all0 (by decide) (by decide)
theorem d27_0 : decode jdk_42_method_78_code 0 = .ok (.aload_n 0, 1) := by decide +kernel
theorem d27_1 : decode jdk_42_method_78_code 1 = .ok (.getfield 19, 3) := by decide +kernel
theorem w133 : Jvm.Cond.fieldLink "java/lang/String" (19 : Nat) "java/lang/String" "hash" "I" ∈ tables_1 := List.mem_of_getElem? (i := 133) rfl
theorem d27_4 : decode jdk_42_method_78_code 4 = .ok (.istore_n 1, 1) := by decide +kernel
theorem d27_5 : decode jdk_42_method_78_code 5 = .ok (.iload_n 1, 1) := by decide +kernel
theorem d27_6 : decode jdk_42_method_78_code 6 = .ok (.ifCond .ne 52, 3) := by decide +kernel
theorem d27_9 : decode jdk_42_method_78_code 9 = .ok (.aload_n 0, 1) := by decide +kernel
theorem d27_10 : decode jdk_42_method_78_code 10 = .ok (.getfield 23, 3) := by decide +kernel
theorem w135 : Jvm.Cond.fieldLink "java/lang/String" (23 : Nat) "java/lang/String" "hashIsZero" "Z" ∈ tables_1 := List.mem_of_getElem? (i := 135) rfl
theorem d27_13 : decode jdk_42_method_78_code 13 = .ok (.ifCond .ne 45, 3) := by decide +kernel
theorem d27_16 : decode jdk_42_method_78_code 16 = .ok (.aload_n 0, 1) := by decide +kernel
theorem d27_17 : decode jdk_42_method_78_code 17 = .ok (.invokevirtual 492, 3) := by decide +kernel
theorem d27_20 : decode jdk_42_method_78_code 20 = .ok (.ifCond .eq 13, 3) := by decide +kernel
theorem d27_23 : decode jdk_42_method_78_code 23 = .ok (.aload_n 0, 1) := by decide +kernel
theorem d27_24 : decode jdk_42_method_78_code 24 = .ok (.getfield 9, 3) := by decide +kernel
theorem d27_27 : decode jdk_42_method_78_code 27 = .ok (.invokestatic 628, 3) := by decide +kernel
theorem w139 : Jvm.Cond.code N27 jdk_43_method_21_code (1 : Nat) (Option.some Jvm.ClassFile.FieldType.int) ∈ tables_1 := List.mem_of_getElem? (i := 139) rfl
theorem pd_N27 : parseMethodDescriptor N27.desc = some ⟨[(.array .byte)], (some .int)⟩ := by decide +kernel
theorem w137 : Jvm.Cond.methodLink "java/lang/String" (628 : Nat) N27 ∈ tables_1 := List.mem_of_getElem? (i := 137) rfl
theorem w138 : Jvm.Cond.static N27 ∈ tables_1 := List.mem_of_getElem? (i := 138) rfl
theorem d27_30 : decode jdk_42_method_78_code 30 = .ok (.goto 10, 3) := by decide +kernel
theorem d27_40 : decode jdk_42_method_78_code 40 = .ok (.istore_n 1, 1) := by decide +kernel
theorem d27_41 : decode jdk_42_method_78_code 41 = .ok (.iload_n 1, 1) := by decide +kernel
theorem d27_42 : decode jdk_42_method_78_code 42 = .ok (.ifCond .ne 11, 3) := by decide +kernel
theorem d27_45 : decode jdk_42_method_78_code 45 = .ok (.aload_n 0, 1) := by decide +kernel
theorem d27_46 : decode jdk_42_method_78_code 46 = .ok (.iconst 1, 1) := by decide +kernel
theorem d27_47 : decode jdk_42_method_78_code 47 = .ok (.putfield 23, 3) := by decide +kernel
theorem d27_50 : decode jdk_42_method_78_code 50 = .ok (.goto 8, 3) := by decide +kernel
theorem d27_58 : decode jdk_42_method_78_code 58 = .ok (.iload_n 1, 1) := by decide +kernel
theorem d27_59 : decode jdk_42_method_78_code 59 = .ok (.ireturn, 1) := by decide +kernel
theorem d27_53 : decode jdk_42_method_78_code 53 = .ok (.aload_n 0, 1) := by decide +kernel
theorem d27_54 : decode jdk_42_method_78_code 54 = .ok (.iload_n 1, 1) := by decide +kernel
theorem d27_55 : decode jdk_42_method_78_code 55 = .ok (.putfield 19, 3) := by decide +kernel
abbrev N28 : MethodName := ⟨"java/lang/String", "hashCode", "()I"⟩

abbrev rm_shs1 : Room := { frames := 1, cells := 0, slots := 0, locals := 12 }
set_option maxRecDepth 65536 in
set_option maxHeartbeats 4000000 in
theorem ct_shs1 (l : Launch) {Z : State} {n0 : Nat} {z : Int32} {f : Value} (W : Sx Z z f) (x b : Addr) (u0 : Int32) (h : Heap) (S : Str Z h x b [u0]) (Fh : Fld Z h x "java/lang/String" "hash" "I" (.int 0)) (Fz : Fld Z h x "java/lang/String" "hashIsZero" "Z" (.int 0)) (X : Exa Z h b "[B") (zx : n0 ≤ x) :
    Ctr l Z n0 N28 jdk_42_method_78_code 2 (some .int) rm_shs1 #[(.ref x)] h [x] (fun v h' sn => v = some (.int (nar .byte u0 &&& (255 : Int32))) ∧ Keep h h' [x] ∧ sn = []) := by
  refine Ctr.of_go (ls := #[.val (.ref x), .unset]) W.1 (plainFor_of_name pn_N4) (fun m => by first | (simp [entryFrame, mkF, argsToLocals, Value.category]; done) | rfl) (fun K H => ?_)
  have KK : Keep h h [x] := Keep.refl _ _
  have S0 := S
  obtain ⟨A, Fv, Fc, Fb, hL, hn⟩ := S
  have hbx : b ≠ x := Vec.neExa Fb A W.1 w13
  refine Go.aloadN H d27_0 rfl rfl rfl ?_
  refine Go.getfield H d27_1 rfl w133 Fh ?_
  refine Go.istoreN (ls' := #[.val (.ref x), .val (.int (0 : Int32))]) H d27_4 rfl rfl ?_
  refine Go.iloadN H d27_5 rfl rfl ?_
  refine Go.ifN H d27_6 (by decide) rfl ?_
  refine Go.aloadN H d27_9 rfl rfl rfl ?_
  refine Go.getfield H d27_10 rfl w135 Fz ?_
  refine Go.ifN H d27_13 (by decide) rfl ?_
  refine Go.aloadN H d27_16 rfl rfl rfl ?_
  refine Go.callV (rest := []) 0 [] H d27_17 rfl A w65 w66 w68 w67 w14 w69 pd_N6 (ct_isl l W x b [u0] h S0) all0 rfl rfl rfl (Nat.le_of_eq rfl) (by decide) (by decide) (by decide) (by decide) nh_N4 ?_
  rintro _ _ _ ⟨rfl, rfl, rfl⟩
  show Go _ _ _ _ _ _ h [x] 0 0 20 #[.val (.ref x), .val (.int (0 : Int32))] [(.int (1 : Int32))]
  refine Go.ifN H d27_20 (by decide) rfl ?_
  refine Go.aloadN H d27_23 rfl rfl rfl ?_
  refine Go.getfield H d27_24 rfl w39 Fv ?_
  refine Go.callS (rest := []) 0 [(.ref b)] H d27_27 rfl w137 w138 w72 w139 pd_N27 (ct_lhc1 l W b u0 h Fb X) all0 rfl rfl rfl (Nat.le_of_eq rfl) (by decide) (by decide) (by decide) (by decide) nh_N9 ?_
  rintro _ _ _ ⟨rfl, rfl, rfl⟩
  show Go _ _ _ _ _ _ h [x] 0 0 30 #[.val (.ref x), .val (.int (0 : Int32))] [(.int (nar .byte u0 &&& (255 : Int32)))]
  refine Go.goto (pc' := 40) H d27_30 (by decide) (by decide) ?_
  refine Go.istoreN (ls' := #[.val (.ref x), .val (.int (nar .byte u0 &&& (255 : Int32)))]) H d27_40 rfl rfl ?_
  refine Go.iloadN H d27_41 rfl rfl ?_
  by_cases c1 : (nar .byte u0 &&& (255 : Int32)) = (0 : Int32)
  ·
    refine Go.ifN H d27_42 (teq c1).2 rfl ?_
    refine Go.aloadN H d27_45 rfl rfl rfl ?_
    refine Go.iconst (1 : Int32) H d27_46 rfl rfl ?_
    refine Go.putfield (v := (.int (1 : Int32))) H d27_47 rfl w135 Fz A (Or.inl w136) w13 (ty := .boolean) (by decide) (by decide) (by decide) zx (by simp) ?_
    intro h2 Wr3
    have F4 := Fz.same Wr3
    have K5 := Keep.of_wr Wr3
    replace A := A.wr Wr3
    replace Fv := Fv.other Wr3 (Or.inr (own_sne W.1 (Or.inr w40) (Or.inl w136) (by decide) (t := (.array .byte)) (t' := .boolean) (by decide) (by decide)))
    replace Fc := Fc.other Wr3 (Or.inr (own_sne W.1 (Or.inr w38) (Or.inl w136) (by decide) (t := .byte) (t' := .boolean) (by decide) (by decide)))
    replace Fb := Fb.keep K5 (ninS hbx nin0)
    replace Fh := Fh.other Wr3 (Or.inr (own_sne W.1 (Or.inl w134) (Or.inl w136) (by decide) (t := .int) (t' := .boolean) (by decide) (by decide)))
    replace X := X.wr Wr3
    replace KK := KK.wr Wr3 (Or.inl (by simp))
    refine Go.goto (pc' := 58) H d27_50 (by decide) (by decide) ?_
    refine Go.iloadN H d27_58 rfl rfl ?_
    exact Go.ireturnI [] H d27_59 ⟨rfl, KK, rfl⟩ all0 (by decide) (by decide)
  ·
    refine Go.ifY (pc' := 53) H d27_42 (feq c1).2 (by decide) (by decide) ?_
    refine Go.aloadN H d27_53 rfl rfl rfl ?_
    refine Go.iloadN H d27_54 rfl rfl ?_
    refine Go.putfield (v := (.int (nar .byte u0 &&& (255 : Int32)))) H d27_55 rfl w133 Fh A (Or.inl w134) w13 (ty := .int) (by decide) rfl rfl zx (by simp) ?_
    intro h6 Wr7
    have F8 := Fh.same Wr7
    have K9 := Keep.of_wr Wr7
    replace A := A.wr Wr7
    replace Fv := Fv.other Wr7 (Or.inr (own_sne W.1 (Or.inr w40) (Or.inl w134) (by decide) (t := (.array .byte)) (t' := .int) (by decide) (by decide)))
    replace Fc := Fc.other Wr7 (Or.inr (own_sne W.1 (Or.inr w38) (Or.inl w134) (by decide) (t := .byte) (t' := .int) (by decide) (by decide)))
    replace Fb := Fb.keep K9 (ninS hbx nin0)
    replace Fz := Fz.other Wr7 (Or.inr (own_sne W.1 (Or.inl w136) (Or.inl w134) (by decide) (t := .boolean) (t' := .int) (by decide) (by decide)))
    replace X := X.wr Wr7
    replace KK := KK.wr Wr7 (Or.inl (by simp))
    refine Go.iloadN H d27_58 rfl rfl ?_
    exact Go.ireturnI [] H d27_59 ⟨rfl, KK, rfl⟩ all0 (by decide) (by decide)
theorem d26_0 : decode prog_6_method_7_code 0 = .ok (.aload_n 0, 1) := by decide +kernel
theorem d26_1 : decode prog_6_method_7_code 1 = .ok (.getfield 13, 3) := by decide +kernel
theorem d26_4 : decode prog_6_method_7_code 4 = .ok (.invokevirtual 84, 3) := by decide +kernel
theorem w132 : Jvm.Cond.code N28 jdk_42_method_78_code (2 : Nat) (Option.some Jvm.ClassFile.FieldType.int) ∈ tables_1 := List.mem_of_getElem? (i := 132) rfl
theorem pd_N28 : parseMethodDescriptor N28.desc = some ⟨[], (some .int)⟩ := by decide +kernel
theorem w128 : Jvm.Cond.methodLink "com/example/rendezpoint/rendezpoint/core/Name" (84 : Nat) N28 ∈ tables_1 := List.mem_of_getElem? (i := 128) rfl
theorem w129 : Jvm.Cond.declares N28 ∈ tables_1 := List.mem_of_getElem? (i := 129) rfl
theorem w131 : Jvm.Cond.selects "java/lang/String" N28 N28 ∈ tables_1 := List.mem_of_getElem? (i := 131) rfl
theorem w130 : Jvm.Cond.instanceMethod N28 ∈ tables_1 := List.mem_of_getElem? (i := 130) rfl
theorem d26_7 : decode prog_6_method_7_code 7 = .ok (.ireturn, 1) := by decide +kernel
abbrev N29 : MethodName := ⟨"com/example/rendezpoint/rendezpoint/core/Name", "hashCode", "()I"⟩

abbrev rm_nmh1 : Room := { frames := 2, cells := 0, slots := 0, locals := 25 }
set_option maxRecDepth 65536 in
set_option maxHeartbeats 4000000 in
theorem ct_nmh1 (l : Launch) {Z : State} {n0 : Nat} {z : Int32} {f : Value} (W : Sx Z z f) (a x b : Addr) (u0 : Int32) (h : Heap) (Fk : Fld Z h a "com/example/rendezpoint/rendezpoint/core/Name" "_key" "Ljava/lang/String;" (.ref x)) (S : Str Z h x b [u0]) (Fh : Fld Z h x "java/lang/String" "hash" "I" (.int 0)) (Fz : Fld Z h x "java/lang/String" "hashIsZero" "Z" (.int 0)) (X : Exa Z h b "[B") (zx : n0 ≤ x) :
    Ctr l Z n0 N29 prog_6_method_7_code 1 (some .int) rm_nmh1 #[(.ref a)] h [x] (fun v h' sn => v = some (.int (nar .byte u0 &&& (255 : Int32))) ∧ Keep h h' [x] ∧ sn = []) := by
  refine Ctr.of_go (ls := #[.val (.ref a)]) W.1 (plainFor_of_name pn_N19) (fun m => by first | (simp [entryFrame, mkF, argsToLocals, Value.category]; done) | rfl) (fun K H => ?_)
  refine Go.aloadN H d26_0 rfl rfl rfl ?_
  refine Go.getfield H d26_1 rfl w95 Fk ?_
  refine Go.callV (rest := []) 0 [] H d26_4 rfl S.1 w128 w129 w131 w130 w14 w132 pd_N28 (ct_shs1 l W x b u0 h S Fh Fz X zx) (by simp) rfl rfl rfl (Nat.le_of_eq rfl) (by decide) (by decide) (by decide) (by decide) nh_N4 ?_
  rintro _ h1 _ ⟨rfl, K2, rfl⟩
  show Go _ _ _ _ _ _ h1 [x] 0 0 7 #[.val (.ref a)] [(.int (nar .byte u0 &&& (255 : Int32)))]
  exact Go.ireturnI [] H d26_7 ⟨rfl, K2, rfl⟩ all0 (by decide) (by decide)
theorem d28_42 : decode jdk_43_method_21_code 42 = .ok (.aload_n 0, 1) := by decide +kernel
theorem d28_43 : decode jdk_43_method_21_code 43 = .ok (.iconst 0, 1) := by decide +kernel
theorem d28_44 : decode jdk_43_method_21_code 44 = .ok (.aload_n 0, 1) := by decide +kernel
theorem d28_45 : decode jdk_43_method_21_code 45 = .ok (.arraylength, 1) := by decide +kernel
theorem d28_46 : decode jdk_43_method_21_code 46 = .ok (.iconst 0, 1) := by decide +kernel
theorem d28_47 : decode jdk_43_method_21_code 47 = .ok (.iconst 4, 1) := by decide +kernel
theorem d28_48 : decode jdk_43_method_21_code 48 = .ok (.invokestatic 84, 3) := by decide +kernel
theorem w143 : Jvm.Cond.code N26 jdk_48_method_4_code (5 : Nat) (Option.some Jvm.ClassFile.FieldType.int) ∈ tables_1 := List.mem_of_getElem? (i := 143) rfl
theorem pd_N26 : parseMethodDescriptor N26.desc = some ⟨[(.object "java/lang/Object"), .int, .int, .int, .int], (some .int)⟩ := by decide +kernel
theorem w140 : Jvm.Cond.methodLink "java/lang/StringLatin1" (84 : Nat) N26 ∈ tables_1 := List.mem_of_getElem? (i := 140) rfl
theorem w141 : Jvm.Cond.static N26 ∈ tables_1 := List.mem_of_getElem? (i := 141) rfl

abbrev rm_lhc4 : Room := { frames := 2, cells := 0, slots := 0, locals := 33 }
set_option maxRecDepth 65536 in
set_option maxHeartbeats 4000000 in
theorem ct_lhc4 (l : Launch) {Z : State} {n0 : Nat} {z : Int32} {f : Value} (W : Sx Z z f) (b : Addr) (u0 u1 u2 u3 : Int32) (h : Heap) (Fb : Vec Z h b .byte [(nar .byte u0), (nar .byte u1), (nar .byte u2), (nar .byte u3)]) (X : Exa Z h b "[B") :
    Ctr l Z n0 N27 jdk_43_method_21_code 1 (some .int) rm_lhc4 #[(.ref b)] h [] (fun v h' sn => v = some (.int (h4F u0 u1 u2 u3)) ∧ h = h' ∧ sn = []) := by
  refine Ctr.of_go (ls := #[.val (.ref b)]) W.1 (plainFor_of_name pn_N9) (fun m => by first | (simp [entryFrame, mkF, argsToLocals, Value.category]; done) | rfl) (fun K H => ?_)
  refine Go.aloadN H d28_0 rfl rfl rfl ?_
  refine Go.arraylength (4 : Int32) H d28_1 rfl Fb rfl ?_
  refine Go.lookupswitch (pc' := 42) 40 H d28_2 (by decide) (by decide) (by decide) (by decide) ?_
  refine Go.aloadN H d28_42 rfl rfl rfl ?_
  refine Go.iconst (0 : Int32) H d28_43 rfl rfl ?_
  refine Go.aloadN H d28_44 rfl rfl rfl ?_
  refine Go.arraylength (4 : Int32) H d28_45 rfl Fb rfl ?_
  refine Go.iconst (0 : Int32) H d28_46 rfl rfl ?_
  refine Go.iconst (4 : Int32) H d28_47 rfl rfl ?_
  refine Go.callS (rest := []) 0 [(.ref b), (.int (0 : Int32)), (.int (4 : Int32)), (.int (0 : Int32)), (.int (4 : Int32))] H d28_48 rfl w140 w141 w142 w143 pd_N26 (ct_vhc l W b u0 u1 u2 u3 h Fb X) all0 rfl rfl rfl (Nat.le_of_eq rfl) (by decide) (by decide) (by decide) (by decide) nh_N25 ?_
  rintro _ _ _ ⟨rfl, rfl, rfl⟩
  show Go _ _ _ _ _ _ h [] 0 0 51 #[.val (.ref b)] [(.int (h4F u0 u1 u2 u3))]
  exact Go.ireturnI [] H d28_51 ⟨rfl, rfl, rfl⟩ all0 (by decide) (by decide)

abbrev rm_shs4 : Room := { frames := 3, cells := 0, slots := 0, locals := 45 }
set_option maxRecDepth 65536 in
set_option maxHeartbeats 4000000 in
theorem ct_shs4 (l : Launch) {Z : State} {n0 : Nat} {z : Int32} {f : Value} (W : Sx Z z f) (x b : Addr) (u0 u1 u2 u3 : Int32) (h : Heap) (S : Str Z h x b [u0, u1, u2, u3]) (Fh : Fld Z h x "java/lang/String" "hash" "I" (.int 0)) (Fz : Fld Z h x "java/lang/String" "hashIsZero" "Z" (.int 0)) (X : Exa Z h b "[B") (zx : n0 ≤ x) :
    Ctr l Z n0 N28 jdk_42_method_78_code 2 (some .int) rm_shs4 #[(.ref x)] h [x] (fun v h' sn => v = some (.int (h4F u0 u1 u2 u3)) ∧ Keep h h' [x] ∧ sn = []) := by
  refine Ctr.of_go (ls := #[.val (.ref x), .unset]) W.1 (plainFor_of_name pn_N4) (fun m => by first | (simp [entryFrame, mkF, argsToLocals, Value.category]; done) | rfl) (fun K H => ?_)
  have KK : Keep h h [x] := Keep.refl _ _
  have S0 := S
  obtain ⟨A, Fv, Fc, Fb, hL, hn⟩ := S
  have hbx : b ≠ x := Vec.neExa Fb A W.1 w13
  refine Go.aloadN H d27_0 rfl rfl rfl ?_
  refine Go.getfield H d27_1 rfl w133 Fh ?_
  refine Go.istoreN (ls' := #[.val (.ref x), .val (.int (0 : Int32))]) H d27_4 rfl rfl ?_
  refine Go.iloadN H d27_5 rfl rfl ?_
  refine Go.ifN H d27_6 (by decide) rfl ?_
  refine Go.aloadN H d27_9 rfl rfl rfl ?_
  refine Go.getfield H d27_10 rfl w135 Fz ?_
  refine Go.ifN H d27_13 (by decide) rfl ?_
  refine Go.aloadN H d27_16 rfl rfl rfl ?_
  refine Go.callV (rest := []) 0 [] H d27_17 rfl A w65 w66 w68 w67 w14 w69 pd_N6 (ct_isl l W x b [u0, u1, u2, u3] h S0) all0 rfl rfl rfl (Nat.le_of_eq rfl) (by decide) (by decide) (by decide) (by decide) nh_N4 ?_
  rintro _ _ _ ⟨rfl, rfl, rfl⟩
  show Go _ _ _ _ _ _ h [x] 0 0 20 #[.val (.ref x), .val (.int (0 : Int32))] [(.int (1 : Int32))]
  refine Go.ifN H d27_20 (by decide) rfl ?_
  refine Go.aloadN H d27_23 rfl rfl rfl ?_
  refine Go.getfield H d27_24 rfl w39 Fv ?_
  refine Go.callS (rest := []) 0 [(.ref b)] H d27_27 rfl w137 w138 w72 w139 pd_N27 (ct_lhc4 l W b u0 u1 u2 u3 h Fb X) all0 rfl rfl rfl (Nat.le_of_eq rfl) (by decide) (by decide) (by decide) (by decide) nh_N9 ?_
  rintro _ _ _ ⟨rfl, rfl, rfl⟩
  show Go _ _ _ _ _ _ h [x] 0 0 30 #[.val (.ref x), .val (.int (0 : Int32))] [(.int (h4F u0 u1 u2 u3))]
  refine Go.goto (pc' := 40) H d27_30 (by decide) (by decide) ?_
  refine Go.istoreN (ls' := #[.val (.ref x), .val (.int (h4F u0 u1 u2 u3))]) H d27_40 rfl rfl ?_
  refine Go.iloadN H d27_41 rfl rfl ?_
  by_cases c1 : (h4F u0 u1 u2 u3) = (0 : Int32)
  ·
    refine Go.ifN H d27_42 (teq c1).2 rfl ?_
    refine Go.aloadN H d27_45 rfl rfl rfl ?_
    refine Go.iconst (1 : Int32) H d27_46 rfl rfl ?_
    refine Go.putfield (v := (.int (1 : Int32))) H d27_47 rfl w135 Fz A (Or.inl w136) w13 (ty := .boolean) (by decide) (by decide) (by decide) zx (by simp) ?_
    intro h2 Wr3
    have F4 := Fz.same Wr3
    have K5 := Keep.of_wr Wr3
    replace A := A.wr Wr3
    replace Fv := Fv.other Wr3 (Or.inr (own_sne W.1 (Or.inr w40) (Or.inl w136) (by decide) (t := (.array .byte)) (t' := .boolean) (by decide) (by decide)))
    replace Fc := Fc.other Wr3 (Or.inr (own_sne W.1 (Or.inr w38) (Or.inl w136) (by decide) (t := .byte) (t' := .boolean) (by decide) (by decide)))
    replace Fb := Fb.keep K5 (ninS hbx nin0)
    replace Fh := Fh.other Wr3 (Or.inr (own_sne W.1 (Or.inl w134) (Or.inl w136) (by decide) (t := .int) (t' := .boolean) (by decide) (by decide)))
    replace X := X.wr Wr3
    replace KK := KK.wr Wr3 (Or.inl (by simp))
    refine Go.goto (pc' := 58) H d27_50 (by decide) (by decide) ?_
    refine Go.iloadN H d27_58 rfl rfl ?_
    exact Go.ireturnI [] H d27_59 ⟨rfl, KK, rfl⟩ all0 (by decide) (by decide)
  ·
    refine Go.ifY (pc' := 53) H d27_42 (feq c1).2 (by decide) (by decide) ?_
    refine Go.aloadN H d27_53 rfl rfl rfl ?_
    refine Go.iloadN H d27_54 rfl rfl ?_
    refine Go.putfield (v := (.int (h4F u0 u1 u2 u3))) H d27_55 rfl w133 Fh A (Or.inl w134) w13 (ty := .int) (by decide) rfl rfl zx (by simp) ?_
    intro h6 Wr7
    have F8 := Fh.same Wr7
    have K9 := Keep.of_wr Wr7
    replace A := A.wr Wr7
    replace Fv := Fv.other Wr7 (Or.inr (own_sne W.1 (Or.inr w40) (Or.inl w134) (by decide) (t := (.array .byte)) (t' := .int) (by decide) (by decide)))
    replace Fc := Fc.other Wr7 (Or.inr (own_sne W.1 (Or.inr w38) (Or.inl w134) (by decide) (t := .byte) (t' := .int) (by decide) (by decide)))
    replace Fb := Fb.keep K9 (ninS hbx nin0)
    replace Fz := Fz.other Wr7 (Or.inr (own_sne W.1 (Or.inl w136) (Or.inl w134) (by decide) (t := .boolean) (t' := .int) (by decide) (by decide)))
    replace X := X.wr Wr7
    replace KK := KK.wr Wr7 (Or.inl (by simp))
    refine Go.iloadN H d27_58 rfl rfl ?_
    exact Go.ireturnI [] H d27_59 ⟨rfl, KK, rfl⟩ all0 (by decide) (by decide)

abbrev rm_nmh4 : Room := { frames := 4, cells := 0, slots := 0, locals := 58 }
set_option maxRecDepth 65536 in
set_option maxHeartbeats 4000000 in
theorem ct_nmh4 (l : Launch) {Z : State} {n0 : Nat} {z : Int32} {f : Value} (W : Sx Z z f) (a x b : Addr) (u0 u1 u2 u3 : Int32) (h : Heap) (Fk : Fld Z h a "com/example/rendezpoint/rendezpoint/core/Name" "_key" "Ljava/lang/String;" (.ref x)) (S : Str Z h x b [u0, u1, u2, u3]) (Fh : Fld Z h x "java/lang/String" "hash" "I" (.int 0)) (Fz : Fld Z h x "java/lang/String" "hashIsZero" "Z" (.int 0)) (X : Exa Z h b "[B") (zx : n0 ≤ x) :
    Ctr l Z n0 N29 prog_6_method_7_code 1 (some .int) rm_nmh4 #[(.ref a)] h [x] (fun v h' sn => v = some (.int (h4F u0 u1 u2 u3)) ∧ Keep h h' [x] ∧ sn = []) := by
  refine Ctr.of_go (ls := #[.val (.ref a)]) W.1 (plainFor_of_name pn_N19) (fun m => by first | (simp [entryFrame, mkF, argsToLocals, Value.category]; done) | rfl) (fun K H => ?_)
  refine Go.aloadN H d26_0 rfl rfl rfl ?_
  refine Go.getfield H d26_1 rfl w95 Fk ?_
  refine Go.callV (rest := []) 0 [] H d26_4 rfl S.1 w128 w129 w131 w130 w14 w132 pd_N28 (ct_shs4 l W x b u0 u1 u2 u3 h S Fh Fz X zx) (by simp) rfl rfl rfl (Nat.le_of_eq rfl) (by decide) (by decide) (by decide) (by decide) nh_N4 ?_
  rintro _ h1 _ ⟨rfl, K2, rfl⟩
  show Go _ _ _ _ _ _ h1 [x] 0 0 7 #[.val (.ref a)] [(.int (h4F u0 u1 u2 u3))]
  exact Go.ireturnI [] H d26_7 ⟨rfl, K2, rfl⟩ all0 (by decide) (by decide)
theorem w11 : Jvm.Cond.code N18 method_4_code (2 : Nat) (Option.some Jvm.ClassFile.FieldType.char) ∈ tables_1 := List.mem_of_getElem? (i := 11) rfl
theorem pd_N18 : parseMethodDescriptor N18.desc = some ⟨[.int], (some .char)⟩ := by decide +kernel
theorem w9 : Jvm.Cond.methodLink "com/example/rendezpoint/rendezpoint/core/NameOfPinLaw" (18 : Nat) N18 ∈ tables_1 := List.mem_of_getElem? (i := 9) rfl
theorem w10 : Jvm.Cond.static N18 ∈ tables_1 := List.mem_of_getElem? (i := 10) rfl
theorem w12 : Jvm.Cond.classLink "com/example/rendezpoint/rendezpoint/core/NameOfPinLaw" (21 : Nat) "java/lang/String" ∈ tables_1 := List.mem_of_getElem? (i := 12) rfl
theorem w15 : Jvm.Cond.methodLink "com/example/rendezpoint/rendezpoint/core/NameOfPinLaw" (23 : Nat) N5 ∈ tables_1 := List.mem_of_getElem? (i := 15) rfl
theorem w44 : Jvm.Cond.code N21 prog_6_method_2_code (5 : Nat) (Option.some (Jvm.ClassFile.FieldType.object "com/example/rendezpoint/rendezpoint/core/Name")) ∈ tables_1 := List.mem_of_getElem? (i := 44) rfl
theorem pd_N21 : parseMethodDescriptor N21.desc = some ⟨[(.object "java/lang/String")], (some (.object "com/example/rendezpoint/rendezpoint/core/Name"))⟩ := by decide +kernel
theorem w41 : Jvm.Cond.methodLink "com/example/rendezpoint/rendezpoint/core/NameOfPinLaw" (26 : Nat) N21 ∈ tables_1 := List.mem_of_getElem? (i := 41) rfl
theorem w42 : Jvm.Cond.static N21 ∈ tables_1 := List.mem_of_getElem? (i := 42) rfl
theorem w101 : Jvm.Cond.code N22 prog_6_method_9_code (1 : Nat) (Option.some (Jvm.ClassFile.FieldType.object "java/lang/String")) ∈ tables_1 := List.mem_of_getElem? (i := 101) rfl
theorem pd_N22 : parseMethodDescriptor N22.desc = some ⟨[], (some (.object "java/lang/String"))⟩ := by decide +kernel
theorem w97 : Jvm.Cond.methodLink "com/example/rendezpoint/rendezpoint/core/NameOfPinLaw" (32 : Nat) N22 ∈ tables_1 := List.mem_of_getElem? (i := 97) rfl
theorem w98 : Jvm.Cond.declares N22 ∈ tables_1 := List.mem_of_getElem? (i := 98) rfl
theorem w100 : Jvm.Cond.selects "com/example/rendezpoint/rendezpoint/core/Name" N22 N22 ∈ tables_1 := List.mem_of_getElem? (i := 100) rfl
theorem w99 : Jvm.Cond.instanceMethod N22 ∈ tables_1 := List.mem_of_getElem? (i := 99) rfl
theorem w102 : Jvm.Cond.methodLink "com/example/rendezpoint/rendezpoint/core/NameOfPinLaw" (36 : Nat) N14 ∈ tables_1 := List.mem_of_getElem? (i := 102) rfl
theorem w111 : Jvm.Cond.code N23 prog_6_method_8_code (1 : Nat) (Option.some (Jvm.ClassFile.FieldType.object "java/lang/String")) ∈ tables_1 := List.mem_of_getElem? (i := 111) rfl
theorem pd_N23 : parseMethodDescriptor N23.desc = some ⟨[], (some (.object "java/lang/String"))⟩ := by decide +kernel
theorem w107 : Jvm.Cond.methodLink "com/example/rendezpoint/rendezpoint/core/NameOfPinLaw" (40 : Nat) N23 ∈ tables_1 := List.mem_of_getElem? (i := 107) rfl
theorem w108 : Jvm.Cond.declares N23 ∈ tables_1 := List.mem_of_getElem? (i := 108) rfl
theorem w110 : Jvm.Cond.selects "com/example/rendezpoint/rendezpoint/core/Name" N23 N23 ∈ tables_1 := List.mem_of_getElem? (i := 110) rfl
theorem w109 : Jvm.Cond.instanceMethod N23 ∈ tables_1 := List.mem_of_getElem? (i := 109) rfl
theorem w120 : Jvm.Cond.code N24 prog_6_method_6_code (3 : Nat) (Option.some Jvm.ClassFile.FieldType.boolean) ∈ tables_1 := List.mem_of_getElem? (i := 120) rfl
theorem pd_N24 : parseMethodDescriptor N24.desc = some ⟨[(.object "java/lang/Object")], (some .boolean)⟩ := by decide +kernel
theorem w116 : Jvm.Cond.methodLink "com/example/rendezpoint/rendezpoint/core/NameOfPinLaw" (43 : Nat) N24 ∈ tables_1 := List.mem_of_getElem? (i := 116) rfl
theorem w117 : Jvm.Cond.declares N24 ∈ tables_1 := List.mem_of_getElem? (i := 117) rfl
theorem w119 : Jvm.Cond.selects "com/example/rendezpoint/rendezpoint/core/Name" N24 N24 ∈ tables_1 := List.mem_of_getElem? (i := 119) rfl
theorem w118 : Jvm.Cond.instanceMethod N24 ∈ tables_1 := List.mem_of_getElem? (i := 118) rfl
theorem w127 : Jvm.Cond.code N29 prog_6_method_7_code (1 : Nat) (Option.some Jvm.ClassFile.FieldType.int) ∈ tables_1 := List.mem_of_getElem? (i := 127) rfl
theorem pd_N29 : parseMethodDescriptor N29.desc = some ⟨[], (some .int)⟩ := by decide +kernel
theorem w123 : Jvm.Cond.methodLink "com/example/rendezpoint/rendezpoint/core/NameOfPinLaw" (44 : Nat) N29 ∈ tables_1 := List.mem_of_getElem? (i := 123) rfl
theorem w124 : Jvm.Cond.declares N29 ∈ tables_1 := List.mem_of_getElem? (i := 124) rfl
theorem w126 : Jvm.Cond.selects "com/example/rendezpoint/rendezpoint/core/Name" N29 N29 ∈ tables_1 := List.mem_of_getElem? (i := 126) rfl
theorem w125 : Jvm.Cond.instanceMethod N29 ∈ tables_1 := List.mem_of_getElem? (i := 125) rfl
abbrev N30 : MethodName := ⟨"com/example/rendezpoint/rendezpoint/core/NameOfPinLaw", "law", "(IIIII)Z"⟩
set_option maxRecDepth 65536 in
set_option maxHeartbeats 40000000 in
theorem ct_law (l : Launch) {Z : State} {n0 : Nat} {z : Int32} {f : Value} (W : Sx Z z f) (a : Int32) (b : Int32) (c : Int32) (d : Int32) (sel : Int32) (h : Heap) : Ctr l Z n0 x code maxLocals ret room_1 #[(.int a), (.int b), (.int c), (.int d), (.int sel)] h [] (fun v h' sn => v = some (.int 1) ∧ True) := by
  refine Ctr.of_go (ls := #[.val (.int a), .val (.int b), .val (.int c), .val (.int d), .val (.int sel), .unset, .unset, .unset, .unset, .unset, .unset, .unset, .unset, .unset]) W.1 (plainFor_of_name pn_N16) (fun m => by simp [entryFrame, mkF, argsToLocals, Value.category, maxLocals]) (fun K H0 => ?_)
  have H : Ok Z K "com/example/rendezpoint/rendezpoint/core/NameOfPinLaw" code 14 (some .boolean) "law" := H0
  refine Go.iload H at_0 rfl rfl ?_
  refine Go.iconst (1 : Int32) H at_2 rfl rfl ?_
  refine Go.iand H at_3 rfl ?_
  by_cases c1 : (sel &&& (1 : Int32)) = (0 : Int32)
  ·
    refine Go.ifY (pc' := 11) H at_4 (teq c1).1 (by decide) (by decide) ?_
    refine Go.iconst (0 : Int32) H at_11 rfl rfl ?_
    refine Go.istore (ls' := #[.val (.int a), .val (.int b), .val (.int c), .val (.int d), .val (.int sel), .val (.int (0 : Int32)), .unset, .unset, .unset, .unset, .unset, .unset, .unset, .unset]) H at_12 rfl rfl ?_
    refine Go.iconst (1 : Int32) H at_14 rfl rfl ?_
    refine Go.newarray 1 1 H at_15 rfl w0 rfl (by decide) (by decide) (by decide) (by decide) (by decide) (by decide) (by decide) ?_
    intro a2 h3 g4 z5 E6 F7
    replace F7 : Vec Z h3 a2 .char [(0 : Int32)] := F7
    show Go _ _ _ _ _ _ h3 [a2] 1 1 17 #[.val (.int a), .val (.int b), .val (.int c), .val (.int d), .val (.int sel), .val (.int (0 : Int32)), .unset, .unset, .unset, .unset, .unset, .unset, .unset, .unset] [(.ref a2)]
    refine Go.dup H at_17 rfl rfl ?_
    refine Go.iconst (0 : Int32) H at_18 rfl rfl ?_
    refine Go.iloadN H at_19 rfl rfl ?_
    refine Go.callS (rest := [(.int (0 : Int32)), (.ref a2), (.ref a2)]) 3 [(.int a)] H at_20 rfl w1 w2 w3 w4 pd_N17 (ct_val l W a h3) all0 rfl rfl rfl (Nat.le_of_eq rfl) (by decide) (by decide) (by decide) (by decide) nh_N16 ?_
    rintro _ _ _ ⟨rfl, rfl, rfl⟩
    show Go _ _ _ _ _ _ h3 [a2] 1 1 23 #[.val (.int a), .val (.int b), .val (.int c), .val (.int d), .val (.int sel), .val (.int (0 : Int32)), .unset, .unset, .unset, .unset, .unset, .unset, .unset, .unset] [(.int (valF a)), (.int (0 : Int32)), (.ref a2), (.ref a2)]
    refine Go.castore (valF a) H at_23 rfl F7 0 (by decide) (by decide) (Nat.le_of_ble_eq_true rfl) (valF_c _) z5 (by simp) ?_
    intro h8 K9 F10
    replace F10 : Vec Z h8 a2 .char [(valF a)] := F10
    refine Go.astore (ls' := #[.val (.int a), .val (.int b), .val (.int c), .val (.int d), .val (.int sel), .val (.int (0 : Int32)), .val (.ref a2), .unset, .unset, .unset, .unset, .unset, .unset, .unset]) H at_24 rfl rfl rfl ?_
    refine Go.iconst (1 : Int32) H at_26 rfl rfl ?_
    refine Go.newarray 1 1 H at_27 rfl w0 rfl (by decide) (by decide) (by decide) (by decide) (by decide) (by decide) (by decide) ?_
    intro a11 h12 g13 z14 E15 F16
    have ne17 : a2 ≠ a11 := Nat.ne_of_lt (Nat.lt_of_lt_of_le F10.lt (Nat.le_of_eq g13.symm))
    replace F10 := F10.ext E15
    replace F16 : Vec Z h12 a11 .char [(0 : Int32)] := F16
    show Go _ _ _ _ _ _ h12 [a11, a2] 2 2 29 #[.val (.int a), .val (.int b), .val (.int c), .val (.int d), .val (.int sel), .val (.int (0 : Int32)), .val (.ref a2), .unset, .unset, .unset, .unset, .unset, .unset, .unset] [(.ref a11)]
    refine Go.dup H at_29 rfl rfl ?_
    refine Go.iconst (0 : Int32) H at_30 rfl rfl ?_
    refine Go.iloadN H at_31 rfl rfl ?_
    refine Go.callS (rest := [(.int (0 : Int32)), (.ref a11), (.ref a11)]) 3 [(.int a)] H at_32 rfl w9 w10 w3 w11 pd_N18 (ct_fol l W a h12) all0 rfl rfl rfl (Nat.le_of_eq rfl) (by decide) (by decide) (by decide) (by decide) nh_N16 ?_
    rintro _ _ _ ⟨rfl, rfl, rfl⟩
    show Go _ _ _ _ _ _ h12 [a11, a2] 2 2 35 #[.val (.int a), .val (.int b), .val (.int c), .val (.int d), .val (.int sel), .val (.int (0 : Int32)), .val (.ref a2), .unset, .unset, .unset, .unset, .unset, .unset, .unset] [(.int (folF a)), (.int (0 : Int32)), (.ref a11), (.ref a11)]
    refine Go.castore (folF a) H at_35 rfl F16 0 (by decide) (by decide) (Nat.le_of_ble_eq_true rfl) (folF_c _) z14 (by simp) ?_
    intro h18 K19 F20
    replace F10 := F10.keep K19 (ninS ne17 nin0)
    replace F20 : Vec Z h18 a11 .char [(folF a)] := F20
    refine Go.astore (ls' := #[.val (.int a), .val (.int b), .val (.int c), .val (.int d), .val (.int sel), .val (.int (0 : Int32)), .val (.ref a2), .val (.ref a11), .unset, .unset, .unset, .unset, .unset, .unset]) H at_36 rfl rfl rfl ?_
    refine Go.iconst (4 : Int32) H at_38 rfl rfl ?_
    refine Go.newarray 4 4 H at_39 rfl w0 rfl (by decide) (by decide) (by decide) (by decide) (by decide) (by decide) (by decide) ?_
    intro a21 h22 g23 z24 E25 F26
    have ne27 : a2 ≠ a21 := Nat.ne_of_lt (Nat.lt_of_lt_of_le F10.lt (Nat.le_of_eq g23.symm))
    have ne28 : a11 ≠ a21 := Nat.ne_of_lt (Nat.lt_of_lt_of_le F20.lt (Nat.le_of_eq g23.symm))
    replace F10 := F10.ext E25
    replace F20 := F20.ext E25
    replace F26 : Vec Z h22 a21 .char [(0 : Int32), (0 : Int32), (0 : Int32), (0 : Int32)] := F26
    show Go _ _ _ _ _ _ h22 [a21, a11, a2] 3 6 41 #[.val (.int a), .val (.int b), .val (.int c), .val (.int d), .val (.int sel), .val (.int (0 : Int32)), .val (.ref a2), .val (.ref a11), .unset, .unset, .unset, .unset, .unset, .unset] [(.ref a21)]
    refine Go.dup H at_41 rfl rfl ?_
    refine Go.iconst (0 : Int32) H at_42 rfl rfl ?_
    refine Go.iloadN H at_43 rfl rfl ?_
    refine Go.callS (rest := [(.int (0 : Int32)), (.ref a21), (.ref a21)]) 3 [(.int a)] H at_44 rfl w1 w2 w3 w4 pd_N17 (ct_val l W a h22) all0 rfl rfl rfl (Nat.le_of_eq rfl) (by decide) (by decide) (by decide) (by decide) nh_N16 ?_
    rintro _ _ _ ⟨rfl, rfl, rfl⟩
    show Go _ _ _ _ _ _ h22 [a21, a11, a2] 3 6 47 #[.val (.int a), .val (.int b), .val (.int c), .val (.int d), .val (.int sel), .val (.int (0 : Int32)), .val (.ref a2), .val (.ref a11), .unset, .unset, .unset, .unset, .unset, .unset] [(.int (valF a)), (.int (0 : Int32)), (.ref a21), (.ref a21)]
    refine Go.castore (valF a) H at_47 rfl F26 0 (by decide) (by decide) (Nat.le_of_ble_eq_true rfl) (valF_c _) z24 (by simp) ?_
    intro h29 K30 F31
    replace F10 := F10.keep K30 (ninS ne27 nin0)
    replace F20 := F20.keep K30 (ninS ne28 nin0)
    replace F31 : Vec Z h29 a21 .char [(valF a), (0 : Int32), (0 : Int32), (0 : Int32)] := F31
    refine Go.dup H at_48 rfl rfl ?_
    refine Go.iconst (1 : Int32) H at_49 rfl rfl ?_
    refine Go.iloadN H at_50 rfl rfl ?_
    refine Go.callS (rest := [(.int (1 : Int32)), (.ref a21), (.ref a21)]) 3 [(.int b)] H at_51 rfl w1 w2 w3 w4 pd_N17 (ct_val l W b h29) all0 rfl rfl rfl (Nat.le_of_eq rfl) (by decide) (by decide) (by decide) (by decide) nh_N16 ?_
    rintro _ _ _ ⟨rfl, rfl, rfl⟩
    show Go _ _ _ _ _ _ h29 [a21, a11, a2] 3 6 54 #[.val (.int a), .val (.int b), .val (.int c), .val (.int d), .val (.int sel), .val (.int (0 : Int32)), .val (.ref a2), .val (.ref a11), .unset, .unset, .unset, .unset, .unset, .unset] [(.int (valF b)), (.int (1 : Int32)), (.ref a21), (.ref a21)]
    refine Go.castore (valF b) H at_54 rfl F31 1 (by decide) (by decide) (Nat.le_of_ble_eq_true rfl) (valF_c _) z24 (by simp) ?_
    intro h32 K33 F34
    replace F10 := F10.keep K33 (ninS ne27 nin0)
    replace F20 := F20.keep K33 (ninS ne28 nin0)
    replace F34 : Vec Z h32 a21 .char [(valF a), (valF b), (0 : Int32), (0 : Int32)] := F34
    refine Go.dup H at_55 rfl rfl ?_
    refine Go.iconst (2 : Int32) H at_56 rfl rfl ?_
    refine Go.iloadN H at_57 rfl rfl ?_
    refine Go.callS (rest := [(.int (2 : Int32)), (.ref a21), (.ref a21)]) 3 [(.int c)] H at_58 rfl w1 w2 w3 w4 pd_N17 (ct_val l W c h32) all0 rfl rfl rfl (Nat.le_of_eq rfl) (by decide) (by decide) (by decide) (by decide) nh_N16 ?_
    rintro _ _ _ ⟨rfl, rfl, rfl⟩
    show Go _ _ _ _ _ _ h32 [a21, a11, a2] 3 6 61 #[.val (.int a), .val (.int b), .val (.int c), .val (.int d), .val (.int sel), .val (.int (0 : Int32)), .val (.ref a2), .val (.ref a11), .unset, .unset, .unset, .unset, .unset, .unset] [(.int (valF c)), (.int (2 : Int32)), (.ref a21), (.ref a21)]
    refine Go.castore (valF c) H at_61 rfl F34 2 (by decide) (by decide) (Nat.le_of_ble_eq_true rfl) (valF_c _) z24 (by simp) ?_
    intro h35 K36 F37
    replace F10 := F10.keep K36 (ninS ne27 nin0)
    replace F20 := F20.keep K36 (ninS ne28 nin0)
    replace F37 : Vec Z h35 a21 .char [(valF a), (valF b), (valF c), (0 : Int32)] := F37
    refine Go.dup H at_62 rfl rfl ?_
    refine Go.iconst (3 : Int32) H at_63 rfl rfl ?_
    refine Go.iloadN H at_64 rfl rfl ?_
    refine Go.callS (rest := [(.int (3 : Int32)), (.ref a21), (.ref a21)]) 3 [(.int d)] H at_65 rfl w1 w2 w3 w4 pd_N17 (ct_val l W d h35) all0 rfl rfl rfl (Nat.le_of_eq rfl) (by decide) (by decide) (by decide) (by decide) nh_N16 ?_
    rintro _ _ _ ⟨rfl, rfl, rfl⟩
    show Go _ _ _ _ _ _ h35 [a21, a11, a2] 3 6 68 #[.val (.int a), .val (.int b), .val (.int c), .val (.int d), .val (.int sel), .val (.int (0 : Int32)), .val (.ref a2), .val (.ref a11), .unset, .unset, .unset, .unset, .unset, .unset] [(.int (valF d)), (.int (3 : Int32)), (.ref a21), (.ref a21)]
    refine Go.castore (valF d) H at_68 rfl F37 3 (by decide) (by decide) (Nat.le_of_ble_eq_true rfl) (valF_c _) z24 (by simp) ?_
    intro h38 K39 F40
    replace F10 := F10.keep K39 (ninS ne27 nin0)
    replace F20 := F20.keep K39 (ninS ne28 nin0)
    replace F40 : Vec Z h38 a21 .char [(valF a), (valF b), (valF c), (valF d)] := F40
    refine Go.astore (ls' := #[.val (.int a), .val (.int b), .val (.int c), .val (.int d), .val (.int sel), .val (.int (0 : Int32)), .val (.ref a2), .val (.ref a11), .val (.ref a21), .unset, .unset, .unset, .unset, .unset]) H at_69 rfl rfl rfl ?_
    refine Go.iconst (4 : Int32) H at_71 rfl rfl ?_
    refine Go.newarray 4 4 H at_72 rfl w0 rfl (by decide) (by decide) (by decide) (by decide) (by decide) (by decide) (by decide) ?_
    intro a41 h42 g43 z44 E45 F46
    have ne47 : a2 ≠ a41 := Nat.ne_of_lt (Nat.lt_of_lt_of_le F10.lt (Nat.le_of_eq g43.symm))
    have ne48 : a11 ≠ a41 := Nat.ne_of_lt (Nat.lt_of_lt_of_le F20.lt (Nat.le_of_eq g43.symm))
    have ne49 : a21 ≠ a41 := Nat.ne_of_lt (Nat.lt_of_lt_of_le F40.lt (Nat.le_of_eq g43.symm))
    replace F10 := F10.ext E45
    replace F20 := F20.ext E45
    replace F40 := F40.ext E45
    replace F46 : Vec Z h42 a41 .char [(0 : Int32), (0 : Int32), (0 : Int32), (0 : Int32)] := F46
    show Go _ _ _ _ _ _ h42 [a41, a21, a11, a2] 4 10 74 #[.val (.int a), .val (.int b), .val (.int c), .val (.int d), .val (.int sel), .val (.int (0 : Int32)), .val (.ref a2), .val (.ref a11), .val (.ref a21), .unset, .unset, .unset, .unset, .unset] [(.ref a41)]
    refine Go.dup H at_74 rfl rfl ?_
    refine Go.iconst (0 : Int32) H at_75 rfl rfl ?_
    refine Go.iloadN H at_76 rfl rfl ?_
    refine Go.callS (rest := [(.int (0 : Int32)), (.ref a41), (.ref a41)]) 3 [(.int a)] H at_77 rfl w9 w10 w3 w11 pd_N18 (ct_fol l W a h42) all0 rfl rfl rfl (Nat.le_of_eq rfl) (by decide) (by decide) (by decide) (by decide) nh_N16 ?_
    rintro _ _ _ ⟨rfl, rfl, rfl⟩
    show Go _ _ _ _ _ _ h42 [a41, a21, a11, a2] 4 10 80 #[.val (.int a), .val (.int b), .val (.int c), .val (.int d), .val (.int sel), .val (.int (0 : Int32)), .val (.ref a2), .val (.ref a11), .val (.ref a21), .unset, .unset, .unset, .unset, .unset] [(.int (folF a)), (.int (0 : Int32)), (.ref a41), (.ref a41)]
    refine Go.castore (folF a) H at_80 rfl F46 0 (by decide) (by decide) (Nat.le_of_ble_eq_true rfl) (folF_c _) z44 (by simp) ?_
    intro h50 K51 F52
    replace F10 := F10.keep K51 (ninS ne47 nin0)
    replace F20 := F20.keep K51 (ninS ne48 nin0)
    replace F40 := F40.keep K51 (ninS ne49 nin0)
    replace F52 : Vec Z h50 a41 .char [(folF a), (0 : Int32), (0 : Int32), (0 : Int32)] := F52
    refine Go.dup H at_81 rfl rfl ?_
    refine Go.iconst (1 : Int32) H at_82 rfl rfl ?_
    refine Go.iloadN H at_83 rfl rfl ?_
    refine Go.callS (rest := [(.int (1 : Int32)), (.ref a41), (.ref a41)]) 3 [(.int b)] H at_84 rfl w9 w10 w3 w11 pd_N18 (ct_fol l W b h50) all0 rfl rfl rfl (Nat.le_of_eq rfl) (by decide) (by decide) (by decide) (by decide) nh_N16 ?_
    rintro _ _ _ ⟨rfl, rfl, rfl⟩
    show Go _ _ _ _ _ _ h50 [a41, a21, a11, a2] 4 10 87 #[.val (.int a), .val (.int b), .val (.int c), .val (.int d), .val (.int sel), .val (.int (0 : Int32)), .val (.ref a2), .val (.ref a11), .val (.ref a21), .unset, .unset, .unset, .unset, .unset] [(.int (folF b)), (.int (1 : Int32)), (.ref a41), (.ref a41)]
    refine Go.castore (folF b) H at_87 rfl F52 1 (by decide) (by decide) (Nat.le_of_ble_eq_true rfl) (folF_c _) z44 (by simp) ?_
    intro h53 K54 F55
    replace F10 := F10.keep K54 (ninS ne47 nin0)
    replace F20 := F20.keep K54 (ninS ne48 nin0)
    replace F40 := F40.keep K54 (ninS ne49 nin0)
    replace F55 : Vec Z h53 a41 .char [(folF a), (folF b), (0 : Int32), (0 : Int32)] := F55
    refine Go.dup H at_88 rfl rfl ?_
    refine Go.iconst (2 : Int32) H at_89 rfl rfl ?_
    refine Go.iloadN H at_90 rfl rfl ?_
    refine Go.callS (rest := [(.int (2 : Int32)), (.ref a41), (.ref a41)]) 3 [(.int c)] H at_91 rfl w9 w10 w3 w11 pd_N18 (ct_fol l W c h53) all0 rfl rfl rfl (Nat.le_of_eq rfl) (by decide) (by decide) (by decide) (by decide) nh_N16 ?_
    rintro _ _ _ ⟨rfl, rfl, rfl⟩
    show Go _ _ _ _ _ _ h53 [a41, a21, a11, a2] 4 10 94 #[.val (.int a), .val (.int b), .val (.int c), .val (.int d), .val (.int sel), .val (.int (0 : Int32)), .val (.ref a2), .val (.ref a11), .val (.ref a21), .unset, .unset, .unset, .unset, .unset] [(.int (folF c)), (.int (2 : Int32)), (.ref a41), (.ref a41)]
    refine Go.castore (folF c) H at_94 rfl F55 2 (by decide) (by decide) (Nat.le_of_ble_eq_true rfl) (folF_c _) z44 (by simp) ?_
    intro h56 K57 F58
    replace F10 := F10.keep K57 (ninS ne47 nin0)
    replace F20 := F20.keep K57 (ninS ne48 nin0)
    replace F40 := F40.keep K57 (ninS ne49 nin0)
    replace F58 : Vec Z h56 a41 .char [(folF a), (folF b), (folF c), (0 : Int32)] := F58
    refine Go.dup H at_95 rfl rfl ?_
    refine Go.iconst (3 : Int32) H at_96 rfl rfl ?_
    refine Go.iloadN H at_97 rfl rfl ?_
    refine Go.callS (rest := [(.int (3 : Int32)), (.ref a41), (.ref a41)]) 3 [(.int d)] H at_98 rfl w9 w10 w3 w11 pd_N18 (ct_fol l W d h56) all0 rfl rfl rfl (Nat.le_of_eq rfl) (by decide) (by decide) (by decide) (by decide) nh_N16 ?_
    rintro _ _ _ ⟨rfl, rfl, rfl⟩
    show Go _ _ _ _ _ _ h56 [a41, a21, a11, a2] 4 10 101 #[.val (.int a), .val (.int b), .val (.int c), .val (.int d), .val (.int sel), .val (.int (0 : Int32)), .val (.ref a2), .val (.ref a11), .val (.ref a21), .unset, .unset, .unset, .unset, .unset] [(.int (folF d)), (.int (3 : Int32)), (.ref a41), (.ref a41)]
    refine Go.castore (folF d) H at_101 rfl F58 3 (by decide) (by decide) (Nat.le_of_ble_eq_true rfl) (folF_c _) z44 (by simp) ?_
    intro h59 K60 F61
    replace F10 := F10.keep K60 (ninS ne47 nin0)
    replace F20 := F20.keep K60 (ninS ne48 nin0)
    replace F40 := F40.keep K60 (ninS ne49 nin0)
    replace F61 : Vec Z h59 a41 .char [(folF a), (folF b), (folF c), (folF d)] := F61
    refine Go.astore (ls' := #[.val (.int a), .val (.int b), .val (.int c), .val (.int d), .val (.int sel), .val (.int (0 : Int32)), .val (.ref a2), .val (.ref a11), .val (.ref a21), .val (.ref a41), .unset, .unset, .unset, .unset]) H at_102 rfl rfl rfl ?_
    refine Go.iload H at_104 rfl rfl ?_
    refine Go.ifY (pc' := 121) H at_106 (by decide) (by decide) (by decide) ?_
    refine Go.new H at_121 rfl w12 w13 w14 (by decide) (by decide) ?_
    intro a62 h63 g64 z65 E66 A67 D68
    have ne69 : a2 ≠ a62 := Nat.ne_of_lt (Nat.lt_of_lt_of_le F10.lt (Nat.le_of_eq g64.symm))
    have ne70 : a11 ≠ a62 := Nat.ne_of_lt (Nat.lt_of_lt_of_le F20.lt (Nat.le_of_eq g64.symm))
    have ne71 : a21 ≠ a62 := Nat.ne_of_lt (Nat.lt_of_lt_of_le F40.lt (Nat.le_of_eq g64.symm))
    have ne72 : a41 ≠ a62 := Nat.ne_of_lt (Nat.lt_of_lt_of_le F61.lt (Nat.le_of_eq g64.symm))
    replace F10 := F10.ext E66
    replace F20 := F20.ext E66
    replace F40 := F40.ext E66
    replace F61 := F61.ext E66
    have F73 : Fld Z h63 a62 "java/lang/String" "coder" "B" (.int (0 : Int32)) := D68 (Or.inr w38) (ty := .byte) (by decide)
    have F74 : Fld Z h63 a62 "java/lang/String" "value" "[B" .null := D68 (Or.inr w40) (ty := (.array .byte)) (by decide)
    have F75 : Fld Z h63 a62 "java/lang/String" "hash" "I" (.int (0 : Int32)) := D68 (Or.inl w134) (ty := .int) (by decide)
    have F76 : Fld Z h63 a62 "java/lang/String" "hashIsZero" "Z" (.int (0 : Int32)) := D68 (Or.inl w136) (ty := .boolean) (by decide)
    show Go _ _ _ _ _ _ h63 [a62, a41, a21, a11, a2] 5 14 124 #[.val (.int a), .val (.int b), .val (.int c), .val (.int d), .val (.int sel), .val (.int (0 : Int32)), .val (.ref a2), .val (.ref a11), .val (.ref a21), .val (.ref a41), .unset, .unset, .unset, .unset] [(.ref a62)]
    refine Go.dup H at_124 rfl rfl ?_
    refine Go.aload H at_125 rfl rfl rfl ?_
    refine Go.callI (rest := [(.ref a62)]) 1 [(.ref a21)] H at_127 rfl rfl w15 w16 w14 w17 pd_N5 (ct_new1 l W a62 a21 [(valF a), (valF b), (valF c), (valF d)] h63 A67 F74 F73 F75 F76 F40 (own_ac (val_l _) (own_ac (val_l _) (own_ac (val_l _) (own_ac (val_l _) own_an)))) (Nat.le_of_ble_eq_true rfl) (Nat.le_of_ble_eq_true rfl) z65) (by simp) rfl rfl rfl (Nat.le_of_eq rfl) (by decide) (by decide) (by decide) (by decide) nh_N4 ?_
    rintro _ h77 _ ⟨rfl, K78, ⟨b79, g80, S81, F82, F83, X84⟩, rfl⟩
    have ne85 : a2 ≠ b79 := Nat.ne_of_lt (Nat.lt_of_lt_of_le F10.lt g80)
    have ne86 : a11 ≠ b79 := Nat.ne_of_lt (Nat.lt_of_lt_of_le F20.lt g80)
    have ne87 : a21 ≠ b79 := Nat.ne_of_lt (Nat.lt_of_lt_of_le F40.lt g80)
    have ne88 : a41 ≠ b79 := Nat.ne_of_lt (Nat.lt_of_lt_of_le F61.lt g80)
    have ne89 : a62 ≠ b79 := Nat.ne_of_lt (Nat.lt_of_lt_of_le A67.lt g80)
    replace F10 := F10.keep K78 (ninS ne69 nin0)
    replace F20 := F20.keep K78 (ninS ne70 nin0)
    replace F40 := F40.keep K78 (ninS ne71 nin0)
    replace F61 := F61.keep K78 (ninS ne72 nin0)
    show Go _ _ _ _ _ _ h77 [a62, a41, a21, a11, a2] 6 18 130 #[.val (.int a), .val (.int b), .val (.int c), .val (.int d), .val (.int sel), .val (.int (0 : Int32)), .val (.ref a2), .val (.ref a11), .val (.ref a21), .val (.ref a41), .unset, .unset, .unset, .unset] [(.ref a62)]
    refine Go.astore (ls' := #[.val (.int a), .val (.int b), .val (.int c), .val (.int d), .val (.int sel), .val (.int (0 : Int32)), .val (.ref a2), .val (.ref a11), .val (.ref a21), .val (.ref a41), .val (.ref a62), .unset, .unset, .unset]) H at_130 rfl rfl rfl ?_
    refine Go.iload H at_132 rfl rfl ?_
    refine Go.ifY (pc' := 149) H at_134 (by decide) (by decide) (by decide) ?_
    refine Go.new H at_149 rfl w12 w13 w14 (by decide) (by decide) ?_
    intro a90 h91 g92 z93 E94 A95 D96
    have ne97 : a2 ≠ a90 := Nat.ne_of_lt (Nat.lt_of_lt_of_le F10.lt (Nat.le_of_eq g92.symm))
    have ne98 : a11 ≠ a90 := Nat.ne_of_lt (Nat.lt_of_lt_of_le F20.lt (Nat.le_of_eq g92.symm))
    have ne99 : a21 ≠ a90 := Nat.ne_of_lt (Nat.lt_of_lt_of_le F40.lt (Nat.le_of_eq g92.symm))
    have ne100 : a41 ≠ a90 := Nat.ne_of_lt (Nat.lt_of_lt_of_le F61.lt (Nat.le_of_eq g92.symm))
    have ne101 : a62 ≠ a90 := Nat.ne_of_lt (Nat.lt_of_lt_of_le S81.lt (Nat.le_of_eq g92.symm))
    have ne102 : b79 ≠ a90 := Nat.ne_of_lt (Nat.lt_of_lt_of_le S81.ltb (Nat.le_of_eq g92.symm))
    replace F10 := F10.ext E94
    replace F20 := F20.ext E94
    replace F40 := F40.ext E94
    replace F61 := F61.ext E94
    replace S81 := S81.ext E94
    replace F82 := F82.ext E94
    replace F83 := F83.ext E94
    replace X84 := X84.ext E94
    have F103 : Fld Z h91 a90 "java/lang/String" "coder" "B" (.int (0 : Int32)) := D96 (Or.inr w38) (ty := .byte) (by decide)
    have F104 : Fld Z h91 a90 "java/lang/String" "value" "[B" .null := D96 (Or.inr w40) (ty := (.array .byte)) (by decide)
    have F105 : Fld Z h91 a90 "java/lang/String" "hash" "I" (.int (0 : Int32)) := D96 (Or.inl w134) (ty := .int) (by decide)
    have F106 : Fld Z h91 a90 "java/lang/String" "hashIsZero" "Z" (.int (0 : Int32)) := D96 (Or.inl w136) (ty := .boolean) (by decide)
    show Go _ _ _ _ _ _ h91 [a90, a62, a41, a21, a11, a2] 7 22 152 #[.val (.int a), .val (.int b), .val (.int c), .val (.int d), .val (.int sel), .val (.int (0 : Int32)), .val (.ref a2), .val (.ref a11), .val (.ref a21), .val (.ref a41), .val (.ref a62), .unset, .unset, .unset] [(.ref a90)]
    refine Go.dup H at_152 rfl rfl ?_
    refine Go.aload H at_153 rfl rfl rfl ?_
    refine Go.callI (rest := [(.ref a90)]) 1 [(.ref a41)] H at_155 rfl rfl w15 w16 w14 w17 pd_N5 (ct_new1 l W a90 a41 [(folF a), (folF b), (folF c), (folF d)] h91 A95 F104 F103 F105 F106 F61 (own_ac (fol_l _) (own_ac (fol_l _) (own_ac (fol_l _) (own_ac (fol_l _) own_an)))) (Nat.le_of_ble_eq_true rfl) (Nat.le_of_ble_eq_true rfl) z93) (by simp) rfl rfl rfl (Nat.le_of_eq rfl) (by decide) (by decide) (by decide) (by decide) nh_N4 ?_
    rintro _ h107 _ ⟨rfl, K108, ⟨b109, g110, S111, F112, F113, X114⟩, rfl⟩
    have ne115 : a2 ≠ b109 := Nat.ne_of_lt (Nat.lt_of_lt_of_le F10.lt g110)
    have ne116 : a11 ≠ b109 := Nat.ne_of_lt (Nat.lt_of_lt_of_le F20.lt g110)
    have ne117 : a21 ≠ b109 := Nat.ne_of_lt (Nat.lt_of_lt_of_le F40.lt g110)
    have ne118 : a41 ≠ b109 := Nat.ne_of_lt (Nat.lt_of_lt_of_le F61.lt g110)
    have ne119 : a62 ≠ b109 := Nat.ne_of_lt (Nat.lt_of_lt_of_le S81.lt g110)
    have ne120 : b79 ≠ b109 := Nat.ne_of_lt (Nat.lt_of_lt_of_le S81.ltb g110)
    have ne121 : a90 ≠ b109 := Nat.ne_of_lt (Nat.lt_of_lt_of_le A95.lt g110)
    replace F10 := F10.keep K108 (ninS ne97 nin0)
    replace F20 := F20.keep K108 (ninS ne98 nin0)
    replace F40 := F40.keep K108 (ninS ne99 nin0)
    replace F61 := F61.keep K108 (ninS ne100 nin0)
    replace S81 := S81.keep K108 (ninS ne101 nin0) (ninS ne102 nin0)
    replace F82 := F82.keep K108 (ninS ne101 nin0)
    replace F83 := F83.keep K108 (ninS ne101 nin0)
    replace X84 := X84.keep K108
    show Go _ _ _ _ _ _ h107 [a90, a62, a41, a21, a11, a2] 8 26 158 #[.val (.int a), .val (.int b), .val (.int c), .val (.int d), .val (.int sel), .val (.int (0 : Int32)), .val (.ref a2), .val (.ref a11), .val (.ref a21), .val (.ref a41), .val (.ref a62), .unset, .unset, .unset] [(.ref a90)]
    refine Go.astore (ls' := #[.val (.int a), .val (.int b), .val (.int c), .val (.int d), .val (.int sel), .val (.int (0 : Int32)), .val (.ref a2), .val (.ref a11), .val (.ref a21), .val (.ref a41), .val (.ref a62), .val (.ref a90), .unset, .unset]) H at_158 rfl rfl rfl ?_
    refine Go.aload H at_160 rfl rfl rfl ?_
    refine Go.callS (rest := []) 0 [(.ref a62)] H at_162 rfl w41 w42 w43 w44 pd_N21 (ct_of4 l W a62 b79 (valF a) (valF b) (valF c) (valF d) h107 S81 (val_ok _) (val_ok _) (val_ok _) (val_ok _) (by rw [val_low]; exact fol_l _) (by rw [val_low]; exact fol_l _) (by rw [val_low]; exact fol_l _) (by rw [val_low]; exact fol_l _)) all0 rfl rfl rfl (Nat.le_of_eq rfl) (by decide) (by decide) (by decide) (by decide) nh_N19 ?_
    rintro _ h125 _ ⟨a122, k123, b124, rfl, E126, g127, g128, g129, ne130, ne131, z132, A133, F134, F135, S136, F137, F138, X139, rfl⟩
    have ne140 : a2 ≠ a122 := Nat.ne_of_lt (Nat.lt_of_lt_of_le F10.lt g127)
    have ne141 : a11 ≠ a122 := Nat.ne_of_lt (Nat.lt_of_lt_of_le F20.lt g127)
    have ne142 : a21 ≠ a122 := Nat.ne_of_lt (Nat.lt_of_lt_of_le F40.lt g127)
    have ne143 : a41 ≠ a122 := Nat.ne_of_lt (Nat.lt_of_lt_of_le F61.lt g127)
    have ne144 : a62 ≠ a122 := Nat.ne_of_lt (Nat.lt_of_lt_of_le S81.lt g127)
    have ne145 : b79 ≠ a122 := Nat.ne_of_lt (Nat.lt_of_lt_of_le S81.ltb g127)
    have ne146 : a90 ≠ a122 := Nat.ne_of_lt (Nat.lt_of_lt_of_le S111.lt g127)
    have ne147 : b109 ≠ a122 := Nat.ne_of_lt (Nat.lt_of_lt_of_le S111.ltb g127)
    have ne148 : a2 ≠ k123 := Nat.ne_of_lt (Nat.lt_of_lt_of_le F10.lt g128)
    have ne149 : a11 ≠ k123 := Nat.ne_of_lt (Nat.lt_of_lt_of_le F20.lt g128)
    have ne150 : a21 ≠ k123 := Nat.ne_of_lt (Nat.lt_of_lt_of_le F40.lt g128)
    have ne151 : a41 ≠ k123 := Nat.ne_of_lt (Nat.lt_of_lt_of_le F61.lt g128)
    have ne152 : a62 ≠ k123 := Nat.ne_of_lt (Nat.lt_of_lt_of_le S81.lt g128)
    have ne153 : b79 ≠ k123 := Nat.ne_of_lt (Nat.lt_of_lt_of_le S81.ltb g128)
    have ne154 : a90 ≠ k123 := Nat.ne_of_lt (Nat.lt_of_lt_of_le S111.lt g128)
    have ne155 : b109 ≠ k123 := Nat.ne_of_lt (Nat.lt_of_lt_of_le S111.ltb g128)
    have ne156 : a2 ≠ b124 := Nat.ne_of_lt (Nat.lt_of_lt_of_le F10.lt g129)
    have ne157 : a11 ≠ b124 := Nat.ne_of_lt (Nat.lt_of_lt_of_le F20.lt g129)
    have ne158 : a21 ≠ b124 := Nat.ne_of_lt (Nat.lt_of_lt_of_le F40.lt g129)
    have ne159 : a41 ≠ b124 := Nat.ne_of_lt (Nat.lt_of_lt_of_le F61.lt g129)
    have ne160 : a62 ≠ b124 := Nat.ne_of_lt (Nat.lt_of_lt_of_le S81.lt g129)
    have ne161 : b79 ≠ b124 := Nat.ne_of_lt (Nat.lt_of_lt_of_le S81.ltb g129)
    have ne162 : a90 ≠ b124 := Nat.ne_of_lt (Nat.lt_of_lt_of_le S111.lt g129)
    have ne163 : b109 ≠ b124 := Nat.ne_of_lt (Nat.lt_of_lt_of_le S111.ltb g129)
    replace F10 := F10.ext E126
    replace F20 := F20.ext E126
    replace F40 := F40.ext E126
    replace F61 := F61.ext E126
    replace S81 := S81.ext E126
    replace F82 := F82.ext E126
    replace F83 := F83.ext E126
    replace X84 := X84.ext E126
    replace S111 := S111.ext E126
    replace F112 := F112.ext E126
    replace F113 := F113.ext E126
    replace X114 := X114.ext E126
    replace S136 : Str Z h125 k123 b124 [(folF a), (folF b), (folF c), (folF d)] := by have q := S136; rw [val_low a, val_low b, val_low c, val_low d] at q; exact q
    show Go _ _ _ _ _ _ h125 [k123, a90, a62, a41, a21, a11, a2] 12 40 165 #[.val (.int a), .val (.int b), .val (.int c), .val (.int d), .val (.int sel), .val (.int (0 : Int32)), .val (.ref a2), .val (.ref a11), .val (.ref a21), .val (.ref a41), .val (.ref a62), .val (.ref a90), .unset, .unset] [(.ref a122)]
    refine Go.astore (ls' := #[.val (.int a), .val (.int b), .val (.int c), .val (.int d), .val (.int sel), .val (.int (0 : Int32)), .val (.ref a2), .val (.ref a11), .val (.ref a21), .val (.ref a41), .val (.ref a62), .val (.ref a90), .val (.ref a122), .unset]) H at_165 rfl rfl rfl ?_
    refine Go.aload H at_167 rfl rfl rfl ?_
    refine Go.callS (rest := []) 0 [(.ref a90)] H at_169 rfl w41 w42 w43 w44 pd_N21 (ct_of4 l W a90 b109 (folF a) (folF b) (folF c) (folF d) h125 S111 (fol_ok _) (fol_ok _) (fol_ok _) (fol_ok _) (by rw [fol_low]; exact fol_l _) (by rw [fol_low]; exact fol_l _) (by rw [fol_low]; exact fol_l _) (by rw [fol_low]; exact fol_l _)) all0 rfl rfl rfl (Nat.le_of_eq rfl) (by decide) (by decide) (by decide) (by decide) nh_N19 ?_
    rintro _ h167 _ ⟨a164, k165, b166, rfl, E168, g169, g170, g171, ne172, ne173, z174, A175, F176, F177, S178, F179, F180, X181, rfl⟩
    have ne182 : a2 ≠ a164 := Nat.ne_of_lt (Nat.lt_of_lt_of_le F10.lt g169)
    have ne183 : a11 ≠ a164 := Nat.ne_of_lt (Nat.lt_of_lt_of_le F20.lt g169)
    have ne184 : a21 ≠ a164 := Nat.ne_of_lt (Nat.lt_of_lt_of_le F40.lt g169)
    have ne185 : a41 ≠ a164 := Nat.ne_of_lt (Nat.lt_of_lt_of_le F61.lt g169)
    have ne186 : a62 ≠ a164 := Nat.ne_of_lt (Nat.lt_of_lt_of_le S81.lt g169)
    have ne187 : b79 ≠ a164 := Nat.ne_of_lt (Nat.lt_of_lt_of_le S81.ltb g169)
    have ne188 : a90 ≠ a164 := Nat.ne_of_lt (Nat.lt_of_lt_of_le S111.lt g169)
    have ne189 : b109 ≠ a164 := Nat.ne_of_lt (Nat.lt_of_lt_of_le S111.ltb g169)
    have ne190 : a122 ≠ a164 := Nat.ne_of_lt (Nat.lt_of_lt_of_le A133.lt g169)
    have ne191 : k123 ≠ a164 := Nat.ne_of_lt (Nat.lt_of_lt_of_le S136.lt g169)
    have ne192 : b124 ≠ a164 := Nat.ne_of_lt (Nat.lt_of_lt_of_le S136.ltb g169)
    have ne193 : a2 ≠ k165 := Nat.ne_of_lt (Nat.lt_of_lt_of_le F10.lt g170)
    have ne194 : a11 ≠ k165 := Nat.ne_of_lt (Nat.lt_of_lt_of_le F20.lt g170)
    have ne195 : a21 ≠ k165 := Nat.ne_of_lt (Nat.lt_of_lt_of_le F40.lt g170)
    have ne196 : a41 ≠ k165 := Nat.ne_of_lt (Nat.lt_of_lt_of_le F61.lt g170)
    have ne197 : a62 ≠ k165 := Nat.ne_of_lt (Nat.lt_of_lt_of_le S81.lt g170)
    have ne198 : b79 ≠ k165 := Nat.ne_of_lt (Nat.lt_of_lt_of_le S81.ltb g170)
    have ne199 : a90 ≠ k165 := Nat.ne_of_lt (Nat.lt_of_lt_of_le S111.lt g170)
    have ne200 : b109 ≠ k165 := Nat.ne_of_lt (Nat.lt_of_lt_of_le S111.ltb g170)
    have ne201 : a122 ≠ k165 := Nat.ne_of_lt (Nat.lt_of_lt_of_le A133.lt g170)
    have ne202 : k123 ≠ k165 := Nat.ne_of_lt (Nat.lt_of_lt_of_le S136.lt g170)
    have ne203 : b124 ≠ k165 := Nat.ne_of_lt (Nat.lt_of_lt_of_le S136.ltb g170)
    have ne204 : a2 ≠ b166 := Nat.ne_of_lt (Nat.lt_of_lt_of_le F10.lt g171)
    have ne205 : a11 ≠ b166 := Nat.ne_of_lt (Nat.lt_of_lt_of_le F20.lt g171)
    have ne206 : a21 ≠ b166 := Nat.ne_of_lt (Nat.lt_of_lt_of_le F40.lt g171)
    have ne207 : a41 ≠ b166 := Nat.ne_of_lt (Nat.lt_of_lt_of_le F61.lt g171)
    have ne208 : a62 ≠ b166 := Nat.ne_of_lt (Nat.lt_of_lt_of_le S81.lt g171)
    have ne209 : b79 ≠ b166 := Nat.ne_of_lt (Nat.lt_of_lt_of_le S81.ltb g171)
    have ne210 : a90 ≠ b166 := Nat.ne_of_lt (Nat.lt_of_lt_of_le S111.lt g171)
    have ne211 : b109 ≠ b166 := Nat.ne_of_lt (Nat.lt_of_lt_of_le S111.ltb g171)
    have ne212 : a122 ≠ b166 := Nat.ne_of_lt (Nat.lt_of_lt_of_le A133.lt g171)
    have ne213 : k123 ≠ b166 := Nat.ne_of_lt (Nat.lt_of_lt_of_le S136.lt g171)
    have ne214 : b124 ≠ b166 := Nat.ne_of_lt (Nat.lt_of_lt_of_le S136.ltb g171)
    replace F10 := F10.ext E168
    replace F20 := F20.ext E168
    replace F40 := F40.ext E168
    replace F61 := F61.ext E168
    replace S81 := S81.ext E168
    replace F82 := F82.ext E168
    replace F83 := F83.ext E168
    replace X84 := X84.ext E168
    replace S111 := S111.ext E168
    replace F112 := F112.ext E168
    replace F113 := F113.ext E168
    replace X114 := X114.ext E168
    replace A133 := A133.ext E168
    replace F134 := F134.ext E168
    replace F135 := F135.ext E168
    replace S136 := S136.ext E168
    replace F137 := F137.ext E168
    replace F138 := F138.ext E168
    replace X139 := X139.ext E168
    replace S178 : Str Z h167 k165 b166 [(folF a), (folF b), (folF c), (folF d)] := by have q := S178; rw [fol_low a, fol_low b, fol_low c, fol_low d] at q; exact q
    show Go _ _ _ _ _ _ h167 [k165, k123, a90, a62, a41, a21, a11, a2] 16 54 172 #[.val (.int a), .val (.int b), .val (.int c), .val (.int d), .val (.int sel), .val (.int (0 : Int32)), .val (.ref a2), .val (.ref a11), .val (.ref a21), .val (.ref a41), .val (.ref a62), .val (.ref a90), .val (.ref a122), .unset] [(.ref a164)]
    refine Go.astore (ls' := #[.val (.int a), .val (.int b), .val (.int c), .val (.int d), .val (.int sel), .val (.int (0 : Int32)), .val (.ref a2), .val (.ref a11), .val (.ref a21), .val (.ref a41), .val (.ref a62), .val (.ref a90), .val (.ref a122), .val (.ref a164)]) H at_172 rfl rfl rfl ?_
    refine Go.aload H at_174 rfl rfl rfl ?_
    refine Go.callV (rest := []) 0 [] H at_176 rfl A133 w97 w98 w100 w99 w43 w101 pd_N22 (ct_nm_toString l W a122 a62 h167 F134) all0 rfl rfl rfl (Nat.le_of_eq rfl) (by decide) (by decide) (by decide) (by decide) nh_N19 ?_
    rintro _ _ _ ⟨rfl, rfl, rfl⟩
    show Go _ _ _ _ _ _ h167 [k165, k123, a90, a62, a41, a21, a11, a2] 16 54 179 #[.val (.int a), .val (.int b), .val (.int c), .val (.int d), .val (.int sel), .val (.int (0 : Int32)), .val (.ref a2), .val (.ref a11), .val (.ref a21), .val (.ref a41), .val (.ref a62), .val (.ref a90), .val (.ref a122), .val (.ref a164)] [(.ref a62)]
    refine Go.aload H at_179 rfl rfl rfl ?_
    refine Go.callV (rest := []) 0 [(.ref a62)] H at_181 rfl S81.1 w102 w103 w105 w104 w14 w106 pd_N14 (ct_eq l W a62 b79 a62 b79 [(valF a), (valF b), (valF c), (valF d)] [(valF a), (valF b), (valF c), (valF d)] h167 S81 S81) all0 rfl rfl rfl (Nat.le_of_eq rfl) (by decide) (by decide) (by decide) (by decide) nh_N4 ?_
    rintro _ _ _ ⟨rfl, rfl, rfl⟩
    show Go _ _ _ _ _ _ h167 [k165, k123, a90, a62, a41, a21, a11, a2] 16 54 184 #[.val (.int a), .val (.int b), .val (.int c), .val (.int d), .val (.int sel), .val (.int (0 : Int32)), .val (.ref a2), .val (.ref a11), .val (.ref a21), .val (.ref a41), .val (.ref a62), .val (.ref a90), .val (.ref a122), .val (.ref a164)] [(.int (if [(valF a), (valF b), (valF c), (valF d)] = [(valF a), (valF b), (valF c), (valF d)] then (1 : Int32) else 0))]
    refine Go.ifN H at_184 (feq (by rw [if_pos rfl]; decide)).1 rfl ?_
    refine Go.aload H at_187 rfl rfl rfl ?_
    refine Go.callV (rest := []) 0 [] H at_189 rfl A133 w107 w108 w110 w109 w43 w111 pd_N23 (ct_nm_key l W a122 k123 h167 F135) all0 rfl rfl rfl (Nat.le_of_eq rfl) (by decide) (by decide) (by decide) (by decide) nh_N19 ?_
    rintro _ _ _ ⟨rfl, rfl, rfl⟩
    show Go _ _ _ _ _ _ h167 [k165, k123, a90, a62, a41, a21, a11, a2] 16 54 192 #[.val (.int a), .val (.int b), .val (.int c), .val (.int d), .val (.int sel), .val (.int (0 : Int32)), .val (.ref a2), .val (.ref a11), .val (.ref a21), .val (.ref a41), .val (.ref a62), .val (.ref a90), .val (.ref a122), .val (.ref a164)] [(.ref k123)]
    refine Go.aload H at_192 rfl rfl rfl ?_
    refine Go.callV (rest := []) 0 [(.ref a90)] H at_194 rfl S136.1 w102 w103 w105 w104 w14 w106 pd_N14 (ct_eq l W k123 b124 a90 b109 [(folF a), (folF b), (folF c), (folF d)] [(folF a), (folF b), (folF c), (folF d)] h167 S136 S111) all0 rfl rfl rfl (Nat.le_of_eq rfl) (by decide) (by decide) (by decide) (by decide) nh_N4 ?_
    rintro _ _ _ ⟨rfl, rfl, rfl⟩
    show Go _ _ _ _ _ _ h167 [k165, k123, a90, a62, a41, a21, a11, a2] 16 54 197 #[.val (.int a), .val (.int b), .val (.int c), .val (.int d), .val (.int sel), .val (.int (0 : Int32)), .val (.ref a2), .val (.ref a11), .val (.ref a21), .val (.ref a41), .val (.ref a62), .val (.ref a90), .val (.ref a122), .val (.ref a164)] [(.int (if [(folF a), (folF b), (folF c), (folF d)] = [(folF a), (folF b), (folF c), (folF d)] then (1 : Int32) else 0))]
    refine Go.ifN H at_197 (feq (by rw [if_pos rfl]; decide)).1 rfl ?_
    refine Go.aload H at_200 rfl rfl rfl ?_
    refine Go.callV (rest := []) 0 [] H at_202 rfl A175 w97 w98 w100 w99 w43 w101 pd_N22 (ct_nm_toString l W a164 a90 h167 F176) all0 rfl rfl rfl (Nat.le_of_eq rfl) (by decide) (by decide) (by decide) (by decide) nh_N19 ?_
    rintro _ _ _ ⟨rfl, rfl, rfl⟩
    show Go _ _ _ _ _ _ h167 [k165, k123, a90, a62, a41, a21, a11, a2] 16 54 205 #[.val (.int a), .val (.int b), .val (.int c), .val (.int d), .val (.int sel), .val (.int (0 : Int32)), .val (.ref a2), .val (.ref a11), .val (.ref a21), .val (.ref a41), .val (.ref a62), .val (.ref a90), .val (.ref a122), .val (.ref a164)] [(.ref a90)]
    refine Go.aload H at_205 rfl rfl rfl ?_
    refine Go.callV (rest := []) 0 [(.ref a90)] H at_207 rfl S111.1 w102 w103 w105 w104 w14 w106 pd_N14 (ct_eq l W a90 b109 a90 b109 [(folF a), (folF b), (folF c), (folF d)] [(folF a), (folF b), (folF c), (folF d)] h167 S111 S111) all0 rfl rfl rfl (Nat.le_of_eq rfl) (by decide) (by decide) (by decide) (by decide) nh_N4 ?_
    rintro _ _ _ ⟨rfl, rfl, rfl⟩
    show Go _ _ _ _ _ _ h167 [k165, k123, a90, a62, a41, a21, a11, a2] 16 54 210 #[.val (.int a), .val (.int b), .val (.int c), .val (.int d), .val (.int sel), .val (.int (0 : Int32)), .val (.ref a2), .val (.ref a11), .val (.ref a21), .val (.ref a41), .val (.ref a62), .val (.ref a90), .val (.ref a122), .val (.ref a164)] [(.int (if [(folF a), (folF b), (folF c), (folF d)] = [(folF a), (folF b), (folF c), (folF d)] then (1 : Int32) else 0))]
    refine Go.ifN H at_210 (feq (by rw [if_pos rfl]; decide)).1 rfl ?_
    refine Go.aload H at_213 rfl rfl rfl ?_
    refine Go.callV (rest := []) 0 [] H at_215 rfl A175 w107 w108 w110 w109 w43 w111 pd_N23 (ct_nm_key l W a164 k165 h167 F177) all0 rfl rfl rfl (Nat.le_of_eq rfl) (by decide) (by decide) (by decide) (by decide) nh_N19 ?_
    rintro _ _ _ ⟨rfl, rfl, rfl⟩
    show Go _ _ _ _ _ _ h167 [k165, k123, a90, a62, a41, a21, a11, a2] 16 54 218 #[.val (.int a), .val (.int b), .val (.int c), .val (.int d), .val (.int sel), .val (.int (0 : Int32)), .val (.ref a2), .val (.ref a11), .val (.ref a21), .val (.ref a41), .val (.ref a62), .val (.ref a90), .val (.ref a122), .val (.ref a164)] [(.ref k165)]
    refine Go.aload H at_218 rfl rfl rfl ?_
    refine Go.callV (rest := []) 0 [(.ref a90)] H at_220 rfl S178.1 w102 w103 w105 w104 w14 w106 pd_N14 (ct_eq l W k165 b166 a90 b109 [(folF a), (folF b), (folF c), (folF d)] [(folF a), (folF b), (folF c), (folF d)] h167 S178 S111) all0 rfl rfl rfl (Nat.le_of_eq rfl) (by decide) (by decide) (by decide) (by decide) nh_N4 ?_
    rintro _ _ _ ⟨rfl, rfl, rfl⟩
    show Go _ _ _ _ _ _ h167 [k165, k123, a90, a62, a41, a21, a11, a2] 16 54 223 #[.val (.int a), .val (.int b), .val (.int c), .val (.int d), .val (.int sel), .val (.int (0 : Int32)), .val (.ref a2), .val (.ref a11), .val (.ref a21), .val (.ref a41), .val (.ref a62), .val (.ref a90), .val (.ref a122), .val (.ref a164)] [(.int (if [(folF a), (folF b), (folF c), (folF d)] = [(folF a), (folF b), (folF c), (folF d)] then (1 : Int32) else 0))]
    refine Go.ifN H at_223 (feq (by rw [if_pos rfl]; decide)).1 rfl ?_
    refine Go.aload H at_226 rfl rfl rfl ?_
    refine Go.aload H at_228 rfl rfl rfl ?_
    refine Go.callV (rest := []) 0 [(.ref a164)] H at_230 rfl A133 w116 w117 w119 w118 w43 w120 pd_N24 (ct_nmeq l W a122 a164 k123 k165 b124 b166 [(folF a), (folF b), (folF c), (folF d)] [(folF a), (folF b), (folF c), (folF d)] h167 A175 F135 F177 S136 S178 rfl) all0 rfl rfl rfl (Nat.le_of_eq rfl) (by decide) (by decide) (by decide) (by decide) nh_N19 ?_
    rintro _ _ _ ⟨rfl, rfl, rfl⟩
    show Go _ _ _ _ _ _ h167 [k165, k123, a90, a62, a41, a21, a11, a2] 16 54 233 #[.val (.int a), .val (.int b), .val (.int c), .val (.int d), .val (.int sel), .val (.int (0 : Int32)), .val (.ref a2), .val (.ref a11), .val (.ref a21), .val (.ref a41), .val (.ref a62), .val (.ref a90), .val (.ref a122), .val (.ref a164)] [(.int (1 : Int32))]
    refine Go.ifN H at_233 (by decide) rfl ?_
    refine Go.aload H at_236 rfl rfl rfl ?_
    refine Go.aload H at_238 rfl rfl rfl ?_
    refine Go.callV (rest := []) 0 [(.ref a122)] H at_240 rfl A175 w116 w117 w119 w118 w43 w120 pd_N24 (ct_nmeq l W a164 a122 k165 k123 b166 b124 [(folF a), (folF b), (folF c), (folF d)] [(folF a), (folF b), (folF c), (folF d)] h167 A133 F177 F135 S178 S136 rfl) all0 rfl rfl rfl (Nat.le_of_eq rfl) (by decide) (by decide) (by decide) (by decide) nh_N19 ?_
    rintro _ _ _ ⟨rfl, rfl, rfl⟩
    show Go _ _ _ _ _ _ h167 [k165, k123, a90, a62, a41, a21, a11, a2] 16 54 243 #[.val (.int a), .val (.int b), .val (.int c), .val (.int d), .val (.int sel), .val (.int (0 : Int32)), .val (.ref a2), .val (.ref a11), .val (.ref a21), .val (.ref a41), .val (.ref a62), .val (.ref a90), .val (.ref a122), .val (.ref a164)] [(.int (1 : Int32))]
    refine Go.ifN H at_243 (by decide) rfl ?_
    refine Go.aload H at_246 rfl rfl rfl ?_
    refine Go.callV (rest := []) 0 [] H at_248 rfl A133 w123 w124 w126 w125 w43 w127 pd_N29 (ct_nmh4 l W a122 k123 b124 (folF a) (folF b) (folF c) (folF d) h167 F135 S136 F137 F138 X139 z132) (by simp) rfl rfl rfl (Nat.le_of_eq rfl) (by decide) (by decide) (by decide) (by decide) nh_N19 ?_
    rintro _ h215 _ ⟨rfl, K216, rfl⟩
    replace F10 := F10.keep K216 (ninS ne148 nin0)
    replace F20 := F20.keep K216 (ninS ne149 nin0)
    replace F40 := F40.keep K216 (ninS ne150 nin0)
    replace F61 := F61.keep K216 (ninS ne151 nin0)
    replace S81 := S81.keep K216 (ninS ne152 nin0) (ninS ne153 nin0)
    replace F82 := F82.keep K216 (ninS ne152 nin0)
    replace F83 := F83.keep K216 (ninS ne152 nin0)
    replace X84 := X84.keep K216
    replace S111 := S111.keep K216 (ninS ne154 nin0) (ninS ne155 nin0)
    replace F112 := F112.keep K216 (ninS ne154 nin0)
    replace F113 := F113.keep K216 (ninS ne154 nin0)
    replace X114 := X114.keep K216
    replace A133 := A133.keep K216
    replace F134 := F134.keep K216 (ninS ne130 nin0)
    replace F135 := F135.keep K216 (ninS ne130 nin0)
    replace X139 := X139.keep K216
    replace A175 := A175.keep K216
    replace F176 := F176.keep K216 (ninS (Ne.symm ne191) nin0)
    replace F177 := F177.keep K216 (ninS (Ne.symm ne191) nin0)
    replace S178 := S178.keep K216 (ninS (Ne.symm ne202) nin0) (ninS (Ne.symm ne213) nin0)
    replace F179 := F179.keep K216 (ninS (Ne.symm ne202) nin0)
    replace F180 := F180.keep K216 (ninS (Ne.symm ne202) nin0)
    replace X181 := X181.keep K216
    show Go _ _ _ _ _ _ h215 [k165, k123, a90, a62, a41, a21, a11, a2] 16 54 251 #[.val (.int a), .val (.int b), .val (.int c), .val (.int d), .val (.int sel), .val (.int (0 : Int32)), .val (.ref a2), .val (.ref a11), .val (.ref a21), .val (.ref a41), .val (.ref a62), .val (.ref a90), .val (.ref a122), .val (.ref a164)] [(.int (h4F (folF a) (folF b) (folF c) (folF d)))]
    refine Go.aload H at_251 rfl rfl rfl ?_
    refine Go.callV (rest := [(.int (h4F (folF a) (folF b) (folF c) (folF d)))]) 1 [] H at_253 rfl A175 w123 w124 w126 w125 w43 w127 pd_N29 (ct_nmh4 l W a164 k165 b166 (folF a) (folF b) (folF c) (folF d) h215 F177 S178 F179 F180 X181 z174) (by simp) rfl rfl rfl (Nat.le_of_eq rfl) (by decide) (by decide) (by decide) (by decide) nh_N19 ?_
    rintro _ h217 _ ⟨rfl, K218, rfl⟩
    replace F10 := F10.keep K218 (ninS ne193 nin0)
    replace F20 := F20.keep K218 (ninS ne194 nin0)
    replace F40 := F40.keep K218 (ninS ne195 nin0)
    replace F61 := F61.keep K218 (ninS ne196 nin0)
    replace S81 := S81.keep K218 (ninS ne197 nin0) (ninS ne198 nin0)
    replace F82 := F82.keep K218 (ninS ne197 nin0)
    replace F83 := F83.keep K218 (ninS ne197 nin0)
    replace X84 := X84.keep K218
    replace S111 := S111.keep K218 (ninS ne199 nin0) (ninS ne200 nin0)
    replace F112 := F112.keep K218 (ninS ne199 nin0)
    replace F113 := F113.keep K218 (ninS ne199 nin0)
    replace X114 := X114.keep K218
    replace A133 := A133.keep K218
    replace F134 := F134.keep K218 (ninS ne201 nin0)
    replace F135 := F135.keep K218 (ninS ne201 nin0)
    replace X139 := X139.keep K218
    replace A175 := A175.keep K218
    replace F176 := F176.keep K218 (ninS ne172 nin0)
    replace F177 := F177.keep K218 (ninS ne172 nin0)
    replace X181 := X181.keep K218
    show Go _ _ _ _ _ _ h217 [k165, k123, a90, a62, a41, a21, a11, a2] 16 54 256 #[.val (.int a), .val (.int b), .val (.int c), .val (.int d), .val (.int sel), .val (.int (0 : Int32)), .val (.ref a2), .val (.ref a11), .val (.ref a21), .val (.ref a41), .val (.ref a62), .val (.ref a90), .val (.ref a122), .val (.ref a164)] [(.int (h4F (folF a) (folF b) (folF c) (folF d))), (.int (h4F (folF a) (folF b) (folF c) (folF d)))]
    refine Go.icmpN H at_256 (teq rfl).2 rfl ?_
    refine Go.iconst (1 : Int32) H at_259 rfl rfl ?_
    refine Go.goto (pc' := 264) H at_260 (by decide) (by decide) ?_
    exact Go.ireturn 1 [] H at_264 (by simp) (by decide) ⟨rfl, trivial⟩ all0 (by decide) (by decide)
  ·
    refine Go.ifN H at_4 (feq c1).1 rfl ?_
    refine Go.iconst (1 : Int32) H at_7 rfl rfl ?_
    refine Go.goto (pc' := 12) H at_8 (by decide) (by decide) ?_
    refine Go.istore (ls' := #[.val (.int a), .val (.int b), .val (.int c), .val (.int d), .val (.int sel), .val (.int (1 : Int32)), .unset, .unset, .unset, .unset, .unset, .unset, .unset, .unset]) H at_12 rfl rfl ?_
    refine Go.iconst (1 : Int32) H at_14 rfl rfl ?_
    refine Go.newarray 1 1 H at_15 rfl w0 rfl (by decide) (by decide) (by decide) (by decide) (by decide) (by decide) (by decide) ?_
    intro a219 h220 g221 z222 E223 F224
    replace F224 : Vec Z h220 a219 .char [(0 : Int32)] := F224
    show Go _ _ _ _ _ _ h220 [a219] 1 1 17 #[.val (.int a), .val (.int b), .val (.int c), .val (.int d), .val (.int sel), .val (.int (1 : Int32)), .unset, .unset, .unset, .unset, .unset, .unset, .unset, .unset] [(.ref a219)]
    refine Go.dup H at_17 rfl rfl ?_
    refine Go.iconst (0 : Int32) H at_18 rfl rfl ?_
    refine Go.iloadN H at_19 rfl rfl ?_
    refine Go.callS (rest := [(.int (0 : Int32)), (.ref a219), (.ref a219)]) 3 [(.int a)] H at_20 rfl w1 w2 w3 w4 pd_N17 (ct_val l W a h220) all0 rfl rfl rfl (Nat.le_of_eq rfl) (by decide) (by decide) (by decide) (by decide) nh_N16 ?_
    rintro _ _ _ ⟨rfl, rfl, rfl⟩
    show Go _ _ _ _ _ _ h220 [a219] 1 1 23 #[.val (.int a), .val (.int b), .val (.int c), .val (.int d), .val (.int sel), .val (.int (1 : Int32)), .unset, .unset, .unset, .unset, .unset, .unset, .unset, .unset] [(.int (valF a)), (.int (0 : Int32)), (.ref a219), (.ref a219)]
    refine Go.castore (valF a) H at_23 rfl F224 0 (by decide) (by decide) (Nat.le_of_ble_eq_true rfl) (valF_c _) z222 (by simp) ?_
    intro h225 K226 F227
    replace F227 : Vec Z h225 a219 .char [(valF a)] := F227
    refine Go.astore (ls' := #[.val (.int a), .val (.int b), .val (.int c), .val (.int d), .val (.int sel), .val (.int (1 : Int32)), .val (.ref a219), .unset, .unset, .unset, .unset, .unset, .unset, .unset]) H at_24 rfl rfl rfl ?_
    refine Go.iconst (1 : Int32) H at_26 rfl rfl ?_
    refine Go.newarray 1 1 H at_27 rfl w0 rfl (by decide) (by decide) (by decide) (by decide) (by decide) (by decide) (by decide) ?_
    intro a228 h229 g230 z231 E232 F233
    have ne234 : a219 ≠ a228 := Nat.ne_of_lt (Nat.lt_of_lt_of_le F227.lt (Nat.le_of_eq g230.symm))
    replace F227 := F227.ext E232
    replace F233 : Vec Z h229 a228 .char [(0 : Int32)] := F233
    show Go _ _ _ _ _ _ h229 [a228, a219] 2 2 29 #[.val (.int a), .val (.int b), .val (.int c), .val (.int d), .val (.int sel), .val (.int (1 : Int32)), .val (.ref a219), .unset, .unset, .unset, .unset, .unset, .unset, .unset] [(.ref a228)]
    refine Go.dup H at_29 rfl rfl ?_
    refine Go.iconst (0 : Int32) H at_30 rfl rfl ?_
    refine Go.iloadN H at_31 rfl rfl ?_
    refine Go.callS (rest := [(.int (0 : Int32)), (.ref a228), (.ref a228)]) 3 [(.int a)] H at_32 rfl w9 w10 w3 w11 pd_N18 (ct_fol l W a h229) all0 rfl rfl rfl (Nat.le_of_eq rfl) (by decide) (by decide) (by decide) (by decide) nh_N16 ?_
    rintro _ _ _ ⟨rfl, rfl, rfl⟩
    show Go _ _ _ _ _ _ h229 [a228, a219] 2 2 35 #[.val (.int a), .val (.int b), .val (.int c), .val (.int d), .val (.int sel), .val (.int (1 : Int32)), .val (.ref a219), .unset, .unset, .unset, .unset, .unset, .unset, .unset] [(.int (folF a)), (.int (0 : Int32)), (.ref a228), (.ref a228)]
    refine Go.castore (folF a) H at_35 rfl F233 0 (by decide) (by decide) (Nat.le_of_ble_eq_true rfl) (folF_c _) z231 (by simp) ?_
    intro h235 K236 F237
    replace F227 := F227.keep K236 (ninS ne234 nin0)
    replace F237 : Vec Z h235 a228 .char [(folF a)] := F237
    refine Go.astore (ls' := #[.val (.int a), .val (.int b), .val (.int c), .val (.int d), .val (.int sel), .val (.int (1 : Int32)), .val (.ref a219), .val (.ref a228), .unset, .unset, .unset, .unset, .unset, .unset]) H at_36 rfl rfl rfl ?_
    refine Go.iconst (4 : Int32) H at_38 rfl rfl ?_
    refine Go.newarray 4 4 H at_39 rfl w0 rfl (by decide) (by decide) (by decide) (by decide) (by decide) (by decide) (by decide) ?_
    intro a238 h239 g240 z241 E242 F243
    have ne244 : a219 ≠ a238 := Nat.ne_of_lt (Nat.lt_of_lt_of_le F227.lt (Nat.le_of_eq g240.symm))
    have ne245 : a228 ≠ a238 := Nat.ne_of_lt (Nat.lt_of_lt_of_le F237.lt (Nat.le_of_eq g240.symm))
    replace F227 := F227.ext E242
    replace F237 := F237.ext E242
    replace F243 : Vec Z h239 a238 .char [(0 : Int32), (0 : Int32), (0 : Int32), (0 : Int32)] := F243
    show Go _ _ _ _ _ _ h239 [a238, a228, a219] 3 6 41 #[.val (.int a), .val (.int b), .val (.int c), .val (.int d), .val (.int sel), .val (.int (1 : Int32)), .val (.ref a219), .val (.ref a228), .unset, .unset, .unset, .unset, .unset, .unset] [(.ref a238)]
    refine Go.dup H at_41 rfl rfl ?_
    refine Go.iconst (0 : Int32) H at_42 rfl rfl ?_
    refine Go.iloadN H at_43 rfl rfl ?_
    refine Go.callS (rest := [(.int (0 : Int32)), (.ref a238), (.ref a238)]) 3 [(.int a)] H at_44 rfl w1 w2 w3 w4 pd_N17 (ct_val l W a h239) all0 rfl rfl rfl (Nat.le_of_eq rfl) (by decide) (by decide) (by decide) (by decide) nh_N16 ?_
    rintro _ _ _ ⟨rfl, rfl, rfl⟩
    show Go _ _ _ _ _ _ h239 [a238, a228, a219] 3 6 47 #[.val (.int a), .val (.int b), .val (.int c), .val (.int d), .val (.int sel), .val (.int (1 : Int32)), .val (.ref a219), .val (.ref a228), .unset, .unset, .unset, .unset, .unset, .unset] [(.int (valF a)), (.int (0 : Int32)), (.ref a238), (.ref a238)]
    refine Go.castore (valF a) H at_47 rfl F243 0 (by decide) (by decide) (Nat.le_of_ble_eq_true rfl) (valF_c _) z241 (by simp) ?_
    intro h246 K247 F248
    replace F227 := F227.keep K247 (ninS ne244 nin0)
    replace F237 := F237.keep K247 (ninS ne245 nin0)
    replace F248 : Vec Z h246 a238 .char [(valF a), (0 : Int32), (0 : Int32), (0 : Int32)] := F248
    refine Go.dup H at_48 rfl rfl ?_
    refine Go.iconst (1 : Int32) H at_49 rfl rfl ?_
    refine Go.iloadN H at_50 rfl rfl ?_
    refine Go.callS (rest := [(.int (1 : Int32)), (.ref a238), (.ref a238)]) 3 [(.int b)] H at_51 rfl w1 w2 w3 w4 pd_N17 (ct_val l W b h246) all0 rfl rfl rfl (Nat.le_of_eq rfl) (by decide) (by decide) (by decide) (by decide) nh_N16 ?_
    rintro _ _ _ ⟨rfl, rfl, rfl⟩
    show Go _ _ _ _ _ _ h246 [a238, a228, a219] 3 6 54 #[.val (.int a), .val (.int b), .val (.int c), .val (.int d), .val (.int sel), .val (.int (1 : Int32)), .val (.ref a219), .val (.ref a228), .unset, .unset, .unset, .unset, .unset, .unset] [(.int (valF b)), (.int (1 : Int32)), (.ref a238), (.ref a238)]
    refine Go.castore (valF b) H at_54 rfl F248 1 (by decide) (by decide) (Nat.le_of_ble_eq_true rfl) (valF_c _) z241 (by simp) ?_
    intro h249 K250 F251
    replace F227 := F227.keep K250 (ninS ne244 nin0)
    replace F237 := F237.keep K250 (ninS ne245 nin0)
    replace F251 : Vec Z h249 a238 .char [(valF a), (valF b), (0 : Int32), (0 : Int32)] := F251
    refine Go.dup H at_55 rfl rfl ?_
    refine Go.iconst (2 : Int32) H at_56 rfl rfl ?_
    refine Go.iloadN H at_57 rfl rfl ?_
    refine Go.callS (rest := [(.int (2 : Int32)), (.ref a238), (.ref a238)]) 3 [(.int c)] H at_58 rfl w1 w2 w3 w4 pd_N17 (ct_val l W c h249) all0 rfl rfl rfl (Nat.le_of_eq rfl) (by decide) (by decide) (by decide) (by decide) nh_N16 ?_
    rintro _ _ _ ⟨rfl, rfl, rfl⟩
    show Go _ _ _ _ _ _ h249 [a238, a228, a219] 3 6 61 #[.val (.int a), .val (.int b), .val (.int c), .val (.int d), .val (.int sel), .val (.int (1 : Int32)), .val (.ref a219), .val (.ref a228), .unset, .unset, .unset, .unset, .unset, .unset] [(.int (valF c)), (.int (2 : Int32)), (.ref a238), (.ref a238)]
    refine Go.castore (valF c) H at_61 rfl F251 2 (by decide) (by decide) (Nat.le_of_ble_eq_true rfl) (valF_c _) z241 (by simp) ?_
    intro h252 K253 F254
    replace F227 := F227.keep K253 (ninS ne244 nin0)
    replace F237 := F237.keep K253 (ninS ne245 nin0)
    replace F254 : Vec Z h252 a238 .char [(valF a), (valF b), (valF c), (0 : Int32)] := F254
    refine Go.dup H at_62 rfl rfl ?_
    refine Go.iconst (3 : Int32) H at_63 rfl rfl ?_
    refine Go.iloadN H at_64 rfl rfl ?_
    refine Go.callS (rest := [(.int (3 : Int32)), (.ref a238), (.ref a238)]) 3 [(.int d)] H at_65 rfl w1 w2 w3 w4 pd_N17 (ct_val l W d h252) all0 rfl rfl rfl (Nat.le_of_eq rfl) (by decide) (by decide) (by decide) (by decide) nh_N16 ?_
    rintro _ _ _ ⟨rfl, rfl, rfl⟩
    show Go _ _ _ _ _ _ h252 [a238, a228, a219] 3 6 68 #[.val (.int a), .val (.int b), .val (.int c), .val (.int d), .val (.int sel), .val (.int (1 : Int32)), .val (.ref a219), .val (.ref a228), .unset, .unset, .unset, .unset, .unset, .unset] [(.int (valF d)), (.int (3 : Int32)), (.ref a238), (.ref a238)]
    refine Go.castore (valF d) H at_68 rfl F254 3 (by decide) (by decide) (Nat.le_of_ble_eq_true rfl) (valF_c _) z241 (by simp) ?_
    intro h255 K256 F257
    replace F227 := F227.keep K256 (ninS ne244 nin0)
    replace F237 := F237.keep K256 (ninS ne245 nin0)
    replace F257 : Vec Z h255 a238 .char [(valF a), (valF b), (valF c), (valF d)] := F257
    refine Go.astore (ls' := #[.val (.int a), .val (.int b), .val (.int c), .val (.int d), .val (.int sel), .val (.int (1 : Int32)), .val (.ref a219), .val (.ref a228), .val (.ref a238), .unset, .unset, .unset, .unset, .unset]) H at_69 rfl rfl rfl ?_
    refine Go.iconst (4 : Int32) H at_71 rfl rfl ?_
    refine Go.newarray 4 4 H at_72 rfl w0 rfl (by decide) (by decide) (by decide) (by decide) (by decide) (by decide) (by decide) ?_
    intro a258 h259 g260 z261 E262 F263
    have ne264 : a219 ≠ a258 := Nat.ne_of_lt (Nat.lt_of_lt_of_le F227.lt (Nat.le_of_eq g260.symm))
    have ne265 : a228 ≠ a258 := Nat.ne_of_lt (Nat.lt_of_lt_of_le F237.lt (Nat.le_of_eq g260.symm))
    have ne266 : a238 ≠ a258 := Nat.ne_of_lt (Nat.lt_of_lt_of_le F257.lt (Nat.le_of_eq g260.symm))
    replace F227 := F227.ext E262
    replace F237 := F237.ext E262
    replace F257 := F257.ext E262
    replace F263 : Vec Z h259 a258 .char [(0 : Int32), (0 : Int32), (0 : Int32), (0 : Int32)] := F263
    show Go _ _ _ _ _ _ h259 [a258, a238, a228, a219] 4 10 74 #[.val (.int a), .val (.int b), .val (.int c), .val (.int d), .val (.int sel), .val (.int (1 : Int32)), .val (.ref a219), .val (.ref a228), .val (.ref a238), .unset, .unset, .unset, .unset, .unset] [(.ref a258)]
    refine Go.dup H at_74 rfl rfl ?_
    refine Go.iconst (0 : Int32) H at_75 rfl rfl ?_
    refine Go.iloadN H at_76 rfl rfl ?_
    refine Go.callS (rest := [(.int (0 : Int32)), (.ref a258), (.ref a258)]) 3 [(.int a)] H at_77 rfl w9 w10 w3 w11 pd_N18 (ct_fol l W a h259) all0 rfl rfl rfl (Nat.le_of_eq rfl) (by decide) (by decide) (by decide) (by decide) nh_N16 ?_
    rintro _ _ _ ⟨rfl, rfl, rfl⟩
    show Go _ _ _ _ _ _ h259 [a258, a238, a228, a219] 4 10 80 #[.val (.int a), .val (.int b), .val (.int c), .val (.int d), .val (.int sel), .val (.int (1 : Int32)), .val (.ref a219), .val (.ref a228), .val (.ref a238), .unset, .unset, .unset, .unset, .unset] [(.int (folF a)), (.int (0 : Int32)), (.ref a258), (.ref a258)]
    refine Go.castore (folF a) H at_80 rfl F263 0 (by decide) (by decide) (Nat.le_of_ble_eq_true rfl) (folF_c _) z261 (by simp) ?_
    intro h267 K268 F269
    replace F227 := F227.keep K268 (ninS ne264 nin0)
    replace F237 := F237.keep K268 (ninS ne265 nin0)
    replace F257 := F257.keep K268 (ninS ne266 nin0)
    replace F269 : Vec Z h267 a258 .char [(folF a), (0 : Int32), (0 : Int32), (0 : Int32)] := F269
    refine Go.dup H at_81 rfl rfl ?_
    refine Go.iconst (1 : Int32) H at_82 rfl rfl ?_
    refine Go.iloadN H at_83 rfl rfl ?_
    refine Go.callS (rest := [(.int (1 : Int32)), (.ref a258), (.ref a258)]) 3 [(.int b)] H at_84 rfl w9 w10 w3 w11 pd_N18 (ct_fol l W b h267) all0 rfl rfl rfl (Nat.le_of_eq rfl) (by decide) (by decide) (by decide) (by decide) nh_N16 ?_
    rintro _ _ _ ⟨rfl, rfl, rfl⟩
    show Go _ _ _ _ _ _ h267 [a258, a238, a228, a219] 4 10 87 #[.val (.int a), .val (.int b), .val (.int c), .val (.int d), .val (.int sel), .val (.int (1 : Int32)), .val (.ref a219), .val (.ref a228), .val (.ref a238), .unset, .unset, .unset, .unset, .unset] [(.int (folF b)), (.int (1 : Int32)), (.ref a258), (.ref a258)]
    refine Go.castore (folF b) H at_87 rfl F269 1 (by decide) (by decide) (Nat.le_of_ble_eq_true rfl) (folF_c _) z261 (by simp) ?_
    intro h270 K271 F272
    replace F227 := F227.keep K271 (ninS ne264 nin0)
    replace F237 := F237.keep K271 (ninS ne265 nin0)
    replace F257 := F257.keep K271 (ninS ne266 nin0)
    replace F272 : Vec Z h270 a258 .char [(folF a), (folF b), (0 : Int32), (0 : Int32)] := F272
    refine Go.dup H at_88 rfl rfl ?_
    refine Go.iconst (2 : Int32) H at_89 rfl rfl ?_
    refine Go.iloadN H at_90 rfl rfl ?_
    refine Go.callS (rest := [(.int (2 : Int32)), (.ref a258), (.ref a258)]) 3 [(.int c)] H at_91 rfl w9 w10 w3 w11 pd_N18 (ct_fol l W c h270) all0 rfl rfl rfl (Nat.le_of_eq rfl) (by decide) (by decide) (by decide) (by decide) nh_N16 ?_
    rintro _ _ _ ⟨rfl, rfl, rfl⟩
    show Go _ _ _ _ _ _ h270 [a258, a238, a228, a219] 4 10 94 #[.val (.int a), .val (.int b), .val (.int c), .val (.int d), .val (.int sel), .val (.int (1 : Int32)), .val (.ref a219), .val (.ref a228), .val (.ref a238), .unset, .unset, .unset, .unset, .unset] [(.int (folF c)), (.int (2 : Int32)), (.ref a258), (.ref a258)]
    refine Go.castore (folF c) H at_94 rfl F272 2 (by decide) (by decide) (Nat.le_of_ble_eq_true rfl) (folF_c _) z261 (by simp) ?_
    intro h273 K274 F275
    replace F227 := F227.keep K274 (ninS ne264 nin0)
    replace F237 := F237.keep K274 (ninS ne265 nin0)
    replace F257 := F257.keep K274 (ninS ne266 nin0)
    replace F275 : Vec Z h273 a258 .char [(folF a), (folF b), (folF c), (0 : Int32)] := F275
    refine Go.dup H at_95 rfl rfl ?_
    refine Go.iconst (3 : Int32) H at_96 rfl rfl ?_
    refine Go.iloadN H at_97 rfl rfl ?_
    refine Go.callS (rest := [(.int (3 : Int32)), (.ref a258), (.ref a258)]) 3 [(.int d)] H at_98 rfl w9 w10 w3 w11 pd_N18 (ct_fol l W d h273) all0 rfl rfl rfl (Nat.le_of_eq rfl) (by decide) (by decide) (by decide) (by decide) nh_N16 ?_
    rintro _ _ _ ⟨rfl, rfl, rfl⟩
    show Go _ _ _ _ _ _ h273 [a258, a238, a228, a219] 4 10 101 #[.val (.int a), .val (.int b), .val (.int c), .val (.int d), .val (.int sel), .val (.int (1 : Int32)), .val (.ref a219), .val (.ref a228), .val (.ref a238), .unset, .unset, .unset, .unset, .unset] [(.int (folF d)), (.int (3 : Int32)), (.ref a258), (.ref a258)]
    refine Go.castore (folF d) H at_101 rfl F275 3 (by decide) (by decide) (Nat.le_of_ble_eq_true rfl) (folF_c _) z261 (by simp) ?_
    intro h276 K277 F278
    replace F227 := F227.keep K277 (ninS ne264 nin0)
    replace F237 := F237.keep K277 (ninS ne265 nin0)
    replace F257 := F257.keep K277 (ninS ne266 nin0)
    replace F278 : Vec Z h276 a258 .char [(folF a), (folF b), (folF c), (folF d)] := F278
    refine Go.astore (ls' := #[.val (.int a), .val (.int b), .val (.int c), .val (.int d), .val (.int sel), .val (.int (1 : Int32)), .val (.ref a219), .val (.ref a228), .val (.ref a238), .val (.ref a258), .unset, .unset, .unset, .unset]) H at_102 rfl rfl rfl ?_
    refine Go.iload H at_104 rfl rfl ?_
    refine Go.ifN H at_106 (by decide) rfl ?_
    refine Go.new H at_109 rfl w12 w13 w14 (by decide) (by decide) ?_
    intro a279 h280 g281 z282 E283 A284 D285
    have ne286 : a219 ≠ a279 := Nat.ne_of_lt (Nat.lt_of_lt_of_le F227.lt (Nat.le_of_eq g281.symm))
    have ne287 : a228 ≠ a279 := Nat.ne_of_lt (Nat.lt_of_lt_of_le F237.lt (Nat.le_of_eq g281.symm))
    have ne288 : a238 ≠ a279 := Nat.ne_of_lt (Nat.lt_of_lt_of_le F257.lt (Nat.le_of_eq g281.symm))
    have ne289 : a258 ≠ a279 := Nat.ne_of_lt (Nat.lt_of_lt_of_le F278.lt (Nat.le_of_eq g281.symm))
    replace F227 := F227.ext E283
    replace F237 := F237.ext E283
    replace F257 := F257.ext E283
    replace F278 := F278.ext E283
    have F290 : Fld Z h280 a279 "java/lang/String" "coder" "B" (.int (0 : Int32)) := D285 (Or.inr w38) (ty := .byte) (by decide)
    have F291 : Fld Z h280 a279 "java/lang/String" "value" "[B" .null := D285 (Or.inr w40) (ty := (.array .byte)) (by decide)
    have F292 : Fld Z h280 a279 "java/lang/String" "hash" "I" (.int (0 : Int32)) := D285 (Or.inl w134) (ty := .int) (by decide)
    have F293 : Fld Z h280 a279 "java/lang/String" "hashIsZero" "Z" (.int (0 : Int32)) := D285 (Or.inl w136) (ty := .boolean) (by decide)
    show Go _ _ _ _ _ _ h280 [a279, a258, a238, a228, a219] 5 14 112 #[.val (.int a), .val (.int b), .val (.int c), .val (.int d), .val (.int sel), .val (.int (1 : Int32)), .val (.ref a219), .val (.ref a228), .val (.ref a238), .val (.ref a258), .unset, .unset, .unset, .unset] [(.ref a279)]
    refine Go.dup H at_112 rfl rfl ?_
    refine Go.aload H at_113 rfl rfl rfl ?_
    refine Go.callI (rest := [(.ref a279)]) 1 [(.ref a219)] H at_115 rfl rfl w15 w16 w14 w17 pd_N5 (ct_new1 l W a279 a219 [(valF a)] h280 A284 F291 F290 F292 F293 F227 (own_ac (val_l _) own_an) (Nat.le_of_ble_eq_true rfl) (Nat.le_of_ble_eq_true rfl) z282) (by simp) rfl rfl rfl (Nat.le_of_eq rfl) (by decide) (by decide) (by decide) (by decide) nh_N4 ?_
    rintro _ h294 _ ⟨rfl, K295, ⟨b296, g297, S298, F299, F300, X301⟩, rfl⟩
    have ne302 : a219 ≠ b296 := Nat.ne_of_lt (Nat.lt_of_lt_of_le F227.lt g297)
    have ne303 : a228 ≠ b296 := Nat.ne_of_lt (Nat.lt_of_lt_of_le F237.lt g297)
    have ne304 : a238 ≠ b296 := Nat.ne_of_lt (Nat.lt_of_lt_of_le F257.lt g297)
    have ne305 : a258 ≠ b296 := Nat.ne_of_lt (Nat.lt_of_lt_of_le F278.lt g297)
    have ne306 : a279 ≠ b296 := Nat.ne_of_lt (Nat.lt_of_lt_of_le A284.lt g297)
    replace F227 := F227.keep K295 (ninS ne286 nin0)
    replace F237 := F237.keep K295 (ninS ne287 nin0)
    replace F257 := F257.keep K295 (ninS ne288 nin0)
    replace F278 := F278.keep K295 (ninS ne289 nin0)
    show Go _ _ _ _ _ _ h294 [a279, a258, a238, a228, a219] 6 18 118 #[.val (.int a), .val (.int b), .val (.int c), .val (.int d), .val (.int sel), .val (.int (1 : Int32)), .val (.ref a219), .val (.ref a228), .val (.ref a238), .val (.ref a258), .unset, .unset, .unset, .unset] [(.ref a279)]
    refine Go.goto (pc' := 130) H at_118 (by decide) (by decide) ?_
    refine Go.astore (ls' := #[.val (.int a), .val (.int b), .val (.int c), .val (.int d), .val (.int sel), .val (.int (1 : Int32)), .val (.ref a219), .val (.ref a228), .val (.ref a238), .val (.ref a258), .val (.ref a279), .unset, .unset, .unset]) H at_130 rfl rfl rfl ?_
    refine Go.iload H at_132 rfl rfl ?_
    refine Go.ifN H at_134 (by decide) rfl ?_
    refine Go.new H at_137 rfl w12 w13 w14 (by decide) (by decide) ?_
    intro a307 h308 g309 z310 E311 A312 D313
    have ne314 : a219 ≠ a307 := Nat.ne_of_lt (Nat.lt_of_lt_of_le F227.lt (Nat.le_of_eq g309.symm))
    have ne315 : a228 ≠ a307 := Nat.ne_of_lt (Nat.lt_of_lt_of_le F237.lt (Nat.le_of_eq g309.symm))
    have ne316 : a238 ≠ a307 := Nat.ne_of_lt (Nat.lt_of_lt_of_le F257.lt (Nat.le_of_eq g309.symm))
    have ne317 : a258 ≠ a307 := Nat.ne_of_lt (Nat.lt_of_lt_of_le F278.lt (Nat.le_of_eq g309.symm))
    have ne318 : a279 ≠ a307 := Nat.ne_of_lt (Nat.lt_of_lt_of_le S298.lt (Nat.le_of_eq g309.symm))
    have ne319 : b296 ≠ a307 := Nat.ne_of_lt (Nat.lt_of_lt_of_le S298.ltb (Nat.le_of_eq g309.symm))
    replace F227 := F227.ext E311
    replace F237 := F237.ext E311
    replace F257 := F257.ext E311
    replace F278 := F278.ext E311
    replace S298 := S298.ext E311
    replace F299 := F299.ext E311
    replace F300 := F300.ext E311
    replace X301 := X301.ext E311
    have F320 : Fld Z h308 a307 "java/lang/String" "coder" "B" (.int (0 : Int32)) := D313 (Or.inr w38) (ty := .byte) (by decide)
    have F321 : Fld Z h308 a307 "java/lang/String" "value" "[B" .null := D313 (Or.inr w40) (ty := (.array .byte)) (by decide)
    have F322 : Fld Z h308 a307 "java/lang/String" "hash" "I" (.int (0 : Int32)) := D313 (Or.inl w134) (ty := .int) (by decide)
    have F323 : Fld Z h308 a307 "java/lang/String" "hashIsZero" "Z" (.int (0 : Int32)) := D313 (Or.inl w136) (ty := .boolean) (by decide)
    show Go _ _ _ _ _ _ h308 [a307, a279, a258, a238, a228, a219] 7 22 140 #[.val (.int a), .val (.int b), .val (.int c), .val (.int d), .val (.int sel), .val (.int (1 : Int32)), .val (.ref a219), .val (.ref a228), .val (.ref a238), .val (.ref a258), .val (.ref a279), .unset, .unset, .unset] [(.ref a307)]
    refine Go.dup H at_140 rfl rfl ?_
    refine Go.aload H at_141 rfl rfl rfl ?_
    refine Go.callI (rest := [(.ref a307)]) 1 [(.ref a228)] H at_143 rfl rfl w15 w16 w14 w17 pd_N5 (ct_new1 l W a307 a228 [(folF a)] h308 A312 F321 F320 F322 F323 F237 (own_ac (fol_l _) own_an) (Nat.le_of_ble_eq_true rfl) (Nat.le_of_ble_eq_true rfl) z310) (by simp) rfl rfl rfl (Nat.le_of_eq rfl) (by decide) (by decide) (by decide) (by decide) nh_N4 ?_
    rintro _ h324 _ ⟨rfl, K325, ⟨b326, g327, S328, F329, F330, X331⟩, rfl⟩
    have ne332 : a219 ≠ b326 := Nat.ne_of_lt (Nat.lt_of_lt_of_le F227.lt g327)
    have ne333 : a228 ≠ b326 := Nat.ne_of_lt (Nat.lt_of_lt_of_le F237.lt g327)
    have ne334 : a238 ≠ b326 := Nat.ne_of_lt (Nat.lt_of_lt_of_le F257.lt g327)
    have ne335 : a258 ≠ b326 := Nat.ne_of_lt (Nat.lt_of_lt_of_le F278.lt g327)
    have ne336 : a279 ≠ b326 := Nat.ne_of_lt (Nat.lt_of_lt_of_le S298.lt g327)
    have ne337 : b296 ≠ b326 := Nat.ne_of_lt (Nat.lt_of_lt_of_le S298.ltb g327)
    have ne338 : a307 ≠ b326 := Nat.ne_of_lt (Nat.lt_of_lt_of_le A312.lt g327)
    replace F227 := F227.keep K325 (ninS ne314 nin0)
    replace F237 := F237.keep K325 (ninS ne315 nin0)
    replace F257 := F257.keep K325 (ninS ne316 nin0)
    replace F278 := F278.keep K325 (ninS ne317 nin0)
    replace S298 := S298.keep K325 (ninS ne318 nin0) (ninS ne319 nin0)
    replace F299 := F299.keep K325 (ninS ne318 nin0)
    replace F300 := F300.keep K325 (ninS ne318 nin0)
    replace X301 := X301.keep K325
    show Go _ _ _ _ _ _ h324 [a307, a279, a258, a238, a228, a219] 8 26 146 #[.val (.int a), .val (.int b), .val (.int c), .val (.int d), .val (.int sel), .val (.int (1 : Int32)), .val (.ref a219), .val (.ref a228), .val (.ref a238), .val (.ref a258), .val (.ref a279), .unset, .unset, .unset] [(.ref a307)]
    refine Go.goto (pc' := 158) H at_146 (by decide) (by decide) ?_
    refine Go.astore (ls' := #[.val (.int a), .val (.int b), .val (.int c), .val (.int d), .val (.int sel), .val (.int (1 : Int32)), .val (.ref a219), .val (.ref a228), .val (.ref a238), .val (.ref a258), .val (.ref a279), .val (.ref a307), .unset, .unset]) H at_158 rfl rfl rfl ?_
    refine Go.aload H at_160 rfl rfl rfl ?_
    refine Go.callS (rest := []) 0 [(.ref a279)] H at_162 rfl w41 w42 w43 w44 pd_N21 (ct_of1 l W a279 b296 (valF a) h324 S298 (val_ok _) (by rw [val_low]; exact fol_l _)) all0 rfl rfl rfl (Nat.le_of_eq rfl) (by decide) (by decide) (by decide) (by decide) nh_N19 ?_
    rintro _ h342 _ ⟨a339, k340, b341, rfl, E343, g344, g345, g346, ne347, ne348, z349, A350, F351, F352, S353, F354, F355, X356, rfl⟩
    have ne357 : a219 ≠ a339 := Nat.ne_of_lt (Nat.lt_of_lt_of_le F227.lt g344)
    have ne358 : a228 ≠ a339 := Nat.ne_of_lt (Nat.lt_of_lt_of_le F237.lt g344)
    have ne359 : a238 ≠ a339 := Nat.ne_of_lt (Nat.lt_of_lt_of_le F257.lt g344)
    have ne360 : a258 ≠ a339 := Nat.ne_of_lt (Nat.lt_of_lt_of_le F278.lt g344)
    have ne361 : a279 ≠ a339 := Nat.ne_of_lt (Nat.lt_of_lt_of_le S298.lt g344)
    have ne362 : b296 ≠ a339 := Nat.ne_of_lt (Nat.lt_of_lt_of_le S298.ltb g344)
    have ne363 : a307 ≠ a339 := Nat.ne_of_lt (Nat.lt_of_lt_of_le S328.lt g344)
    have ne364 : b326 ≠ a339 := Nat.ne_of_lt (Nat.lt_of_lt_of_le S328.ltb g344)
    have ne365 : a219 ≠ k340 := Nat.ne_of_lt (Nat.lt_of_lt_of_le F227.lt g345)
    have ne366 : a228 ≠ k340 := Nat.ne_of_lt (Nat.lt_of_lt_of_le F237.lt g345)
    have ne367 : a238 ≠ k340 := Nat.ne_of_lt (Nat.lt_of_lt_of_le F257.lt g345)
    have ne368 : a258 ≠ k340 := Nat.ne_of_lt (Nat.lt_of_lt_of_le F278.lt g345)
    have ne369 : a279 ≠ k340 := Nat.ne_of_lt (Nat.lt_of_lt_of_le S298.lt g345)
    have ne370 : b296 ≠ k340 := Nat.ne_of_lt (Nat.lt_of_lt_of_le S298.ltb g345)
    have ne371 : a307 ≠ k340 := Nat.ne_of_lt (Nat.lt_of_lt_of_le S328.lt g345)
    have ne372 : b326 ≠ k340 := Nat.ne_of_lt (Nat.lt_of_lt_of_le S328.ltb g345)
    have ne373 : a219 ≠ b341 := Nat.ne_of_lt (Nat.lt_of_lt_of_le F227.lt g346)
    have ne374 : a228 ≠ b341 := Nat.ne_of_lt (Nat.lt_of_lt_of_le F237.lt g346)
    have ne375 : a238 ≠ b341 := Nat.ne_of_lt (Nat.lt_of_lt_of_le F257.lt g346)
    have ne376 : a258 ≠ b341 := Nat.ne_of_lt (Nat.lt_of_lt_of_le F278.lt g346)
    have ne377 : a279 ≠ b341 := Nat.ne_of_lt (Nat.lt_of_lt_of_le S298.lt g346)
    have ne378 : b296 ≠ b341 := Nat.ne_of_lt (Nat.lt_of_lt_of_le S298.ltb g346)
    have ne379 : a307 ≠ b341 := Nat.ne_of_lt (Nat.lt_of_lt_of_le S328.lt g346)
    have ne380 : b326 ≠ b341 := Nat.ne_of_lt (Nat.lt_of_lt_of_le S328.ltb g346)
    replace F227 := F227.ext E343
    replace F237 := F237.ext E343
    replace F257 := F257.ext E343
    replace F278 := F278.ext E343
    replace S298 := S298.ext E343
    replace F299 := F299.ext E343
    replace F300 := F300.ext E343
    replace X301 := X301.ext E343
    replace S328 := S328.ext E343
    replace F329 := F329.ext E343
    replace F330 := F330.ext E343
    replace X331 := X331.ext E343
    replace S353 : Str Z h342 k340 b341 [(folF a)] := by have q := S353; rw [val_low a] at q; exact q
    show Go _ _ _ _ _ _ h342 [k340, a307, a279, a258, a238, a228, a219] 12 37 165 #[.val (.int a), .val (.int b), .val (.int c), .val (.int d), .val (.int sel), .val (.int (1 : Int32)), .val (.ref a219), .val (.ref a228), .val (.ref a238), .val (.ref a258), .val (.ref a279), .val (.ref a307), .unset, .unset] [(.ref a339)]
    refine Go.astore (ls' := #[.val (.int a), .val (.int b), .val (.int c), .val (.int d), .val (.int sel), .val (.int (1 : Int32)), .val (.ref a219), .val (.ref a228), .val (.ref a238), .val (.ref a258), .val (.ref a279), .val (.ref a307), .val (.ref a339), .unset]) H at_165 rfl rfl rfl ?_
    refine Go.aload H at_167 rfl rfl rfl ?_
    refine Go.callS (rest := []) 0 [(.ref a307)] H at_169 rfl w41 w42 w43 w44 pd_N21 (ct_of1 l W a307 b326 (folF a) h342 S328 (fol_ok _) (by rw [fol_low]; exact fol_l _)) all0 rfl rfl rfl (Nat.le_of_eq rfl) (by decide) (by decide) (by decide) (by decide) nh_N19 ?_
    rintro _ h384 _ ⟨a381, k382, b383, rfl, E385, g386, g387, g388, ne389, ne390, z391, A392, F393, F394, S395, F396, F397, X398, rfl⟩
    have ne399 : a219 ≠ a381 := Nat.ne_of_lt (Nat.lt_of_lt_of_le F227.lt g386)
    have ne400 : a228 ≠ a381 := Nat.ne_of_lt (Nat.lt_of_lt_of_le F237.lt g386)
    have ne401 : a238 ≠ a381 := Nat.ne_of_lt (Nat.lt_of_lt_of_le F257.lt g386)
    have ne402 : a258 ≠ a381 := Nat.ne_of_lt (Nat.lt_of_lt_of_le F278.lt g386)
    have ne403 : a279 ≠ a381 := Nat.ne_of_lt (Nat.lt_of_lt_of_le S298.lt g386)
    have ne404 : b296 ≠ a381 := Nat.ne_of_lt (Nat.lt_of_lt_of_le S298.ltb g386)
    have ne405 : a307 ≠ a381 := Nat.ne_of_lt (Nat.lt_of_lt_of_le S328.lt g386)
    have ne406 : b326 ≠ a381 := Nat.ne_of_lt (Nat.lt_of_lt_of_le S328.ltb g386)
    have ne407 : a339 ≠ a381 := Nat.ne_of_lt (Nat.lt_of_lt_of_le A350.lt g386)
    have ne408 : k340 ≠ a381 := Nat.ne_of_lt (Nat.lt_of_lt_of_le S353.lt g386)
    have ne409 : b341 ≠ a381 := Nat.ne_of_lt (Nat.lt_of_lt_of_le S353.ltb g386)
    have ne410 : a219 ≠ k382 := Nat.ne_of_lt (Nat.lt_of_lt_of_le F227.lt g387)
    have ne411 : a228 ≠ k382 := Nat.ne_of_lt (Nat.lt_of_lt_of_le F237.lt g387)
    have ne412 : a238 ≠ k382 := Nat.ne_of_lt (Nat.lt_of_lt_of_le F257.lt g387)
    have ne413 : a258 ≠ k382 := Nat.ne_of_lt (Nat.lt_of_lt_of_le F278.lt g387)
    have ne414 : a279 ≠ k382 := Nat.ne_of_lt (Nat.lt_of_lt_of_le S298.lt g387)
    have ne415 : b296 ≠ k382 := Nat.ne_of_lt (Nat.lt_of_lt_of_le S298.ltb g387)
    have ne416 : a307 ≠ k382 := Nat.ne_of_lt (Nat.lt_of_lt_of_le S328.lt g387)
    have ne417 : b326 ≠ k382 := Nat.ne_of_lt (Nat.lt_of_lt_of_le S328.ltb g387)
    have ne418 : a339 ≠ k382 := Nat.ne_of_lt (Nat.lt_of_lt_of_le A350.lt g387)
    have ne419 : k340 ≠ k382 := Nat.ne_of_lt (Nat.lt_of_lt_of_le S353.lt g387)
    have ne420 : b341 ≠ k382 := Nat.ne_of_lt (Nat.lt_of_lt_of_le S353.ltb g387)
    have ne421 : a219 ≠ b383 := Nat.ne_of_lt (Nat.lt_of_lt_of_le F227.lt g388)
    have ne422 : a228 ≠ b383 := Nat.ne_of_lt (Nat.lt_of_lt_of_le F237.lt g388)
    have ne423 : a238 ≠ b383 := Nat.ne_of_lt (Nat.lt_of_lt_of_le F257.lt g388)
    have ne424 : a258 ≠ b383 := Nat.ne_of_lt (Nat.lt_of_lt_of_le F278.lt g388)
    have ne425 : a279 ≠ b383 := Nat.ne_of_lt (Nat.lt_of_lt_of_le S298.lt g388)
    have ne426 : b296 ≠ b383 := Nat.ne_of_lt (Nat.lt_of_lt_of_le S298.ltb g388)
    have ne427 : a307 ≠ b383 := Nat.ne_of_lt (Nat.lt_of_lt_of_le S328.lt g388)
    have ne428 : b326 ≠ b383 := Nat.ne_of_lt (Nat.lt_of_lt_of_le S328.ltb g388)
    have ne429 : a339 ≠ b383 := Nat.ne_of_lt (Nat.lt_of_lt_of_le A350.lt g388)
    have ne430 : k340 ≠ b383 := Nat.ne_of_lt (Nat.lt_of_lt_of_le S353.lt g388)
    have ne431 : b341 ≠ b383 := Nat.ne_of_lt (Nat.lt_of_lt_of_le S353.ltb g388)
    replace F227 := F227.ext E385
    replace F237 := F237.ext E385
    replace F257 := F257.ext E385
    replace F278 := F278.ext E385
    replace S298 := S298.ext E385
    replace F299 := F299.ext E385
    replace F300 := F300.ext E385
    replace X301 := X301.ext E385
    replace S328 := S328.ext E385
    replace F329 := F329.ext E385
    replace F330 := F330.ext E385
    replace X331 := X331.ext E385
    replace A350 := A350.ext E385
    replace F351 := F351.ext E385
    replace F352 := F352.ext E385
    replace S353 := S353.ext E385
    replace F354 := F354.ext E385
    replace F355 := F355.ext E385
    replace X356 := X356.ext E385
    replace S395 : Str Z h384 k382 b383 [(folF a)] := by have q := S395; rw [fol_low a] at q; exact q
    show Go _ _ _ _ _ _ h384 [k382, k340, a307, a279, a258, a238, a228, a219] 16 48 172 #[.val (.int a), .val (.int b), .val (.int c), .val (.int d), .val (.int sel), .val (.int (1 : Int32)), .val (.ref a219), .val (.ref a228), .val (.ref a238), .val (.ref a258), .val (.ref a279), .val (.ref a307), .val (.ref a339), .unset] [(.ref a381)]
    refine Go.astore (ls' := #[.val (.int a), .val (.int b), .val (.int c), .val (.int d), .val (.int sel), .val (.int (1 : Int32)), .val (.ref a219), .val (.ref a228), .val (.ref a238), .val (.ref a258), .val (.ref a279), .val (.ref a307), .val (.ref a339), .val (.ref a381)]) H at_172 rfl rfl rfl ?_
    refine Go.aload H at_174 rfl rfl rfl ?_
    refine Go.callV (rest := []) 0 [] H at_176 rfl A350 w97 w98 w100 w99 w43 w101 pd_N22 (ct_nm_toString l W a339 a279 h384 F351) all0 rfl rfl rfl (Nat.le_of_eq rfl) (by decide) (by decide) (by decide) (by decide) nh_N19 ?_
    rintro _ _ _ ⟨rfl, rfl, rfl⟩
    show Go _ _ _ _ _ _ h384 [k382, k340, a307, a279, a258, a238, a228, a219] 16 48 179 #[.val (.int a), .val (.int b), .val (.int c), .val (.int d), .val (.int sel), .val (.int (1 : Int32)), .val (.ref a219), .val (.ref a228), .val (.ref a238), .val (.ref a258), .val (.ref a279), .val (.ref a307), .val (.ref a339), .val (.ref a381)] [(.ref a279)]
    refine Go.aload H at_179 rfl rfl rfl ?_
    refine Go.callV (rest := []) 0 [(.ref a279)] H at_181 rfl S298.1 w102 w103 w105 w104 w14 w106 pd_N14 (ct_eq l W a279 b296 a279 b296 [(valF a)] [(valF a)] h384 S298 S298) all0 rfl rfl rfl (Nat.le_of_eq rfl) (by decide) (by decide) (by decide) (by decide) nh_N4 ?_
    rintro _ _ _ ⟨rfl, rfl, rfl⟩
    show Go _ _ _ _ _ _ h384 [k382, k340, a307, a279, a258, a238, a228, a219] 16 48 184 #[.val (.int a), .val (.int b), .val (.int c), .val (.int d), .val (.int sel), .val (.int (1 : Int32)), .val (.ref a219), .val (.ref a228), .val (.ref a238), .val (.ref a258), .val (.ref a279), .val (.ref a307), .val (.ref a339), .val (.ref a381)] [(.int (if [(valF a)] = [(valF a)] then (1 : Int32) else 0))]
    refine Go.ifN H at_184 (feq (by rw [if_pos rfl]; decide)).1 rfl ?_
    refine Go.aload H at_187 rfl rfl rfl ?_
    refine Go.callV (rest := []) 0 [] H at_189 rfl A350 w107 w108 w110 w109 w43 w111 pd_N23 (ct_nm_key l W a339 k340 h384 F352) all0 rfl rfl rfl (Nat.le_of_eq rfl) (by decide) (by decide) (by decide) (by decide) nh_N19 ?_
    rintro _ _ _ ⟨rfl, rfl, rfl⟩
    show Go _ _ _ _ _ _ h384 [k382, k340, a307, a279, a258, a238, a228, a219] 16 48 192 #[.val (.int a), .val (.int b), .val (.int c), .val (.int d), .val (.int sel), .val (.int (1 : Int32)), .val (.ref a219), .val (.ref a228), .val (.ref a238), .val (.ref a258), .val (.ref a279), .val (.ref a307), .val (.ref a339), .val (.ref a381)] [(.ref k340)]
    refine Go.aload H at_192 rfl rfl rfl ?_
    refine Go.callV (rest := []) 0 [(.ref a307)] H at_194 rfl S353.1 w102 w103 w105 w104 w14 w106 pd_N14 (ct_eq l W k340 b341 a307 b326 [(folF a)] [(folF a)] h384 S353 S328) all0 rfl rfl rfl (Nat.le_of_eq rfl) (by decide) (by decide) (by decide) (by decide) nh_N4 ?_
    rintro _ _ _ ⟨rfl, rfl, rfl⟩
    show Go _ _ _ _ _ _ h384 [k382, k340, a307, a279, a258, a238, a228, a219] 16 48 197 #[.val (.int a), .val (.int b), .val (.int c), .val (.int d), .val (.int sel), .val (.int (1 : Int32)), .val (.ref a219), .val (.ref a228), .val (.ref a238), .val (.ref a258), .val (.ref a279), .val (.ref a307), .val (.ref a339), .val (.ref a381)] [(.int (if [(folF a)] = [(folF a)] then (1 : Int32) else 0))]
    refine Go.ifN H at_197 (feq (by rw [if_pos rfl]; decide)).1 rfl ?_
    refine Go.aload H at_200 rfl rfl rfl ?_
    refine Go.callV (rest := []) 0 [] H at_202 rfl A392 w97 w98 w100 w99 w43 w101 pd_N22 (ct_nm_toString l W a381 a307 h384 F393) all0 rfl rfl rfl (Nat.le_of_eq rfl) (by decide) (by decide) (by decide) (by decide) nh_N19 ?_
    rintro _ _ _ ⟨rfl, rfl, rfl⟩
    show Go _ _ _ _ _ _ h384 [k382, k340, a307, a279, a258, a238, a228, a219] 16 48 205 #[.val (.int a), .val (.int b), .val (.int c), .val (.int d), .val (.int sel), .val (.int (1 : Int32)), .val (.ref a219), .val (.ref a228), .val (.ref a238), .val (.ref a258), .val (.ref a279), .val (.ref a307), .val (.ref a339), .val (.ref a381)] [(.ref a307)]
    refine Go.aload H at_205 rfl rfl rfl ?_
    refine Go.callV (rest := []) 0 [(.ref a307)] H at_207 rfl S328.1 w102 w103 w105 w104 w14 w106 pd_N14 (ct_eq l W a307 b326 a307 b326 [(folF a)] [(folF a)] h384 S328 S328) all0 rfl rfl rfl (Nat.le_of_eq rfl) (by decide) (by decide) (by decide) (by decide) nh_N4 ?_
    rintro _ _ _ ⟨rfl, rfl, rfl⟩
    show Go _ _ _ _ _ _ h384 [k382, k340, a307, a279, a258, a238, a228, a219] 16 48 210 #[.val (.int a), .val (.int b), .val (.int c), .val (.int d), .val (.int sel), .val (.int (1 : Int32)), .val (.ref a219), .val (.ref a228), .val (.ref a238), .val (.ref a258), .val (.ref a279), .val (.ref a307), .val (.ref a339), .val (.ref a381)] [(.int (if [(folF a)] = [(folF a)] then (1 : Int32) else 0))]
    refine Go.ifN H at_210 (feq (by rw [if_pos rfl]; decide)).1 rfl ?_
    refine Go.aload H at_213 rfl rfl rfl ?_
    refine Go.callV (rest := []) 0 [] H at_215 rfl A392 w107 w108 w110 w109 w43 w111 pd_N23 (ct_nm_key l W a381 k382 h384 F394) all0 rfl rfl rfl (Nat.le_of_eq rfl) (by decide) (by decide) (by decide) (by decide) nh_N19 ?_
    rintro _ _ _ ⟨rfl, rfl, rfl⟩
    show Go _ _ _ _ _ _ h384 [k382, k340, a307, a279, a258, a238, a228, a219] 16 48 218 #[.val (.int a), .val (.int b), .val (.int c), .val (.int d), .val (.int sel), .val (.int (1 : Int32)), .val (.ref a219), .val (.ref a228), .val (.ref a238), .val (.ref a258), .val (.ref a279), .val (.ref a307), .val (.ref a339), .val (.ref a381)] [(.ref k382)]
    refine Go.aload H at_218 rfl rfl rfl ?_
    refine Go.callV (rest := []) 0 [(.ref a307)] H at_220 rfl S395.1 w102 w103 w105 w104 w14 w106 pd_N14 (ct_eq l W k382 b383 a307 b326 [(folF a)] [(folF a)] h384 S395 S328) all0 rfl rfl rfl (Nat.le_of_eq rfl) (by decide) (by decide) (by decide) (by decide) nh_N4 ?_
    rintro _ _ _ ⟨rfl, rfl, rfl⟩
    show Go _ _ _ _ _ _ h384 [k382, k340, a307, a279, a258, a238, a228, a219] 16 48 223 #[.val (.int a), .val (.int b), .val (.int c), .val (.int d), .val (.int sel), .val (.int (1 : Int32)), .val (.ref a219), .val (.ref a228), .val (.ref a238), .val (.ref a258), .val (.ref a279), .val (.ref a307), .val (.ref a339), .val (.ref a381)] [(.int (if [(folF a)] = [(folF a)] then (1 : Int32) else 0))]
    refine Go.ifN H at_223 (feq (by rw [if_pos rfl]; decide)).1 rfl ?_
    refine Go.aload H at_226 rfl rfl rfl ?_
    refine Go.aload H at_228 rfl rfl rfl ?_
    refine Go.callV (rest := []) 0 [(.ref a381)] H at_230 rfl A350 w116 w117 w119 w118 w43 w120 pd_N24 (ct_nmeq l W a339 a381 k340 k382 b341 b383 [(folF a)] [(folF a)] h384 A392 F352 F394 S353 S395 rfl) all0 rfl rfl rfl (Nat.le_of_eq rfl) (by decide) (by decide) (by decide) (by decide) nh_N19 ?_
    rintro _ _ _ ⟨rfl, rfl, rfl⟩
    show Go _ _ _ _ _ _ h384 [k382, k340, a307, a279, a258, a238, a228, a219] 16 48 233 #[.val (.int a), .val (.int b), .val (.int c), .val (.int d), .val (.int sel), .val (.int (1 : Int32)), .val (.ref a219), .val (.ref a228), .val (.ref a238), .val (.ref a258), .val (.ref a279), .val (.ref a307), .val (.ref a339), .val (.ref a381)] [(.int (1 : Int32))]
    refine Go.ifN H at_233 (by decide) rfl ?_
    refine Go.aload H at_236 rfl rfl rfl ?_
    refine Go.aload H at_238 rfl rfl rfl ?_
    refine Go.callV (rest := []) 0 [(.ref a339)] H at_240 rfl A392 w116 w117 w119 w118 w43 w120 pd_N24 (ct_nmeq l W a381 a339 k382 k340 b383 b341 [(folF a)] [(folF a)] h384 A350 F394 F352 S395 S353 rfl) all0 rfl rfl rfl (Nat.le_of_eq rfl) (by decide) (by decide) (by decide) (by decide) nh_N19 ?_
    rintro _ _ _ ⟨rfl, rfl, rfl⟩
    show Go _ _ _ _ _ _ h384 [k382, k340, a307, a279, a258, a238, a228, a219] 16 48 243 #[.val (.int a), .val (.int b), .val (.int c), .val (.int d), .val (.int sel), .val (.int (1 : Int32)), .val (.ref a219), .val (.ref a228), .val (.ref a238), .val (.ref a258), .val (.ref a279), .val (.ref a307), .val (.ref a339), .val (.ref a381)] [(.int (1 : Int32))]
    refine Go.ifN H at_243 (by decide) rfl ?_
    refine Go.aload H at_246 rfl rfl rfl ?_
    refine Go.callV (rest := []) 0 [] H at_248 rfl A350 w123 w124 w126 w125 w43 w127 pd_N29 (ct_nmh1 l W a339 k340 b341 (folF a) h384 F352 S353 F354 F355 X356 z349) (by simp) rfl rfl rfl (Nat.le_of_eq rfl) (by decide) (by decide) (by decide) (by decide) nh_N19 ?_
    rintro _ h432 _ ⟨rfl, K433, rfl⟩
    replace F227 := F227.keep K433 (ninS ne365 nin0)
    replace F237 := F237.keep K433 (ninS ne366 nin0)
    replace F257 := F257.keep K433 (ninS ne367 nin0)
    replace F278 := F278.keep K433 (ninS ne368 nin0)
    replace S298 := S298.keep K433 (ninS ne369 nin0) (ninS ne370 nin0)
    replace F299 := F299.keep K433 (ninS ne369 nin0)
    replace F300 := F300.keep K433 (ninS ne369 nin0)
    replace X301 := X301.keep K433
    replace S328 := S328.keep K433 (ninS ne371 nin0) (ninS ne372 nin0)
    replace F329 := F329.keep K433 (ninS ne371 nin0)
    replace F330 := F330.keep K433 (ninS ne371 nin0)
    replace X331 := X331.keep K433
    replace A350 := A350.keep K433
    replace F351 := F351.keep K433 (ninS ne347 nin0)
    replace F352 := F352.keep K433 (ninS ne347 nin0)
    replace X356 := X356.keep K433
    replace A392 := A392.keep K433
    replace F393 := F393.keep K433 (ninS (Ne.symm ne408) nin0)
    replace F394 := F394.keep K433 (ninS (Ne.symm ne408) nin0)
    replace S395 := S395.keep K433 (ninS (Ne.symm ne419) nin0) (ninS (Ne.symm ne430) nin0)
    replace F396 := F396.keep K433 (ninS (Ne.symm ne419) nin0)
    replace F397 := F397.keep K433 (ninS (Ne.symm ne419) nin0)
    replace X398 := X398.keep K433
    show Go _ _ _ _ _ _ h432 [k382, k340, a307, a279, a258, a238, a228, a219] 16 48 251 #[.val (.int a), .val (.int b), .val (.int c), .val (.int d), .val (.int sel), .val (.int (1 : Int32)), .val (.ref a219), .val (.ref a228), .val (.ref a238), .val (.ref a258), .val (.ref a279), .val (.ref a307), .val (.ref a339), .val (.ref a381)] [(.int (nar .byte (folF a) &&& (255 : Int32)))]
    refine Go.aload H at_251 rfl rfl rfl ?_
    refine Go.callV (rest := [(.int (nar .byte (folF a) &&& (255 : Int32)))]) 1 [] H at_253 rfl A392 w123 w124 w126 w125 w43 w127 pd_N29 (ct_nmh1 l W a381 k382 b383 (folF a) h432 F394 S395 F396 F397 X398 z391) (by simp) rfl rfl rfl (Nat.le_of_eq rfl) (by decide) (by decide) (by decide) (by decide) nh_N19 ?_
    rintro _ h434 _ ⟨rfl, K435, rfl⟩
    replace F227 := F227.keep K435 (ninS ne410 nin0)
    replace F237 := F237.keep K435 (ninS ne411 nin0)
    replace F257 := F257.keep K435 (ninS ne412 nin0)
    replace F278 := F278.keep K435 (ninS ne413 nin0)
    replace S298 := S298.keep K435 (ninS ne414 nin0) (ninS ne415 nin0)
    replace F299 := F299.keep K435 (ninS ne414 nin0)
    replace F300 := F300.keep K435 (ninS ne414 nin0)
    replace X301 := X301.keep K435
    replace S328 := S328.keep K435 (ninS ne416 nin0) (ninS ne417 nin0)
    replace F329 := F329.keep K435 (ninS ne416 nin0)
    replace F330 := F330.keep K435 (ninS ne416 nin0)
    replace X331 := X331.keep K435
    replace A350 := A350.keep K435
    replace F351 := F351.keep K435 (ninS ne418 nin0)
    replace F352 := F352.keep K435 (ninS ne418 nin0)
    replace X356 := X356.keep K435
    replace A392 := A392.keep K435
    replace F393 := F393.keep K435 (ninS ne389 nin0)
    replace F394 := F394.keep K435 (ninS ne389 nin0)
    replace X398 := X398.keep K435
    show Go _ _ _ _ _ _ h434 [k382, k340, a307, a279, a258, a238, a228, a219] 16 48 256 #[.val (.int a), .val (.int b), .val (.int c), .val (.int d), .val (.int sel), .val (.int (1 : Int32)), .val (.ref a219), .val (.ref a228), .val (.ref a238), .val (.ref a258), .val (.ref a279), .val (.ref a307), .val (.ref a339), .val (.ref a381)] [(.int (nar .byte (folF a) &&& (255 : Int32))), (.int (nar .byte (folF a) &&& (255 : Int32)))]
    refine Go.icmpN H at_256 (teq rfl).2 rfl ?_
    refine Go.iconst (1 : Int32) H at_259 rfl rfl ?_
    refine Go.goto (pc' := 264) H at_260 (by decide) (by decide) ?_
    exact Go.ireturn 1 [] H at_264 (by simp) (by decide) ⟨rfl, trivial⟩ all0 (by decide) (by decide)
set_option maxRecDepth 65536 in
set_option maxHeartbeats 4000000 in
theorem comes_1 {Post : Tables → Env → Array Value → State → Outcome → State → Prop} (hpost : ∀ tb e args s v u, (limb_1_1.after args s (.returned v) u = true ∧ limb_1_2.after args s (.returned v) u = true ∧ True) → FrameEnd s (.returned v) u (Jvm.fieldLocs frame_1_writes args s ++ Jvm.arrayLocs frame_1_arrays args s ++ Jvm.staticLocs frame_1_statics s) 40 192 → Post tb e args s (.returned v) u) :
    ArmFor flags0 classFile x code maxLocals ret World_1 tables_1 room_1 Calls_1 rest_1 Pre_1 Post := by
  intro l hfl _ _ p e ha hc hk s m args below hf hA hF happ hP
  obtain ⟨hcalls, hrest, hpre⟩ := hP
  obtain ⟨-, -, -, hnamed, -, -, -, hat⟩ := (Spec.applies_iff hf).mp happ
  obtain ⟨hg, hn⟩ := and_e (Cond.before_iff.mp (show (Jvm.Cond.and given_1 narrow_1).before args s = true from hpre))
  obtain ⟨h1, h2⟩ := and_e hg
  obtain ⟨k0, r0⟩ := and_e h2
  obtain ⟨k1, r1⟩ := and_e r0
  obtain ⟨k2, r2⟩ := and_e r1
  obtain ⟨k3, r3⟩ := and_e r2
  obtain ⟨w0, w1, w2, w3, w4, rfl⟩ : ∃ w0 w1 w2 w3 w4 : Value, args = #[w0, w1, w2, w3, w4] := by
    have hs : args.size = 5 := by simpa [Cond.value, given_1] using h1
    obtain ⟨L⟩ := args
    match L, hs with
    | [w0, w1, w2, w3, w4], _ => exact ⟨w0, w1, w2, w3, w4, rfl⟩
  have hw := fun d (hd : d ∈ tables_1) => atoms_spec (ws := Jvm.Cond.code x code maxLocals ret :: tables_1) hat d (List.mem_cons_of_mem _ hd)
  obtain ⟨hsets, hown0⟩ := atoms_of _ (rest_1_c_eq ▸ (show rest_1_c.before _ s = true from hrest))
  have hfit : Fit s := fun {y c} hc i hi => by
    obtain ⟨ha, rfl⟩ := Array.getElem?_eq_some_iff.mp hc
    have q := List.all_eq_true.mp ((Array.all_eq_true_iff_forall_mem.mp hF) _ (Array.getElem_mem ha)) i (List.mem_range.mpr hi)
    simpa [Array.getElem?_eq_getElem hi] using q
  obtain ⟨i0, e0⟩ := is_v k0
  obtain rfl : w0 = (.int i0) := Option.some.inj e0
  obtain ⟨i1, e1⟩ := is_v k1
  obtain rfl : w1 = (.int i1) := Option.some.inj e1
  obtain ⟨i2, e2⟩ := is_v k2
  obtain rfl : w2 = (.int i2) := Option.some.inj e2
  obtain ⟨i3, e3⟩ := is_v k3
  obtain rfl : w3 = (.int i3) := Option.some.inj e3
  obtain ⟨i4, e4⟩ := is_v r3
  obtain rfl : w4 = (.int i4) := Option.some.inj e4
  have n5 := not_v (Cond.before_iff.mp (hsets _ (List.mem_of_getElem? (i := 2) rfl)))
  obtain ⟨iz, ez⟩ := is_v (Cond.before_iff.mp (hsets _ (List.mem_of_getElem? (i := 1) rfl)))
  have Sz : Sta s s.heap "java/lang/String" "COMPACT_STRINGS" "Z" (.int iz) := Sta.start ez (Or.inl (hsets _ (List.mem_of_getElem? (i := 0) rfl)))
  obtain ⟨vf, ef, rf⟩ := isR_v (Cond.before_iff.mp (hsets _ (List.mem_of_getElem? (i := 8) rfl)))
  have Sf : Sta s s.heap "jdk/internal/util/Preconditions" "SIOOBE_FORMATTER" "Ljava/util/function/BiFunction;" vf := Sta.start ef (Or.inl (hsets _ (List.mem_of_getElem? (i := 7) rfl)))
  have cz : ¬ (iz = (0 : Int32)) := gotF (Cond.eq_ints ez (Term.int_eval (0))) n5
  obtain ⟨n, o, h1, h2, h3, _, L, rfl, ⟨⟨sn, rfl, -⟩, N, -⟩, hq⟩ := ct_law l (Z := s) (n0 := s.heap.size) ⟨⟨_, hw⟩, cz, Sz, rf, Sf⟩ i0 i1 i2 i3 i4 s.heap (Old.start s) tables_1 p e ha hc hk s m _ below hf ((Spec.applies_iff_loose hf).mp happ).1 ⟨rfl, State.Warmed39.refl s, rfl⟩ trivial
  refine ⟨n, _, h1, h2, h3, hpost _ _ _ _ _ _ ⟨Cond.after_iff.mpr rfl, Cond.after_iff.mpr (eq_i res_at (Term.int_eval (1)) rfl), trivial⟩ ⟨hq.1, hq.2.1, (hq.2.2.sift fun y hy => Or.inr (N y hy)).mono (by decide) (by decide)⟩⟩
theorem main_1_1 : Claimed_1_1 := comes_1 fun _ _ _ _ _ _ h hF => ⟨h.1, hF⟩
theorem main_1_2 : Claimed_1_2 := comes_1 fun _ _ _ _ _ _ h hF => ⟨h.2.1, hF⟩
end Jvm.Pilot.@@N@@
namespace Jvm.Pilot.@@N@@
open Jvm Jvm.ClassFile Sem Op Lib Jvm.Free Jvm.Stand Jvm.Pilot.@@N@@.Jvm.D
/-! MADE BY PROGRAM (witnessworld.py) out of the Statement's table words and the real class files: 18 classes; the members and pool entries that the words name. The judged class is class 1, her method 4. -/
namespace start1
open Jvm.ClassFile
def u (s : String) : CpInfo := .utf8 (stringToUtf16 s)
/-- a pool by its gaps: so many unusable entries, then the entry; so many at the end -/
def gap : Nat → List CpInfo → List CpInfo
  | 0, r => r
  | n + 1, r => .unusable :: gap n r
def poolList (es : List (Nat × CpInfo)) (last : Nat) : List CpInfo := es.foldr (fun e r => gap e.1 (e.2 :: r)) (gap last [])
def pool (es : List (Nat × CpInfo)) (last : Nat) : Array CpInfo := ⟨poolList es last⟩
def fileOf (pool : Array CpInfo) (this : Nat) (attrs : Array Attribute := #[]) (ms : Array MethodInfo := #[]) (fl : Nat := 33) (sup : Nat := 0) (ifs : Array Nat := #[]) (fds : Array FieldInfo := #[]) : ClassFile where
  minorVersion := 0
  majorVersion := 65
  constantPool := pool
  accessFlags := fl
  thisClass := this
  superClass := sup
  interfaces := ifs
  fields := fds
  methods := ms
  attributes := attrs
def plain (name : String) (sup : Option ClassId) : Class where
  name := name
  kind := .ordinary
  loader := none
  accessFlags := 33
  super := sup
  interfaces := #[]
  cf := none
  fields := #[]
  methods := #[]
  instanceTypes := #[]
  staticTypes := #[]
  resolved := #[]
  callSites := []
  init := .initialized
  statics := none
  mirror := none

def pool0 : Array CpInfo := pool [(5, u "<init>"), (0, u "()V"), (1, .class_ 10), (1, u "java/lang/Object")] 113

def k0c0 : Code := { maxStack := 0, maxLocals := 1, code := object_method_1_code, exceptionTable := #[], attributes := #[] }
def k0m0 : Method := { name := "<init>", desc := "()V", sig := { parameters := [], returnType := none }, accessFlags := 1, code := some k0c0 }
/-- java/lang/Object -/
def k0 : Class := { plain "java/lang/Object" none with
  accessFlags := 33
  interfaces := #[]
  cf := some (fileOf pool0 8 #[] #[{ accessFlags := 1, nameIndex := 5, descriptorIndex := 6, attributes := #[] }] 33 0 #[] #[])
  fields := #[]
  methods := #[k0m0]
  instanceTypes := #[]
  staticTypes := #[]
  resolved := Array.replicate 124 none
  statics := none }

def pool1 : Array CpInfo := pool [(2, .class_ 4), (1, u "java/lang/Object"), (0, u "<init>"), (0, u "()V"), (0, .integer 2147483647), (0, .methodref 9 10), (0, .class_ 11), (0, .nameAndType 12 13), (0, u "com/example/rendezpoint/rendezpoint/core/NameOfPinLaw"), (0, u "index"), (0, u "(I)I"), (0, .methodref 9 15), (0, .nameAndType 16 17), (0, u "valid"), (0, u "(I)C"), (0, .methodref 9 19), (0, .nameAndType 20 17), (0, u "folded"), (0, .class_ 22), (0, u "java/lang/String"), (0, .methodref 21 24), (0, .nameAndType 5 25), (0, u "([C)V"), (0, .methodref 27 28), (0, .class_ 29), (0, .nameAndType 30 31), (0, u "com/example/rendezpoint/rendezpoint/core/Name"), (0, u "of"), (0, u "(Ljava/lang/String;)Lcom/example/rendezpoint/rendezpoint/core/Name;"), (0, .methodref 27 33), (0, .nameAndType 34 35), (0, u "toString"), (0, u "()Ljava/lang/String;"), (0, .methodref 21 37), (0, .nameAndType 38 39), (0, u "equals"), (0, u "(Ljava/lang/Object;)Z"), (0, .methodref 27 41), (0, .nameAndType 42 35), (0, u "key"), (0, .methodref 27 37), (0, .methodref 27 45), (0, .nameAndType 46 47), (0, u "hashCode"), (0, u "()I"), (3, u "law"), (0, u "(IIIII)Z")] 4

def k1m0 : Method := { name := "<init>", desc := "()V", sig := { parameters := [], returnType := none }, accessFlags := 1, code := none }
def k1c1 : Code := { maxStack := 2, maxLocals := 1, code := method_2_code, exceptionTable := #[], attributes := #[] }
def k1m1 : Method := { name := "index", desc := "(I)I", sig := { parameters := [.int], returnType := some .int }, accessFlags := 10, code := some k1c1 }
def k1c2 : Code := { maxStack := 3, maxLocals := 2, code := method_3_code, exceptionTable := #[], attributes := #[] }
def k1m2 : Method := { name := "valid", desc := "(I)C", sig := { parameters := [.int], returnType := some .char }, accessFlags := 10, code := some k1c2 }
def k1c3 : Code := { maxStack := 2, maxLocals := 2, code := method_4_code, exceptionTable := #[], attributes := #[] }
def k1m3 : Method := { name := "folded", desc := "(I)C", sig := { parameters := [.int], returnType := some .char }, accessFlags := 10, code := some k1c3 }
def k1c4 : Code := { maxStack := 4, maxLocals := 14, code := code, exceptionTable := #[], attributes := #[] }
def k1m4 : Method := { name := "law", desc := "(IIIII)Z", sig := { parameters := [.int, .int, .int, .int, .int], returnType := some .boolean }, accessFlags := 9, code := some k1c4 }
/-- com/example/rendezpoint/rendezpoint/core/NameOfPinLaw -/
def k1 : Class := { plain "com/example/rendezpoint/rendezpoint/core/NameOfPinLaw" (some 0) with
  accessFlags := 49
  interfaces := #[]
  cf := some (fileOf pool1 9 #[] #[{ accessFlags := 1, nameIndex := 5, descriptorIndex := 6, attributes := #[] }, { accessFlags := 10, nameIndex := 12, descriptorIndex := 13, attributes := #[] }, { accessFlags := 10, nameIndex := 16, descriptorIndex := 17, attributes := #[] }, { accessFlags := 10, nameIndex := 20, descriptorIndex := 17, attributes := #[] }, { accessFlags := 9, nameIndex := 51, descriptorIndex := 52, attributes := #[] }] 49 2 #[] #[])
  fields := #[]
  methods := #[k1m0, k1m1, k1m2, k1m3, k1m4]
  instanceTypes := #[]
  staticTypes := #[]
  resolved := Array.replicate 57 none
  statics := none }

def pool2 : Array CpInfo := pool [(1, .class_ 2), (0, u "java/io/Serializable"), (0, .class_ 4), (0, u "java/lang/Object")] 2

/-- java/io/Serializable -/
def k2 : Class := { plain "java/io/Serializable" (some 0) with
  accessFlags := 1537
  interfaces := #[]
  cf := some (fileOf pool2 1 #[] #[] 1537 3 #[] #[])
  fields := #[]
  methods := #[]
  instanceTypes := #[]
  staticTypes := #[]
  resolved := Array.replicate 7 none
  statics := none }

def pool3 : Array CpInfo := pool [(1, .class_ 2), (0, u "java/lang/Comparable"), (0, .class_ 4), (0, u "java/lang/Object")] 7

/-- java/lang/Comparable -/
def k3 : Class := { plain "java/lang/Comparable" (some 0) with
  accessFlags := 1537
  interfaces := #[]
  cf := some (fileOf pool3 1 #[] #[] 1537 3 #[] #[])
  fields := #[]
  methods := #[]
  instanceTypes := #[]
  staticTypes := #[]
  resolved := Array.replicate 12 none
  statics := none }

def pool4 : Array CpInfo := pool [(2, .class_ 4), (1, u "java/lang/CharSequence"), (42, .class_ 48), (0, u "java/lang/CharSequence$1CodePointIterator"), (10, .class_ 60), (0, u "java/lang/CharSequence$1CharIterator"), (5, .class_ 67), (0, u "java/lang/Object")] 63

/-- java/lang/CharSequence -/
def k4 : Class := { plain "java/lang/CharSequence" (some 0) with
  accessFlags := 1537
  interfaces := #[]
  cf := some (fileOf pool4 2 #[.nestMembers #[47, 59]] #[] 1537 66 #[] #[])
  fields := #[]
  methods := #[]
  instanceTypes := #[]
  staticTypes := #[]
  resolved := Array.replicate 131 none
  statics := none }

def pool5 : Array CpInfo := pool [(1, .class_ 2), (0, u "java/lang/constant/Constable"), (0, .class_ 4), (0, u "java/lang/Object")] 6

/-- java/lang/constant/Constable -/
def k5 : Class := { plain "java/lang/constant/Constable" (some 0) with
  accessFlags := 1537
  interfaces := #[]
  cf := some (fileOf pool5 1 #[] #[] 1537 3 #[] #[])
  fields := #[]
  methods := #[]
  instanceTypes := #[]
  staticTypes := #[]
  resolved := Array.replicate 11 none
  statics := none }

def pool6 : Array CpInfo := pool [(1, .class_ 2), (0, u "java/lang/constant/ConstantDesc"), (0, .class_ 4), (0, u "java/lang/Object")] 32

/-- java/lang/constant/ConstantDesc -/
def k6 : Class := { plain "java/lang/constant/ConstantDesc" (some 0) with
  accessFlags := 1537
  interfaces := #[]
  cf := some (fileOf pool6 1 #[] #[] 1537 3 #[] #[])
  fields := #[]
  methods := #[]
  instanceTypes := #[]
  staticTypes := #[]
  resolved := Array.replicate 37 none
  statics := none }

def pool7 : Array CpInfo := pool [(1, .methodref 2 3), (0, .class_ 4), (0, .nameAndType 5 6), (0, u "java/lang/Object"), (0, u "<init>"), (0, u "()V"), (2, .fieldref 10 11), (0, .class_ 12), (0, .nameAndType 13 14), (0, u "java/lang/String"), (0, u "value"), (0, u "[B"), (0, .fieldref 10 16), (0, .nameAndType 17 18), (0, u "coder"), (0, u "B"), (0, .fieldref 10 20), (0, .nameAndType 21 22), (0, u "hash"), (0, u "I"), (0, .fieldref 10 24), (0, .nameAndType 25 26), (0, u "hashIsZero"), (0, u "Z"), (0, .methodref 10 28), (0, .nameAndType 5 29), (0, u "([CIILjava/lang/Void;)V"), (8, .fieldref 10 39), (0, .nameAndType 40 26), (0, u "COMPACT_STRINGS"), (1, .class_ 44), (1, u "java/lang/StringUTF16"), (0, u "compress"), (1, .methodref 42 48), (0, .nameAndType 49 50), (0, u "coderFromArrayLen"), (0, u "([BI)B"), (56, .class_ 109), (1, u "java/lang/StringLatin1"), (32, u "()Z"), (34, .methodref 42 178), (0, .nameAndType 45 179), (0, u "([CII)[B"), (154, u "()I"), (0, .methodref 10 336), (0, .nameAndType 17 337), (0, u "()B"), (25, u "([BI)C"), (27, u "(II)V"), (35, u "(I)C"), (64, .methodref 10 493), (0, .nameAndType 494 142), (0, u "isLatin1"), (0, .methodref 107 496), (0, .nameAndType 497 363), (0, u "charAt"), (3, u "checkIndex"), (5, u "length"), (33, .methodref 107 542), (0, .nameAndType 543 544), (0, u "equals"), (0, u "([B[B)Z"), (28, u "(Ljava/lang/Object;)Z"), (1, .class_ 576), (0, u "java/lang/CharSequence"), (22, u "CASE_INSENSITIVE_ORDER"), (0, u "Ljava/util/Comparator;"), (27, .methodref 107 629), (0, .nameAndType 630 631), (0, u "hashCode"), (0, u "([B)I"), (60, u "isEmpty"), (317, u "([C)V"), (42, .fieldref 1054 1055), (0, .class_ 1056), (0, .nameAndType 1057 1058), (0, u "jdk/internal/util/Preconditions"), (0, u "SIOOBE_FORMATTER"), (0, u "Ljava/util/function/BiFunction;"), (0, .methodref 1054 1060), (0, .nameAndType 501 1061), (0, u "(IILjava/util/function/BiFunction;)I"), (39, u "serialPersistentFields"), (0, u "[Ljava/io/ObjectStreamField;"), (0, .class_ 1104), (0, u "java/lang/String$CaseInsensitiveComparator"), (1, .class_ 1107), (0, u "java/io/Serializable"), (0, .class_ 1109), (0, u "java/lang/Comparable"), (0, .class_ 1111), (0, u "java/lang/constant/Constable"), (0, .class_ 1113), (0, u "java/lang/constant/ConstantDesc"), (2, u "serialVersionUID"), (0, u "J"), (3, u "REPL"), (0, u "C"), (2, u "LATIN1"), (1, u "UTF16")] 323

def k7m0 : Method := { name := "<init>", desc := "()V", sig := { parameters := [], returnType := none }, accessFlags := 1, code := none }
def k7c1 : Code := { maxStack := 5, maxLocals := 2, code := jdk_42_method_3_code, exceptionTable := #[], attributes := #[] }
def k7m1 : Method := { name := "<init>", desc := "([C)V", sig := { parameters := [(.array .char)], returnType := none }, accessFlags := 1, code := some k7c1 }
def k7c2 : Code := { maxStack := 2, maxLocals := 1, code := jdk_42_method_54_code, exceptionTable := #[], attributes := #[] }
def k7m2 : Method := { name := "length", desc := "()I", sig := { parameters := [], returnType := some .int }, accessFlags := 1, code := some k7c2 }
def k7c3 : Code := { maxStack := 1, maxLocals := 1, code := jdk_42_method_55_code, exceptionTable := #[], attributes := #[] }
def k7m3 : Method := { name := "isEmpty", desc := "()Z", sig := { parameters := [], returnType := some .boolean }, accessFlags := 1, code := some k7c3 }
def k7c4 : Code := { maxStack := 2, maxLocals := 2, code := jdk_42_method_56_code, exceptionTable := #[], attributes := #[] }
def k7m4 : Method := { name := "charAt", desc := "(I)C", sig := { parameters := [.int], returnType := some .char }, accessFlags := 1, code := some k7c4 }
def k7c5 : Code := { maxStack := 2, maxLocals := 3, code := jdk_42_method_66_code, exceptionTable := #[], attributes := #[] }
def k7m5 : Method := { name := "equals", desc := "(Ljava/lang/Object;)Z", sig := { parameters := [(.object "java/lang/Object")], returnType := some .boolean }, accessFlags := 1, code := some k7c5 }
def k7c6 : Code := { maxStack := 2, maxLocals := 2, code := jdk_42_method_78_code, exceptionTable := #[], attributes := #[] }
def k7m6 : Method := { name := "hashCode", desc := "()I", sig := { parameters := [], returnType := some .int }, accessFlags := 1, code := some k7c6 }
def k7c7 : Code := { maxStack := 4, maxLocals := 6, code := jdk_42_method_149_code, exceptionTable := #[], attributes := #[] }
def k7m7 : Method := { name := "<init>", desc := "([CIILjava/lang/Void;)V", sig := { parameters := [(.array .char), .int, .int, (.object "java/lang/Void")], returnType := none }, accessFlags := 2, code := some k7c7 }
def k7c8 : Code := { maxStack := 1, maxLocals := 1, code := jdk_42_method_152_code, exceptionTable := #[], attributes := #[] }
def k7m8 : Method := { name := "coder", desc := "()B", sig := { parameters := [], returnType := some .byte }, accessFlags := 0, code := some k7c8 }
def k7c9 : Code := { maxStack := 1, maxLocals := 1, code := jdk_42_method_154_code, exceptionTable := #[], attributes := #[] }
def k7m9 : Method := { name := "isLatin1", desc := "()Z", sig := { parameters := [], returnType := some .boolean }, accessFlags := 0, code := some k7c9 }
def k7c10 : Code := { maxStack := 3, maxLocals := 2, code := jdk_42_method_155_code, exceptionTable := #[], attributes := #[] }
def k7m10 : Method := { name := "checkIndex", desc := "(II)V", sig := { parameters := [.int, .int], returnType := none }, accessFlags := 8, code := some k7c10 }
/-- java/lang/String -/
def k7 : Class := { plain "java/lang/String" (some 0) with
  accessFlags := 49
  interfaces := #[2, 3, 4, 5, 6]
  cf := some (fileOf pool7 10 #[.nestMembers #[1103]] #[{ accessFlags := 1, nameIndex := 5, descriptorIndex := 6, attributes := #[] }, { accessFlags := 1, nameIndex := 5, descriptorIndex := 1010, attributes := #[] }, { accessFlags := 1, nameIndex := 507, descriptorIndex := 334, attributes := #[] }, { accessFlags := 1, nameIndex := 692, descriptorIndex := 142, attributes := #[] }, { accessFlags := 1, nameIndex := 497, descriptorIndex := 427, attributes := #[] }, { accessFlags := 1, nameIndex := 543, descriptorIndex := 573, attributes := #[] }, { accessFlags := 1, nameIndex := 630, descriptorIndex := 334, attributes := #[] }, { accessFlags := 2, nameIndex := 5, descriptorIndex := 29, attributes := #[] }, { accessFlags := 0, nameIndex := 17, descriptorIndex := 337, attributes := #[] }, { accessFlags := 0, nameIndex := 494, descriptorIndex := 142, attributes := #[] }, { accessFlags := 8, nameIndex := 501, descriptorIndex := 391, attributes := #[] }] 49 2 #[1106, 1108, 575, 1110, 1112] #[{ accessFlags := 18, nameIndex := 13, descriptorIndex := 14, attributes := #[] }, { accessFlags := 18, nameIndex := 17, descriptorIndex := 18, attributes := #[] }, { accessFlags := 2, nameIndex := 21, descriptorIndex := 22, attributes := #[] }, { accessFlags := 2, nameIndex := 25, descriptorIndex := 26, attributes := #[] }, { accessFlags := 26, nameIndex := 1116, descriptorIndex := 1117, attributes := #[] }, { accessFlags := 24, nameIndex := 40, descriptorIndex := 26, attributes := #[] }, { accessFlags := 26, nameIndex := 1101, descriptorIndex := 1102, attributes := #[] }, { accessFlags := 26, nameIndex := 1121, descriptorIndex := 1122, attributes := #[] }, { accessFlags := 25, nameIndex := 599, descriptorIndex := 600, attributes := #[] }, { accessFlags := 24, nameIndex := 1125, descriptorIndex := 18, attributes := #[] }, { accessFlags := 24, nameIndex := 1127, descriptorIndex := 18, attributes := #[] }])
  fields := #[{ name := "value", type := (.array .byte), accessFlags := 18, slot := 0, constantValue := 0 }, { name := "coder", type := .byte, accessFlags := 18, slot := 1, constantValue := 0 }, { name := "hash", type := .int, accessFlags := 2, slot := 2, constantValue := 0 }, { name := "hashIsZero", type := .boolean, accessFlags := 2, slot := 3, constantValue := 0 }, { name := "serialVersionUID", type := .long, accessFlags := 26, slot := 0, constantValue := 0 }, { name := "COMPACT_STRINGS", type := .boolean, accessFlags := 24, slot := 1, constantValue := 0 }, { name := "serialPersistentFields", type := (.array (.object "java/io/ObjectStreamField")), accessFlags := 26, slot := 2, constantValue := 0 }, { name := "REPL", type := .char, accessFlags := 26, slot := 3, constantValue := 0 }, { name := "CASE_INSENSITIVE_ORDER", type := (.object "java/util/Comparator"), accessFlags := 25, slot := 4, constantValue := 0 }, { name := "LATIN1", type := .byte, accessFlags := 24, slot := 5, constantValue := 0 }, { name := "UTF16", type := .byte, accessFlags := 24, slot := 6, constantValue := 0 }]
  methods := #[k7m0, k7m1, k7m2, k7m3, k7m4, k7m5, k7m6, k7m7, k7m8, k7m9, k7m10]
  instanceTypes := #[(.array .byte), .byte, .int, .boolean]
  staticTypes := #[.long, .boolean, (.array (.object "java/io/ObjectStreamField")), .char, (.object "java/util/Comparator"), .byte, .byte]
  resolved := Array.replicate 1451 none
  statics := some 0 }

def pool8 : Array CpInfo := pool [(6, .class_ 8), (1, u "java/lang/Object"), (0, u "<init>"), (0, u "()V"), (1, .class_ 14), (1, u "java/lang/StringUTF16"), (31, u "$assertionsDisabled"), (0, u "Z"), (13, u "HI_BYTE_SHIFT"), (0, u "I"), (2, u "LO_BYTE_SHIFT"), (49, .methodref 12 116), (0, .nameAndType 117 118), (0, u "compress"), (0, u "([CI[BII)I"), (3, u "([CII)[B"), (138, u "coderFromArrayLen"), (0, u "([BI)B"), (106, .class_ 371), (1, u "java/lang/StringUTF16$LinesSpliterator"), (58, u "MAX_LENGTH"), (196, .class_ 628), (0, u "java/lang/StringUTF16$CodePointsSpliterator"), (0, .class_ 630), (0, u "java/lang/StringUTF16$CharsSpliterator")] 4

def k8m0 : Method := { name := "<init>", desc := "()V", sig := { parameters := [], returnType := none }, accessFlags := 0, code := none }
def k8c1 : Code := { maxStack := 2, maxLocals := 2, code := jdk_52_method_15_code, exceptionTable := #[], attributes := #[] }
def k8m1 : Method := { name := "coderFromArrayLen", desc := "([BI)B", sig := { parameters := [(.array .byte), .int], returnType := some .byte }, accessFlags := 8, code := some k8c1 }
def k8c2 : Code := { maxStack := 5, maxLocals := 6, code := jdk_52_method_16_code, exceptionTable := #[], attributes := #[] }
def k8m2 : Method := { name := "compress", desc := "([CII)[B", sig := { parameters := [(.array .char), .int, .int], returnType := some (.array .byte) }, accessFlags := 9, code := some k8c2 }
def k8c3 : Code := { maxStack := 3, maxLocals := 7, code := jdk_52_method_21_code, exceptionTable := #[], attributes := #[] }
def k8m3 : Method := { name := "compress", desc := "([CI[BII)I", sig := { parameters := [(.array .char), .int, (.array .byte), .int, .int], returnType := some .int }, accessFlags := 9, code := some k8c3 }
/-- java/lang/StringUTF16 -/
def k8 : Class := { plain "java/lang/StringUTF16" (some 0) with
  accessFlags := 48
  interfaces := #[]
  cf := some (fileOf pool8 12 #[.nestMembers #[627, 629, 369]] #[{ accessFlags := 0, nameIndex := 9, descriptorIndex := 10, attributes := #[] }, { accessFlags := 8, nameIndex := 261, descriptorIndex := 262, attributes := #[] }, { accessFlags := 9, nameIndex := 117, descriptorIndex := 122, attributes := #[] }, { accessFlags := 9, nameIndex := 117, descriptorIndex := 118, attributes := #[] }] 48 6 #[] #[{ accessFlags := 26, nameIndex := 61, descriptorIndex := 62, attributes := #[] }, { accessFlags := 26, nameIndex := 65, descriptorIndex := 62, attributes := #[] }, { accessFlags := 24, nameIndex := 430, descriptorIndex := 62, attributes := #[] }, { accessFlags := 4120, nameIndex := 46, descriptorIndex := 47, attributes := #[] }])
  fields := #[{ name := "HI_BYTE_SHIFT", type := .int, accessFlags := 26, slot := 0, constantValue := 0 }, { name := "LO_BYTE_SHIFT", type := .int, accessFlags := 26, slot := 1, constantValue := 0 }, { name := "MAX_LENGTH", type := .int, accessFlags := 24, slot := 2, constantValue := 0 }, { name := "$assertionsDisabled", type := .boolean, accessFlags := 4120, slot := 3, constantValue := 0 }]
  methods := #[k8m0, k8m1, k8m2, k8m3]
  instanceTypes := #[]
  staticTypes := #[.int, .int, .int, .boolean]
  resolved := Array.replicate 635 none
  statics := none }

def pool9 : Array CpInfo := pool [(1, .methodref 2 3), (0, .class_ 4), (0, .nameAndType 5 6), (0, u "java/lang/Object"), (0, u "<init>"), (0, u "()V"), (0, .fieldref 8 9), (0, .class_ 10), (0, .nameAndType 11 12), (0, u "com/example/rendezpoint/rendezpoint/core/Name"), (0, u "_spelling"), (0, u "Ljava/lang/String;"), (0, .fieldref 8 14), (0, .nameAndType 15 12), (0, u "_key"), (0, .methodref 17 18), (0, .class_ 19), (0, .nameAndType 20 21), (0, u "java/lang/String"), (0, u "isEmpty"), (0, u "()Z"), (7, .methodref 17 30), (0, .nameAndType 31 32), (0, u "length"), (0, u "()I"), (4, .methodref 17 38), (0, .nameAndType 39 40), (0, u "charAt"), (0, u "(I)C"), (0, .methodref 8 42), (0, .nameAndType 43 44), (0, u "lowerCase"), (0, u "(C)C"), (16, .methodref 17 62), (0, .nameAndType 5 63), (0, u "([C)V"), (0, .methodref 8 65), (0, .nameAndType 5 66), (0, u "(Ljava/lang/String;Ljava/lang/String;)V"), (2, u "of"), (0, u "(Ljava/lang/String;)Lcom/example/rendezpoint/rendezpoint/core/Name;"), (9, .methodref 17 81), (0, .nameAndType 82 83), (0, u "equals"), (0, u "(Ljava/lang/Object;)Z"), (0, .methodref 17 85), (0, .nameAndType 86 32), (0, u "hashCode"), (0, u "MAX_LENGTH"), (0, u "I"), (13, u "key"), (0, u "()Ljava/lang/String;"), (0, u "toString")] 17

def k9c0 : Code := { maxStack := 2, maxLocals := 3, code := prog_6_method_1_code, exceptionTable := #[], attributes := #[] }
def k9m0 : Method := { name := "<init>", desc := "(Ljava/lang/String;Ljava/lang/String;)V", sig := { parameters := [(.object "java/lang/String"), (.object "java/lang/String")], returnType := none }, accessFlags := 2, code := some k9c0 }
def k9c1 : Code := { maxStack := 8, maxLocals := 5, code := prog_6_method_2_code, exceptionTable := #[], attributes := #[] }
def k9m1 : Method := { name := "of", desc := "(Ljava/lang/String;)Lcom/example/rendezpoint/rendezpoint/core/Name;", sig := { parameters := [(.object "java/lang/String")], returnType := some (.object "com/example/rendezpoint/rendezpoint/core/Name") }, accessFlags := 9, code := some k9c1 }
def k9c2 : Code := { maxStack := 2, maxLocals := 1, code := prog_6_method_5_code, exceptionTable := #[], attributes := #[] }
def k9m2 : Method := { name := "lowerCase", desc := "(C)C", sig := { parameters := [.char], returnType := some .char }, accessFlags := 10, code := some k9c2 }
def k9c3 : Code := { maxStack := 2, maxLocals := 3, code := prog_6_method_6_code, exceptionTable := #[], attributes := #[] }
def k9m3 : Method := { name := "equals", desc := "(Ljava/lang/Object;)Z", sig := { parameters := [(.object "java/lang/Object")], returnType := some .boolean }, accessFlags := 1, code := some k9c3 }
def k9c4 : Code := { maxStack := 1, maxLocals := 1, code := prog_6_method_7_code, exceptionTable := #[], attributes := #[] }
def k9m4 : Method := { name := "hashCode", desc := "()I", sig := { parameters := [], returnType := some .int }, accessFlags := 1, code := some k9c4 }
def k9c5 : Code := { maxStack := 1, maxLocals := 1, code := prog_6_method_8_code, exceptionTable := #[], attributes := #[] }
def k9m5 : Method := { name := "key", desc := "()Ljava/lang/String;", sig := { parameters := [], returnType := some (.object "java/lang/String") }, accessFlags := 0, code := some k9c5 }
def k9c6 : Code := { maxStack := 1, maxLocals := 1, code := prog_6_method_9_code, exceptionTable := #[], attributes := #[] }
def k9m6 : Method := { name := "toString", desc := "()Ljava/lang/String;", sig := { parameters := [], returnType := some (.object "java/lang/String") }, accessFlags := 1, code := some k9c6 }
/-- com/example/rendezpoint/rendezpoint/core/Name -/
def k9 : Class := { plain "com/example/rendezpoint/rendezpoint/core/Name" (some 0) with
  accessFlags := 49
  interfaces := #[]
  cf := some (fileOf pool9 8 #[] #[{ accessFlags := 2, nameIndex := 5, descriptorIndex := 66, attributes := #[] }, { accessFlags := 9, nameIndex := 69, descriptorIndex := 70, attributes := #[] }, { accessFlags := 10, nameIndex := 43, descriptorIndex := 44, attributes := #[] }, { accessFlags := 1, nameIndex := 82, descriptorIndex := 83, attributes := #[] }, { accessFlags := 1, nameIndex := 86, descriptorIndex := 32, attributes := #[] }, { accessFlags := 0, nameIndex := 102, descriptorIndex := 103, attributes := #[] }, { accessFlags := 1, nameIndex := 104, descriptorIndex := 103, attributes := #[] }] 49 2 #[] #[{ accessFlags := 25, nameIndex := 87, descriptorIndex := 88, attributes := #[] }, { accessFlags := 18, nameIndex := 11, descriptorIndex := 12, attributes := #[] }, { accessFlags := 18, nameIndex := 15, descriptorIndex := 12, attributes := #[] }])
  fields := #[{ name := "MAX_LENGTH", type := .int, accessFlags := 25, slot := 0, constantValue := 0 }, { name := "_spelling", type := (.object "java/lang/String"), accessFlags := 18, slot := 0, constantValue := 0 }, { name := "_key", type := (.object "java/lang/String"), accessFlags := 18, slot := 1, constantValue := 0 }]
  methods := #[k9m0, k9m1, k9m2, k9m3, k9m4, k9m5, k9m6]
  instanceTypes := #[(.object "java/lang/String"), (.object "java/lang/String")]
  staticTypes := #[.int]
  resolved := Array.replicate 122 none
  statics := none }

def pool10 : Array CpInfo := pool [(1, .class_ 2), (0, u "java/lang/String"), (1, .class_ 6), (1, u "java/lang/Object"), (0, u "<init>"), (0, u "()V"), (0, .methodref 1 10), (0, .nameAndType 11 12), (0, u "checkIndex"), (0, u "(II)V"), (1, .class_ 16), (1, u "java/lang/StringLatin1"), (28, .class_ 47), (1, u "jdk/internal/util/ArraysSupport"), (5, u "([BI)C"), (3, u "([B)I"), (26, .methodref 45 85), (0, .nameAndType 86 87), (0, u "vectorizedHashCode"), (0, u "(Ljava/lang/Object;IIII)I"), (33, u "$assertionsDisabled"), (0, u "Z"), (98, .class_ 223), (1, u "java/lang/StringLatin1$LinesSpliterator"), (28, u "charAt"), (28, u "equals"), (0, u "([B[B)Z"), (15, u "hashCode"), (91, .class_ 391), (0, u "java/lang/StringLatin1$CharsSpliterator")] 3

def k10m0 : Method := { name := "<init>", desc := "()V", sig := { parameters := [], returnType := none }, accessFlags := 0, code := none }
def k10c1 : Code := { maxStack := 2, maxLocals := 2, code := jdk_43_method_2_code, exceptionTable := #[], attributes := #[] }
def k10m1 : Method := { name := "charAt", desc := "([BI)C", sig := { parameters := [(.array .byte), .int], returnType := some .char }, accessFlags := 9, code := some k10c1 }
def k10c2 : Code := { maxStack := 3, maxLocals := 3, code := jdk_43_method_13_code, exceptionTable := #[], attributes := #[] }
def k10m2 : Method := { name := "equals", desc := "([B[B)Z", sig := { parameters := [(.array .byte), (.array .byte)], returnType := some .boolean }, accessFlags := 9, code := some k10c2 }
def k10c3 : Code := { maxStack := 5, maxLocals := 1, code := jdk_43_method_21_code, exceptionTable := #[], attributes := #[] }
def k10m3 : Method := { name := "hashCode", desc := "([B)I", sig := { parameters := [(.array .byte)], returnType := some .int }, accessFlags := 9, code := some k10c3 }
/-- java/lang/StringLatin1 -/
def k10 : Class := { plain "java/lang/StringLatin1" (some 0) with
  accessFlags := 48
  interfaces := #[]
  cf := some (fileOf pool10 14 #[.nestMembers #[390, 221]] #[{ accessFlags := 0, nameIndex := 7, descriptorIndex := 8, attributes := #[] }, { accessFlags := 9, nameIndex := 252, descriptorIndex := 53, attributes := #[] }, { accessFlags := 9, nameIndex := 281, descriptorIndex := 282, attributes := #[] }, { accessFlags := 9, nameIndex := 298, descriptorIndex := 57, attributes := #[] }] 48 4 #[] #[{ accessFlags := 4120, nameIndex := 121, descriptorIndex := 122, attributes := #[] }])
  fields := #[{ name := "$assertionsDisabled", type := .boolean, accessFlags := 4120, slot := 0, constantValue := 0 }]
  methods := #[k10m0, k10m1, k10m2, k10m3]
  instanceTypes := #[]
  staticTypes := #[.boolean]
  resolved := Array.replicate 395 none
  statics := none }

def pool11 : Array CpInfo := pool [(2, .class_ 4), (1, u "java/lang/Object"), (0, u "<init>"), (0, u "()V"), (17, .class_ 26), (1, u "jdk/internal/util/Preconditions"), (6, u "checkIndex"), (21, .class_ 56), (0, u "jdk/internal/util/Preconditions$4"), (57, .class_ 115), (0, u "jdk/internal/util/Preconditions$1"), (7, u "SIOOBE_FORMATTER"), (0, u "Ljava/util/function/BiFunction;"), (0, .class_ 126), (0, u "jdk/internal/util/Preconditions$2"), (3, u "AIOOBE_FORMATTER"), (0, .class_ 132), (0, u "jdk/internal/util/Preconditions$3"), (3, u "IOOBE_FORMATTER"), (41, u "(IILjava/util/function/BiFunction;)I")] 15

def k11m0 : Method := { name := "<init>", desc := "()V", sig := { parameters := [], returnType := none }, accessFlags := 1, code := none }
def k11c1 : Code := { maxStack := 3, maxLocals := 3, code := jdk_41_method_11_code, exceptionTable := #[], attributes := #[] }
def k11m1 : Method := { name := "checkIndex", desc := "(IILjava/util/function/BiFunction;)I", sig := { parameters := [.int, .int, (.object "java/util/function/BiFunction")], returnType := some .int }, accessFlags := 9, code := some k11c1 }
/-- jdk/internal/util/Preconditions -/
def k11 : Class := { plain "jdk/internal/util/Preconditions" (some 0) with
  accessFlags := 33
  interfaces := #[]
  cf := some (fileOf pool11 24 #[.nestMembers #[55, 131, 125, 114]] #[{ accessFlags := 1, nameIndex := 5, descriptorIndex := 6, attributes := #[] }, { accessFlags := 9, nameIndex := 33, descriptorIndex := 178, attributes := #[] }] 33 2 #[] #[{ accessFlags := 25, nameIndex := 123, descriptorIndex := 124, attributes := #[] }, { accessFlags := 25, nameIndex := 130, descriptorIndex := 124, attributes := #[] }, { accessFlags := 25, nameIndex := 136, descriptorIndex := 124, attributes := #[] }])
  fields := #[{ name := "SIOOBE_FORMATTER", type := (.object "java/util/function/BiFunction"), accessFlags := 25, slot := 0, constantValue := 0 }, { name := "AIOOBE_FORMATTER", type := (.object "java/util/function/BiFunction"), accessFlags := 25, slot := 1, constantValue := 0 }, { name := "IOOBE_FORMATTER", type := (.object "java/util/function/BiFunction"), accessFlags := 25, slot := 2, constantValue := 0 }]
  methods := #[k11m0, k11m1]
  instanceTypes := #[]
  staticTypes := #[(.object "java/util/function/BiFunction"), (.object "java/util/function/BiFunction"), (.object "java/util/function/BiFunction")]
  resolved := Array.replicate 194 none
  statics := some 1 }

def pool12 : Array CpInfo := pool [(9, u "<init>"), (6, .class_ 18), (1, u "java/lang/Object"), (0, u "()V"), (1, .class_ 23), (1, u "jdk/internal/util/ArraysSupport"), (0, u "LOG2_ARRAY_LONG_INDEX_SCALE"), (0, u "I"), (2, u "U"), (0, u "Ljdk/internal/misc/Unsafe;"), (8, u "BIG_ENDIAN"), (0, u "Z"), (8, u "LOG2_BYTE_BIT_SIZE"), (4, u "LOG2_ARRAY_INT_INDEX_SCALE"), (6, .class_ 61), (0, u "[B"), (0, .methodref 21 63), (0, .nameAndType 64 65), (0, u "signedHashCode"), (0, u "(I[BII)I"), (42, u "JLA"), (0, u "Ljdk/internal/access/JavaLangAccess;"), (11, u "LOG2_ARRAY_BOOLEAN_INDEX_SCALE"), (9, u "LOG2_ARRAY_BYTE_INDEX_SCALE"), (5, u "LOG2_ARRAY_CHAR_INDEX_SCALE"), (5, u "LOG2_ARRAY_SHORT_INDEX_SCALE"), (18, u "LOG2_ARRAY_FLOAT_INDEX_SCALE"), (24, u "LOG2_ARRAY_DOUBLE_INDEX_SCALE"), (89, u "T_BOOLEAN"), (2, u "T_CHAR"), (1, u "T_FLOAT"), (1, u "T_DOUBLE"), (1, u "T_BYTE"), (1, u "T_SHORT"), (1, u "T_INT"), (1, u "T_LONG"), (1, u "SOFT_MAX_ARRAY_LENGTH"), (26, u "vectorizedHashCode"), (0, u "(Ljava/lang/Object;IIII)I")] 55

def k12m0 : Method := { name := "<init>", desc := "()V", sig := { parameters := [], returnType := none }, accessFlags := 2, code := none }
def k12c1 : Code := { maxStack := 4, maxLocals := 5, code := jdk_48_method_4_code, exceptionTable := #[], attributes := #[] }
def k12m1 : Method := { name := "vectorizedHashCode", desc := "(Ljava/lang/Object;IIII)I", sig := { parameters := [(.object "java/lang/Object"), .int, .int, .int, .int], returnType := some .int }, accessFlags := 9, code := some k12c1 }
def k12c2 : Code := { maxStack := 3, maxLocals := 6, code := jdk_48_method_5_code, exceptionTable := #[], attributes := #[] }
def k12m2 : Method := { name := "signedHashCode", desc := "(I[BII)I", sig := { parameters := [.int, (.array .byte), .int, .int], returnType := some .int }, accessFlags := 10, code := some k12c2 }
/-- jdk/internal/util/ArraysSupport -/
def k12 : Class := { plain "jdk/internal/util/ArraysSupport" (some 0) with
  accessFlags := 33
  interfaces := #[]
  cf := some (fileOf pool12 21 #[] #[{ accessFlags := 2, nameIndex := 9, descriptorIndex := 19, attributes := #[] }, { accessFlags := 9, nameIndex := 321, descriptorIndex := 322, attributes := #[] }, { accessFlags := 10, nameIndex := 64, descriptorIndex := 65, attributes := #[] }] 33 16 #[] #[{ accessFlags := 24, nameIndex := 28, descriptorIndex := 29, attributes := #[] }, { accessFlags := 26, nameIndex := 38, descriptorIndex := 39, attributes := #[] }, { accessFlags := 25, nameIndex := 121, descriptorIndex := 25, attributes := #[] }, { accessFlags := 25, nameIndex := 131, descriptorIndex := 25, attributes := #[] }, { accessFlags := 25, nameIndex := 137, descriptorIndex := 25, attributes := #[] }, { accessFlags := 25, nameIndex := 143, descriptorIndex := 25, attributes := #[] }, { accessFlags := 25, nameIndex := 53, descriptorIndex := 25, attributes := #[] }, { accessFlags := 25, nameIndex := 24, descriptorIndex := 25, attributes := #[] }, { accessFlags := 25, nameIndex := 162, descriptorIndex := 25, attributes := #[] }, { accessFlags := 25, nameIndex := 187, descriptorIndex := 25, attributes := #[] }, { accessFlags := 26, nameIndex := 48, descriptorIndex := 25, attributes := #[] }, { accessFlags := 25, nameIndex := 277, descriptorIndex := 25, attributes := #[] }, { accessFlags := 25, nameIndex := 280, descriptorIndex := 25, attributes := #[] }, { accessFlags := 25, nameIndex := 282, descriptorIndex := 25, attributes := #[] }, { accessFlags := 25, nameIndex := 284, descriptorIndex := 25, attributes := #[] }, { accessFlags := 25, nameIndex := 286, descriptorIndex := 25, attributes := #[] }, { accessFlags := 25, nameIndex := 288, descriptorIndex := 25, attributes := #[] }, { accessFlags := 25, nameIndex := 290, descriptorIndex := 25, attributes := #[] }, { accessFlags := 25, nameIndex := 292, descriptorIndex := 25, attributes := #[] }, { accessFlags := 26, nameIndex := 108, descriptorIndex := 109, attributes := #[] }, { accessFlags := 25, nameIndex := 294, descriptorIndex := 25, attributes := #[] }])
  fields := #[{ name := "U", type := (.object "jdk/internal/misc/Unsafe"), accessFlags := 24, slot := 0, constantValue := 0 }, { name := "BIG_ENDIAN", type := .boolean, accessFlags := 26, slot := 1, constantValue := 0 }, { name := "LOG2_ARRAY_BOOLEAN_INDEX_SCALE", type := .int, accessFlags := 25, slot := 2, constantValue := 0 }, { name := "LOG2_ARRAY_BYTE_INDEX_SCALE", type := .int, accessFlags := 25, slot := 3, constantValue := 0 }, { name := "LOG2_ARRAY_CHAR_INDEX_SCALE", type := .int, accessFlags := 25, slot := 4, constantValue := 0 }, { name := "LOG2_ARRAY_SHORT_INDEX_SCALE", type := .int, accessFlags := 25, slot := 5, constantValue := 0 }, { name := "LOG2_ARRAY_INT_INDEX_SCALE", type := .int, accessFlags := 25, slot := 6, constantValue := 0 }, { name := "LOG2_ARRAY_LONG_INDEX_SCALE", type := .int, accessFlags := 25, slot := 7, constantValue := 0 }, { name := "LOG2_ARRAY_FLOAT_INDEX_SCALE", type := .int, accessFlags := 25, slot := 8, constantValue := 0 }, { name := "LOG2_ARRAY_DOUBLE_INDEX_SCALE", type := .int, accessFlags := 25, slot := 9, constantValue := 0 }, { name := "LOG2_BYTE_BIT_SIZE", type := .int, accessFlags := 26, slot := 10, constantValue := 0 }, { name := "T_BOOLEAN", type := .int, accessFlags := 25, slot := 11, constantValue := 0 }, { name := "T_CHAR", type := .int, accessFlags := 25, slot := 12, constantValue := 0 }, { name := "T_FLOAT", type := .int, accessFlags := 25, slot := 13, constantValue := 0 }, { name := "T_DOUBLE", type := .int, accessFlags := 25, slot := 14, constantValue := 0 }, { name := "T_BYTE", type := .int, accessFlags := 25, slot := 15, constantValue := 0 }, { name := "T_SHORT", type := .int, accessFlags := 25, slot := 16, constantValue := 0 }, { name := "T_INT", type := .int, accessFlags := 25, slot := 17, constantValue := 0 }, { name := "T_LONG", type := .int, accessFlags := 25, slot := 18, constantValue := 0 }, { name := "JLA", type := (.object "jdk/internal/access/JavaLangAccess"), accessFlags := 26, slot := 19, constantValue := 0 }, { name := "SOFT_MAX_ARRAY_LENGTH", type := .int, accessFlags := 25, slot := 20, constantValue := 0 }]
  methods := #[k12m0, k12m1, k12m2]
  instanceTypes := #[]
  staticTypes := #[(.object "jdk/internal/misc/Unsafe"), .boolean, .int, .int, .int, .int, .int, .int, .int, .int, .int, .int, .int, .int, .int, .int, .int, .int, .int, (.object "jdk/internal/access/JavaLangAccess"), .int]
  resolved := Array.replicate 378 none
  statics := none }

def pool13 : Array CpInfo := pool [(1, u "java/lang/Cloneable"), (0, .class_ 1), (0, u "java/lang/Object"), (0, .class_ 3)] 3

/-- java/lang/Cloneable -/
def k13 : Class := { plain "java/lang/Cloneable" (some 0) with
  accessFlags := 1537
  interfaces := #[]
  cf := some (fileOf pool13 2 #[] #[] 1537 4 #[] #[])
  fields := #[]
  methods := #[]
  instanceTypes := #[]
  staticTypes := #[]
  resolved := Array.replicate 8 none
  statics := none }

/-- the primitive byte -/
def k14 : Class := { plain "byte" none with kind := .primitive 'B', accessFlags := 0x411 }
/-- [B -/
def k15 : Class := { plain "[B" (some 0) with kind := .array 14 .byte, interfaces := #[13, 2], accessFlags := 1041 }

/-- the primitive char -/
def k16 : Class := { plain "char" none with kind := .primitive 'C', accessFlags := 0x411 }
/-- [C -/
def k17 : Class := { plain "[C" (some 0) with kind := .array 16 .char, interfaces := #[13, 2], accessFlags := 1041 }

def heap : Heap := #[{ cls := 7, slots := #[.long 0, .int 1, .null, .int 0, .null, .int 0, .int 0], vm := .statics 7 },
  { cls := 11, slots := #[.null, .null, .null], vm := .statics 11 }]
def classes : Array Class := #[k0, k1, k2, k3, k4, k5, k6, k7, k8, k9, k10, k11, k12, k13, k14, k15, k16, k17]
def interned : List (Array UInt16 × Addr) := []
def slotsUsed : Nat := 10
def theMethod : MethodId := ⟨1, 4⟩
def args0 : Array Value := #[.int 5, .int 6, .int 7, .int 8, .int 9]
def aboutOver (below : List Frame) : State where
  vm := { classes := classes, interned := interned.toArray }
  heap := heap
  slotsUsed := slotsUsed
  threads := #[{ frames := .invoking theMethod args0 :: below }]
def below0 : List Frame := [.native { method := ⟨0, 0⟩, args := #[] }]
def about1 : State := aboutOver below0
def p0 : Program := .bare "" "" ""
def e0 : Env := launch0.env 0 0 0
theorem w_frames : about1.frames = Frame.invoking theMethod args0 :: below0 := rfl
set_option maxRecDepth 65536 in
theorem w_args : argsFit about1.vm theMethod args0 = true := by decide +kernel
set_option maxRecDepth 65536 in
theorem w_heap : heapFits about1 = true := by decide +kernel
set_option maxRecDepth 65536 in
theorem w_runnable : about1.curStatus? = some .runnable := by decide +kernel
set_option maxRecDepth 65536 in
theorem w_alone : about1.alone = true := by decide +kernel
set_option maxRecDepth 65536 in
theorem w_named : about1.methodNamed? x = some theMethod := by decide +kernel
set_option maxRecDepth 65536 in
theorem w_hears : about1.hears theMethod below0 = true := by decide +kernel
set_option maxRecDepth 65536 in
theorem w_ripe : about1.ripe theMethod args0 below0 = true := by decide +kernel
theorem w_running : about1.status = .running := rfl
set_option maxRecDepth 65536 in
theorem w_room : about1.hasRoom e0.platform room_1 = true :=
  launch0.hasRoom_least _ room_1 (by decide +kernel) (by decide +kernel) (by decide +kernel) (by decide +kernel) (by decide +kernel) (by decide +kernel)
theorem allAtoms_all (ts : List Jvm.Cond) (a : Array Jvm.Value) (st : Jvm.State) : (allAtoms ts).before a st = ts.all (fun c => c.before a st) := by
  induction ts with
  | nil => rfl
  | cons c t ih =>
    show (Jvm.Cond.and c (allAtoms t)).before a st = _
    rw [Jvm.Cond.before_and, ih, List.all_cons]
def words1 : List Jvm.Cond := Jvm.Cond.code x code maxLocals ret :: tables_1
/-- a 'code' word, met by the world's own term for the bytes: nothing is compared byte by byte -/
theorem code_word {y : MethodName} {bytes : ByteArray} {mx : Nat} {rt : Option FieldType} {a : Array Value} {s : State} {m : MethodId} {meth : Method} {c : Code} (h1 : s.methodNamed? y = some m) (h2 : s.vm.method? m = some meth) (h3 : meth.code = some c) (h4 : c.code = bytes)
    (h5 : (c.maxLocals == mx && c.exceptionTable.isEmpty && decide (c.maxStack ≤ mostOperands) && decide (meth.sig.returnType = rt) && !meth.locks && decide (parseMethodDescriptor y.desc = some meth.sig)) = true) : (Jvm.Cond.code y bytes mx rt).before a s = true := by
  simp only [Bool.and_eq_true, beq_iff_eq, Bool.not_eq_true', decide_eq_true_eq] at h5
  obtain ⟨⟨⟨⟨⟨g1, g2⟩, g3⟩, g4⟩, g5⟩, g6⟩ := h5
  simp [Cond.before, Cond.holds, Cond.value, h1, h2, h3, h4, g1, g2, g3, g4, g5, g6]
def isCode : Jvm.Cond → Bool
  | .code _ _ _ _ => true
  | _ => false
theorem all_split {L : List Jvm.Cond} {P : Jvm.Cond → Bool} (h1 : L.all (fun c => isCode c || P c) = true) (h2 : ∀ c ∈ L.filter isCode, P c = true) : L.all P = true := by
  refine List.all_eq_true.mpr fun c hc => ?_
  have h := List.all_eq_true.mp h1 c hc
  rcases Bool.eq_false_or_eq_true (isCode c) with hi | hi
  · exact h2 c (List.mem_filter.mpr ⟨hc, hi⟩)
  · simpa [hi] using h
set_option maxRecDepth 65536 in
theorem w_c0 : (Jvm.Cond.code x code maxLocals ret).before args0 about1 = true := code_word (m := ⟨1, 4⟩) (meth := k1m4) (c := k1c4) (by decide +kernel) rfl rfl rfl (by decide +kernel)
set_option maxRecDepth 65536 in
theorem w_c1 : (Jvm.Cond.code ({ cls := "com/example/rendezpoint/rendezpoint/core/NameOfPinLaw", name := "valid", desc := "(I)C" } : Jvm.MethodName) method_3_code (2 : Nat) (Option.some Jvm.ClassFile.FieldType.char)).before args0 about1 = true := code_word (m := ⟨1, 2⟩) (meth := k1m2) (c := k1c2) (by decide +kernel) rfl rfl rfl (by decide +kernel)
set_option maxRecDepth 65536 in
theorem w_c2 : (Jvm.Cond.code ({ cls := "com/example/rendezpoint/rendezpoint/core/NameOfPinLaw", name := "index", desc := "(I)I" } : Jvm.MethodName) method_2_code (1 : Nat) (Option.some Jvm.ClassFile.FieldType.int)).before args0 about1 = true := code_word (m := ⟨1, 1⟩) (meth := k1m1) (c := k1c1) (by decide +kernel) rfl rfl rfl (by decide +kernel)
set_option maxRecDepth 65536 in
theorem w_c3 : (Jvm.Cond.code ({ cls := "com/example/rendezpoint/rendezpoint/core/NameOfPinLaw", name := "folded", desc := "(I)C" } : Jvm.MethodName) method_4_code (2 : Nat) (Option.some Jvm.ClassFile.FieldType.char)).before args0 about1 = true := code_word (m := ⟨1, 3⟩) (meth := k1m3) (c := k1c3) (by decide +kernel) rfl rfl rfl (by decide +kernel)
set_option maxRecDepth 65536 in
theorem w_c4 : (Jvm.Cond.code ({ cls := "java/lang/String", name := "<init>", desc := "([C)V" } : Jvm.MethodName) jdk_42_method_3_code (2 : Nat) (Option.none : Option Jvm.ClassFile.FieldType)).before args0 about1 = true := code_word (m := ⟨7, 1⟩) (meth := k7m1) (c := k7c1) (by decide +kernel) rfl rfl rfl (by decide +kernel)
set_option maxRecDepth 65536 in
theorem w_c5 : (Jvm.Cond.code ({ cls := "java/lang/String", name := "<init>", desc := "([CIILjava/lang/Void;)V" } : Jvm.MethodName) jdk_42_method_149_code (6 : Nat) (Option.none : Option Jvm.ClassFile.FieldType)).before args0 about1 = true := code_word (m := ⟨7, 7⟩) (meth := k7m7) (c := k7c7) (by decide +kernel) rfl rfl rfl (by decide +kernel)
set_option maxRecDepth 65536 in
theorem w_c6 : (Jvm.Cond.code ({ cls := "java/lang/Object", name := "<init>", desc := "()V" } : Jvm.MethodName) object_method_1_code (1 : Nat) (Option.none : Option Jvm.ClassFile.FieldType)).before args0 about1 = true := code_word (m := ⟨0, 0⟩) (meth := k0m0) (c := k0c0) (by decide +kernel) rfl rfl rfl (by decide +kernel)
set_option maxRecDepth 65536 in
theorem w_c7 : (Jvm.Cond.code ({ cls := "java/lang/StringUTF16", name := "compress", desc := "([CII)[B" } : Jvm.MethodName) jdk_52_method_16_code (6 : Nat) (Option.some (Jvm.ClassFile.FieldType.array Jvm.ClassFile.FieldType.byte))).before args0 about1 = true := code_word (m := ⟨8, 2⟩) (meth := k8m2) (c := k8c2) (by decide +kernel) rfl rfl rfl (by decide +kernel)
set_option maxRecDepth 65536 in
theorem w_c8 : (Jvm.Cond.code ({ cls := "java/lang/StringUTF16", name := "compress", desc := "([CI[BII)I" } : Jvm.MethodName) jdk_52_method_21_code (7 : Nat) (Option.some Jvm.ClassFile.FieldType.int)).before args0 about1 = true := code_word (m := ⟨8, 3⟩) (meth := k8m3) (c := k8c3) (by decide +kernel) rfl rfl rfl (by decide +kernel)
set_option maxRecDepth 65536 in
theorem w_c9 : (Jvm.Cond.code ({ cls := "java/lang/StringUTF16", name := "coderFromArrayLen", desc := "([BI)B" } : Jvm.MethodName) jdk_52_method_15_code (2 : Nat) (Option.some Jvm.ClassFile.FieldType.byte)).before args0 about1 = true := code_word (m := ⟨8, 1⟩) (meth := k8m1) (c := k8c1) (by decide +kernel) rfl rfl rfl (by decide +kernel)
set_option maxRecDepth 65536 in
theorem w_c10 : (Jvm.Cond.code ({ cls := "com/example/rendezpoint/rendezpoint/core/Name", name := "of", desc := "(Ljava/lang/String;)Lcom/example/rendezpoint/rendezpoint/core/Name;" } : Jvm.MethodName) prog_6_method_2_code (5 : Nat) (Option.some (Jvm.ClassFile.FieldType.object "com/example/rendezpoint/rendezpoint/core/Name"))).before args0 about1 = true := code_word (m := ⟨9, 1⟩) (meth := k9m1) (c := k9c1) (by decide +kernel) rfl rfl rfl (by decide +kernel)
set_option maxRecDepth 65536 in
theorem w_c11 : (Jvm.Cond.code ({ cls := "java/lang/String", name := "isEmpty", desc := "()Z" } : Jvm.MethodName) jdk_42_method_55_code (1 : Nat) (Option.some Jvm.ClassFile.FieldType.boolean)).before args0 about1 = true := code_word (m := ⟨7, 3⟩) (meth := k7m3) (c := k7c3) (by decide +kernel) rfl rfl rfl (by decide +kernel)
set_option maxRecDepth 65536 in
theorem w_c12 : (Jvm.Cond.code ({ cls := "java/lang/String", name := "length", desc := "()I" } : Jvm.MethodName) jdk_42_method_54_code (1 : Nat) (Option.some Jvm.ClassFile.FieldType.int)).before args0 about1 = true := code_word (m := ⟨7, 2⟩) (meth := k7m2) (c := k7c2) (by decide +kernel) rfl rfl rfl (by decide +kernel)
set_option maxRecDepth 65536 in
theorem w_c13 : (Jvm.Cond.code ({ cls := "java/lang/String", name := "coder", desc := "()B" } : Jvm.MethodName) jdk_42_method_152_code (1 : Nat) (Option.some Jvm.ClassFile.FieldType.byte)).before args0 about1 = true := code_word (m := ⟨7, 8⟩) (meth := k7m8) (c := k7c8) (by decide +kernel) rfl rfl rfl (by decide +kernel)
set_option maxRecDepth 65536 in
theorem w_c14 : (Jvm.Cond.code ({ cls := "java/lang/String", name := "charAt", desc := "(I)C" } : Jvm.MethodName) jdk_42_method_56_code (2 : Nat) (Option.some Jvm.ClassFile.FieldType.char)).before args0 about1 = true := code_word (m := ⟨7, 4⟩) (meth := k7m4) (c := k7c4) (by decide +kernel) rfl rfl rfl (by decide +kernel)
set_option maxRecDepth 65536 in
theorem w_c15 : (Jvm.Cond.code ({ cls := "java/lang/String", name := "isLatin1", desc := "()Z" } : Jvm.MethodName) jdk_42_method_154_code (1 : Nat) (Option.some Jvm.ClassFile.FieldType.boolean)).before args0 about1 = true := code_word (m := ⟨7, 9⟩) (meth := k7m9) (c := k7c9) (by decide +kernel) rfl rfl rfl (by decide +kernel)
set_option maxRecDepth 65536 in
theorem w_c16 : (Jvm.Cond.code ({ cls := "java/lang/StringLatin1", name := "charAt", desc := "([BI)C" } : Jvm.MethodName) jdk_43_method_2_code (2 : Nat) (Option.some Jvm.ClassFile.FieldType.char)).before args0 about1 = true := code_word (m := ⟨10, 1⟩) (meth := k10m1) (c := k10c1) (by decide +kernel) rfl rfl rfl (by decide +kernel)
set_option maxRecDepth 65536 in
theorem w_c17 : (Jvm.Cond.code ({ cls := "java/lang/String", name := "checkIndex", desc := "(II)V" } : Jvm.MethodName) jdk_42_method_155_code (2 : Nat) (Option.none : Option Jvm.ClassFile.FieldType)).before args0 about1 = true := code_word (m := ⟨7, 10⟩) (meth := k7m10) (c := k7c10) (by decide +kernel) rfl rfl rfl (by decide +kernel)
set_option maxRecDepth 65536 in
theorem w_c18 : (Jvm.Cond.code ({ cls := "jdk/internal/util/Preconditions", name := "checkIndex", desc := "(IILjava/util/function/BiFunction;)I" } : Jvm.MethodName) jdk_41_method_11_code (3 : Nat) (Option.some Jvm.ClassFile.FieldType.int)).before args0 about1 = true := code_word (m := ⟨11, 1⟩) (meth := k11m1) (c := k11c1) (by decide +kernel) rfl rfl rfl (by decide +kernel)
set_option maxRecDepth 65536 in
theorem w_c19 : (Jvm.Cond.code ({ cls := "com/example/rendezpoint/rendezpoint/core/Name", name := "lowerCase", desc := "(C)C" } : Jvm.MethodName) prog_6_method_5_code (1 : Nat) (Option.some Jvm.ClassFile.FieldType.char)).before args0 about1 = true := code_word (m := ⟨9, 2⟩) (meth := k9m2) (c := k9c2) (by decide +kernel) rfl rfl rfl (by decide +kernel)
set_option maxRecDepth 65536 in
theorem w_c20 : (Jvm.Cond.code ({ cls := "com/example/rendezpoint/rendezpoint/core/Name", name := "<init>", desc := "(Ljava/lang/String;Ljava/lang/String;)V" } : Jvm.MethodName) prog_6_method_1_code (3 : Nat) (Option.none : Option Jvm.ClassFile.FieldType)).before args0 about1 = true := code_word (m := ⟨9, 0⟩) (meth := k9m0) (c := k9c0) (by decide +kernel) rfl rfl rfl (by decide +kernel)
set_option maxRecDepth 65536 in
theorem w_c21 : (Jvm.Cond.code ({ cls := "com/example/rendezpoint/rendezpoint/core/Name", name := "toString", desc := "()Ljava/lang/String;" } : Jvm.MethodName) prog_6_method_9_code (1 : Nat) (Option.some (Jvm.ClassFile.FieldType.object "java/lang/String"))).before args0 about1 = true := code_word (m := ⟨9, 6⟩) (meth := k9m6) (c := k9c6) (by decide +kernel) rfl rfl rfl (by decide +kernel)
set_option maxRecDepth 65536 in
theorem w_c22 : (Jvm.Cond.code ({ cls := "java/lang/String", name := "equals", desc := "(Ljava/lang/Object;)Z" } : Jvm.MethodName) jdk_42_method_66_code (3 : Nat) (Option.some Jvm.ClassFile.FieldType.boolean)).before args0 about1 = true := code_word (m := ⟨7, 5⟩) (meth := k7m5) (c := k7c5) (by decide +kernel) rfl rfl rfl (by decide +kernel)
set_option maxRecDepth 65536 in
theorem w_c23 : (Jvm.Cond.code ({ cls := "com/example/rendezpoint/rendezpoint/core/Name", name := "key", desc := "()Ljava/lang/String;" } : Jvm.MethodName) prog_6_method_8_code (1 : Nat) (Option.some (Jvm.ClassFile.FieldType.object "java/lang/String"))).before args0 about1 = true := code_word (m := ⟨9, 5⟩) (meth := k9m5) (c := k9c5) (by decide +kernel) rfl rfl rfl (by decide +kernel)
set_option maxRecDepth 65536 in
theorem w_c24 : (Jvm.Cond.code ({ cls := "java/lang/StringLatin1", name := "equals", desc := "([B[B)Z" } : Jvm.MethodName) jdk_43_method_13_code (3 : Nat) (Option.some Jvm.ClassFile.FieldType.boolean)).before args0 about1 = true := code_word (m := ⟨10, 2⟩) (meth := k10m2) (c := k10c2) (by decide +kernel) rfl rfl rfl (by decide +kernel)
set_option maxRecDepth 65536 in
theorem w_c25 : (Jvm.Cond.code ({ cls := "com/example/rendezpoint/rendezpoint/core/Name", name := "equals", desc := "(Ljava/lang/Object;)Z" } : Jvm.MethodName) prog_6_method_6_code (3 : Nat) (Option.some Jvm.ClassFile.FieldType.boolean)).before args0 about1 = true := code_word (m := ⟨9, 3⟩) (meth := k9m3) (c := k9c3) (by decide +kernel) rfl rfl rfl (by decide +kernel)
set_option maxRecDepth 65536 in
theorem w_c26 : (Jvm.Cond.code ({ cls := "com/example/rendezpoint/rendezpoint/core/Name", name := "hashCode", desc := "()I" } : Jvm.MethodName) prog_6_method_7_code (1 : Nat) (Option.some Jvm.ClassFile.FieldType.int)).before args0 about1 = true := code_word (m := ⟨9, 4⟩) (meth := k9m4) (c := k9c4) (by decide +kernel) rfl rfl rfl (by decide +kernel)
set_option maxRecDepth 65536 in
theorem w_c27 : (Jvm.Cond.code ({ cls := "java/lang/String", name := "hashCode", desc := "()I" } : Jvm.MethodName) jdk_42_method_78_code (2 : Nat) (Option.some Jvm.ClassFile.FieldType.int)).before args0 about1 = true := code_word (m := ⟨7, 6⟩) (meth := k7m6) (c := k7c6) (by decide +kernel) rfl rfl rfl (by decide +kernel)
set_option maxRecDepth 65536 in
theorem w_c28 : (Jvm.Cond.code ({ cls := "java/lang/StringLatin1", name := "hashCode", desc := "([B)I" } : Jvm.MethodName) jdk_43_method_21_code (1 : Nat) (Option.some Jvm.ClassFile.FieldType.int)).before args0 about1 = true := code_word (m := ⟨10, 3⟩) (meth := k10m3) (c := k10c3) (by decide +kernel) rfl rfl rfl (by decide +kernel)
set_option maxRecDepth 65536 in
theorem w_c29 : (Jvm.Cond.code ({ cls := "jdk/internal/util/ArraysSupport", name := "vectorizedHashCode", desc := "(Ljava/lang/Object;IIII)I" } : Jvm.MethodName) jdk_48_method_4_code (5 : Nat) (Option.some Jvm.ClassFile.FieldType.int)).before args0 about1 = true := code_word (m := ⟨12, 1⟩) (meth := k12m1) (c := k12c1) (by decide +kernel) rfl rfl rfl (by decide +kernel)
set_option maxRecDepth 65536 in
theorem w_c30 : (Jvm.Cond.code ({ cls := "jdk/internal/util/ArraysSupport", name := "signedHashCode", desc := "(I[BII)I" } : Jvm.MethodName) jdk_48_method_5_code (6 : Nat) (Option.some Jvm.ClassFile.FieldType.int)).before args0 about1 = true := code_word (m := ⟨12, 2⟩) (meth := k12m2) (c := k12c2) (by decide +kernel) rfl rfl rfl (by decide +kernel)
def codes1 : List Jvm.Cond := [Jvm.Cond.code x code maxLocals ret, Jvm.Cond.code ({ cls := "com/example/rendezpoint/rendezpoint/core/NameOfPinLaw", name := "valid", desc := "(I)C" } : Jvm.MethodName) method_3_code (2 : Nat) (Option.some Jvm.ClassFile.FieldType.char), Jvm.Cond.code ({ cls := "com/example/rendezpoint/rendezpoint/core/NameOfPinLaw", name := "index", desc := "(I)I" } : Jvm.MethodName) method_2_code (1 : Nat) (Option.some Jvm.ClassFile.FieldType.int), Jvm.Cond.code ({ cls := "com/example/rendezpoint/rendezpoint/core/NameOfPinLaw", name := "folded", desc := "(I)C" } : Jvm.MethodName) method_4_code (2 : Nat) (Option.some Jvm.ClassFile.FieldType.char), Jvm.Cond.code ({ cls := "java/lang/String", name := "<init>", desc := "([C)V" } : Jvm.MethodName) jdk_42_method_3_code (2 : Nat) (Option.none : Option Jvm.ClassFile.FieldType), Jvm.Cond.code ({ cls := "java/lang/String", name := "<init>", desc := "([CIILjava/lang/Void;)V" } : Jvm.MethodName) jdk_42_method_149_code (6 : Nat) (Option.none : Option Jvm.ClassFile.FieldType), Jvm.Cond.code ({ cls := "java/lang/Object", name := "<init>", desc := "()V" } : Jvm.MethodName) object_method_1_code (1 : Nat) (Option.none : Option Jvm.ClassFile.FieldType), Jvm.Cond.code ({ cls := "java/lang/StringUTF16", name := "compress", desc := "([CII)[B" } : Jvm.MethodName) jdk_52_method_16_code (6 : Nat) (Option.some (Jvm.ClassFile.FieldType.array Jvm.ClassFile.FieldType.byte)), Jvm.Cond.code ({ cls := "java/lang/StringUTF16", name := "compress", desc := "([CI[BII)I" } : Jvm.MethodName) jdk_52_method_21_code (7 : Nat) (Option.some Jvm.ClassFile.FieldType.int), Jvm.Cond.code ({ cls := "java/lang/StringUTF16", name := "coderFromArrayLen", desc := "([BI)B" } : Jvm.MethodName) jdk_52_method_15_code (2 : Nat) (Option.some Jvm.ClassFile.FieldType.byte), Jvm.Cond.code ({ cls := "com/example/rendezpoint/rendezpoint/core/Name", name := "of", desc := "(Ljava/lang/String;)Lcom/example/rendezpoint/rendezpoint/core/Name;" } : Jvm.MethodName) prog_6_method_2_code (5 : Nat) (Option.some (Jvm.ClassFile.FieldType.object "com/example/rendezpoint/rendezpoint/core/Name")), Jvm.Cond.code ({ cls := "java/lang/String", name := "isEmpty", desc := "()Z" } : Jvm.MethodName) jdk_42_method_55_code (1 : Nat) (Option.some Jvm.ClassFile.FieldType.boolean), Jvm.Cond.code ({ cls := "java/lang/String", name := "length", desc := "()I" } : Jvm.MethodName) jdk_42_method_54_code (1 : Nat) (Option.some Jvm.ClassFile.FieldType.int), Jvm.Cond.code ({ cls := "java/lang/String", name := "coder", desc := "()B" } : Jvm.MethodName) jdk_42_method_152_code (1 : Nat) (Option.some Jvm.ClassFile.FieldType.byte), Jvm.Cond.code ({ cls := "java/lang/String", name := "charAt", desc := "(I)C" } : Jvm.MethodName) jdk_42_method_56_code (2 : Nat) (Option.some Jvm.ClassFile.FieldType.char), Jvm.Cond.code ({ cls := "java/lang/String", name := "isLatin1", desc := "()Z" } : Jvm.MethodName) jdk_42_method_154_code (1 : Nat) (Option.some Jvm.ClassFile.FieldType.boolean), Jvm.Cond.code ({ cls := "java/lang/StringLatin1", name := "charAt", desc := "([BI)C" } : Jvm.MethodName) jdk_43_method_2_code (2 : Nat) (Option.some Jvm.ClassFile.FieldType.char), Jvm.Cond.code ({ cls := "java/lang/String", name := "checkIndex", desc := "(II)V" } : Jvm.MethodName) jdk_42_method_155_code (2 : Nat) (Option.none : Option Jvm.ClassFile.FieldType), Jvm.Cond.code ({ cls := "jdk/internal/util/Preconditions", name := "checkIndex", desc := "(IILjava/util/function/BiFunction;)I" } : Jvm.MethodName) jdk_41_method_11_code (3 : Nat) (Option.some Jvm.ClassFile.FieldType.int), Jvm.Cond.code ({ cls := "com/example/rendezpoint/rendezpoint/core/Name", name := "lowerCase", desc := "(C)C" } : Jvm.MethodName) prog_6_method_5_code (1 : Nat) (Option.some Jvm.ClassFile.FieldType.char), Jvm.Cond.code ({ cls := "com/example/rendezpoint/rendezpoint/core/Name", name := "<init>", desc := "(Ljava/lang/String;Ljava/lang/String;)V" } : Jvm.MethodName) prog_6_method_1_code (3 : Nat) (Option.none : Option Jvm.ClassFile.FieldType), Jvm.Cond.code ({ cls := "com/example/rendezpoint/rendezpoint/core/Name", name := "toString", desc := "()Ljava/lang/String;" } : Jvm.MethodName) prog_6_method_9_code (1 : Nat) (Option.some (Jvm.ClassFile.FieldType.object "java/lang/String")), Jvm.Cond.code ({ cls := "java/lang/String", name := "equals", desc := "(Ljava/lang/Object;)Z" } : Jvm.MethodName) jdk_42_method_66_code (3 : Nat) (Option.some Jvm.ClassFile.FieldType.boolean), Jvm.Cond.code ({ cls := "com/example/rendezpoint/rendezpoint/core/Name", name := "key", desc := "()Ljava/lang/String;" } : Jvm.MethodName) prog_6_method_8_code (1 : Nat) (Option.some (Jvm.ClassFile.FieldType.object "java/lang/String")), Jvm.Cond.code ({ cls := "java/lang/StringLatin1", name := "equals", desc := "([B[B)Z" } : Jvm.MethodName) jdk_43_method_13_code (3 : Nat) (Option.some Jvm.ClassFile.FieldType.boolean), Jvm.Cond.code ({ cls := "com/example/rendezpoint/rendezpoint/core/Name", name := "equals", desc := "(Ljava/lang/Object;)Z" } : Jvm.MethodName) prog_6_method_6_code (3 : Nat) (Option.some Jvm.ClassFile.FieldType.boolean), Jvm.Cond.code ({ cls := "com/example/rendezpoint/rendezpoint/core/Name", name := "hashCode", desc := "()I" } : Jvm.MethodName) prog_6_method_7_code (1 : Nat) (Option.some Jvm.ClassFile.FieldType.int), Jvm.Cond.code ({ cls := "java/lang/String", name := "hashCode", desc := "()I" } : Jvm.MethodName) jdk_42_method_78_code (2 : Nat) (Option.some Jvm.ClassFile.FieldType.int), Jvm.Cond.code ({ cls := "java/lang/StringLatin1", name := "hashCode", desc := "([B)I" } : Jvm.MethodName) jdk_43_method_21_code (1 : Nat) (Option.some Jvm.ClassFile.FieldType.int), Jvm.Cond.code ({ cls := "jdk/internal/util/ArraysSupport", name := "vectorizedHashCode", desc := "(Ljava/lang/Object;IIII)I" } : Jvm.MethodName) jdk_48_method_4_code (5 : Nat) (Option.some Jvm.ClassFile.FieldType.int), Jvm.Cond.code ({ cls := "jdk/internal/util/ArraysSupport", name := "signedHashCode", desc := "(I[BII)I" } : Jvm.MethodName) jdk_48_method_5_code (6 : Nat) (Option.some Jvm.ClassFile.FieldType.int)]
set_option maxRecDepth 65536 in
theorem codes_eq : words1.filter isCode = codes1 := rfl
theorem w_codes : ∀ c ∈ words1.filter isCode, c.before args0 about1 = true := by
  rw [codes_eq]
  intro c hc
  simp only [codes1, List.mem_cons, List.not_mem_nil, or_false] at hc
  rcases hc with rfl | rfl | rfl | rfl | rfl | rfl | rfl | rfl | rfl | rfl | rfl | rfl | rfl | rfl | rfl | rfl | rfl | rfl | rfl | rfl | rfl | rfl | rfl | rfl | rfl | rfl | rfl | rfl | rfl | rfl | rfl
  · exact w_c0
  · exact w_c1
  · exact w_c2
  · exact w_c3
  · exact w_c4
  · exact w_c5
  · exact w_c6
  · exact w_c7
  · exact w_c8
  · exact w_c9
  · exact w_c10
  · exact w_c11
  · exact w_c12
  · exact w_c13
  · exact w_c14
  · exact w_c15
  · exact w_c16
  · exact w_c17
  · exact w_c18
  · exact w_c19
  · exact w_c20
  · exact w_c21
  · exact w_c22
  · exact w_c23
  · exact w_c24
  · exact w_c25
  · exact w_c26
  · exact w_c27
  · exact w_c28
  · exact w_c29
  · exact w_c30
set_option maxRecDepth 65536 in
theorem w_t1 : (words1.take 24).all (fun c => isCode c || c.before args0 about1) = true := by decide +kernel
set_option maxRecDepth 65536 in
theorem w_t2 : ((words1.drop 24).take 24).all (fun c => isCode c || c.before args0 about1) = true := by decide +kernel
set_option maxRecDepth 65536 in
theorem w_t3 : (((words1.drop 24).drop 24).take 24).all (fun c => isCode c || c.before args0 about1) = true := by decide +kernel
set_option maxRecDepth 65536 in
theorem w_t4 : ((((words1.drop 24).drop 24).drop 24).take 24).all (fun c => isCode c || c.before args0 about1) = true := by decide +kernel
set_option maxRecDepth 65536 in
theorem w_t5 : (((((words1.drop 24).drop 24).drop 24).drop 24).take 24).all (fun c => isCode c || c.before args0 about1) = true := by decide +kernel
set_option maxRecDepth 65536 in
theorem w_t6 : ((((((words1.drop 24).drop 24).drop 24).drop 24).drop 24).take 24).all (fun c => isCode c || c.before args0 about1) = true := by decide +kernel
set_option maxRecDepth 65536 in
theorem w_t7 : ((((((words1.drop 24).drop 24).drop 24).drop 24).drop 24).drop 24).all (fun c => isCode c || c.before args0 about1) = true := by decide +kernel
theorem w_tables : (allAtoms (Jvm.Cond.code x code maxLocals ret :: tables_1)).before args0 about1 = true := by
  rw [allAtoms_all]
  show words1.all (fun c => c.before args0 about1) = true
  refine all_split ?_ w_codes
  rw [← List.take_append_drop 24 words1, List.all_append, w_t1, ← List.take_append_drop 24 (words1.drop 24), List.all_append, w_t2, ← List.take_append_drop 24 ((words1.drop 24).drop 24), List.all_append, w_t3, ← List.take_append_drop 24 (((words1.drop 24).drop 24).drop 24), List.all_append, w_t4, ← List.take_append_drop 24 ((((words1.drop 24).drop 24).drop 24).drop 24), List.all_append, w_t5, ← List.take_append_drop 24 (((((words1.drop 24).drop 24).drop 24).drop 24).drop 24), List.all_append, w_t6, w_t7]
  rfl
set_option maxRecDepth 65536 in
theorem w_rest : rest_1_c.before args0 about1 = true := by decide +kernel
set_option maxRecDepth 65536 in
theorem w_case : (Jvm.Cond.and given_1 narrow_1).before args0 about1 = true := by decide +kernel
theorem w_applies : (headSpec (Jvm.Cond.code x code maxLocals ret :: tables_1) room_1).applies x e0.platform about1 = true :=
  (Spec.applies_iff w_frames).mpr ⟨w_running, w_runnable, w_alone, w_named, w_hears, w_ripe, w_room, w_tables⟩
theorem atStart : AtStart classFile x code maxLocals ret World_1 tables_1 room_1 Calls_1 rest_1 Pre_1 launch0 p0 e0 about1 theMethod args0 below0 :=
  ⟨lists_1, trivial, launch0.admits_env _ _ _, launch0.least_env, fairChoices_fair.cas, fairChoices_fair.clock, w_frames, w_args, w_heap, w_applies, trivial, w_rest, w_case⟩
end start1
theorem witness_1 : WitnessClaimed_1 := ⟨start1.p0, start1.e0, start1.about1, start1.theMethod, start1.args0, start1.below0, start1.atStart⟩
end Jvm.Pilot.@@N@@
