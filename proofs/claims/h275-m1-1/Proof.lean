import JvmDerived
import JvmDerived.Pilot.@@N@@Statement
import JvmDerived.Pilot.@@N@@Code
set_option linter.unusedVariables false
set_option linter.unusedSimpArgs false
namespace Jvm.Pilot.@@N@@
open Jvm Jvm.ClassFile Sem Op Lib Jvm.Free Jvm.Stand Jvm.LawKit Jvm.RoadKit Bundle Jvm.Pilot.@@N@@.Jvm.D
/-! the walk's own layer (narrow form): Go = "from here the body returns, and Q" -/
abbrev Cx : Type := Program × Env × State × MethodId × Array Value × List Frame × Method × Code
def Wds (Z : State) : Prop := ∃ a0 : Array Value, ∀ d ∈ tables_1, d.before a0 Z = true
def Ok (Z : State) (K : Cx) (own : String) (bytes : ByteArray) (maxL : Nat) (ret : Option FieldType) (nm : String) : Prop :=
  match K with
  | (p, e, s, m, args, below, meth, c) => p.tables.exec = Jvm.exec ∧ c.code = bytes ∧ c.maxLocals = maxL ∧ meth.sig.returnType = ret ∧ s.vm.findClass own = some m.cls ∧ Z.Warmed39 s.vm ∧ meth.name = nm ∧ meth.locks = false ∧ Wds Z
def Go (l : Launch) (Z : State) (n0 : Nat) (R : Room) (K : Cx) (Q : Option Value → Heap → List Addr → Prop) (h : Heap) (sf : List Addr) (k j : Nat) (pc : Nat) (ls : Array Slot) (st : List Value) : Prop :=
  match K with
  | (p, e, s, m, args, below, meth, c) => ∀ (T : State) (locs : List Loc), Stand p l e R s m args below meth c T locs k j → T.heap = h → Fr n0 locs → Old Z n0 h →
      ∃ (s₂ : State) (o : Outcome), Steps p.tables e below (T.setTop (mkF m pc ls st)) s₂ ∧ s₂.status = .running ∧ Ended s₂ below o ∧ ∃ (v : Option Value) (L : List Loc), o = .returned v ∧ ((∃ sn, Q v s₂.heap sn) ∧ Fr n0 L ∧ Old Z n0 s₂.heap) ∧ FrameEnd s o s₂ L R.cells R.slots
def Ctr (l : Launch) (Z : State) (n0 : Nat) (y : MethodName) (bytes : ByteArray) (maxL : Nat) (ret : Option FieldType) (rm : Room) (as : Array Value) (h : Heap) (sf : List Addr) (Q : Option Value → Heap → List Addr → Prop) : Prop :=
  Old Z n0 h → ∀ ws : List Jvm.Cond, MetFree l y (head1 (Jvm.Cond.code y bytes maxL ret :: ws) rm) (fun a U => a = as ∧ Z.Warmed39 U.vm ∧ U.heap = h) (fun _ _ _ _ _ => True) (fun _ U o U' => ∃ v L, o = .returned v ∧ ((∃ sn, Q v U'.heap sn) ∧ Fr n0 L ∧ Old Z n0 U'.heap) ∧ FrameEnd U o U' L rm.cells rm.slots)
section Kit
variable {l : Launch} {Z : State} {n0 : Nat} {R : Room} {K : Cx} {Q : Option Value → Heap → List Addr → Prop} {h : Heap} {sf : List Addr} {k j pc pc' : Nat} {ls : Array Slot} {st : List Value} {own : String} {bytes : ByteArray} {maxL : Nat} {ret : Option FieldType} {nm : String}
theorem Ctr.of_go {y : MethodName} {rm : Room} {as : Array Value} (W : Wds Z) (hp : plainName y.cls = true) (hef : ∀ m, entryFrame m as maxL = mkF m 0 ls []) (hgo : ∀ K, Ok Z K y.cls bytes maxL ret y.name → Go l Z n0 rm K Q h sf 0 0 0 ls []) : Ctr l Z n0 y bytes maxL ret rm as h sf Q := fun hO ws => by
  refine MetFree.of_bodySF (plainFor_of_name hp) hisR ?_
  intro p e s m args below meth c s₁ Bd hml0 hP hK
  obtain ⟨rfl, hZ, hh⟩ := hP
  have X0 : Stand p l e rm s m args below meth c s₁ [] 0 0 := Stand.of_body Bd
  have e0 : s₁.heap = h := by rw [← hh, Bd.state]; rfl
  have hnm := (name_of_methodNamed Bd.named Bd.method).1
  have hlk : meth.locks = false := BodyLoose.notSynchronized Bd
  obtain ⟨s₂, o, h1, h2⟩ := hgo (p, e, s, m, args, below, meth, c) ⟨Bd.exec, Bd.bytes, hml0, Bd.returns, findClass_of_methodNamed Bd.named, hZ, hnm, hlk, W⟩ s₁ [] X0 e0 (Fr.nil n0) hO
  exact ⟨s₂, o, castTop (hef m) h1, h2⟩
theorem Go.of {ls' : Array Slot} {st' : List Value} (H : Ok Z K own bytes maxL ret nm) (step : ∀ (p : Program) (e : Env) (below : List Frame) (T target : State) (m : MethodId) (c : Code), At T m c below → p.tables.exec = Jvm.exec → c.code = bytes → Steps p.tables e below (T.setTop (mkF m pc' ls' st')) target → Steps p.tables e below (T.setTop (mkF m pc ls st)) target) (r : Go l Z n0 R K Q h sf k j pc' ls' st') : Go l Z n0 R K Q h sf k j pc ls st := by
  obtain ⟨p, e, s, m, args, below, meth, c⟩ := K
  intro T locs X eT hF hO
  obtain ⟨s₂, o, h1, h2⟩ := r T locs X eT hF hO
  exact ⟨s₂, o, step p e below T s₂ m c X.here H.1 H.2.1 h1, h2⟩
/-- a step that keeps the heap and may warm the tables -/
theorem Go.of2 {st' : List Value} (H : Ok Z K own bytes maxL ret nm) (step : ∀ (p : Program) (e : Env) (s : State) (m : MethodId) (args : Array Value) (below : List Frame) (meth : Method) (c : Code) (T : State) (locs : List Loc) (a0 : Array Value), (∀ d ∈ tables_1, d.before a0 Z = true) → Stand p l e R s m args below meth c T locs k j → p.tables.exec = Jvm.exec → c.code = bytes → c.maxLocals = maxL → Z.Warmed39 s.vm → s.vm.findClass own = some m.cls → T.heap = h → Old Z n0 h →
      ∃ T', Stand p l e R s m args below meth c T' locs k j ∧ T'.heap = h ∧ ∀ target, Steps p.tables e below (T'.setTop (mkF m pc' ls st')) target → Steps p.tables e below (T.setTop (mkF m pc ls st)) target) (r : Go l Z n0 R K Q h sf k j pc' ls st') : Go l Z n0 R K Q h sf k j pc ls st := by
  obtain ⟨p, e, s, m, args, below, meth, c⟩ := K
  intro T locs X eT hF hO
  obtain ⟨H1, H2, H3, H4, H5, H6, H7, H8, a0, hw⟩ := H
  obtain ⟨T', X', eT', st⟩ := step p e s m args below meth c T locs a0 hw X H1 H2 H3 H6 H5 eT hO
  obtain ⟨s₂, o, h1, h2⟩ := r T' locs X' eT' hF hO
  exact ⟨s₂, o, st _ h1, h2⟩
/-- a step that makes cells -/
theorem Go.ofNew {st' : List Value} {dk dj : Nat} {P : Addr → Heap → Prop} (H : Ok Z K own bytes maxL ret nm) (step : ∀ (p : Program) (e : Env) (s : State) (m : MethodId) (args : Array Value) (below : List Frame) (meth : Method) (c : Code) (T : State) (locs : List Loc) (a0 : Array Value), (∀ d ∈ tables_1, d.before a0 Z = true) → Stand p l e R s m args below meth c T locs k j → p.tables.exec = Jvm.exec → c.code = bytes → Z.Warmed39 s.vm → s.vm.findClass own = some m.cls → T.heap = h →
      ∃ T' h', Stand p l e R s m args below meth c T' locs (k + dk) (j + dj) ∧ T'.heap = h' ∧ Ext h h' ∧ P h.size h' ∧ ∀ target, Steps p.tables e below (T'.setTop (mkF m pc' ls (.ref h.size :: st'))) target → Steps p.tables e below (T.setTop (mkF m pc ls st)) target)
    (r : ∀ (a : Addr) (h' : Heap), a = h.size → n0 ≤ a → Ext h h' → P a h' → Go l Z n0 R K Q h' (a :: sf) (k + dk) (j + dj) pc' ls (.ref a :: st')) : Go l Z n0 R K Q h sf k j pc ls st := by
  obtain ⟨p, e, s, m, args, below, meth, c⟩ := K
  intro T locs X eT hF hO
  obtain ⟨H1, H2, H3, H4, H5, H6, H7, H8, a0, hw⟩ := H
  obtain ⟨T', h', X', eT', E, hP, st⟩ := step p e s m args below meth c T locs a0 hw X H1 H2 H6 H5 eT
  obtain ⟨s₂, o, h1, h2⟩ := r h.size h' rfl (hO.1 ▸ hO.2.1) E hP T' locs X' eT' hF (hO.ext E)
  exact ⟨s₂, o, st _ h1, h2⟩
/-- a step that writes one slot of a cell that is new since n0 -/
theorem Go.ofWr {st' : List Value} {a : Addr} {sl : Nat} {v : Value} (H : Ok Z K own bytes maxL ret nm) (ha : n0 ≤ a) (hs : a ∈ sf) (step : ∀ (p : Program) (e : Env) (s : State) (m : MethodId) (args : Array Value) (below : List Frame) (meth : Method) (c : Code) (T : State) (locs : List Loc) (a0 : Array Value), (∀ d ∈ tables_1, d.before a0 Z = true) → Stand p l e R s m args below meth c T locs k j → p.tables.exec = Jvm.exec → c.code = bytes → Z.Warmed39 s.vm → s.vm.findClass own = some m.cls → meth.name = nm → T.heap = h →
      ∃ T' h', Stand p l e R s m args below meth c T' (locs ++ [⟨a, sl⟩]) k j ∧ T'.heap = h' ∧ Wr h h' a sl v ∧ ∀ target, Steps p.tables e below (T'.setTop (mkF m pc' ls st')) target → Steps p.tables e below (T.setTop (mkF m pc ls st)) target)
    (r : ∀ (h' : Heap), Wr h h' a sl v → Go l Z n0 R K Q h' sf k j pc' ls st') : Go l Z n0 R K Q h sf k j pc ls st := by
  obtain ⟨p, e, s, m, args, below, meth, c⟩ := K
  intro T locs X eT hF hO
  obtain ⟨H1, H2, H3, H4, H5, H6, H7, H8, a0, hw⟩ := H
  obtain ⟨T', h', X', eT', W, st⟩ := step p e s m args below meth c T locs a0 hw X H1 H2 H6 H5 H7 eT
  obtain ⟨s₂, o, h1, h2⟩ := r h' W T' _ X' eT' (Fr.snoc X' hF ha) (hO.wr W ha)
  exact ⟨s₂, o, st _ h1, h2⟩
/-- a step that may write any slots of one cell that is new since n0 -/
theorem Go.ofKeep {st' : List Value} {b : Addr} {P : Heap → Prop} (H : Ok Z K own bytes maxL ret nm) (ha : n0 ≤ b) (hs : b ∈ sf) (step : ∀ (p : Program) (e : Env) (s : State) (m : MethodId) (args : Array Value) (below : List Frame) (meth : Method) (c : Code) (T : State) (locs : List Loc) (a0 : Array Value), (∀ d ∈ tables_1, d.before a0 Z = true) → Stand p l e R s m args below meth c T locs k j → p.tables.exec = Jvm.exec → c.code = bytes → c.maxLocals = maxL → Z.Warmed39 s.vm → s.vm.findClass own = some m.cls → T.heap = h → Fr n0 locs →
      ∃ T' h' L, Stand p l e R s m args below meth c T' L k j ∧ T'.heap = h' ∧ Fr n0 L ∧ Keep h h' [b] ∧ P h' ∧ ∀ target, Steps p.tables e below (T'.setTop (mkF m pc' ls st')) target → Steps p.tables e below (T.setTop (mkF m pc ls st)) target)
    (r : ∀ (h' : Heap), Keep h h' [b] → P h' → Go l Z n0 R K Q h' sf k j pc' ls st') : Go l Z n0 R K Q h sf k j pc ls st := by
  obtain ⟨p, e, s, m, args, below, meth, c⟩ := K
  intro T locs X eT hF hO
  obtain ⟨H1, H2, H3, H4, H5, H6, H7, H8, a0, hw⟩ := H
  obtain ⟨T', h', L, X', eT', hL, hK, hP, st⟩ := step p e s m args below meth c T locs a0 hw X H1 H2 H3 H6 H5 eT hF
  obtain ⟨s₂, o, h1, h2⟩ := r h' hK hP T' L X' eT' hL (hO.keep hK (allS ha all0))
  exact ⟨s₂, o, st _ h1, h2⟩
/-- a call, by whatever law of calls -/
theorem Go.ofCall {y : MethodName} {ybytes : ByteArray} {ymaxL : Nat} {yret : Option FieldType} {rm : Room} {as : Array Value} {Qc : Option Value → Heap → List Addr → Prop} {sfc : List Addr} {rest : List Value} {W : Nat} (H : Ok Z K own bytes maxL ret nm) (ct : Ctr l Z n0 y ybytes ymaxL yret rm as h sfc Qc) (hsf : ∀ x ∈ sfc, x ∈ sf)
    (hc : Jvm.Cond.code y ybytes ymaxL yret ∈ tables_1) (hi : Jvm.Cond.initialized y.cls ∈ tables_1) (hfr : rm.frames + 1 ≤ R.frames) (hlo : W + (ymaxL + 11) + rm.locals ≤ R.locals) (hce : k + rm.cells ≤ R.cells) (hsl : j + rm.slots ≤ R.slots)
    (law : ∀ (p : Program) (e : Env) (s : State) (m : MethodId) (args : Array Value) (below : List Frame) (meth : Method) (c : Code) (T : State) (locs : List Loc) (a0 : Array Value), (∀ d ∈ tables_1, d.before a0 Z = true) → Stand p l e R s m args below meth c T locs k j → p.tables.exec = Jvm.exec → c.code = bytes → c.maxLocals = maxL → Z.Warmed39 s.vm → s.vm.findClass own = some m.cls → T.heap = h →
      ∀ (Pre : Pt → Array Value → Prop) (Post : Pt → Array Value → Option Value → Pt → Prop), Back l R p e below s args y 3 W Pre Post → (∀ vm₁, s.WarmedH vm₁ → Pre ⟨T.setVm vm₁, locs, k, j⟩ as) →
      ∃ (v : Option Value) (vm₁ : Vm) (B : Pt), Stand p l e R s m args below meth c B.U B.locs B.cells B.slots ∧ Post ⟨T.setVm vm₁, locs, k, j⟩ as v B ∧ ∀ target, Steps p.tables e below (B.U.setTop (mkF m pc' ls (v.toList ++ rest))) target → Steps p.tables e below (T.setTop (mkF m pc ls st)) target)
    (r : ∀ (v : Option Value) (h' : Heap) (sn : List Addr), Qc v h' sn → Go l Z n0 R K Q h' (sn ++ sf) (k + rm.cells) (j + rm.slots) pc' ls (v.toList ++ rest)) : Go l Z n0 R K Q h sf k j pc ls st := by
  obtain ⟨p, e, s, m, args, below, meth, c⟩ := K
  intro T locs X eT hF hO
  obtain ⟨H1, H2, H3, H4, H5, H6, H7, H8, a0, hw⟩ := H
  have hB := backOf (p := p) (e := e) (below := below) (args := args) (R := R) (len := 3) (W := W) (Q := fun v h' L => (∃ sn, Qc v h' sn) ∧ Fr n0 L ∧ Old Z n0 h') (ct hO []) H6 (hw _ hc) (hw _ hi) hfr hlo
  obtain ⟨v, vm₁, B, X', ⟨L, ⟨⟨sn, hq⟩, hFL, hO'⟩, e1, e2, e3⟩, stp⟩ := law p e s m args below meth c T locs a0 hw X H1 H2 H3 H6 H5 eT _ _ hB (fun vm₁ _ => ⟨rfl, eT, hce, hsl⟩)
  obtain ⟨U, Lc, kc, jc⟩ := B
  dsimp only [Pt.U, Pt.locs, Pt.cells, Pt.slots] at X' hq hO' e1 e2 e3 stp
  subst e1 e2 e3
  obtain ⟨s₂, o, h1, h2⟩ := r v _ sn hq U _ X' rfl (hF.app hFL) hO'
  exact ⟨s₂, o, stp _ h1, h2⟩
theorem Go.callS {y : MethodName} {ybytes : ByteArray} {ymaxL : Nat} {yret : Option FieldType} {rm : Room} {Qc : Option Value → Heap → List Addr → Prop} {sfc : List Addr} {rest : List Value} (W : Nat) {idx : Nat} (argsL : List Value) {ps : List FieldType} {rt : Option FieldType} (H : Ok Z K own bytes maxL ret nm) (d : decode bytes pc = .ok (.invokestatic idx, 3)) (hp : pc + 3 = pc')
    (hl : Jvm.Cond.methodLink own idx y ∈ tables_1) (hst : Jvm.Cond.static y ∈ tables_1) (hi : Jvm.Cond.initialized y.cls ∈ tables_1) (hc : Jvm.Cond.code y ybytes ymaxL yret ∈ tables_1) (hpd : parseMethodDescriptor y.desc = some ⟨ps, rt⟩)
    (ct : Ctr l Z n0 y ybytes ymaxL yret rm argsL.toArray h sfc Qc) (hsf : ∀ x ∈ sfc, x ∈ sf) (hlen : argsL.length = ps.length) (hsz : ls.size = maxL) (hstk : st = argsL.reverse ++ rest) (hW : (rest.map fun v => v.category).sum ≤ W)
    (hfr : rm.frames + 1 ≤ R.frames) (hlo : W + (ymaxL + 11) + rm.locals ≤ R.locals) (hce : k + rm.cells ≤ R.cells) (hsl : j + rm.slots ≤ R.slots) (hy : y.cls ≠ "java/lang/invoke/MethodHandle" ∧ y.cls ≠ "java/lang/invoke/VarHandle")
    (r : ∀ (v : Option Value) (h' : Heap) (sn : List Addr), Qc v h' sn → Go l Z n0 R K Q h' (sn ++ sf) (k + rm.cells) (j + rm.slots) pc' ls (v.toList ++ rest)) : Go l Z n0 R K Q h sf k j pc ls st := by
  subst hp
  refine Go.ofCall (W := W) (rest := rest) H ct hsf hc hi hfr hlo hce hsl ?_ r
  intro p e s m args below meth c T locs a0 hw X hx hby hml hZ hown eT Pre Post hB hpre
  obtain ⟨v, vm₁, B, -, X', hpost, stp⟩ := Jvm.LawKit.callS X hx (y := y) hown (mvT hZ (hw _ hl)) (mvT hZ (hw _ hst)) (mvT hZ (hw _ hi)) (mvT hZ (hw _ hc)) hy hB (g := mkF m pc ls st) rfl (by rw [hml]; exact hsz) (argsL := argsL) (rest := rest) (lenOf hpd hlen) hstk (by show 2 * 0 + _ ≤ _; simpa using hW) (hb hby d) hpre
  exact ⟨v, vm₁, B, X', hpost, stp⟩
theorem Go.callI {y : MethodName} {ybytes : ByteArray} {ymaxL : Nat} {rm : Room} {Qc : Option Value → Heap → List Addr → Prop} {sfc : List Addr} {rest : List Value} (W : Nat) {idx : Nat} {a : Addr} (argsL : List Value) {ps : List FieldType} {rt : Option FieldType} (H : Ok Z K own bytes maxL ret nm) (d : decode bytes pc = .ok (.invokespecial idx, 3)) (hp : pc + 3 = pc') (hy1 : y.name = "<init>")
    (hl : Jvm.Cond.methodLink own idx y ∈ tables_1) (hst : Jvm.Cond.instanceMethod y ∈ tables_1) (hi : Jvm.Cond.initialized y.cls ∈ tables_1) (hc : Jvm.Cond.code y ybytes ymaxL none ∈ tables_1) (hpd : parseMethodDescriptor y.desc = some ⟨ps, rt⟩)
    (ct : Ctr l Z n0 y ybytes ymaxL none rm (.ref a :: argsL).toArray h sfc Qc) (hsf : ∀ x ∈ sfc, x ∈ sf) (hlen : argsL.length = ps.length) (hsz : ls.size = maxL) (hstk : st = argsL.reverse ++ .ref a :: rest) (hW : (rest.map fun v => v.category).sum ≤ W)
    (hfr : rm.frames + 1 ≤ R.frames) (hlo : W + (ymaxL + 11) + rm.locals ≤ R.locals) (hce : k + rm.cells ≤ R.cells) (hsl : j + rm.slots ≤ R.slots) (hy : y.cls ≠ "java/lang/invoke/MethodHandle" ∧ y.cls ≠ "java/lang/invoke/VarHandle")
    (r : ∀ (v : Option Value) (h' : Heap) (sn : List Addr), Qc v h' sn → Go l Z n0 R K Q h' (sn ++ sf) (k + rm.cells) (j + rm.slots) pc' ls (v.toList ++ rest)) : Go l Z n0 R K Q h sf k j pc ls st := by
  subst hp
  refine Go.ofCall (W := W) (rest := rest) H ct hsf hc hi hfr hlo hce hsl ?_ r
  intro p e s m args below meth c T locs a0 hw X hx hby hml hZ hown eT Pre Post hB hpre
  obtain ⟨v, vm₁, B, -, X', hpost, stp⟩ := X.specialBack hx (y := y) hy1 hown (mvT hZ (hw _ hl)) (mvT hZ (hw _ hst)) (mvT hZ (hw _ hc)) hy hB (g := mkF m pc ls st) rfl (by rw [hml]; exact hsz) (Steps.refl _) (a := a) (argsL := argsL) (rest := rest) (lenOf hpd hlen) hstk (by show 2 * 0 + _ ≤ _; simpa using hW) (hb hby d) hpre
  exact ⟨v, vm₁, B, X', hpost, fun t ht => stp.trans ht⟩
theorem Go.callV {y : MethodName} {C : String} {ybytes : ByteArray} {ymaxL : Nat} {yret : Option FieldType} {rm : Room} {Qc : Option Value → Heap → List Addr → Prop} {sfc : List Addr} {rest : List Value} (W : Nat) {idx : Nat} {a : Addr} (argsL : List Value) {ps : List FieldType} {rt : Option FieldType} (H : Ok Z K own bytes maxL ret nm) (d : decode bytes pc = .ok (.invokevirtual idx, 3)) (hp : pc + 3 = pc') (E : Exa Z h a C)
    (hl : Jvm.Cond.methodLink own idx y ∈ tables_1) (hde : Jvm.Cond.declares y ∈ tables_1) (hse : Jvm.Cond.selects C y y ∈ tables_1) (hst : Jvm.Cond.instanceMethod y ∈ tables_1) (hi : Jvm.Cond.initialized y.cls ∈ tables_1) (hc : Jvm.Cond.code y ybytes ymaxL yret ∈ tables_1) (hpd : parseMethodDescriptor y.desc = some ⟨ps, rt⟩)
    (ct : Ctr l Z n0 y ybytes ymaxL yret rm (.ref a :: argsL).toArray h sfc Qc) (hsf : ∀ x ∈ sfc, x ∈ sf) (hlen : argsL.length = ps.length) (hsz : ls.size = maxL) (hstk : st = argsL.reverse ++ .ref a :: rest) (hW : (rest.map fun v => v.category).sum ≤ W)
    (hfr : rm.frames + 1 ≤ R.frames) (hlo : W + (ymaxL + 11) + rm.locals ≤ R.locals) (hce : k + rm.cells ≤ R.cells) (hsl : j + rm.slots ≤ R.slots) (hy : y.cls ≠ "java/lang/invoke/MethodHandle" ∧ y.cls ≠ "java/lang/invoke/VarHandle")
    (r : ∀ (v : Option Value) (h' : Heap) (sn : List Addr), Qc v h' sn → Go l Z n0 R K Q h' (sn ++ sf) (k + rm.cells) (j + rm.slots) pc' ls (v.toList ++ rest)) : Go l Z n0 R K Q h sf k j pc ls st := by
  subst hp
  refine Go.ofCall (W := W) (rest := rest) H ct hsf hc hi hfr hlo hce hsl ?_ r
  intro p e s m args below meth c T locs a0 hw X hx hby hml hZ hown eT Pre Post hB hpre
  obtain ⟨cq, kq, qa, qb, qc⟩ := isOf hZ eT E
  obtain ⟨v, vm₁, B, -, X', hpost, stp⟩ := X.virtualBack hx (y := y) (z := y) hown (mvT hZ (hw _ hl)) (mvT hZ (hw _ hde)) (notFace_of_selects (args := #[]) (mvT hZ (hw _ hse))) (mvT hZ (hw _ hse)) (mvT hZ (hw _ hst)) hy hB qa qc (g := mkF m pc ls st) rfl (by rw [hml]; exact hsz) (Steps.refl _) (argsL := argsL) (rest := rest) (lenOf hpd hlen) hstk (by show 2 * 0 + _ ≤ _; simpa using hW) (hb hby d) hpre
  exact ⟨v, vm₁, B, X', hpost, fun t ht => stp.trans ht⟩
theorem Go.ret0 {sn : List Addr} {v : Option Value} (H : Ok Z K own bytes maxL ret nm) (hv : ret = none → v = none) (hq : Q v h sn) (hs : ∀ x ∈ sn, x ∈ sf) (hk : k ≤ R.cells) (hj : j ≤ R.slots)
    (step : ∀ (p : Program) (e : Env) (s : State) (m : MethodId) (args : Array Value) (below : List Frame) (meth : Method) (c : Code) (T : State) (locs : List Loc) (fs : List Frame), Stand p l e R s m args below meth c T locs k j → p.tables.exec = Jvm.exec → c.code = bytes → meth.sig.returnType = ret →
      (∀ (f : JFrame) (acts : List Action), f.method = m → f.locked = none → f.entered = [] → (doReturn e (T.setTop f) acts v).1 = T.setFrames fs) → Steps p.tables e below (T.setTop (mkF m pc ls st)) (T.setFrames fs)) : Go l Z n0 R K Q h sf k j pc ls st := by
  obtain ⟨p, e, s, m, args, below, meth, c⟩ := K
  intro T locs X eT hF hO
  obtain ⟨H1, H2, H3, H4, H5, H6, H7, H8, a0, hw⟩ := H
  obtain ⟨fs, hr, hrun, hended, hW, hsame⟩ := X.leave (v := v) (fun q => hv (H4.symm.trans q)) H8
  refine ⟨_, _, step p e s m args below meth c T locs fs X H1 H2 H4 hr, hrun, hended, v, locs, rfl, ⟨⟨sn, ?_⟩, hF, ?_⟩, ⟨_, rfl⟩, hW, hsame.mono hk hj⟩
  · show Q v T.heap sn
    rw [eT]; exact hq
  · show Old Z n0 T.heap
    rw [eT]; exact hO
end Kit
section Steps1
variable {l : Launch} {Z : State} {n0 : Nat} {R : Room} {K : Cx} {Q : Option Value → Heap → List Addr → Prop} {h : Heap} {sf : List Addr} {k j pc pc' : Nat} {ls ls' : Array Slot} {st : List Value} {own : String} {bytes : ByteArray} {maxL : Nat} {ret : Option FieldType} {nm : String}
theorem Go.aload {i : Nat} {v : Value} (H : Ok Z K own bytes maxL ret nm) (d : decode bytes pc = .ok (.aload i, 2)) (hp : pc + 2 = pc') (hl : ls[i]? = some (.val v)) (hv : v.isRef = true) (r : Go l Z n0 R K Q h sf k j pc' ls (v :: st)) : Go l Z n0 R K Q h sf k j pc ls st := by
  subst hp
  exact Go.of H (fun p e below T t m c hA hx hby hr => XS.aload hA hx rfl (hb hby d) hl hv hr) r
theorem Go.aloadN {i : Fin 4} {v : Value} (H : Ok Z K own bytes maxL ret nm) (d : decode bytes pc = .ok (.aload_n i, 1)) (hp : pc + 1 = pc') (hl : ls[i.val]? = some (.val v)) (hv : v.isRef = true) (r : Go l Z n0 R K Q h sf k j pc' ls (v :: st)) : Go l Z n0 R K Q h sf k j pc ls st := by
  subst hp
  exact Go.of H (fun p e below T t m c hA hx hby hr => XS.aloadN hA hx rfl (hb hby d) hl hv hr) r
theorem Go.iload {i : Nat} {v : Int32} (H : Ok Z K own bytes maxL ret nm) (d : decode bytes pc = .ok (.iload i, 2)) (hp : pc + 2 = pc') (hl : ls[i]? = some (.val (.int v))) (r : Go l Z n0 R K Q h sf k j pc' ls (.int v :: st)) : Go l Z n0 R K Q h sf k j pc ls st := by
  subst hp
  exact Go.of H (fun p e below T t m c hA hx hby hr => XS.iload hA hx rfl (hb hby d) hl hr) r
theorem Go.iloadN {i : Fin 4} {v : Int32} (H : Ok Z K own bytes maxL ret nm) (d : decode bytes pc = .ok (.iload_n i, 1)) (hp : pc + 1 = pc') (hl : ls[i.val]? = some (.val (.int v))) (r : Go l Z n0 R K Q h sf k j pc' ls (.int v :: st)) : Go l Z n0 R K Q h sf k j pc ls st := by
  subst hp
  exact Go.of H (fun p e below T t m c hA hx hby hr => XS.iloadN hA hx rfl (hb hby d) hl hr) r
theorem Go.lload {i : Nat} {v : Int64} (H : Ok Z K own bytes maxL ret nm) (d : decode bytes pc = .ok (.lload i, 2)) (hp : pc + 2 = pc') (hl : ls[i]? = some (.val (.long v))) (r : Go l Z n0 R K Q h sf k j pc' ls (.long v :: st)) : Go l Z n0 R K Q h sf k j pc ls st := by
  subst hp
  exact Go.of H (fun p e below T t m c hA hx hby hr => XS.lload hA hx rfl (hb hby d) hl hr) r
theorem Go.lloadN {i : Fin 4} {v : Int64} (H : Ok Z K own bytes maxL ret nm) (d : decode bytes pc = .ok (.lload_n i, 1)) (hp : pc + 1 = pc') (hl : ls[i.val]? = some (.val (.long v))) (r : Go l Z n0 R K Q h sf k j pc' ls (.long v :: st)) : Go l Z n0 R K Q h sf k j pc ls st := by
  subst hp
  exact Go.of H (fun p e below T t m c hA hx hby hr => XS.lloadN hA hx rfl (hb hby d) hl hr) r
theorem Go.istore {i : Nat} {x : Int32} (H : Ok Z K own bytes maxL ret nm) (d : decode bytes pc = .ok (.istore i, 2)) (hp : pc + 2 = pc') (hl : storeLocals ls i (.int x) = some ls') (r : Go l Z n0 R K Q h sf k j pc' ls' st) : Go l Z n0 R K Q h sf k j pc ls (.int x :: st) := by
  subst hp
  exact Go.of H (fun p e below T t m c hA hx hby hr => XS.istore hA hx rfl (hb hby d) rfl hl hr) r
theorem Go.istoreN {i : Fin 4} {x : Int32} (H : Ok Z K own bytes maxL ret nm) (d : decode bytes pc = .ok (.istore_n i, 1)) (hp : pc + 1 = pc') (hl : storeLocals ls i.val (.int x) = some ls') (r : Go l Z n0 R K Q h sf k j pc' ls' st) : Go l Z n0 R K Q h sf k j pc ls (.int x :: st) := by
  subst hp
  exact Go.of H (fun p e below T t m c hA hx hby hr => XS.istoreN hA hx rfl (hb hby d) rfl hl hr) r
theorem Go.lstore {i : Nat} {x : Int64} (H : Ok Z K own bytes maxL ret nm) (d : decode bytes pc = .ok (.lstore i, 2)) (hp : pc + 2 = pc') (hl : storeLocals ls i (.long x) = some ls') (r : Go l Z n0 R K Q h sf k j pc' ls' st) : Go l Z n0 R K Q h sf k j pc ls (.long x :: st) := by
  subst hp
  exact Go.of H (fun p e below T t m c hA hx hby hr => XS.lstore hA hx rfl (hb hby d) rfl hl hr) r
theorem Go.lstoreN {i : Fin 4} {x : Int64} (H : Ok Z K own bytes maxL ret nm) (d : decode bytes pc = .ok (.lstore_n i, 1)) (hp : pc + 1 = pc') (hl : storeLocals ls i.val (.long x) = some ls') (r : Go l Z n0 R K Q h sf k j pc' ls' st) : Go l Z n0 R K Q h sf k j pc ls (.long x :: st) := by
  subst hp
  exact Go.of H (fun p e below T t m c hA hx hby hr => XS.lstoreN hA hx rfl (hb hby d) rfl hl hr) r
theorem Go.astore {i : Nat} {x : Value} (H : Ok Z K own bytes maxL ret nm) (d : decode bytes pc = .ok (.astore i, 2)) (hp : pc + 2 = pc') (hv : x.isRef = true) (hl : storeLocals ls i x = some ls') (r : Go l Z n0 R K Q h sf k j pc' ls' st) : Go l Z n0 R K Q h sf k j pc ls (x :: st) := by
  subst hp
  exact Go.of H (fun p e below T t m c hA hx hby hr => XS.astore hA hx rfl (hb hby d) rfl hv hl hr) r
theorem Go.astoreN {i : Fin 4} {x : Value} (H : Ok Z K own bytes maxL ret nm) (d : decode bytes pc = .ok (.astore_n i, 1)) (hp : pc + 1 = pc') (hv : x.isRef = true) (hl : storeLocals ls i.val x = some ls') (r : Go l Z n0 R K Q h sf k j pc' ls' st) : Go l Z n0 R K Q h sf k j pc ls (x :: st) := by
  subst hp
  exact Go.of H (fun p e below T t m c hA hx hby hr => XS.astoreN hA hx rfl (hb hby d) rfl hv hl hr) r
theorem Go.iconst {i : Int} (v : Int32) (H : Ok Z K own bytes maxL ret nm) (d : decode bytes pc = .ok (.iconst i, 1)) (hp : pc + 1 = pc') (hv : Int32.ofInt i = v) (r : Go l Z n0 R K Q h sf k j pc' ls (.int v :: st)) : Go l Z n0 R K Q h sf k j pc ls st := by
  subst hp
  exact Go.of H (fun p e below T t m c hA hx hby hr => XS.iconst hA hx rfl (hb hby d) (hv ▸ hr)) r
theorem Go.bipush {i : Int} (v : Int32) (H : Ok Z K own bytes maxL ret nm) (d : decode bytes pc = .ok (.bipush i, 2)) (hp : pc + 2 = pc') (hv : (Int8.ofInt i).toInt32 = v) (r : Go l Z n0 R K Q h sf k j pc' ls (.int v :: st)) : Go l Z n0 R K Q h sf k j pc ls st := by
  subst hp
  exact Go.of H (fun p e below T t m c hA hx hby hr => XS.bipush hA hx rfl (hb hby d) (hv ▸ hr)) r
theorem Go.sipush {i : Int} (v : Int32) (H : Ok Z K own bytes maxL ret nm) (d : decode bytes pc = .ok (.sipush i, 3)) (hp : pc + 3 = pc') (hv : (Int16.ofInt i).toInt32 = v) (r : Go l Z n0 R K Q h sf k j pc' ls (.int v :: st)) : Go l Z n0 R K Q h sf k j pc ls st := by
  subst hp
  exact Go.of H (fun p e below T t m c hA hx hby hr => XS.sipush hA hx rfl (hb hby d) (hv ▸ hr)) r
theorem Go.lconst {i : Fin 2} (v : Int64) (H : Ok Z K own bytes maxL ret nm) (d : decode bytes pc = .ok (.lconst i, 1)) (hp : pc + 1 = pc') (hv : Int64.ofNat i.val = v) (r : Go l Z n0 R K Q h sf k j pc' ls (.long v :: st)) : Go l Z n0 R K Q h sf k j pc ls st := by
  subst hp
  exact Go.of H (fun p e below T t m c hA hx hby hr => XS.lconst hA hx rfl (hb hby d) (hv ▸ hr)) r
theorem Go.aconstNull  (H : Ok Z K own bytes maxL ret nm) (d : decode bytes pc = .ok (.aconst_null, 1)) (hp : pc + 1 = pc')  (r : Go l Z n0 R K Q h sf k j pc' ls (.null :: st)) : Go l Z n0 R K Q h sf k j pc ls st := by
  subst hp
  exact Go.of H (fun p e below T t m c hA hx hby hr => XS.aconstNull hA hx rfl (hb hby d) hr) r
theorem Go.iadd {x y : Int32} (H : Ok Z K own bytes maxL ret nm) (d : decode bytes pc = .ok (.iadd, 1)) (hp : pc + 1 = pc')  (r : Go l Z n0 R K Q h sf k j pc' ls (.int (x + y) :: st)) : Go l Z n0 R K Q h sf k j pc ls (.int y :: .int x :: st) := by
  subst hp
  exact Go.of H (fun p e below T t m c hA hx hby hr => XS.iadd hA hx rfl (hb hby d) rfl hr) r
theorem Go.isub {x y : Int32} (H : Ok Z K own bytes maxL ret nm) (d : decode bytes pc = .ok (.isub, 1)) (hp : pc + 1 = pc')  (r : Go l Z n0 R K Q h sf k j pc' ls (.int (x - y) :: st)) : Go l Z n0 R K Q h sf k j pc ls (.int y :: .int x :: st) := by
  subst hp
  exact Go.of H (fun p e below T t m c hA hx hby hr => XS.isub hA hx rfl (hb hby d) rfl hr) r
theorem Go.imul {x y : Int32} (H : Ok Z K own bytes maxL ret nm) (d : decode bytes pc = .ok (.imul, 1)) (hp : pc + 1 = pc')  (r : Go l Z n0 R K Q h sf k j pc' ls (.int (x * y) :: st)) : Go l Z n0 R K Q h sf k j pc ls (.int y :: .int x :: st) := by
  subst hp
  exact Go.of H (fun p e below T t m c hA hx hby hr => XS.imul hA hx rfl (hb hby d) rfl hr) r
theorem Go.iand {x y : Int32} (H : Ok Z K own bytes maxL ret nm) (d : decode bytes pc = .ok (.iand, 1)) (hp : pc + 1 = pc')  (r : Go l Z n0 R K Q h sf k j pc' ls (.int (x &&& y) :: st)) : Go l Z n0 R K Q h sf k j pc ls (.int y :: .int x :: st) := by
  subst hp
  exact Go.of H (fun p e below T t m c hA hx hby hr => XS.iand hA hx rfl (hb hby d) rfl hr) r
theorem Go.ior {x y : Int32} (H : Ok Z K own bytes maxL ret nm) (d : decode bytes pc = .ok (.ior, 1)) (hp : pc + 1 = pc')  (r : Go l Z n0 R K Q h sf k j pc' ls (.int (x ||| y) :: st)) : Go l Z n0 R K Q h sf k j pc ls (.int y :: .int x :: st) := by
  subst hp
  exact Go.of H (fun p e below T t m c hA hx hby hr => XS.ior hA hx rfl (hb hby d) rfl hr) r
theorem Go.ixor {x y : Int32} (H : Ok Z K own bytes maxL ret nm) (d : decode bytes pc = .ok (.ixor, 1)) (hp : pc + 1 = pc')  (r : Go l Z n0 R K Q h sf k j pc' ls (.int (x ^^^ y) :: st)) : Go l Z n0 R K Q h sf k j pc ls (.int y :: .int x :: st) := by
  subst hp
  exact Go.of H (fun p e below T t m c hA hx hby hr => XS.ixor hA hx rfl (hb hby d) rfl hr) r
theorem Go.ladd {x y : Int64} (H : Ok Z K own bytes maxL ret nm) (d : decode bytes pc = .ok (.ladd, 1)) (hp : pc + 1 = pc')  (r : Go l Z n0 R K Q h sf k j pc' ls (.long (x + y) :: st)) : Go l Z n0 R K Q h sf k j pc ls (.long y :: .long x :: st) := by
  subst hp
  exact Go.of H (fun p e below T t m c hA hx hby hr => XS.ladd hA hx rfl (hb hby d) rfl hr) r
theorem Go.lsub {x y : Int64} (H : Ok Z K own bytes maxL ret nm) (d : decode bytes pc = .ok (.lsub, 1)) (hp : pc + 1 = pc')  (r : Go l Z n0 R K Q h sf k j pc' ls (.long (x - y) :: st)) : Go l Z n0 R K Q h sf k j pc ls (.long y :: .long x :: st) := by
  subst hp
  exact Go.of H (fun p e below T t m c hA hx hby hr => XS.lsub hA hx rfl (hb hby d) rfl hr) r
theorem Go.lmul {x y : Int64} (H : Ok Z K own bytes maxL ret nm) (d : decode bytes pc = .ok (.lmul, 1)) (hp : pc + 1 = pc')  (r : Go l Z n0 R K Q h sf k j pc' ls (.long (x * y) :: st)) : Go l Z n0 R K Q h sf k j pc ls (.long y :: .long x :: st) := by
  subst hp
  exact Go.of H (fun p e below T t m c hA hx hby hr => XS.lmul hA hx rfl (hb hby d) rfl hr) r
theorem Go.land {x y : Int64} (H : Ok Z K own bytes maxL ret nm) (d : decode bytes pc = .ok (.land, 1)) (hp : pc + 1 = pc')  (r : Go l Z n0 R K Q h sf k j pc' ls (.long (x &&& y) :: st)) : Go l Z n0 R K Q h sf k j pc ls (.long y :: .long x :: st) := by
  subst hp
  exact Go.of H (fun p e below T t m c hA hx hby hr => XS.land hA hx rfl (hb hby d) rfl hr) r
theorem Go.lor {x y : Int64} (H : Ok Z K own bytes maxL ret nm) (d : decode bytes pc = .ok (.lor, 1)) (hp : pc + 1 = pc')  (r : Go l Z n0 R K Q h sf k j pc' ls (.long (x ||| y) :: st)) : Go l Z n0 R K Q h sf k j pc ls (.long y :: .long x :: st) := by
  subst hp
  exact Go.of H (fun p e below T t m c hA hx hby hr => XS.lor hA hx rfl (hb hby d) rfl hr) r
theorem Go.lxor {x y : Int64} (H : Ok Z K own bytes maxL ret nm) (d : decode bytes pc = .ok (.lxor, 1)) (hp : pc + 1 = pc')  (r : Go l Z n0 R K Q h sf k j pc' ls (.long (x ^^^ y) :: st)) : Go l Z n0 R K Q h sf k j pc ls (.long y :: .long x :: st) := by
  subst hp
  exact Go.of H (fun p e below T t m c hA hx hby hr => XS.lxor hA hx rfl (hb hby d) rfl hr) r
theorem Go.ishl {x y : Int32} (H : Ok Z K own bytes maxL ret nm) (d : decode bytes pc = .ok (.ishl, 1)) (hp : pc + 1 = pc')  (r : Go l Z n0 R K Q h sf k j pc' ls (.int (x <<< (y &&& 31)) :: st)) : Go l Z n0 R K Q h sf k j pc ls (.int y :: .int x :: st) := by
  subst hp
  exact Go.of H (fun p e below T t m c hA hx hby hr => XS.ishl hA hx rfl (hb hby d) rfl hr) r
theorem Go.ishr {x y : Int32} (H : Ok Z K own bytes maxL ret nm) (d : decode bytes pc = .ok (.ishr, 1)) (hp : pc + 1 = pc')  (r : Go l Z n0 R K Q h sf k j pc' ls (.int (x >>> (y &&& 31)) :: st)) : Go l Z n0 R K Q h sf k j pc ls (.int y :: .int x :: st) := by
  subst hp
  exact Go.of H (fun p e below T t m c hA hx hby hr => XS.ishr hA hx rfl (hb hby d) rfl hr) r
theorem Go.iushr {x y : Int32} (H : Ok Z K own bytes maxL ret nm) (d : decode bytes pc = .ok (.iushr, 1)) (hp : pc + 1 = pc')  (r : Go l Z n0 R K Q h sf k j pc' ls (.int ((x.toUInt32 >>> (y &&& 31).toUInt32).toInt32) :: st)) : Go l Z n0 R K Q h sf k j pc ls (.int y :: .int x :: st) := by
  subst hp
  exact Go.of H (fun p e below T t m c hA hx hby hr => XS.iushr hA hx rfl (hb hby d) rfl hr) r
theorem Go.lshl {x : Int64} {y : Int32} (H : Ok Z K own bytes maxL ret nm) (d : decode bytes pc = .ok (.lshl, 1)) (hp : pc + 1 = pc')  (r : Go l Z n0 R K Q h sf k j pc' ls (.long (x <<< (y &&& 0x3f).toInt64) :: st)) : Go l Z n0 R K Q h sf k j pc ls (.int y :: .long x :: st) := by
  subst hp
  exact Go.of H (fun p e below T t m c hA hx hby hr => XS.lshl hA hx rfl (hb hby d) rfl hr) r
theorem Go.lshr {x : Int64} {y : Int32} (H : Ok Z K own bytes maxL ret nm) (d : decode bytes pc = .ok (.lshr, 1)) (hp : pc + 1 = pc')  (r : Go l Z n0 R K Q h sf k j pc' ls (.long (x >>> (y &&& 0x3f).toInt64) :: st)) : Go l Z n0 R K Q h sf k j pc ls (.int y :: .long x :: st) := by
  subst hp
  exact Go.of H (fun p e below T t m c hA hx hby hr => XS.lshr hA hx rfl (hb hby d) rfl hr) r
theorem Go.lushr {x : Int64} {y : Int32} (H : Ok Z K own bytes maxL ret nm) (d : decode bytes pc = .ok (.lushr, 1)) (hp : pc + 1 = pc')  (r : Go l Z n0 R K Q h sf k j pc' ls (.long ((x.toUInt64 >>> (y &&& 0x3f).toInt64.toUInt64).toInt64) :: st)) : Go l Z n0 R K Q h sf k j pc ls (.int y :: .long x :: st) := by
  subst hp
  exact Go.of H (fun p e below T t m c hA hx hby hr => XS.lushr hA hx rfl (hb hby d) rfl hr) r
theorem Go.idiv {x y : Int32} (H : Ok Z K own bytes maxL ret nm) (d : decode bytes pc = .ok (.idiv, 1)) (hp : pc + 1 = pc') (hy : y ≠ 0) (r : Go l Z n0 R K Q h sf k j pc' ls (.int (x / y) :: st)) : Go l Z n0 R K Q h sf k j pc ls (.int y :: .int x :: st) := by
  subst hp
  exact Go.of H (fun p e below T t m c hA hx hby hr => XS.idiv hA hx rfl (hb hby d) rfl hy hr) r
theorem Go.irem {x y : Int32} (H : Ok Z K own bytes maxL ret nm) (d : decode bytes pc = .ok (.irem, 1)) (hp : pc + 1 = pc') (hy : y ≠ 0) (r : Go l Z n0 R K Q h sf k j pc' ls (.int (x % y) :: st)) : Go l Z n0 R K Q h sf k j pc ls (.int y :: .int x :: st) := by
  subst hp
  exact Go.of H (fun p e below T t m c hA hx hby hr => XS.irem hA hx rfl (hb hby d) rfl hy (by rw [irem_eq_mod x y]; exact hr)) r
theorem Go.ldiv {x y : Int64} (H : Ok Z K own bytes maxL ret nm) (d : decode bytes pc = .ok (.ldiv, 1)) (hp : pc + 1 = pc') (hy : y ≠ 0) (r : Go l Z n0 R K Q h sf k j pc' ls (.long (x / y) :: st)) : Go l Z n0 R K Q h sf k j pc ls (.long y :: .long x :: st) := by
  subst hp
  exact Go.of H (fun p e below T t m c hA hx hby hr => XS.ldiv hA hx rfl (hb hby d) rfl hy hr) r
theorem Go.lrem {x y : Int64} (H : Ok Z K own bytes maxL ret nm) (d : decode bytes pc = .ok (.lrem, 1)) (hp : pc + 1 = pc') (hy : y ≠ 0) (r : Go l Z n0 R K Q h sf k j pc' ls (.long (x % y) :: st)) : Go l Z n0 R K Q h sf k j pc ls (.long y :: .long x :: st) := by
  subst hp
  exact Go.of H (fun p e below T t m c hA hx hby hr => XS.lrem hA hx rfl (hb hby d) rfl hy (by rw [lrem_mod x y]; exact hr)) r
theorem Go.ineg {x : Int32} (H : Ok Z K own bytes maxL ret nm) (d : decode bytes pc = .ok (.ineg, 1)) (hp : pc + 1 = pc')  (r : Go l Z n0 R K Q h sf k j pc' ls (.int (-x) :: st)) : Go l Z n0 R K Q h sf k j pc ls (.int x :: st) := by
  subst hp
  exact Go.of H (fun p e below T t m c hA hx hby hr => XS.ineg hA hx rfl (hb hby d) rfl hr) r
theorem Go.lneg {x : Int64} (H : Ok Z K own bytes maxL ret nm) (d : decode bytes pc = .ok (.lneg, 1)) (hp : pc + 1 = pc')  (r : Go l Z n0 R K Q h sf k j pc' ls (.long (-x) :: st)) : Go l Z n0 R K Q h sf k j pc ls (.long x :: st) := by
  subst hp
  exact Go.of H (fun p e below T t m c hA hx hby hr => XS.lneg hA hx rfl (hb hby d) rfl hr) r
theorem Go.i2c {x : Int32} (H : Ok Z K own bytes maxL ret nm) (d : decode bytes pc = .ok (.i2c, 1)) (hp : pc + 1 = pc')  (r : Go l Z n0 R K Q h sf k j pc' ls (.int (nar .char x) :: st)) : Go l Z n0 R K Q h sf k j pc ls (.int x :: st) := by
  subst hp
  exact Go.of H (fun p e below T t m c hA hx hby hr => XS.i2c hA hx rfl (hb hby d) rfl hr) r
theorem Go.i2b {x : Int32} (H : Ok Z K own bytes maxL ret nm) (d : decode bytes pc = .ok (.i2b, 1)) (hp : pc + 1 = pc')  (r : Go l Z n0 R K Q h sf k j pc' ls (.int (nar .byte x) :: st)) : Go l Z n0 R K Q h sf k j pc ls (.int x :: st) := by
  subst hp
  exact Go.of H (fun p e below T t m c hA hx hby hr => XS.i2b hA hx rfl (hb hby d) rfl hr) r
theorem Go.i2s {x : Int32} (H : Ok Z K own bytes maxL ret nm) (d : decode bytes pc = .ok (.i2s, 1)) (hp : pc + 1 = pc')  (r : Go l Z n0 R K Q h sf k j pc' ls (.int (nar .short x) :: st)) : Go l Z n0 R K Q h sf k j pc ls (.int x :: st) := by
  subst hp
  exact Go.of H (fun p e below T t m c hA hx hby hr => XS.i2s hA hx rfl (hb hby d) rfl hr) r
theorem Go.i2l {x : Int32} (H : Ok Z K own bytes maxL ret nm) (d : decode bytes pc = .ok (.i2l, 1)) (hp : pc + 1 = pc')  (r : Go l Z n0 R K Q h sf k j pc' ls (.long x.toInt64 :: st)) : Go l Z n0 R K Q h sf k j pc ls (.int x :: st) := by
  subst hp
  exact Go.of H (fun p e below T t m c hA hx hby hr => XS.i2l hA hx rfl (hb hby d) rfl hr) r
theorem Go.l2i {x : Int64} (H : Ok Z K own bytes maxL ret nm) (d : decode bytes pc = .ok (.l2i, 1)) (hp : pc + 1 = pc')  (r : Go l Z n0 R K Q h sf k j pc' ls (.int x.toInt32 :: st)) : Go l Z n0 R K Q h sf k j pc ls (.long x :: st) := by
  subst hp
  exact Go.of H (fun p e below T t m c hA hx hby hr => XS.l2i hA hx rfl (hb hby d) rfl hr) r
theorem Go.lcmp {x y : Int64} (H : Ok Z K own bytes maxL ret nm) (d : decode bytes pc = .ok (.lcmp, 1)) (hp : pc + 1 = pc')  (r : Go l Z n0 R K Q h sf k j pc' ls (.int (lcmpW x y) :: st)) : Go l Z n0 R K Q h sf k j pc ls (.long y :: .long x :: st) := by
  subst hp
  exact Go.of H (fun p e below T t m c hA hx hby hr => XS.lcmp hA hx rfl (hb hby d) rfl hr) r
theorem Go.iinc {i : Nat} {cst : Int} {x : Int32} (v : Int32) (H : Ok Z K own bytes maxL ret nm) (d : decode bytes pc = .ok (.iinc i cst, 3)) (hp : pc + 3 = pc') (hl : ls[i]? = some (.val (.int x))) (hv : Int32.ofInt cst = v) (hl' : storeLocals ls i (.int (x + v)) = some ls') (r : Go l Z n0 R K Q h sf k j pc' ls' st) : Go l Z n0 R K Q h sf k j pc ls st := by
  subst hp
  exact Go.of H (fun p e below T t m c hA hx hby hr => XS.iinc hA hx rfl (hb hby d) hl (by rw [hv]; exact hl') hr) r
theorem Go.dup {x : Value} (H : Ok Z K own bytes maxL ret nm) (d : decode bytes pc = .ok (.dup, 1)) (hp : pc + 1 = pc') (hc : x.category = 1) (r : Go l Z n0 R K Q h sf k j pc' ls (x :: x :: st)) : Go l Z n0 R K Q h sf k j pc ls (x :: st) := by
  subst hp
  exact Go.of H (fun p e below T t m c hA hx hby hr => XS.dup hA hx rfl (hb hby d) rfl hc hr) r
theorem Go.pop {x : Value} (H : Ok Z K own bytes maxL ret nm) (d : decode bytes pc = .ok (.pop, 1)) (hp : pc + 1 = pc') (hc : x.category = 1) (r : Go l Z n0 R K Q h sf k j pc' ls st) : Go l Z n0 R K Q h sf k j pc ls (x :: st) := by
  subst hp
  exact Go.of H (fun p e below T t m c hA hx hby hr => XS.pop hA hx rfl (hb hby d) rfl hc hr) r
theorem Go.dupX1 {x y : Value} (H : Ok Z K own bytes maxL ret nm) (d : decode bytes pc = .ok (.dup_x1, 1)) (hp : pc + 1 = pc') (hc : x.category = 1) (hc' : y.category = 1) (r : Go l Z n0 R K Q h sf k j pc' ls (x :: y :: x :: st)) : Go l Z n0 R K Q h sf k j pc ls (x :: y :: st) := by
  subst hp
  exact Go.of H (fun p e below T t m c hA hx hby hr => XT.dupX1 hA hx rfl (hb hby d) rfl hc hc' hr) r
theorem Go.dup2 {x y : Value} (H : Ok Z K own bytes maxL ret nm) (d : decode bytes pc = .ok (.dup2, 1)) (hp : pc + 1 = pc') (hc : x.category = 1) (hc' : y.category = 1) (r : Go l Z n0 R K Q h sf k j pc' ls (x :: y :: x :: y :: st)) : Go l Z n0 R K Q h sf k j pc ls (x :: y :: st) := by
  subst hp
  exact Go.of H (fun p e below T t m c hA hx hby hr => XT.dup2 hA hx rfl (hb hby d) rfl hc hc' hr) r
theorem Go.goto {o : Int} (H : Ok Z K own bytes maxL ret nm) (d : decode bytes pc = .ok (.goto o, 3)) (ho : 0 ≤ (pc : Int) + o) (hp : ((pc : Int) + o).toNat = pc') (r : Go l Z n0 R K Q h sf k j pc' ls st) : Go l Z n0 R K Q h sf k j pc ls st := Go.of H (fun p e below T t m c hA hx hby hr => XS.goto hA hx rfl (pc0 := pc) (pc' := pc') rfl (hb hby d) ho hp hr) r
theorem Go.icmpY {cd : ClassFile.Cond} {x y : Int32} {o : Int} (H : Ok Z K own bytes maxL ret nm) (d : decode bytes pc = .ok (.if_icmp cd o, 3)) (hc : if_icmp.holds cd x y = true) (ho : 0 ≤ (pc : Int) + o) (hp : ((pc : Int) + o).toNat = pc') (r : Go l Z n0 R K Q h sf k j pc' ls st) : Go l Z n0 R K Q h sf k j pc ls (.int y :: .int x :: st) := Go.of H (fun p e below T t m c hA hx hby hr => XS.icmpYes hA hx rfl (pc0 := pc) (pc' := pc') rfl (hb hby d) rfl hc ho hp hr) r
theorem Go.icmpN {cd : ClassFile.Cond} {x y : Int32} {o : Int} (H : Ok Z K own bytes maxL ret nm) (d : decode bytes pc = .ok (.if_icmp cd o, 3)) (hc : if_icmp.holds cd x y = false) (hp : pc + 3 = pc') (r : Go l Z n0 R K Q h sf k j pc' ls st) : Go l Z n0 R K Q h sf k j pc ls (.int y :: .int x :: st) := by
  subst hp
  exact Go.of H (fun p e below T t m c hA hx hby hr => XS.icmpNo hA hx rfl (hb hby d) rfl hc hr) r
theorem Go.ifY {cd : ClassFile.Cond} {x : Int32} {o : Int} (H : Ok Z K own bytes maxL ret nm) (d : decode bytes pc = .ok (.ifCond cd o, 3)) (hc : if_icmp.holds cd x 0 = true) (ho : 0 ≤ (pc : Int) + o) (hp : ((pc : Int) + o).toNat = pc') (r : Go l Z n0 R K Q h sf k j pc' ls st) : Go l Z n0 R K Q h sf k j pc ls (.int x :: st) := Go.of H (fun p e below T t m c hA hx hby hr => XS.ifYes hA hx rfl (pc0 := pc) (pc' := pc') rfl (hb hby d) rfl ((if0 _ _).trans hc) ho hp hr) r
theorem Go.ifN {cd : ClassFile.Cond} {x : Int32} {o : Int} (H : Ok Z K own bytes maxL ret nm) (d : decode bytes pc = .ok (.ifCond cd o, 3)) (hc : if_icmp.holds cd x 0 = false) (hp : pc + 3 = pc') (r : Go l Z n0 R K Q h sf k j pc' ls st) : Go l Z n0 R K Q h sf k j pc ls (.int x :: st) := by
  subst hp
  exact Go.of H (fun p e below T t m c hA hx hby hr => XS.ifNo hA hx rfl (hb hby d) rfl ((if0 _ _).trans hc) hr) r
theorem Go.ifnullY {o : Int} (H : Ok Z K own bytes maxL ret nm) (d : decode bytes pc = .ok (.ifnull o, 3)) (ho : 0 ≤ (pc : Int) + o) (hp : ((pc : Int) + o).toNat = pc') (r : Go l Z n0 R K Q h sf k j pc' ls st) : Go l Z n0 R K Q h sf k j pc ls (.null :: st) := Go.of H (fun p e below T t m c hA hx hby hr => XS.ifnullYes hA hx rfl (pc0 := pc) (pc' := pc') rfl (hb hby d) rfl ho hp hr) r
theorem Go.ifnullN {b : Addr} {o : Int} (H : Ok Z K own bytes maxL ret nm) (d : decode bytes pc = .ok (.ifnull o, 3)) (hp : pc + 3 = pc') (r : Go l Z n0 R K Q h sf k j pc' ls st) : Go l Z n0 R K Q h sf k j pc ls (.ref b :: st) := by
  subst hp
  exact Go.of H (fun p e below T t m c hA hx hby hr => XS.ifnullNo hA hx rfl (hb hby d) rfl hr) r
theorem Go.ifnonnullY {b : Addr} {o : Int} (H : Ok Z K own bytes maxL ret nm) (d : decode bytes pc = .ok (.ifnonnull o, 3)) (ho : 0 ≤ (pc : Int) + o) (hp : ((pc : Int) + o).toNat = pc') (r : Go l Z n0 R K Q h sf k j pc' ls st) : Go l Z n0 R K Q h sf k j pc ls (.ref b :: st) := Go.of H (fun p e below T t m c hA hx hby hr => XS.ifnonnullYes hA hx rfl (pc0 := pc) (pc' := pc') rfl (hb hby d) rfl ho hp hr) r
theorem Go.ifnonnullN {o : Int} (H : Ok Z K own bytes maxL ret nm) (d : decode bytes pc = .ok (.ifnonnull o, 3)) (hp : pc + 3 = pc') (r : Go l Z n0 R K Q h sf k j pc' ls st) : Go l Z n0 R K Q h sf k j pc ls (.null :: st) := by
  subst hp
  exact Go.of H (fun p e below T t m c hA hx hby hr => XS.ifnonnullNo hA hx rfl (hb hby d) rfl hr) r
theorem Go.acmpY {cd : ClassFile.ACond} {x y : Value} {o : Int} (H : Ok Z K own bytes maxL ret nm) (d : decode bytes pc = .ok (.if_acmp cd o, 3)) (h1 : x.isRef = true) (h2 : y.isRef = true) (hc : XT.acmp cd x y = true) (ho : 0 ≤ (pc : Int) + o) (hp : ((pc : Int) + o).toNat = pc') (r : Go l Z n0 R K Q h sf k j pc' ls st) : Go l Z n0 R K Q h sf k j pc ls (y :: x :: st) := Go.of H (fun p e below T t m c hA hx hby hr => XT.acmpYes hA hx rfl (pc0 := pc) (pc' := pc') rfl (hb hby d) rfl h1 h2 hc ho hp hr) r
theorem Go.acmpN {cd : ClassFile.ACond} {x y : Value} {o : Int} (H : Ok Z K own bytes maxL ret nm) (d : decode bytes pc = .ok (.if_acmp cd o, 3)) (h1 : x.isRef = true) (h2 : y.isRef = true) (hc : XT.acmp cd x y = false) (hp : pc + 3 = pc') (r : Go l Z n0 R K Q h sf k j pc' ls st) : Go l Z n0 R K Q h sf k j pc ls (y :: x :: st) := by
  subst hp
  exact Go.of H (fun p e below T t m c hA hx hby hr => XT.acmpNo hA hx rfl (hb hby d) rfl h1 h2 hc hr) r
theorem Go.ldcInt {idx : Nat} {v : Int32} (H : Ok Z K own bytes maxL ret nm) (d : decode bytes pc = .ok (.ldc idx, 2)) (hp : pc + 2 = pc') (w : Jvm.Cond.constant own idx v ∈ tables_1) (r : Go l Z n0 R K Q h sf k j pc' ls (.int v :: st)) : Go l Z n0 R K Q h sf k j pc ls st := by
  subst hp
  refine Go.of2 H ?_ r
  intro p e s m args below meth c T locs a0 hw X hx hby hml hZ hown eT hO
  exact ⟨T, X, eT, fun t hr => X.ldcInt hx hown (mvT hZ (hw _ w)) (g := mkF m pc ls st) rfl (hb hby d) t hr⟩
theorem Go.ldcWInt {idx : Nat} {v : Int32} (H : Ok Z K own bytes maxL ret nm) (d : decode bytes pc = .ok (.ldc_w idx, 3)) (hp : pc + 3 = pc') (w : Jvm.Cond.constant own idx v ∈ tables_1) (r : Go l Z n0 R K Q h sf k j pc' ls (.int v :: st)) : Go l Z n0 R K Q h sf k j pc ls st := by
  subst hp
  refine Go.of2 H ?_ r
  intro p e s m args below meth c T locs a0 hw X hx hby hml hZ hown eT hO
  exact ⟨T, X, eT, fun t hr => X.ldcwInt hx hown (mvT hZ (hw _ w)) (g := mkF m pc ls st) rfl (hb hby d) t hr⟩
theorem Go.ldc2 {idx : Nat} {v : Int64} (H : Ok Z K own bytes maxL ret nm) (d : decode bytes pc = .ok (.ldc2_w idx, 3)) (hp : pc + 3 = pc') (w : Jvm.Cond.constantLong own idx v ∈ tables_1) (r : Go l Z n0 R K Q h sf k j pc' ls (.long v :: st)) : Go l Z n0 R K Q h sf k j pc ls st := by
  subst hp
  refine Go.of2 H ?_ r
  intro p e s m args below meth c T locs a0 hw X hx hby hml hZ hown eT hO
  exact ⟨T, X, eT, fun t hr => X.ldc2Long hx hown (mvT hZ (hw _ w)) (g := mkF m pc ls st) rfl (hb hby d) t hr⟩
theorem Go.getfield {idx : Nat} {O n d' : String} {a : Addr} {v : Value} (H : Ok Z K own bytes maxL ret nm) (d : decode bytes pc = .ok (.getfield idx, 3)) (hp : pc + 3 = pc') (w : Jvm.Cond.fieldLink own idx O n d' ∈ tables_1) (F : Fld Z h a O n d' v) (r : Go l Z n0 R K Q h sf k j pc' ls (v :: st)) : Go l Z n0 R K Q h sf k j pc ls (.ref a :: st) := by
  subst hp
  refine Go.of2 H ?_ r
  intro p e s m args below meth c T locs a0 hw X hx hby hml hZ hown eT hO
  exact getF X hx hZ hown (host := "") (Or.inl (hw _ w)) Via.refl eT F (g := mkF m pc ls (.ref a :: st)) rfl rfl (hb hby d)
theorem Go.getstatic {idx : Nat} {O n d' : String} {v : Value} (H : Ok Z K own bytes maxL ret nm) (d : decode bytes pc = .ok (.getstatic idx, 3)) (hp : pc + 3 = pc') (w : Jvm.Cond.fieldLink own idx O n d' ∈ tables_1) (F : Sta Z Z.heap O n d' v) (r : Go l Z n0 R K Q h sf k j pc' ls (v :: st)) : Go l Z n0 R K Q h sf k j pc ls st := by
  subst hp
  refine Go.of2 H ?_ r
  intro p e s m args below meth c T locs a0 hw X hx hby hml hZ hown eT hO
  exact getS (host := "") X hx hZ hown (hw _ w) Via.refl eT (F.ext hO.2) (g := mkF m pc ls st) rfl (hb hby d)
theorem Go.checkcast {idx : Nat} {C : String} {a : Addr} (H : Ok Z K own bytes maxL ret nm) (d : decode bytes pc = .ok (.checkcast idx, 3)) (hp : pc + 3 = pc') (w : Jvm.Cond.classLink own idx C ∈ tables_1) (F : Ins Z h a C true) (r : Go l Z n0 R K Q h sf k j pc' ls (.ref a :: st)) : Go l Z n0 R K Q h sf k j pc ls (.ref a :: st) := by
  subst hp
  refine Go.of2 H ?_ r
  intro p e s m args below meth c T locs a0 hw X hx hby hml hZ hown eT hO
  exact castY X hx hZ hown (hw _ w) eT F (g := mkF m pc ls (.ref a :: st)) rfl rfl (hb hby d)
theorem Go.instanceofY {idx : Nat} {C : String} {a : Addr} (H : Ok Z K own bytes maxL ret nm) (d : decode bytes pc = .ok (.instanceof idx, 3)) (hp : pc + 3 = pc') (w : Jvm.Cond.classLink own idx C ∈ tables_1) (F : Ins Z h a C true) (r : Go l Z n0 R K Q h sf k j pc' ls (.int 1 :: st)) : Go l Z n0 R K Q h sf k j pc ls (.ref a :: st) := by
  subst hp
  refine Go.of2 H ?_ r
  intro p e s m args below meth c T locs a0 hw X hx hby hml hZ hown eT hO
  exact instY X hx hZ hown (hw _ w) eT F (g := mkF m pc ls (.ref a :: st)) rfl rfl (hb hby d)
theorem Go.initObj {idx : Nat} {a : Addr} (H : Ok Z K own bytes maxL ret nm) (d : decode bytes pc = .ok (.invokespecial idx, 3)) (hp : pc + 3 = pc') (w1 : Jvm.Cond.methodLink own idx Lib.objectInit ∈ tables_1) (w2 : Jvm.Cond.instanceMethod Lib.objectInit ∈ tables_1) (w3 : Jvm.Cond.code Lib.objectInit ⟨#[0xb1]⟩ 1 none ∈ tables_1) (W : Nat) (hsz : ls.size = maxL) (hW : (st.map fun v => v.category).sum ≤ W) (hf : 1 ≤ R.frames) (hlo : W + 12 ≤ R.locals) (r : Go l Z n0 R K Q h sf k j pc' ls st) : Go l Z n0 R K Q h sf k j pc ls (.ref a :: st) := by
  subst hp
  refine Go.of2 H ?_ r
  intro p e s m args below meth c T locs a0 hw X hx hby hml hZ hown eT hO
  exact initO X hx hZ hown (hw _ w1) (hw _ w2) (hw _ w3) eT (g := mkF m pc ls (.ref a :: st)) rfl (by rw [hml]; exact hsz) rfl (hb hby d) hf (W := W) (by show 2 * 0 + _ ≤ _; simpa using hW) hlo
end Steps1
/-- an array whose components are just these ints -/
def Vec (Z : State) (h : Heap) (a : Addr) (ty : FieldType) (vs : List Int32) : Prop := ∃ c : Cell, Arr Z h a c ty ∧ c.slots.toList = vs.map Value.int ∧ ∀ v ∈ vs, fits ty (.int v) = true
section Vecs
variable {Z : State} {h h' : Heap} {a b : Addr} {ty : FieldType} {vs : List Int32} {ws : List Addr}
theorem Vec.lt (F : Vec Z h a ty vs) : a < h.size := by obtain ⟨c, A, -⟩ := F; exact A.lt
theorem Vec.ext (F : Vec Z h a ty vs) (E : Ext h h') : Vec Z h' a ty vs := by obtain ⟨c, A, q⟩ := F; exact ⟨c, A.ext E, q⟩
theorem Vec.keep (F : Vec Z h a ty vs) (K : Keep h h' ws) (q : a ∉ ws) : Vec Z h' a ty vs := by obtain ⟨c, A, r⟩ := F; exact ⟨c, ⟨K.2.1 a c A.1 q, A.2⟩, r⟩
theorem Vec.size {c : Cell} (q : c.slots.toList = vs.map Value.int) : c.slots.size = vs.length := by rw [← Array.length_toList, q, List.length_map]
theorem Vec.get {c : Cell} (q : c.slots.toList = vs.map Value.int) {i : Nat} {v : Int32} (hv : vs[i]? = some v) : c.slots[i]? = some (.int v) := by
  rw [← Array.getElem?_toList, q, List.getElem?_map, hv]; rfl
theorem Vec.set {i : Nat} {v : Int32} (F : Vec Z h a ty vs) (W : Wr h h' a i (.int v)) (hv : fits ty (.int v) = true) : Vec Z h' a ty (vs.set i v) := by
  obtain ⟨c, A, q, hf⟩ := F
  refine ⟨_, A.same W, ?_, fun u hu => (List.mem_or_eq_of_mem_set hu).elim (hf u) (fun e => e ▸ hv)⟩
  rw [List.map_set, ← q]
  show (c.slots.setIfInBounds i _).toList = _
  rw [Array.toList_setIfInBounds]
theorem Vec.ne {ty' : FieldType} {vs' : List Int32} (F : Vec Z h a ty vs) (G : Vec Z h b ty' vs') (hn : ty ≠ ty') : a ≠ b := fun e => by
  subst e
  obtain ⟨c, ⟨h1, ⟨-, k, g1, comp, g2⟩, -⟩, -, -⟩ := F
  obtain ⟨c', ⟨h1', ⟨-, k', g1', comp', g2'⟩, -⟩, -, -⟩ := G
  cases h1.symm.trans h1'
  cases g1.symm.trans g1'
  rw [g2] at g2'
  cases g2'
  exact hn rfl
theorem Vec.neExa {C : String} {x : Addr} {n : Nat} (F : Vec Z h a ty vs) (G : Exa Z h x C) (w : Wds Z) (hi : Jvm.Cond.instantiable C n ∈ tables_1) : a ≠ x := by
  obtain ⟨c, A, -⟩ := F
  obtain ⟨a0, hw⟩ := w
  exact (ne_arr G (hw _ hi) A).symm
end Vecs
section Steps2
variable {l : Launch} {Z : State} {n0 : Nat} {R : Room} {K : Cx} {Q : Option Value → Heap → List Addr → Prop} {h : Heap} {sf : List Addr} {k j pc pc' : Nat} {ls ls' : Array Slot} {st : List Value} {own : String} {bytes : ByteArray} {maxL : Nat} {ret : Option FieldType} {nm : String}
theorem Go.caload {a : Addr} {i : Int32} {v : Int32} {vs : List Int32} (H : Ok Z K own bytes maxL ret nm) (d : decode bytes pc = .ok (.caload, 1)) (hp : pc + 1 = pc') (F : Vec Z h a .char vs) (n : Nat) (hi : i.toNatClampNeg = n) (h0 : ¬ i < 0) (hv : vs[n]? = some v) (r : Go l Z n0 R K Q h sf k j pc' ls (.int v :: st)) : Go l Z n0 R K Q h sf k j pc ls (.int i :: .ref a :: st) := by
  subst hp
  refine Go.of2 H ?_ r
  intro p e s m args below meth c T locs a0 hw X hx hby hml hZ hown eT hO
  obtain ⟨c', A, q, -⟩ := F
  refine ⟨T, X, eT, fun t hr => X.caload hx (j := i) (v := .int v) (by rw [eT]; exact A.1) (State.isArrayOf_alike hZ.alike A.2.1) A.2.2 ?_ (by rw [hi]; exact Vec.get q hv) (g := mkF m pc ls (.int i :: .ref a :: st)) rfl rfl (hb hby d) t hr⟩
  rw [Vec.size q, hi]
  have := (List.getElem?_eq_some_iff.mp hv).1
  rintro (q | q)
  · exact h0 q
  · omega
theorem Go.baload {a : Addr} {i : Int32} {v : Int32} {vs : List Int32} (H : Ok Z K own bytes maxL ret nm) (d : decode bytes pc = .ok (.baload, 1)) (hp : pc + 1 = pc') (F : Vec Z h a .byte vs) (n : Nat) (hi : i.toNatClampNeg = n) (h0 : ¬ i < 0) (hv : vs[n]? = some v) (r : Go l Z n0 R K Q h sf k j pc' ls (.int v :: st)) : Go l Z n0 R K Q h sf k j pc ls (.int i :: .ref a :: st) := by
  subst hp
  refine Go.of2 H ?_ r
  intro p e s m args below meth c T locs a0 hw X hx hby hml hZ hown eT hO
  obtain ⟨c', A, q, -⟩ := F
  refine ⟨T, X, eT, fun t hr => X.baloadBytes hx (j := i) (v := .int v) (by rw [eT]; exact A.1) (State.isArrayOf_alike hZ.alike A.2.1) A.2.2 ?_ (by rw [hi]; exact Vec.get q hv) (g := mkF m pc ls (.int i :: .ref a :: st)) rfl rfl (hb hby d) t hr⟩
  rw [Vec.size q, hi]
  have := (List.getElem?_eq_some_iff.mp hv).1
  rintro (q | q)
  · exact h0 q
  · omega
theorem Go.iaload {a : Addr} {i : Int32} {v : Int32} {vs : List Int32} (H : Ok Z K own bytes maxL ret nm) (d : decode bytes pc = .ok (.iaload, 1)) (hp : pc + 1 = pc') (F : Vec Z h a .int vs) (n : Nat) (hi : i.toNatClampNeg = n) (h0 : ¬ i < 0) (hv : vs[n]? = some v) (r : Go l Z n0 R K Q h sf k j pc' ls (.int v :: st)) : Go l Z n0 R K Q h sf k j pc ls (.int i :: .ref a :: st) := by
  subst hp
  refine Go.of2 H ?_ r
  intro p e s m args below meth c T locs a0 hw X hx hby hml hZ hown eT hO
  obtain ⟨c', A, q, -⟩ := F
  refine ⟨T, X, eT, fun t hr => X.iaload hx (j := i) (v := .int v) (by rw [eT]; exact A.1) (State.isArrayOf_alike hZ.alike A.2.1) A.2.2 ?_ (by rw [hi]; exact Vec.get q hv) (g := mkF m pc ls (.int i :: .ref a :: st)) rfl rfl (hb hby d) t hr⟩
  rw [Vec.size q, hi]
  have := (List.getElem?_eq_some_iff.mp hv).1
  rintro (q | q)
  · exact h0 q
  · omega
theorem Go.arraylength {a : Addr} {ty : FieldType} {vs : List Int32} (v : Int32) (H : Ok Z K own bytes maxL ret nm) (d : decode bytes pc = .ok (.arraylength, 1)) (hp : pc + 1 = pc') (F : Vec Z h a ty vs) (hv : vs.length.toInt32 = v) (r : Go l Z n0 R K Q h sf k j pc' ls (.int v :: st)) : Go l Z n0 R K Q h sf k j pc ls (.ref a :: st) := by
  subst hp
  refine Go.of2 H ?_ r
  intro p e s m args below meth c T locs a0 hw X hx hby hml hZ hown eT hO
  obtain ⟨c', A, q, -⟩ := F
  refine ⟨T, X, eT, fun t hr => X.arraylength hx (by rw [eT]; exact A.1) (State.isArrayOf_alike hZ.alike A.2.1) (g := mkF m pc ls (.ref a :: st)) rfl rfl (hb hby d) t ?_⟩
  rw [Vec.size q, hv]; exact hr
theorem Go.castore {a : Addr} {i x : Int32} {vs : List Int32} (v : Int32) (H : Ok Z K own bytes maxL ret nm) (d : decode bytes pc = .ok (.castore, 1)) (hp : pc + 1 = pc') (F : Vec Z h a .char vs) (n : Nat) (hi : i.toNatClampNeg = n) (h0 : ¬ i < 0) (hn : n < vs.length) (hx : nar .char x = v) (ha : n0 ≤ a) (hs : a ∈ sf) (r : ∀ h', Keep h h' [a] → Vec Z h' a .char (vs.set n v) → Go l Z n0 R K Q h' sf k j pc' ls st) : Go l Z n0 R K Q h sf k j pc ls (.int x :: .int i :: .ref a :: st) := by
  subst hp hx
  refine Go.ofWr (a := a) (sl := i.toNatClampNeg) (v := .int (nar .char x)) H ha hs ?_ (fun h' W => r h' (Keep.of_wr W) (by rw [← hi]; exact F.set W (fits_nar_char _)))
  intro p e s m args below meth c T locs a0 hw X hx hby hZ hown hnm eT
  obtain ⟨c', A, q, -⟩ := F
  refine stC X hx hZ eT A (j := i) ?_ (g := mkF m pc ls (.int x :: .int i :: .ref a :: st)) rfl rfl (hb hby d)
  rw [Vec.size q, hi]
  rintro (q | q)
  · exact h0 q
  · omega
theorem Go.bastore {a : Addr} {i x : Int32} {vs : List Int32} (v : Int32) (H : Ok Z K own bytes maxL ret nm) (d : decode bytes pc = .ok (.bastore, 1)) (hp : pc + 1 = pc') (F : Vec Z h a .byte vs) (n : Nat) (hi : i.toNatClampNeg = n) (h0 : ¬ i < 0) (hn : n < vs.length) (hx : nar .byte x = v) (ha : n0 ≤ a) (hs : a ∈ sf) (r : ∀ h', Keep h h' [a] → Vec Z h' a .byte (vs.set n v) → Go l Z n0 R K Q h' sf k j pc' ls st) : Go l Z n0 R K Q h sf k j pc ls (.int x :: .int i :: .ref a :: st) := by
  subst hp hx
  refine Go.ofWr (a := a) (sl := i.toNatClampNeg) (v := .int (nar .byte x)) H ha hs ?_ (fun h' W => r h' (Keep.of_wr W) (by rw [← hi]; exact F.set W (fits_nar_byte _)))
  intro p e s m args below meth c T locs a0 hw X hx hby hZ hown hnm eT
  obtain ⟨c', A, q, -⟩ := F
  refine stB X hx hZ eT A (j := i) ?_ (g := mkF m pc ls (.int x :: .int i :: .ref a :: st)) rfl rfl (hb hby d)
  rw [Vec.size q, hi]
  rintro (q | q)
  · exact h0 q
  · omega
theorem Go.newarray {aty : ArrayType} {n : Int32} (N : Nat) (cap : Nat) (H : Ok Z K own bytes maxL ret nm) (d : decode bytes pc = .ok (.newarray aty, 2)) (hp : pc + 2 = pc') (w : Jvm.Cond.arrayClass (newarray.typeOf aty) ∈ tables_1) (hd : defaultValue (newarray.typeOf aty) = .int 0) (hft : fits (newarray.typeOf aty) (.int 0) = true) (hn : ¬ n < 0) (hN : n.toNatClampNeg = N) (hcap : N ≤ cap) (hb' : cap * 8 ≤ 536870912) (hce : k + 1 ≤ R.cells) (hsl : j + cap ≤ R.slots)
    (r : ∀ a h', a = h.size → n0 ≤ a → Ext h h' → Vec Z h' a (newarray.typeOf aty) (List.replicate N 0) → Go l Z n0 R K Q h' (a :: sf) (k + 1) (j + cap) pc' ls (.ref a :: st)) : Go l Z n0 R K Q h sf k j pc ls (.int n :: st) := by
  subst hp hN
  refine Go.ofNew (P := fun a h' => Vec Z h' a (newarray.typeOf aty) (List.replicate n.toNatClampNeg 0)) H ?_ r
  intro p e s m args below meth c T locs a0 hw X hx hby hZ hown eT
  obtain ⟨T', h', cA, X', eT', E, A, stp⟩ := newP X hx hZ (hw _ w) eT (g := mkF m pc ls (.int n :: st)) rfl (hb hby d) rfl hn (cap := cap) hcap hb' hce hsl
  refine ⟨T', h', X', eT', E, ⟨_, A, ?_, fun v hv => by rw [List.eq_of_mem_replicate hv]; exact hft⟩, stp⟩
  simp [newA, hd]
theorem Go.new {C : String} {idx n : Nat} (H : Ok Z K own bytes maxL ret nm) (d : decode bytes pc = .ok (.new idx, 3)) (hp : pc + 3 = pc') (w : Jvm.Cond.classLink own idx C ∈ tables_1) (wi : Jvm.Cond.instantiable C n ∈ tables_1) (wz : Jvm.Cond.initialized C ∈ tables_1) (hce : k + 1 ≤ R.cells) (hsl : j + n ≤ R.slots)
    (r : ∀ a h', a = h.size → n0 ≤ a → Ext h h' → Exa Z h' a C → (∀ {O nm d : String} {ty : FieldType}, (Jvm.Cond.lays C O nm d ∈ tables_1 ∨ Jvm.Cond.laysFinal C O nm d ∈ tables_1) → parseFieldDescriptor d = some ty → Fld Z h' a O nm d (defaultValue ty)) → Go l Z n0 R K Q h' (a :: sf) (k + 1) (j + n) pc' ls (.ref a :: st)) : Go l Z n0 R K Q h sf k j pc ls st := by
  subst hp
  refine Go.ofNew (P := fun a h' => Exa Z h' a C ∧ (∀ {O nm d : String} {ty : FieldType}, (Jvm.Cond.lays C O nm d ∈ tables_1 ∨ Jvm.Cond.laysFinal C O nm d ∈ tables_1) → parseFieldDescriptor d = some ty → Fld Z h' a O nm d (defaultValue ty))) H ?_ (fun a h' e1 e2 E hP => r a h' e1 e2 E hP.1 hP.2)
  intro p e s m args below meth c T locs a0 hw X hx hby hZ hown eT
  obtain ⟨T', h', X', eT', E, A, D, -, stp⟩ := newO X hx hZ hown (hw _ w) (hw _ wi) (hw _ wz) eT (g := mkF m pc ls st) rfl (hb hby d) hce hsl
  exact ⟨T', h', X', eT', E, ⟨A, fun L ht => D (L.imp (hw _) (hw _)) ht⟩, stp⟩
theorem Go.putfield {idx kk : Nat} {C O n d' : String} {ty : FieldType} {a : Addr} {x v old : Value} (H : Ok Z K own bytes maxL ret nm) (d : decode bytes pc = .ok (.putfield idx, 3)) (hp : pc + 3 = pc') (w : Jvm.Cond.fieldLink own idx O n d' ∈ tables_1) (F : Fld Z h a O n d' old) (E : Exa Z h a C) (L : Jvm.Cond.lays C O n d' ∈ tables_1 ∨ (Jvm.Cond.laysFinal C O n d' ∈ tables_1 ∧ own = O ∧ nm = "<init>")) (wi : Jvm.Cond.instantiable C kk ∈ tables_1) (hty : parseFieldDescriptor d' = some ty) (hn : narrow ty x = v) (hf : fits ty v = true) (ha : n0 ≤ a) (hs : a ∈ sf)
    (r : ∀ h', Wr h h' a (Jvm.RoadKit.slotOf Z O n d') v → Go l Z n0 R K Q h' sf k j pc' ls st) : Go l Z n0 R K Q h sf k j pc ls (x :: .ref a :: st) := by
  subst hp
  refine Go.ofWr (a := a) (sl := Jvm.RoadKit.slotOf Z O n d') (v := v) H ha hs ?_ r
  intro p e s m args below meth c T locs a0 hw X hx hby hZ hown hnm eT
  exact putFN X hx hZ hown (hw _ w) Via.refl eT F E (L.imp (hw _) (fun q => ⟨hw _ q.1, q.2.1, hnm.trans q.2.2⟩)) (hw _ wi) hty hn hf (g := mkF m pc ls (x :: .ref a :: st)) rfl rfl (hb hby d)
theorem Go.ireturn {x : Int32} {t : FieldType} (v : Int32) (sn : List Addr) (H : Ok Z K own bytes maxL (some t) nm) (d : decode bytes pc = .ok (.ireturn, 1)) (ht : t = .boolean ∨ t = .byte ∨ t = .char ∨ t = .short) (hv : nar t x = v) (hq : Q (some (.int v)) h sn) (hs : ∀ y ∈ sn, y ∈ sf) (hk : k ≤ R.cells) (hj : j ≤ R.slots) : Go l Z n0 R K Q h sf k j pc ls (.int x :: st) := by
  subst hv
  exact Go.ret0 H (v := some (.int (nar t x))) (fun q => nomatch q) hq hs hk hj (fun p e s m args below meth c T locs fs X hx hby hret hl => retN X hx hret ht (hb hby d) hl)
theorem Go.ireturnI {x : Int32} (sn : List Addr) (H : Ok Z K own bytes maxL (some .int) nm) (d : decode bytes pc = .ok (.ireturn, 1)) (hq : Q (some (.int x)) h sn) (hs : ∀ y ∈ sn, y ∈ sf) (hk : k ≤ R.cells) (hj : j ≤ R.slots) : Go l Z n0 R K Q h sf k j pc ls (.int x :: st) := by
  exact Go.ret0 H (v := some (.int x)) (fun q => nomatch q) hq hs hk hj (fun p e s m args below meth c T locs fs X hx hby hret hl => retOut X hx hret rfl (Or.inl ⟨rfl, Or.inl rfl, _, rfl⟩) (hb hby d) hl)
theorem Go.lreturn {x : Int64} (sn : List Addr) (H : Ok Z K own bytes maxL (some .long) nm) (d : decode bytes pc = .ok (.lreturn, 1)) (hq : Q (some (.long x)) h sn) (hs : ∀ y ∈ sn, y ∈ sf) (hk : k ≤ R.cells) (hj : j ≤ R.slots) : Go l Z n0 R K Q h sf k j pc ls (.long x :: st) := by
  exact Go.ret0 H (v := some (.long x)) (fun q => nomatch q) hq hs hk hj (fun p e s m args below meth c T locs fs X hx hby hret hl => retOut X hx hret rfl (Or.inr (Or.inl ⟨rfl, rfl, _, rfl⟩)) (hb hby d) hl)
theorem Go.areturn {x : Value} {t : FieldType} (sn : List Addr) (H : Ok Z K own bytes maxL (some t) nm) (d : decode bytes pc = .ok (.areturn, 1)) (ht : t.isReference = true) (hx : x.isRef = true) (hn : narrow t x = x) (hq : Q (some x) h sn) (hs : ∀ y ∈ sn, y ∈ sf) (hk : k ≤ R.cells) (hj : j ≤ R.slots) : Go l Z n0 R K Q h sf k j pc ls (x :: st) := by
  exact Go.ret0 H (v := some x) (fun q => nomatch q) hq hs hk hj (fun p e s m args below meth c T locs fs X hx' hby hret hl => retOut X hx' hret hn (Or.inr (Or.inr (Or.inr (Or.inr ⟨rfl, ht, hx⟩)))) (hb hby d) hl)
theorem Go.return_ (sn : List Addr) (H : Ok Z K own bytes maxL none nm) (d : decode bytes pc = .ok (.return_, 1)) (hq : Q none h sn) (hs : ∀ y ∈ sn, y ∈ sf) (hk : k ≤ R.cells) (hj : j ≤ R.slots) : Go l Z n0 R K Q h sf k j pc ls [] := by
  exact Go.ret0 H (v := none) (fun _ => rfl) hq hs hk hj (fun p e s m args below meth c T locs fs X hx hby hret hl => X.returnOut hx hret (hb hby d) hl)
theorem own_toarv {Z : State} {h : Heap} {a : Addr} {ty : FieldType} {vs : List Int32} (F : Vec Z h a ty vs) (hn : vs.length < 2 ^ 31) : ∃ kc, Arv Z h a kc ty vs.length.toInt32 (vs.map Value.int) (.int 0) := by
  obtain ⟨c, A, q, hf⟩ := F
  have hs := Vec.size q
  have e : vs.length.toInt32.toNatClampNeg = vs.length := by rw [Int32.toNatClampNeg, len_toInt hn]; simp
  have hg : ∀ i, i < vs.length → (vs.map Value.int).getD i (.int 0) = .int (vs.getD i 0) := fun i hi => by simp [List.getD, hi]
  refine ⟨c.cls, c, A, rfl, by rw [hs, e], by rw [Int32.lt_iff_toInt_lt, len_toInt hn]; simp, fun i hi => ?_, fun i hi => ?_⟩
  · rw [hg i (by omega)]
    exact Vec.get q (by simp [List.getD, show i < vs.length by omega])
  · rw [hg i (by omega)]
    exact hf _ (by have : i < vs.length := by omega
                   simp [List.getD, this])
theorem own_ofarv {Z : State} {h : Heap} {b : Addr} {k : ClassId} {ty : FieldType} {z : Int32} {bs : List Int32} (F : Arv Z h b k ty z (bs.map Value.int) (.int 0)) (hz : z.toNatClampNeg = bs.length) : Vec Z h b ty bs := by
  obtain ⟨c, A, -, S, -, H, G⟩ := F
  refine ⟨c, A, ?_, fun v hv => ?_⟩
  · apply List.ext_getElem?
    intro i
    rw [Array.getElem?_toList]
    by_cases hi : i < c.slots.size
    · have hb : i < bs.length := by omega
      rw [H i hi]; simp [List.getD, hb]
    · rw [Array.getElem?_eq_none (by omega), List.getElem?_eq_none (by simp; omega)]
  · obtain ⟨i, hi, rfl⟩ := List.mem_iff_getElem.mp hv
    have := G i (by omega)
    simpa [List.getD, hi] using this
/-- System.arraycopy between two arrays of one primitive kind; sp, dp, nn: the two places and how many -/
theorem Go.arraycopy {idx : Nat} {a b : Addr} {ty : FieldType} {us vs : List Int32} {sp dp nn : Int32} (S D N : Nat) (H : Ok Z K own bytes maxL ret nm) (d : decode bytes pc = .ok (.invokestatic idx, 3)) (hp : pc + 3 = pc') (w1 : Jvm.Cond.methodLink own idx Jvm.Stand.acN ∈ tables_1) (w2 : Jvm.Cond.native Jvm.Stand.acN ∈ tables_1) (w3 : Jvm.Cond.static Jvm.Stand.acN ∈ tables_1) (w4 : Jvm.Cond.initialized "java/lang/System" ∈ tables_1)
    (A : Vec Z h a ty us) (B : Vec Z h b ty vs) (hu : us.length < 2 ^ 31) (hv : vs.length < 2 ^ 31) (hty : refKind ty = false) (hS : sp.toNatClampNeg = S) (hD : dp.toNatClampNeg = D) (hN : nn.toNatClampNeg = N) (h1 : ¬ sp < 0) (h2 : ¬ dp < 0) (h3 : ¬ nn < 0) (h4 : S + N ≤ us.length) (h5 : D + N ≤ vs.length) (ha : n0 ≤ b) (hs : b ∈ sf) (W : Nat) (hsz : ls.size = maxL) (hW : (st.map fun v => v.category).sum ≤ W) (hf : 1 ≤ R.frames) (hlo : W + (nativeFrameWords "java/lang/System" "arraycopy" 5 + 11) ≤ R.locals)
    (r : ∀ h', Keep h h' [b] → Vec Z h' b ty (vs.take D ++ (us.drop S).take N ++ vs.drop (D + N)) → Go l Z n0 R K Q h' sf k j pc' ls st) : Go l Z n0 R K Q h sf k j pc ls (.int nn :: .int dp :: .ref b :: .int sp :: .ref a :: st) := by
  subst hp hS hD hN
  refine Go.ofKeep (b := b) (P := fun h' => Vec Z h' b ty (vs.take dp.toNatClampNeg ++ (us.drop sp.toNatClampNeg).take nn.toNatClampNeg ++ vs.drop (dp.toNatClampNeg + nn.toNatClampNeg))) H ha hs ?_ r
  intro p e s m args below meth c T locs a0 hw X hx hby hml hZ hown eT hF
  obtain ⟨ka, A'⟩ := own_toarv A hu
  obtain ⟨kb, B'⟩ := own_toarv B hv
  have eu : us.length.toInt32.toNatClampNeg = us.length := by rw [Int32.toNatClampNeg, len_toInt hu]; simp
  have ev : vs.length.toInt32.toNatClampNeg = vs.length := by rw [Int32.toNatClampNeg, len_toInt hv]; simp
  have hus : ((us.drop sp.toNatClampNeg).take nn.toNatClampNeg).map Value.int = (List.range nn.toNatClampNeg).map fun i => (us.map Value.int).getD (sp.toNatClampNeg + i) (.int 0) := by
    apply List.ext_getElem
    · simp; omega
    · intro i g1 g2
      simp only [List.length_map, List.length_take, List.length_drop] at g1
      have g3 : sp.toNatClampNeg + i < us.length := by omega
      simp [List.getD, g3]
  obtain ⟨T', h', L, X', eT', hL, hK, V, stp⟩ := cpA X hx hZ hown (hw _ w1) (hw _ w2) (hw _ w3) (hw _ w4) eT A' B' (Or.inl ⟨rfl, hty⟩) h1 h2 h3 (by rw [eu]; exact h4) (by rw [ev]; exact h5) hus (by simpa using h5) hF ha (g := mkF m pc ls (.int nn :: .int dp :: .ref b :: .int sp :: .ref a :: st)) rfl (by rw [hml]; exact hsz) rfl (hb hby d) hf (W := W) (by show 2 * 0 + _ ≤ _; simpa using hW) hlo
  refine ⟨T', h', L, X', eT', hL, hK, own_ofarv (by rw [List.map_append, List.map_append, List.map_take, List.map_drop]; exact V) ?_, stp⟩
  rw [ev]; simp; omega
end Steps2
/-! numbers and strings -/
theorem own_ins {Z : State} {h : Heap} {a : Addr} {C D : String} (W : Wds Z) (F : Exa Z h a C) (w : Jvm.Cond.castable C D ∈ tables_1) : Ins Z h a D true := by
  obtain ⟨a0, hw⟩ := W; exact Ins.of_exa F (hw _ w)
theorem own_sne {Z : State} {C O n d O' n' d' : String} {t t' : FieldType} (W : Wds Z) (L : Jvm.Cond.lays C O n d ∈ tables_1 ∨ Jvm.Cond.laysFinal C O n d ∈ tables_1) (L' : Jvm.Cond.lays C O' n' d' ∈ tables_1 ∨ Jvm.Cond.laysFinal C O' n' d' ∈ tables_1) (hn : n ≠ n') (ht : parseFieldDescriptor d = some t) (ht' : parseFieldDescriptor d' = some t') : Jvm.RoadKit.slotOf Z O n d ≠ Jvm.RoadKit.slotOf Z O' n' d' := by
  obtain ⟨a0, hw⟩ := W
  exact slot_ne (a0 := a0) (C := C) (L.imp (hw _) (hw _)) (L'.imp (hw _) (hw _)) hn ht ht'
theorem own_len {n : Nat} (h : n < 2 ^ 31) : n.toInt32.toInt = n := len_toInt h
theorem own_lt {i n : Nat} (hn : n < 2 ^ 31) (h : i < n) : i.toInt32 < n.toInt32 := by
  rw [Int32.lt_iff_toInt_lt, own_len hn, own_len (by omega)]; omega
theorem own_nlt {i n : Nat} (hi : i < 2 ^ 31) (h : n ≤ i) : ¬ i.toInt32 < n.toInt32 := by
  rw [Int32.lt_iff_toInt_lt, own_len hi, own_len (by omega)]; omega
theorem own_n0 {i : Nat} (h : i < 2 ^ 31) : ¬ i.toInt32 < 0 := by
  rw [Int32.lt_iff_toInt_lt, own_len h]; simp
theorem own_cl {i : Nat} (h : i < 2 ^ 31) : i.toInt32.toNatClampNeg = i := by
  rw [Int32.toNatClampNeg, own_len h]; simp
theorem own_s (i : Nat) : i.toInt32 + 1 = (i + 1).toInt32 := (Int32.ofNat_add i 1).symm
theorem own_ne0 {n : Nat} (hn : n < 2 ^ 31) (h : 0 < n) : ¬ n.toInt32 = 0 := fun e => by
  have := congrArg Int32.toInt e; rw [own_len hn] at this; simp at this; omega
def isL (c : Int32) : Prop := 0 ≤ c.toInt ∧ c.toInt ≤ 255
def isC (c : Int32) : Prop := 0 ≤ c.toInt ∧ c.toInt ≤ 65535
theorem isL.c {c : Int32} (h : isL c) : isC c := ⟨h.1, by have := h.2; omega⟩
theorem own_char {x : Int32} (h : isC x) : nar .char x = x := Int32.toInt_inj.mp (by have := c_i2c x; obtain ⟨h1, h2⟩ := h; simp only [nar]; omega)
theorem own_isC (x : Int32) : isC (nar .char x) := by have := c_i2c x; simp only [nar]; exact ⟨this.2.1, by omega⟩
theorem own_nn {x : Int32} : nar .char (nar .char x) = nar .char x := own_char (own_isC x)
theorem own_nb {x : Int32} : nar .byte (nar .byte x) = nar .byte x := by
  have h1 := c_i2b x
  have h2 := c_i2b (nar .byte x)
  simp only [nar] at *
  exact Int32.toInt_inj.mp (by omega)
theorem own_back {c : Int32} (h : isL c) : nar .char (nar .byte c &&& 255) = c := by
  have h1 := c_i2b c
  have h2 := c_mask (nar .byte c) 255 8 (by decide) (by decide)
  have h3 := c_i2c (nar .byte c &&& 255)
  obtain ⟨g1, g2⟩ := h
  simp only [nar] at *
  exact Int32.toInt_inj.mp (by omega)
theorem own_le255 {c : Int32} (h : isL c) : ¬ (255 : Int32) < c := by
  rw [Int32.lt_iff_toInt_lt]; have := h.2; simp only [Int32.reduceToInt]; omega
theorem own_cat {f : Value} (h : f.isRef = true) : f.category = 1 := by rcases ref_cases h with rfl | ⟨a, rfl⟩ <;> rfl
theorem own_ext {h h' : Heap} (K : Keep h h' []) : Ext h h' := ⟨K.1, fun a c q => K.2.1 a c q nin0⟩
theorem own_keep {h h' : Heap} {ws : List Addr} (E : Ext h h') : Keep h h' ws := (Keep.refl _ _).ext E
theorem Exa.ltb {Z : State} {h : Heap} {a : Addr} {C : String} (F : Exa Z h a C) : a < h.size := F.lt
/-- a Latin-1 String x whose bytes lie at b -/
def Str (Z : State) (h : Heap) (x b : Addr) (cs : List Int32) : Prop := Exa Z h x "java/lang/String" ∧ Fld Z h x "java/lang/String" "value" "[B" (.ref b) ∧ Fld Z h x "java/lang/String" "coder" "B" (.int 0) ∧ Vec Z h b .byte (cs.map (nar .byte)) ∧ (∀ c ∈ cs, isL c) ∧ cs.length < 2 ^ 31
section StrF
variable {Z : State} {h h' : Heap} {x b : Addr} {cs : List Int32} {ws : List Addr}
theorem Str.lt (F : Str Z h x b cs) : x < h.size := F.1.lt
theorem Str.ltb (F : Str Z h x b cs) : b < h.size := F.2.2.2.1.lt
theorem Str.ext (F : Str Z h x b cs) (E : Ext h h') : Str Z h' x b cs := ⟨F.1.ext E, F.2.1.ext E, F.2.2.1.ext E, F.2.2.2.1.ext E, F.2.2.2.2⟩
theorem Str.keep (F : Str Z h x b cs) (K : Keep h h' ws) (q : x ∉ ws) (q' : b ∉ ws) : Str Z h' x b cs := ⟨F.1.keep K, F.2.1.keep K q, F.2.2.1.keep K q, F.2.2.2.1.keep K q', F.2.2.2.2⟩
end StrF
theorem own_and255 (y : Int32) : isL (nar .char (y &&& 255)) := by
  have h1 := c_and y 255 (by decide)
  have h2 : (255 : Int32).toInt = 255 := by decide
  have h3 : nar .char (y &&& 255) = y &&& 255 := own_char ⟨h1.1, by omega⟩
  rw [h3]; exact ⟨h1.1, by omega⟩
theorem own_an {P : Int32 → Prop} : ∀ c ∈ ([] : List Int32), P c := fun _ q => nomatch q
theorem own_ac {P : Int32 → Prop} {a : Int32} {t : List Int32} (h : P a) (r : ∀ c ∈ t, P c) : ∀ c ∈ a :: t, P c := fun c q => by
  rcases List.mem_cons.mp q with rfl | q
  · exact h
  · exact r c q
theorem own_narR {t : FieldType} {v : Value} (h : v.isRef = true) : narrow t v = v := by rcases ref_cases h with rfl | ⟨a, rfl⟩ <;> cases t <;> rfl
theorem own_fitR {t : FieldType} {v : Value} (h : v.isRef = true) (ht : t.isReference = true) : fits t v = true := by rcases ref_cases h with rfl | ⟨a, rfl⟩ <;> cases t <;> first | rfl | (cases ht)
theorem Fld.det {Z : State} {h : Heap} {a : Addr} {C n d : String} {v w : Value} (F : Fld Z h a C n d v) (G : Fld Z h a C n d w) : v = w := Decidable.byContradiction fun q => (F.ne G q) rfl
theorem Vec.det {Z : State} {h : Heap} {a : Addr} {ty ty' : FieldType} {vs ws : List Int32} (F : Vec Z h a ty vs) (G : Vec Z h a ty' ws) : vs = ws := by
  obtain ⟨c, A, q, -⟩ := F
  obtain ⟨c', A', q', -⟩ := G
  cases A.1.symm.trans A'.1
  have e := q.symm.trans q'
  exact (List.map_inj_right (fun a b e => by cases e; rfl)).mp e
theorem own_inj {c d : Int32} (h : isL c) (g : isL d) (e : nar .byte c = nar .byte d) : c = d := by rw [← own_back h, ← own_back g, e]
theorem own_mapinj : ∀ {cs ds : List Int32}, (∀ c ∈ cs, isL c) → (∀ d ∈ ds, isL d) → cs.map (nar .byte) = ds.map (nar .byte) → cs = ds
  | [], [], _, _, _ => rfl
  | [], _ :: _, _, _, e => by cases e
  | _ :: _, [], _, _, e => by cases e
  | c :: cs, d :: ds, h, g, e => by
    simp only [List.map_cons, List.cons.injEq] at e
    rw [own_inj (h c (by simp)) (g d (by simp)) e.1, own_mapinj (fun c q => h c (by simp [q])) (fun c q => g c (by simp [q])) e.2]
theorem Str.det {Z : State} {h : Heap} {x b b' : Addr} {cs ds : List Int32} (F : Str Z h x b cs) (G : Str Z h x b' ds) : cs = ds := by
  have e := Fld.det F.2.1 G.2.1
  cases e
  exact own_mapinj F.2.2.2.2.1 G.2.2.2.2.1 (F.2.2.2.1.det G.2.2.2.1)
def Sx0 (Z : State) (z : Int32) (f : Value) : Prop := Wds Z ∧ ¬ z = 0 ∧ Sta Z Z.heap "java/lang/String" "COMPACT_STRINGS" "Z" (.int z) ∧ f.isRef = true ∧ Sta Z Z.heap "jdk/internal/util/Preconditions" "SIOOBE_FORMATTER" "Ljava/util/function/BiFunction;" f
def Sx (Z : State) (z : Int32) (f g : Value) (e : Addr) : Prop := Sx0 Z z f ∧ g.isRef = true ∧ Sta Z Z.heap "com/example/dunlin/dunlin/RunText" "NONE" "[I" g ∧ Sta Z Z.heap "java/util/ImmutableCollections" "EMPTY_LIST" "Ljava/util/ImmutableCollections$ListN;" (.ref e)
theorem d5_3 : decode jdk_52_method_21_code 3 = .ok (.iload 5, 2) := by decide +kernel
theorem d5_5 : decode jdk_52_method_21_code 5 = .ok (.iload 4, 2) := by decide +kernel
theorem d5_7 : decode jdk_52_method_21_code 7 = .ok (.if_icmp .ge 37, 3) := by decide +kernel
theorem d5_44 : decode jdk_52_method_21_code 44 = .ok (.iload 4, 2) := by decide +kernel
theorem d5_46 : decode jdk_52_method_21_code 46 = .ok (.ireturn, 1) := by decide +kernel
theorem d5_10 : decode jdk_52_method_21_code 10 = .ok (.aload_n 0, 1) := by decide +kernel
theorem d5_11 : decode jdk_52_method_21_code 11 = .ok (.iload_n 1, 1) := by decide +kernel
theorem d5_12 : decode jdk_52_method_21_code 12 = .ok (.caload, 1) := by decide +kernel
theorem d5_13 : decode jdk_52_method_21_code 13 = .ok (.istore 6, 2) := by decide +kernel
theorem d5_15 : decode jdk_52_method_21_code 15 = .ok (.iload 6, 2) := by decide +kernel
theorem d5_17 : decode jdk_52_method_21_code 17 = .ok (.sipush 255, 3) := by decide +kernel
theorem d5_20 : decode jdk_52_method_21_code 20 = .ok (.if_icmp .le 6, 3) := by decide +kernel
theorem d5_26 : decode jdk_52_method_21_code 26 = .ok (.aload_n 2, 1) := by decide +kernel
theorem d5_27 : decode jdk_52_method_21_code 27 = .ok (.iload_n 3, 1) := by decide +kernel
theorem d5_28 : decode jdk_52_method_21_code 28 = .ok (.iload 6, 2) := by decide +kernel
theorem d5_30 : decode jdk_52_method_21_code 30 = .ok (.i2b, 1) := by decide +kernel
theorem d5_31 : decode jdk_52_method_21_code 31 = .ok (.bastore, 1) := by decide +kernel
theorem d5_32 : decode jdk_52_method_21_code 32 = .ok (.iinc 1 1, 3) := by decide +kernel
theorem d5_35 : decode jdk_52_method_21_code 35 = .ok (.iinc 3 1, 3) := by decide +kernel
theorem d5_38 : decode jdk_52_method_21_code 38 = .ok (.iinc 5 1, 3) := by decide +kernel
theorem d5_41 : decode jdk_52_method_21_code 41 = .ok (.goto (-38), 3) := by decide +kernel
abbrev N0 : MethodName := ⟨"java/lang/StringUTF16", "compress", "([CI[BII)I"⟩

theorem own_full {Z : State} {h : Heap} {d : Addr} {cs : List Int32} {i : Nat} (e : i = cs.length) (F : Vec Z h d .byte ((cs.take i).map (nar .byte) ++ List.replicate 0 0)) : Vec Z h d .byte (cs.map (nar .byte)) := by
  subst e; simpa using F
theorem own_fill {cs : List Int32} {g : Int32 → Int32} {i m : Nat} {c : Int32} (hc : cs[i]? = some c) : ((cs.take i).map g ++ List.replicate (m + 1) 0).set i (g c) = (cs.take (i + 1)).map g ++ List.replicate m 0 := by
  have hl : i < cs.length := (List.getElem?_eq_some_iff.mp hc).1
  have h1 : ((cs.take i).map g).length = i := by simp; omega
  rw [List.set_append_right _ _ (by omega), h1, Nat.sub_self, List.replicate_succ, List.set_cons_zero, List.take_add_one, hc]; simp
set_option maxRecDepth 65536 in
theorem lp_cmp5 (l : Launch) {Z : State} {n0 : Nat} (a d : Addr) (cs : List Int32) (h0 : Heap) (hL : ∀ c ∈ cs, isL c) (hn : cs.length < 2 ^ 31) (zd : n0 ≤ d) (hne : a ≠ d) {R : Room} {K : Cx} (H : Ok Z K "java/lang/StringUTF16" jdk_52_method_21_code 7 (some .int) "compress") :
    ∀ (m i : Nat), i + m = cs.length → ∀ (h : Heap) (s6 : Slot), One s6 → Vec Z h a .char cs → Vec Z h d .byte ((cs.take i).map (nar .byte) ++ List.replicate m 0) → Keep h0 h [d] →
      Go l Z n0 R K (fun v h' sn => v = some (.int cs.length.toInt32) ∧ Keep h0 h' [d] ∧ Vec Z h' d .byte (cs.map (nar .byte)) ∧ sn = []) h [d] 0 0 3 #[.val (.ref a), .val (.int i.toInt32), .val (.ref d), .val (.int i.toInt32), .val (.int cs.length.toInt32), .val (.int i.toInt32), s6] [] := by
  intro m
  induction m with
  | zero =>
    intro i hi h s6 h6 Fa Fd KK
    refine Go.iload H d5_3 rfl rfl ?_
    refine Go.iload H d5_5 rfl rfl ?_
    refine Go.icmpY (pc' := 44) H d5_7 (flt (own_nlt (by omega) (by omega))).2.1 (by decide) (by decide) ?_
    refine Go.iload H d5_44 rfl rfl ?_
    exact Go.ireturnI [] H d5_46 ⟨rfl, KK, own_full (by omega) Fd, rfl⟩ all0 (Nat.zero_le _) (Nat.zero_le _)
  | succ m ih =>
    intro i hi h s6 h6 Fa Fd KK
    have hlt : i < cs.length := by omega
    obtain ⟨c, hc⟩ : ∃ c, cs[i]? = some c := ⟨_, List.getElem?_eq_getElem hlt⟩
    have hLc : isL c := hL c (List.mem_of_getElem? hc)
    refine Go.iload H d5_3 rfl rfl ?_
    refine Go.iload H d5_5 rfl rfl ?_
    refine Go.icmpN H d5_7 (tlt (own_lt hn hlt)).2.1 rfl ?_
    refine Go.aloadN H d5_10 rfl rfl rfl ?_
    refine Go.iloadN H d5_11 rfl rfl ?_
    refine Go.caload (v := c) H d5_12 rfl Fa i (own_cl (by omega)) (own_n0 (by omega)) hc ?_
    refine Go.istore (ls' := #[.val (.ref a), .val (.int i.toInt32), .val (.ref d), .val (.int i.toInt32), .val (.int cs.length.toInt32), .val (.int i.toInt32), .val (.int c)]) H d5_13 rfl (XS.store1 rfl h6 rfl) ?_
    refine Go.iload H d5_15 rfl rfl ?_
    refine Go.sipush (255 : Int32) H d5_17 rfl rfl ?_
    refine Go.icmpY (pc' := 26) H d5_20 (flt (own_le255 hLc)).2.2.2 (by decide) (by decide) ?_
    refine Go.aloadN H d5_26 rfl rfl rfl ?_
    refine Go.iloadN H d5_27 rfl rfl ?_
    refine Go.iload H d5_28 rfl rfl ?_
    refine Go.i2b H d5_30 rfl ?_
    refine Go.bastore (nar .byte c) H d5_31 rfl Fd i (own_cl (by omega)) (own_n0 (by omega)) (by simp; omega) own_nb zd (by simp) ?_
    intro h1 K2 F3
    replace Fa := Fa.keep K2 (ninS hne nin0)
    replace KK := KK.trans K2 (allS (Or.inl (by simp)) all0)
    refine Go.iinc (ls' := #[.val (.ref a), .val (.int (i.toInt32 + (1 : Int32))), .val (.ref d), .val (.int i.toInt32), .val (.int cs.length.toInt32), .val (.int i.toInt32), .val (.int c)]) (1 : Int32) H d5_32 rfl rfl rfl rfl ?_
    refine Go.iinc (ls' := #[.val (.ref a), .val (.int (i.toInt32 + (1 : Int32))), .val (.ref d), .val (.int (i.toInt32 + (1 : Int32))), .val (.int cs.length.toInt32), .val (.int i.toInt32), .val (.int c)]) (1 : Int32) H d5_35 rfl rfl rfl rfl ?_
    refine Go.iinc (ls' := #[.val (.ref a), .val (.int (i.toInt32 + (1 : Int32))), .val (.ref d), .val (.int (i.toInt32 + (1 : Int32))), .val (.int cs.length.toInt32), .val (.int (i.toInt32 + (1 : Int32))), .val (.int c)]) (1 : Int32) H d5_38 rfl rfl rfl rfl ?_
    refine Go.goto (pc' := 3) H d5_41 (by decide) (by decide) ?_
    rw [own_fill hc] at F3
    rw [own_s i]
    exact ih (i + 1) (by omega) _ _ (One.val rfl) Fa F3 KK
theorem d5_0 : decode jdk_52_method_21_code 0 = .ok (.iconst 0, 1) := by decide +kernel
theorem d5_1 : decode jdk_52_method_21_code 1 = .ok (.istore 5, 2) := by decide +kernel
theorem pn_N0 : plainName N0.cls = true := by first | (simp [plainName, overriddenIn]; done) | decide +kernel

abbrev rm_cmp5 : Room := { frames := 0, cells := 0, slots := 0, locals := 0 }
set_option maxRecDepth 65536 in
set_option maxHeartbeats 4000000 in
theorem ct_cmp5 (l : Launch) {Z : State} {n0 : Nat} {z : Int32} {f g : Value} {e : Addr} (W : Sx Z z f g e) (a d : Addr) (cs : List Int32) (h : Heap) (Fa : Vec Z h a .char cs) (Fd : Vec Z h d .byte (List.replicate cs.length 0)) (hL : ∀ c ∈ cs, isL c) (hn : cs.length < 2 ^ 31) (zd : n0 ≤ d) (hne : a ≠ d) :
    Ctr l Z n0 N0 jdk_52_method_21_code 7 (some .int) rm_cmp5 #[(.ref a), (.int (0 : Int32)), (.ref d), (.int (0 : Int32)), (.int cs.length.toInt32)] h [d] (fun v h' sn => v = some (.int cs.length.toInt32) ∧ Keep h h' [d] ∧ Vec Z h' d .byte (cs.map (nar .byte)) ∧ sn = []) := by
  refine Ctr.of_go (ls := #[.val (.ref a), .val (.int (0 : Int32)), .val (.ref d), .val (.int (0 : Int32)), .val (.int cs.length.toInt32), .unset, .unset]) W.1.1 pn_N0 (fun m => rfl) (fun K H => ?_)
  refine Go.iconst (0 : Int32) H d5_0 rfl rfl ?_
  refine Go.istore (ls' := #[.val (.ref a), .val (.int (0 : Int32)), .val (.ref d), .val (.int (0 : Int32)), .val (.int cs.length.toInt32), .val (.int (0 : Int32)), .unset]) H d5_1 rfl rfl ?_
  exact lp_cmp5 l a d cs h hL hn zd hne H cs.length 0 (by omega) h _ One.u Fa (by simpa using Fd) (Keep.refl _ _)
theorem d4_0 : decode jdk_52_method_16_code 0 = .ok (.iload_n 2, 1) := by decide +kernel
theorem d4_1 : decode jdk_52_method_16_code 1 = .ok (.newarray .byte, 2) := by decide +kernel
theorem w19 : Jvm.Cond.arrayClass Jvm.ClassFile.FieldType.byte ∈ tables_1 := List.mem_of_getElem? (i := 19) rfl
theorem d4_3 : decode jdk_52_method_16_code 3 = .ok (.astore_n 3, 1) := by decide +kernel
theorem d4_4 : decode jdk_52_method_16_code 4 = .ok (.aload_n 0, 1) := by decide +kernel
theorem d4_5 : decode jdk_52_method_16_code 5 = .ok (.iload_n 1, 1) := by decide +kernel
theorem d4_6 : decode jdk_52_method_16_code 6 = .ok (.aload_n 3, 1) := by decide +kernel
theorem d4_7 : decode jdk_52_method_16_code 7 = .ok (.iconst 0, 1) := by decide +kernel
theorem d4_8 : decode jdk_52_method_16_code 8 = .ok (.iload_n 2, 1) := by decide +kernel
theorem d4_9 : decode jdk_52_method_16_code 9 = .ok (.invokestatic 115, 3) := by decide +kernel
theorem w22 : Jvm.Cond.code N0 jdk_52_method_21_code (7 : Nat) (Option.some Jvm.ClassFile.FieldType.int) ∈ tables_1 := List.mem_of_getElem? (i := 22) rfl
theorem w17 : Jvm.Cond.initialized "java/lang/StringUTF16" ∈ tables_1 := List.mem_of_getElem? (i := 17) rfl
theorem pd_N0 : parseMethodDescriptor N0.desc = some ⟨[(.array .char), .int, (.array .byte), .int, .int], (some .int)⟩ := by decide +kernel
theorem nh_N0 : N0.cls ≠ "java/lang/invoke/MethodHandle" ∧ N0.cls ≠ "java/lang/invoke/VarHandle" := by decide
theorem w20 : Jvm.Cond.methodLink "java/lang/StringUTF16" (115 : Nat) N0 ∈ tables_1 := List.mem_of_getElem? (i := 20) rfl
theorem w21 : Jvm.Cond.static N0 ∈ tables_1 := List.mem_of_getElem? (i := 21) rfl
theorem d4_12 : decode jdk_52_method_16_code 12 = .ok (.istore 4, 2) := by decide +kernel
theorem d4_14 : decode jdk_52_method_16_code 14 = .ok (.iload 4, 2) := by decide +kernel
theorem d4_16 : decode jdk_52_method_16_code 16 = .ok (.iload_n 2, 1) := by decide +kernel
theorem d4_17 : decode jdk_52_method_16_code 17 = .ok (.if_icmp .eq 40, 3) := by decide +kernel
theorem d4_57 : decode jdk_52_method_16_code 57 = .ok (.aload_n 3, 1) := by decide +kernel
theorem d4_58 : decode jdk_52_method_16_code 58 = .ok (.areturn, 1) := by decide +kernel
abbrev N1 : MethodName := ⟨"java/lang/StringUTF16", "compress", "([CII)[B"⟩

abbrev rm_cmp3 : Room := { frames := 1, cells := 1, slots := 4, locals := 18 }
set_option maxRecDepth 65536 in
set_option maxHeartbeats 4000000 in
theorem ct_cmp3 (l : Launch) {Z : State} {n0 : Nat} {z : Int32} {f g : Value} {e : Addr} (W : Sx Z z f g e) (a : Addr) (cs : List Int32) (h : Heap) (Fa : Vec Z h a .char cs) (hL : ∀ c ∈ cs, isL c) (hn : cs.length ≤ 4) :
    Ctr l Z n0 N1 jdk_52_method_16_code 6 (some (.array .byte)) rm_cmp3 #[(.ref a), (.int (0 : Int32)), (.int cs.length.toInt32)] h [] (fun v h' sn => ∃ b, v = some (.ref b) ∧ Ext h h' ∧ h.size ≤ b ∧ Vec Z h' b .byte (cs.map (nar .byte)) ∧ sn = []) := by
  refine Ctr.of_go (ls := #[.val (.ref a), .val (.int (0 : Int32)), .val (.int cs.length.toInt32), .unset, .unset, .unset]) W.1.1 pn_N0 (fun m => rfl) (fun K H => ?_)
  have KK : Keep h h [] := Keep.refl _ _
  refine Go.iloadN H d4_0 rfl rfl ?_
  refine Go.newarray cs.length 4 H d4_1 rfl w19 rfl (by decide) (own_n0 (by omega)) (own_cl (by omega)) hn (by decide) (by decide) (by decide) ?_
  intro a1 h2 g3 z4 E5 F6
  have ne7 : a ≠ a1 := Nat.ne_of_lt (Nat.lt_of_lt_of_le Fa.lt (Nat.le_of_eq g3.symm))
  have sz8 := Nat.le_trans KK.1 (Nat.le_of_eq g3.symm)
  replace Fa := Fa.ext E5
  replace KK := KK.ext E5
  show Go _ _ _ _ _ _ h2 [a1] 1 4 3 #[.val (.ref a), .val (.int (0 : Int32)), .val (.int cs.length.toInt32), .unset, .unset, .unset] [(.ref a1)]
  refine Go.astoreN (ls' := #[.val (.ref a), .val (.int (0 : Int32)), .val (.int cs.length.toInt32), .val (.ref a1), .unset, .unset]) H d4_3 rfl rfl rfl ?_
  refine Go.aloadN H d4_4 rfl rfl rfl ?_
  refine Go.iloadN H d4_5 rfl rfl ?_
  refine Go.aloadN H d4_6 rfl rfl rfl ?_
  refine Go.iconst (0 : Int32) H d4_7 rfl rfl ?_
  refine Go.iloadN H d4_8 rfl rfl ?_
  refine Go.callS (rest := []) 0 [(.ref a), (.int (0 : Int32)), (.ref a1), (.int (0 : Int32)), (.int cs.length.toInt32)] H d4_9 rfl w20 w21 w17 w22 pd_N0 (ct_cmp5 l W a a1 cs h2 Fa F6 hL (by omega) z4 ne7) (by simp) rfl rfl rfl (Nat.le_of_eq rfl) (by decide) (by decide) (by decide) (by decide) nh_N0 ?_
  rintro _ h9 _ ⟨rfl, K10, F11, rfl⟩
  replace Fa := Fa.keep K10 (ninS ne7 nin0)
  replace KK := KK.trans K10 (allS (Or.inr sz8) all0)
  show Go _ _ _ _ _ _ h9 [a1] 1 4 12 #[.val (.ref a), .val (.int (0 : Int32)), .val (.int cs.length.toInt32), .val (.ref a1), .unset, .unset] [(.int cs.length.toInt32)]
  refine Go.istore (ls' := #[.val (.ref a), .val (.int (0 : Int32)), .val (.int cs.length.toInt32), .val (.ref a1), .val (.int cs.length.toInt32), .unset]) H d4_12 rfl rfl ?_
  refine Go.iload H d4_14 rfl rfl ?_
  refine Go.iloadN H d4_16 rfl rfl ?_
  refine Go.icmpY (pc' := 57) H d4_17 (teq rfl).1 (by decide) (by decide) ?_
  refine Go.aloadN H d4_57 rfl rfl rfl ?_
  exact Go.areturn [] H d4_58 rfl rfl rfl ⟨_, rfl, own_ext KK, Nat.le_of_eq g3.symm, F11, rfl⟩ all0 (by decide) (by decide)
theorem own_cod (x : Int32) : nar .byte (((x - x).toUInt32 >>> ((31 : Int32) &&& 31).toUInt32).toInt32) = 0 := by rw [Int32.sub_self]; decide
theorem d6_0 : decode jdk_52_method_15_code 0 = .ok (.iload_n 1, 1) := by decide +kernel
theorem d6_1 : decode jdk_52_method_15_code 1 = .ok (.aload_n 0, 1) := by decide +kernel
theorem d6_2 : decode jdk_52_method_15_code 2 = .ok (.arraylength, 1) := by decide +kernel
theorem d6_3 : decode jdk_52_method_15_code 3 = .ok (.isub, 1) := by decide +kernel
theorem d6_4 : decode jdk_52_method_15_code 4 = .ok (.bipush 31, 2) := by decide +kernel
theorem d6_6 : decode jdk_52_method_15_code 6 = .ok (.iushr, 1) := by decide +kernel
theorem d6_7 : decode jdk_52_method_15_code 7 = .ok (.i2b, 1) := by decide +kernel
theorem d6_8 : decode jdk_52_method_15_code 8 = .ok (.ireturn, 1) := by decide +kernel
abbrev N2 : MethodName := ⟨"java/lang/StringUTF16", "coderFromArrayLen", "([BI)B"⟩

abbrev rm_codl : Room := { frames := 0, cells := 0, slots := 0, locals := 0 }
set_option maxRecDepth 65536 in
set_option maxHeartbeats 4000000 in
theorem ct_codl (l : Launch) {Z : State} {n0 : Nat} {z : Int32} {f g : Value} {e : Addr} (W : Sx Z z f g e) (b : Addr) (bs : List Int32) (n : Int32) (h : Heap) (Fb : Vec Z h b .byte bs) (hb : bs.length.toInt32 = n) :
    Ctr l Z n0 N2 jdk_52_method_15_code 2 (some .byte) rm_codl #[(.ref b), (.int n)] h [] (fun v h' sn => v = some (.int 0) ∧ h = h' ∧ sn = []) := by
  refine Ctr.of_go (ls := #[.val (.ref b), .val (.int n)]) W.1.1 pn_N0 (fun m => rfl) (fun K H => ?_)
  refine Go.iloadN H d6_0 rfl rfl ?_
  refine Go.aloadN H d6_1 rfl rfl rfl ?_
  refine Go.arraylength n H d6_2 rfl Fb hb ?_
  refine Go.isub H d6_3 rfl ?_
  refine Go.bipush (31 : Int32) H d6_4 rfl rfl ?_
  refine Go.iushr H d6_6 rfl ?_
  refine Go.i2b H d6_7 rfl ?_
  exact Go.ireturn (0 : Int32) [] H d6_8 (by simp) (own_nb.trans (own_cod _)) ⟨rfl, rfl, rfl⟩ all0 (by decide) (by decide)
theorem w2 : Jvm.Cond.instantiable "java/lang/String" (4 : Nat) ∈ tables_1 := List.mem_of_getElem? (i := 2) rfl
theorem d2_0 : decode jdk_42_method_149_code 0 = .ok (.aload_n 0, 1) := by decide +kernel
theorem d2_1 : decode jdk_42_method_149_code 1 = .ok (.invokespecial 1, 3) := by decide +kernel
abbrev N3 : MethodName := ⟨"java/lang/Object", "<init>", "()V"⟩
theorem w11 : Jvm.Cond.methodLink "java/lang/String" (1 : Nat) N3 ∈ tables_1 := List.mem_of_getElem? (i := 11) rfl
theorem w12 : Jvm.Cond.instanceMethod N3 ∈ tables_1 := List.mem_of_getElem? (i := 12) rfl
theorem w13 : Jvm.Cond.code N3 object_method_1_code (1 : Nat) (Option.none : Option Jvm.ClassFile.FieldType) ∈ tables_1 := List.mem_of_getElem? (i := 13) rfl
theorem d2_4 : decode jdk_42_method_149_code 4 = .ok (.iload_n 3, 1) := by decide +kernel
theorem d2_5 : decode jdk_42_method_149_code 5 = .ok (.ifCond .ne 22, 3) := by decide +kernel
theorem d2_27 : decode jdk_42_method_149_code 27 = .ok (.getstatic 38, 3) := by decide +kernel
theorem w14 : Jvm.Cond.fieldLink "java/lang/String" (38 : Nat) "java/lang/String" "COMPACT_STRINGS" "Z" ∈ tables_1 := List.mem_of_getElem? (i := 14) rfl
theorem d2_30 : decode jdk_42_method_149_code 30 = .ok (.ifCond .eq 28, 3) := by decide +kernel
theorem d2_33 : decode jdk_42_method_149_code 33 = .ok (.aload_n 1, 1) := by decide +kernel
theorem d2_34 : decode jdk_42_method_149_code 34 = .ok (.iload_n 2, 1) := by decide +kernel
theorem d2_35 : decode jdk_42_method_149_code 35 = .ok (.iload_n 3, 1) := by decide +kernel
theorem d2_36 : decode jdk_42_method_149_code 36 = .ok (.invokestatic 177, 3) := by decide +kernel
theorem w18 : Jvm.Cond.code N1 jdk_52_method_16_code (6 : Nat) (Option.some (Jvm.ClassFile.FieldType.array Jvm.ClassFile.FieldType.byte)) ∈ tables_1 := List.mem_of_getElem? (i := 18) rfl
theorem pd_N1 : parseMethodDescriptor N1.desc = some ⟨[(.array .char), .int, .int], (some (.array .byte))⟩ := by decide +kernel
theorem w15 : Jvm.Cond.methodLink "java/lang/String" (177 : Nat) N1 ∈ tables_1 := List.mem_of_getElem? (i := 15) rfl
theorem w16 : Jvm.Cond.static N1 ∈ tables_1 := List.mem_of_getElem? (i := 16) rfl
theorem d2_39 : decode jdk_42_method_149_code 39 = .ok (.astore 5, 2) := by decide +kernel
theorem d2_41 : decode jdk_42_method_149_code 41 = .ok (.aload_n 0, 1) := by decide +kernel
theorem d2_42 : decode jdk_42_method_149_code 42 = .ok (.aload 5, 2) := by decide +kernel
theorem d2_44 : decode jdk_42_method_149_code 44 = .ok (.iload_n 3, 1) := by decide +kernel
theorem d2_45 : decode jdk_42_method_149_code 45 = .ok (.invokestatic 47, 3) := by decide +kernel
theorem w25 : Jvm.Cond.code N2 jdk_52_method_15_code (2 : Nat) (Option.some Jvm.ClassFile.FieldType.byte) ∈ tables_1 := List.mem_of_getElem? (i := 25) rfl
theorem pd_N2 : parseMethodDescriptor N2.desc = some ⟨[(.array .byte), .int], (some .byte)⟩ := by decide +kernel
theorem w23 : Jvm.Cond.methodLink "java/lang/String" (47 : Nat) N2 ∈ tables_1 := List.mem_of_getElem? (i := 23) rfl
theorem w24 : Jvm.Cond.static N2 ∈ tables_1 := List.mem_of_getElem? (i := 24) rfl
theorem d2_48 : decode jdk_42_method_149_code 48 = .ok (.putfield 15, 3) := by decide +kernel
theorem w26 : Jvm.Cond.fieldLink "java/lang/String" (15 : Nat) "java/lang/String" "coder" "B" ∈ tables_1 := List.mem_of_getElem? (i := 26) rfl
theorem w27 : Jvm.Cond.laysFinal "java/lang/String" "java/lang/String" "coder" "B" ∈ tables_1 := List.mem_of_getElem? (i := 27) rfl
theorem w29 : Jvm.Cond.laysFinal "java/lang/String" "java/lang/String" "value" "[B" ∈ tables_1 := List.mem_of_getElem? (i := 29) rfl
theorem d2_51 : decode jdk_42_method_149_code 51 = .ok (.aload_n 0, 1) := by decide +kernel
theorem d2_52 : decode jdk_42_method_149_code 52 = .ok (.aload 5, 2) := by decide +kernel
theorem d2_54 : decode jdk_42_method_149_code 54 = .ok (.putfield 9, 3) := by decide +kernel
theorem w28 : Jvm.Cond.fieldLink "java/lang/String" (9 : Nat) "java/lang/String" "value" "[B" ∈ tables_1 := List.mem_of_getElem? (i := 28) rfl
theorem d2_57 : decode jdk_42_method_149_code 57 = .ok (.return_, 1) := by decide +kernel
abbrev N4 : MethodName := ⟨"java/lang/String", "<init>", "([CIILjava/lang/Void;)V"⟩
theorem pn_N4 : plainName N4.cls = true := by first | (simp [plainName, overriddenIn]; done) | decide +kernel

abbrev rm_new4 : Room := { frames := 2, cells := 1, slots := 4, locals := 35 }
set_option maxRecDepth 65536 in
set_option maxHeartbeats 4000000 in
theorem ct_new4 (l : Launch) {Z : State} {n0 : Nat} {z : Int32} {f g : Value} {e : Addr} (W : Sx Z z f g e) (x a : Addr) (cs : List Int32) (h : Heap) (A : Exa Z h x "java/lang/String") (Fv : Fld Z h x "java/lang/String" "value" "[B" .null) (Fc : Fld Z h x "java/lang/String" "coder" "B" (.int 0)) (Fa : Vec Z h a .char cs) (hL : ∀ c ∈ cs, isL c) (hn : cs.length ≤ 4) (hp : 0 < cs.length) (zx : n0 ≤ x) :
    Ctr l Z n0 N4 jdk_42_method_149_code 6 none rm_new4 #[(.ref x), (.ref a), (.int (0 : Int32)), (.int cs.length.toInt32), .null] h [x] (fun v h' sn => v = none ∧ Keep h h' [x] ∧ (∃ b, h.size ≤ b ∧ Str Z h' x b cs) ∧ sn = []) := by
  refine Ctr.of_go (ls := #[.val (.ref x), .val (.ref a), .val (.int (0 : Int32)), .val (.int cs.length.toInt32), .val .null, .unset]) W.1.1 pn_N4 (fun m => rfl) (fun K H => ?_)
  have KK : Keep h h [x] := Keep.refl _ _
  have hax : a ≠ x := Vec.neExa Fa A W.1.1 w2
  refine Go.aloadN H d2_0 rfl rfl rfl ?_
  refine Go.initObj H d2_1 rfl w11 w12 w13 0 rfl (Nat.le_of_eq rfl) (by decide) (by decide) ?_
  refine Go.iloadN H d2_4 rfl rfl ?_
  refine Go.ifY (pc' := 27) H d2_5 (feq (own_ne0 (by omega) hp)).2 (by decide) (by decide) ?_
  refine Go.getstatic H d2_27 rfl w14 W.1.2.2.1 ?_
  refine Go.ifN H d2_30 (feq W.1.2.1).1 rfl ?_
  refine Go.aloadN H d2_33 rfl rfl rfl ?_
  refine Go.iloadN H d2_34 rfl rfl ?_
  refine Go.iloadN H d2_35 rfl rfl ?_
  refine Go.callS (rest := []) 0 [(.ref a), (.int (0 : Int32)), (.int cs.length.toInt32)] H d2_36 rfl w15 w16 w17 w18 pd_N1 (ct_cmp3 l W a cs h Fa hL hn) all0 rfl rfl rfl (Nat.le_of_eq rfl) (by decide) (by decide) (by decide) (by decide) nh_N0 ?_
  rintro _ h2 _ ⟨b1, rfl, E3, g4, F5, rfl⟩
  have ne6 : x ≠ b1 := Nat.ne_of_lt (Nat.lt_of_lt_of_le A.lt g4)
  have ne7 : a ≠ b1 := Nat.ne_of_lt (Nat.lt_of_lt_of_le Fa.lt g4)
  replace A := A.ext E3
  replace Fv := Fv.ext E3
  replace Fc := Fc.ext E3
  replace Fa := Fa.ext E3
  replace KK := KK.ext E3
  show Go _ _ _ _ _ _ h2 [x] 1 4 39 #[.val (.ref x), .val (.ref a), .val (.int (0 : Int32)), .val (.int cs.length.toInt32), .val .null, .unset] [(.ref b1)]
  refine Go.astore (ls' := #[.val (.ref x), .val (.ref a), .val (.int (0 : Int32)), .val (.int cs.length.toInt32), .val .null, .val (.ref b1)]) H d2_39 rfl rfl rfl ?_
  refine Go.aloadN H d2_41 rfl rfl rfl ?_
  refine Go.aload H d2_42 rfl rfl rfl ?_
  refine Go.iloadN H d2_44 rfl rfl ?_
  refine Go.callS (rest := [(.ref x)]) 1 [(.ref b1), (.int cs.length.toInt32)] H d2_45 rfl w23 w24 w17 w25 pd_N2 (ct_codl l W b1 _ cs.length.toInt32 h2 F5 (by rw [List.length_map])) all0 rfl rfl rfl (Nat.le_of_eq rfl) (by decide) (by decide) (by decide) (by decide) nh_N0 ?_
  rintro _ _ _ ⟨rfl, rfl, rfl⟩
  show Go _ _ _ _ _ _ h2 [x] 1 4 48 #[.val (.ref x), .val (.ref a), .val (.int (0 : Int32)), .val (.int cs.length.toInt32), .val .null, .val (.ref b1)] [(.int (0 : Int32)), (.ref x)]
  refine Go.putfield (v := (.int (0 : Int32))) H d2_48 rfl w26 Fc A (Or.inr ⟨w27, rfl, rfl⟩) w2 (ty := .byte) (by decide) (by decide) (by decide) zx (by simp) ?_
  intro h8 Wr9
  have F10 := Fc.same Wr9
  have K11 := Keep.of_wr Wr9
  replace A := A.wr Wr9
  replace Fv := Fv.other Wr9 (Or.inr (own_sne W.1.1 (Or.inr w29) (Or.inr w27) (by decide) (t := (.array .byte)) (t' := .byte) (by decide) (by decide)))
  replace Fa := Fa.keep K11 (ninS hax nin0)
  replace F5 := F5.keep K11 (ninS (Ne.symm ne6) nin0)
  replace KK := KK.wr Wr9 (Or.inl (by simp))
  refine Go.aloadN H d2_51 rfl rfl rfl ?_
  refine Go.aload H d2_52 rfl rfl rfl ?_
  refine Go.putfield (v := (.ref b1)) H d2_54 rfl w28 Fv A (Or.inr ⟨w29, rfl, rfl⟩) w2 (ty := (.array .byte)) (by decide) rfl rfl zx (by simp) ?_
  intro h12 Wr13
  have F14 := Fv.same Wr13
  have K15 := Keep.of_wr Wr13
  replace A := A.wr Wr13
  replace Fa := Fa.keep K15 (ninS hax nin0)
  replace F5 := F5.keep K15 (ninS (Ne.symm ne6) nin0)
  replace F10 := F10.other Wr13 (Or.inr (own_sne W.1.1 (Or.inr w27) (Or.inr w29) (by decide) (t := .byte) (t' := (.array .byte)) (by decide) (by decide)))
  replace KK := KK.wr Wr13 (Or.inl (by simp))
  exact Go.return_ [] H d2_57 ⟨rfl, KK, ⟨_, g4, A, F14, F10, F5, hL, by omega⟩, rfl⟩ all0 (by decide) (by decide)
theorem d1_0 : decode jdk_42_method_3_code 0 = .ok (.aload_n 0, 1) := by decide +kernel
theorem d1_1 : decode jdk_42_method_3_code 1 = .ok (.aload_n 1, 1) := by decide +kernel
theorem d1_2 : decode jdk_42_method_3_code 2 = .ok (.iconst 0, 1) := by decide +kernel
theorem d1_3 : decode jdk_42_method_3_code 3 = .ok (.aload_n 1, 1) := by decide +kernel
theorem d1_4 : decode jdk_42_method_3_code 4 = .ok (.arraylength, 1) := by decide +kernel
theorem d1_5 : decode jdk_42_method_3_code 5 = .ok (.aconst_null, 1) := by decide +kernel
theorem d1_6 : decode jdk_42_method_3_code 6 = .ok (.invokespecial 27, 3) := by decide +kernel
theorem w10 : Jvm.Cond.code N4 jdk_42_method_149_code (6 : Nat) (Option.none : Option Jvm.ClassFile.FieldType) ∈ tables_1 := List.mem_of_getElem? (i := 10) rfl
theorem w3 : Jvm.Cond.initialized "java/lang/String" ∈ tables_1 := List.mem_of_getElem? (i := 3) rfl
theorem pd_N4 : parseMethodDescriptor N4.desc = some ⟨[(.array .char), .int, .int, (.object "java/lang/Void")], none⟩ := by decide +kernel
theorem nh_N4 : N4.cls ≠ "java/lang/invoke/MethodHandle" ∧ N4.cls ≠ "java/lang/invoke/VarHandle" := by decide
theorem w7 : Jvm.Cond.methodLink "java/lang/String" (27 : Nat) N4 ∈ tables_1 := List.mem_of_getElem? (i := 7) rfl
theorem w8 : Jvm.Cond.instanceMethod N4 ∈ tables_1 := List.mem_of_getElem? (i := 8) rfl
theorem d1_9 : decode jdk_42_method_3_code 9 = .ok (.return_, 1) := by decide +kernel
abbrev N5 : MethodName := ⟨"java/lang/String", "<init>", "([C)V"⟩

abbrev rm_new1 : Room := { frames := 3, cells := 1, slots := 4, locals := 52 }
set_option maxRecDepth 65536 in
set_option maxHeartbeats 4000000 in
theorem ct_new1 (l : Launch) {Z : State} {n0 : Nat} {z : Int32} {f g : Value} {e : Addr} (W : Sx Z z f g e) (x a : Addr) (cs : List Int32) (h : Heap) (A : Exa Z h x "java/lang/String") (Fv : Fld Z h x "java/lang/String" "value" "[B" .null) (Fc : Fld Z h x "java/lang/String" "coder" "B" (.int 0)) (Fa : Vec Z h a .char cs) (hL : ∀ c ∈ cs, isL c) (hn : cs.length ≤ 4) (hp : 0 < cs.length) (zx : n0 ≤ x) :
    Ctr l Z n0 N5 jdk_42_method_3_code 2 none rm_new1 #[(.ref x), (.ref a)] h [x] (fun v h' sn => v = none ∧ Keep h h' [x] ∧ (∃ b, h.size ≤ b ∧ Str Z h' x b cs) ∧ sn = []) := by
  refine Ctr.of_go (ls := #[.val (.ref x), .val (.ref a)]) W.1.1 pn_N4 (fun m => rfl) (fun K H => ?_)
  have hax : a ≠ x := Vec.neExa Fa A W.1.1 w2
  refine Go.aloadN H d1_0 rfl rfl rfl ?_
  refine Go.aloadN H d1_1 rfl rfl rfl ?_
  refine Go.iconst (0 : Int32) H d1_2 rfl rfl ?_
  refine Go.aloadN H d1_3 rfl rfl rfl ?_
  refine Go.arraylength cs.length.toInt32 H d1_4 rfl Fa rfl ?_
  refine Go.aconstNull H d1_5 rfl ?_
  refine Go.callI (rest := []) 0 [(.ref a), (.int (0 : Int32)), (.int cs.length.toInt32), .null] H d1_6 rfl rfl w7 w8 w3 w10 pd_N4 (ct_new4 l W x a cs h A Fv Fc Fa hL hn hp zx) (by simp) rfl rfl rfl (Nat.le_of_eq rfl) (by decide) (by decide) (by decide) (by decide) nh_N4 ?_
  rintro _ h1 _ ⟨rfl, K2, ⟨b3, g4, S5⟩, rfl⟩
  have ne6 : x ≠ b3 := Nat.ne_of_lt (Nat.lt_of_lt_of_le A.lt g4)
  have ne7 : a ≠ b3 := Nat.ne_of_lt (Nat.lt_of_lt_of_le Fa.lt g4)
  replace Fa := Fa.keep K2 (ninS hax nin0)
  show Go _ _ _ _ _ _ h1 [x] 1 4 9 #[.val (.ref x), .val (.ref a)] []
  exact Go.return_ [] H d1_9 ⟨rfl, K2, ⟨_, g4, S5⟩, rfl⟩ all0 (by decide) (by decide)
theorem d8_0 : decode jdk_40_method_36_code 0 = .ok (.getstatic 90, 3) := by decide +kernel
theorem w42 : Jvm.Cond.fieldLink "java/util/List" (90 : Nat) "java/util/ImmutableCollections" "EMPTY_LIST" "Ljava/util/ImmutableCollections$ListN;" ∈ tables_1 := List.mem_of_getElem? (i := 42) rfl
theorem d8_3 : decode jdk_40_method_36_code 3 = .ok (.areturn, 1) := by decide +kernel
abbrev N6 : MethodName := ⟨"java/util/List", "of", "()Ljava/util/List;"⟩
theorem pn_N6 : plainName N6.cls = true := by first | (simp [plainName, overriddenIn]; done) | decide +kernel

abbrev rm_lof : Room := { frames := 0, cells := 0, slots := 0, locals := 0 }
set_option maxRecDepth 65536 in
set_option maxHeartbeats 4000000 in
theorem ct_lof (l : Launch) {Z : State} {n0 : Nat} {z : Int32} {f g : Value} {e : Addr} (W : Sx Z z f g e) (h : Heap) :
    Ctr l Z n0 N6 jdk_40_method_36_code 0 (some (.object "java/util/List")) rm_lof #[] h [] (fun v h' sn => v = some (.ref e) ∧ h = h' ∧ sn = []) := by
  refine Ctr.of_go (ls := #[]) W.1.1 pn_N6 (fun m => rfl) (fun K H => ?_)
  refine Go.getstatic H d8_0 rfl w42 W.2.2.2 ?_
  exact Go.areturn [] H d8_3 rfl rfl rfl ⟨rfl, rfl, rfl⟩ all0 (by decide) (by decide)
theorem d9_0 : decode prog_24_method_2_code 0 = .ok (.aload_n 0, 1) := by decide +kernel
theorem d9_1 : decode prog_24_method_2_code 1 = .ok (.invokespecial 17, 3) := by decide +kernel
theorem w47 : Jvm.Cond.methodLink "com/example/dunlin/dunlin/RunText" (17 : Nat) N3 ∈ tables_1 := List.mem_of_getElem? (i := 47) rfl
theorem d9_4 : decode prog_24_method_2_code 4 = .ok (.aload_n 0, 1) := by decide +kernel
theorem d9_5 : decode prog_24_method_2_code 5 = .ok (.aload_n 1, 1) := by decide +kernel
theorem d9_6 : decode prog_24_method_2_code 6 = .ok (.putfield 22, 3) := by decide +kernel
theorem w48 : Jvm.Cond.fieldLink "com/example/dunlin/dunlin/RunText" (22 : Nat) "com/example/dunlin/dunlin/RunText" "written" "Ljava/lang/String;" ∈ tables_1 := List.mem_of_getElem? (i := 48) rfl
theorem w49 : Jvm.Cond.laysFinal "com/example/dunlin/dunlin/RunText" "com/example/dunlin/dunlin/RunText" "written" "Ljava/lang/String;" ∈ tables_1 := List.mem_of_getElem? (i := 49) rfl
theorem w31 : Jvm.Cond.instantiable "com/example/dunlin/dunlin/RunText" (5 : Nat) ∈ tables_1 := List.mem_of_getElem? (i := 31) rfl
theorem w51 : Jvm.Cond.laysFinal "com/example/dunlin/dunlin/RunText" "com/example/dunlin/dunlin/RunText" "text" "Ljava/lang/String;" ∈ tables_1 := List.mem_of_getElem? (i := 51) rfl
theorem w53 : Jvm.Cond.laysFinal "com/example/dunlin/dunlin/RunText" "com/example/dunlin/dunlin/RunText" "replaced" "[I" ∈ tables_1 := List.mem_of_getElem? (i := 53) rfl
theorem w55 : Jvm.Cond.laysFinal "com/example/dunlin/dunlin/RunText" "com/example/dunlin/dunlin/RunText" "count" "I" ∈ tables_1 := List.mem_of_getElem? (i := 55) rfl
theorem w57 : Jvm.Cond.laysFinal "com/example/dunlin/dunlin/RunText" "com/example/dunlin/dunlin/RunText" "unresolved" "Ljava/util/List;" ∈ tables_1 := List.mem_of_getElem? (i := 57) rfl
theorem d9_9 : decode prog_24_method_2_code 9 = .ok (.aload_n 0, 1) := by decide +kernel
theorem d9_10 : decode prog_24_method_2_code 10 = .ok (.aload_n 2, 1) := by decide +kernel
theorem d9_11 : decode prog_24_method_2_code 11 = .ok (.putfield 26, 3) := by decide +kernel
theorem w50 : Jvm.Cond.fieldLink "com/example/dunlin/dunlin/RunText" (26 : Nat) "com/example/dunlin/dunlin/RunText" "text" "Ljava/lang/String;" ∈ tables_1 := List.mem_of_getElem? (i := 50) rfl
theorem d9_14 : decode prog_24_method_2_code 14 = .ok (.aload_n 0, 1) := by decide +kernel
theorem d9_15 : decode prog_24_method_2_code 15 = .ok (.aload_n 3, 1) := by decide +kernel
theorem d9_16 : decode prog_24_method_2_code 16 = .ok (.putfield 29, 3) := by decide +kernel
theorem w52 : Jvm.Cond.fieldLink "com/example/dunlin/dunlin/RunText" (29 : Nat) "com/example/dunlin/dunlin/RunText" "replaced" "[I" ∈ tables_1 := List.mem_of_getElem? (i := 52) rfl
theorem d9_19 : decode prog_24_method_2_code 19 = .ok (.aload_n 0, 1) := by decide +kernel
theorem d9_20 : decode prog_24_method_2_code 20 = .ok (.iload 4, 2) := by decide +kernel
theorem d9_22 : decode prog_24_method_2_code 22 = .ok (.putfield 32, 3) := by decide +kernel
theorem w54 : Jvm.Cond.fieldLink "com/example/dunlin/dunlin/RunText" (32 : Nat) "com/example/dunlin/dunlin/RunText" "count" "I" ∈ tables_1 := List.mem_of_getElem? (i := 54) rfl
theorem d9_25 : decode prog_24_method_2_code 25 = .ok (.aload_n 0, 1) := by decide +kernel
theorem d9_26 : decode prog_24_method_2_code 26 = .ok (.aload 5, 2) := by decide +kernel
theorem d9_28 : decode prog_24_method_2_code 28 = .ok (.putfield 36, 3) := by decide +kernel
theorem w56 : Jvm.Cond.fieldLink "com/example/dunlin/dunlin/RunText" (36 : Nat) "com/example/dunlin/dunlin/RunText" "unresolved" "Ljava/util/List;" ∈ tables_1 := List.mem_of_getElem? (i := 56) rfl
theorem d9_31 : decode prog_24_method_2_code 31 = .ok (.return_, 1) := by decide +kernel
abbrev N7 : MethodName := ⟨"com/example/dunlin/dunlin/RunText", "<init>", "(Ljava/lang/String;Ljava/lang/String;[IILjava/util/List;)V"⟩
theorem pn_N7 : plainName N7.cls = true := by first | (simp [plainName, overriddenIn]; done) | decide +kernel

abbrev rm_rt5 : Room := { frames := 1, cells := 0, slots := 0, locals := 12 }
set_option maxRecDepth 65536 in
set_option maxHeartbeats 4000000 in
theorem ct_rt5 (l : Launch) {Z : State} {n0 : Nat} {z : Int32} {f g : Value} {e : Addr} (W : Sx Z z f g e) (x s1 s2 : Addr) (h : Heap) (A : Exa Z h x "com/example/dunlin/dunlin/RunText") (Fwritten : Fld Z h x "com/example/dunlin/dunlin/RunText" "written" "Ljava/lang/String;" .null) (Ftext : Fld Z h x "com/example/dunlin/dunlin/RunText" "text" "Ljava/lang/String;" .null) (Freplaced : Fld Z h x "com/example/dunlin/dunlin/RunText" "replaced" "[I" .null) (Fcount : Fld Z h x "com/example/dunlin/dunlin/RunText" "count" "I" (.int (0 : Int32))) (Funresolved : Fld Z h x "com/example/dunlin/dunlin/RunText" "unresolved" "Ljava/util/List;" .null) (zx : n0 ≤ x) :
    Ctr l Z n0 N7 prog_24_method_2_code 6 none rm_rt5 #[(.ref x), (.ref s1), (.ref s2), g, (.int (0 : Int32)), (.ref e)] h [x] (fun v h' sn => v = none ∧ Keep h h' [x] ∧ Exa Z h' x "com/example/dunlin/dunlin/RunText" ∧ Fld Z h' x "com/example/dunlin/dunlin/RunText" "count" "I" (.int 0) ∧ sn = []) := by
  refine Ctr.of_go (ls := #[.val (.ref x), .val (.ref s1), .val (.ref s2), .val g, .val (.int (0 : Int32)), .val (.ref e)]) W.1.1 pn_N7 (fun m => (by rcases ref_cases W.2.1 with q | ⟨fa, q⟩ <;> rw [q] <;> rfl)) (fun K H => ?_)
  have KK : Keep h h [x] := Keep.refl _ _
  refine Go.aloadN H d9_0 rfl rfl rfl ?_
  refine Go.initObj H d9_1 rfl w47 w12 w13 0 rfl (Nat.le_of_eq rfl) (by decide) (by decide) ?_
  refine Go.aloadN H d9_4 rfl rfl rfl ?_
  refine Go.aloadN H d9_5 rfl rfl rfl ?_
  refine Go.putfield (v := (.ref s1)) H d9_6 rfl w48 Fwritten A (Or.inr ⟨w49, rfl, rfl⟩) w31 (ty := (.object "java/lang/String")) (by decide) rfl rfl zx (by simp) ?_
  intro h1 Wr2
  have F3 := Fwritten.same Wr2
  have K4 := Keep.of_wr Wr2
  replace A := A.wr Wr2
  replace Ftext := Ftext.other Wr2 (Or.inr (own_sne W.1.1 (Or.inr w51) (Or.inr w49) (by decide) (t := (.object "java/lang/String")) (t' := (.object "java/lang/String")) (by decide) (by decide)))
  replace Freplaced := Freplaced.other Wr2 (Or.inr (own_sne W.1.1 (Or.inr w53) (Or.inr w49) (by decide) (t := (.array .int)) (t' := (.object "java/lang/String")) (by decide) (by decide)))
  replace Fcount := Fcount.other Wr2 (Or.inr (own_sne W.1.1 (Or.inr w55) (Or.inr w49) (by decide) (t := .int) (t' := (.object "java/lang/String")) (by decide) (by decide)))
  replace Funresolved := Funresolved.other Wr2 (Or.inr (own_sne W.1.1 (Or.inr w57) (Or.inr w49) (by decide) (t := (.object "java/util/List")) (t' := (.object "java/lang/String")) (by decide) (by decide)))
  replace KK := KK.wr Wr2 (Or.inl (by simp))
  refine Go.aloadN H d9_9 rfl rfl rfl ?_
  refine Go.aloadN H d9_10 rfl rfl rfl ?_
  refine Go.putfield (v := (.ref s2)) H d9_11 rfl w50 Ftext A (Or.inr ⟨w51, rfl, rfl⟩) w31 (ty := (.object "java/lang/String")) (by decide) rfl rfl zx (by simp) ?_
  intro h5 Wr6
  have F7 := Ftext.same Wr6
  have K8 := Keep.of_wr Wr6
  replace A := A.wr Wr6
  replace Freplaced := Freplaced.other Wr6 (Or.inr (own_sne W.1.1 (Or.inr w53) (Or.inr w51) (by decide) (t := (.array .int)) (t' := (.object "java/lang/String")) (by decide) (by decide)))
  replace Fcount := Fcount.other Wr6 (Or.inr (own_sne W.1.1 (Or.inr w55) (Or.inr w51) (by decide) (t := .int) (t' := (.object "java/lang/String")) (by decide) (by decide)))
  replace Funresolved := Funresolved.other Wr6 (Or.inr (own_sne W.1.1 (Or.inr w57) (Or.inr w51) (by decide) (t := (.object "java/util/List")) (t' := (.object "java/lang/String")) (by decide) (by decide)))
  replace F3 := F3.other Wr6 (Or.inr (own_sne W.1.1 (Or.inr w49) (Or.inr w51) (by decide) (t := (.object "java/lang/String")) (t' := (.object "java/lang/String")) (by decide) (by decide)))
  replace KK := KK.wr Wr6 (Or.inl (by simp))
  refine Go.aloadN H d9_14 rfl rfl rfl ?_
  refine Go.aloadN H d9_15 rfl rfl W.2.1 ?_
  refine Go.putfield (v := g) H d9_16 rfl w52 Freplaced A (Or.inr ⟨w53, rfl, rfl⟩) w31 (ty := (.array .int)) (by decide) (own_narR W.2.1) (own_fitR W.2.1 rfl) zx (by simp) ?_
  intro h9 Wr10
  have F11 := Freplaced.same Wr10
  have K12 := Keep.of_wr Wr10
  replace A := A.wr Wr10
  replace Fcount := Fcount.other Wr10 (Or.inr (own_sne W.1.1 (Or.inr w55) (Or.inr w53) (by decide) (t := .int) (t' := (.array .int)) (by decide) (by decide)))
  replace Funresolved := Funresolved.other Wr10 (Or.inr (own_sne W.1.1 (Or.inr w57) (Or.inr w53) (by decide) (t := (.object "java/util/List")) (t' := (.array .int)) (by decide) (by decide)))
  replace F3 := F3.other Wr10 (Or.inr (own_sne W.1.1 (Or.inr w49) (Or.inr w53) (by decide) (t := (.object "java/lang/String")) (t' := (.array .int)) (by decide) (by decide)))
  replace F7 := F7.other Wr10 (Or.inr (own_sne W.1.1 (Or.inr w51) (Or.inr w53) (by decide) (t := (.object "java/lang/String")) (t' := (.array .int)) (by decide) (by decide)))
  replace KK := KK.wr Wr10 (Or.inl (by simp))
  refine Go.aloadN H d9_19 rfl rfl rfl ?_
  refine Go.iload H d9_20 rfl rfl ?_
  refine Go.putfield (v := (.int (0 : Int32))) H d9_22 rfl w54 Fcount A (Or.inr ⟨w55, rfl, rfl⟩) w31 (ty := .int) (by decide) rfl rfl zx (by simp) ?_
  intro h13 Wr14
  have F15 := Fcount.same Wr14
  have K16 := Keep.of_wr Wr14
  replace A := A.wr Wr14
  replace Funresolved := Funresolved.other Wr14 (Or.inr (own_sne W.1.1 (Or.inr w57) (Or.inr w55) (by decide) (t := (.object "java/util/List")) (t' := .int) (by decide) (by decide)))
  replace F3 := F3.other Wr14 (Or.inr (own_sne W.1.1 (Or.inr w49) (Or.inr w55) (by decide) (t := (.object "java/lang/String")) (t' := .int) (by decide) (by decide)))
  replace F7 := F7.other Wr14 (Or.inr (own_sne W.1.1 (Or.inr w51) (Or.inr w55) (by decide) (t := (.object "java/lang/String")) (t' := .int) (by decide) (by decide)))
  replace F11 := F11.other Wr14 (Or.inr (own_sne W.1.1 (Or.inr w53) (Or.inr w55) (by decide) (t := (.array .int)) (t' := .int) (by decide) (by decide)))
  replace KK := KK.wr Wr14 (Or.inl (by simp))
  refine Go.aloadN H d9_25 rfl rfl rfl ?_
  refine Go.aload H d9_26 rfl rfl rfl ?_
  refine Go.putfield (v := (.ref e)) H d9_28 rfl w56 Funresolved A (Or.inr ⟨w57, rfl, rfl⟩) w31 (ty := (.object "java/util/List")) (by decide) rfl rfl zx (by simp) ?_
  intro h17 Wr18
  have F19 := Funresolved.same Wr18
  have K20 := Keep.of_wr Wr18
  replace A := A.wr Wr18
  replace F3 := F3.other Wr18 (Or.inr (own_sne W.1.1 (Or.inr w49) (Or.inr w57) (by decide) (t := (.object "java/lang/String")) (t' := (.object "java/util/List")) (by decide) (by decide)))
  replace F7 := F7.other Wr18 (Or.inr (own_sne W.1.1 (Or.inr w51) (Or.inr w57) (by decide) (t := (.object "java/lang/String")) (t' := (.object "java/util/List")) (by decide) (by decide)))
  replace F11 := F11.other Wr18 (Or.inr (own_sne W.1.1 (Or.inr w53) (Or.inr w57) (by decide) (t := (.array .int)) (t' := (.object "java/util/List")) (by decide) (by decide)))
  replace F15 := F15.other Wr18 (Or.inr (own_sne W.1.1 (Or.inr w55) (Or.inr w57) (by decide) (t := .int) (t' := (.object "java/util/List")) (by decide) (by decide)))
  replace KK := KK.wr Wr18 (Or.inl (by simp))
  exact Go.return_ [] H d9_31 ⟨rfl, KK, A, F15, rfl⟩ all0 (by decide) (by decide)
theorem d7_0 : decode prog_24_method_1_code 0 = .ok (.aload_n 0, 1) := by decide +kernel
theorem d7_1 : decode prog_24_method_1_code 1 = .ok (.aload_n 1, 1) := by decide +kernel
theorem d7_2 : decode prog_24_method_1_code 2 = .ok (.aload_n 1, 1) := by decide +kernel
theorem d7_3 : decode prog_24_method_1_code 3 = .ok (.getstatic 1, 3) := by decide +kernel
theorem w36 : Jvm.Cond.fieldLink "com/example/dunlin/dunlin/RunText" (1 : Nat) "com/example/dunlin/dunlin/RunText" "NONE" "[I" ∈ tables_1 := List.mem_of_getElem? (i := 36) rfl
theorem d7_6 : decode prog_24_method_1_code 6 = .ok (.iconst 0, 1) := by decide +kernel
theorem d7_7 : decode prog_24_method_1_code 7 = .ok (.invokestatic 7, 3) := by decide +kernel
theorem w41 : Jvm.Cond.code N6 jdk_40_method_36_code (0 : Nat) (Option.some (Jvm.ClassFile.FieldType.object "java/util/List")) ∈ tables_1 := List.mem_of_getElem? (i := 41) rfl
theorem w40 : Jvm.Cond.initialized "java/util/List" ∈ tables_1 := List.mem_of_getElem? (i := 40) rfl
theorem pd_N6 : parseMethodDescriptor N6.desc = some ⟨[], (some (.object "java/util/List"))⟩ := by decide +kernel
theorem nh_N6 : N6.cls ≠ "java/lang/invoke/MethodHandle" ∧ N6.cls ≠ "java/lang/invoke/VarHandle" := by decide
theorem w38 : Jvm.Cond.methodLink "com/example/dunlin/dunlin/RunText" (7 : Nat) N6 ∈ tables_1 := List.mem_of_getElem? (i := 38) rfl
theorem w39 : Jvm.Cond.static N6 ∈ tables_1 := List.mem_of_getElem? (i := 39) rfl
theorem d7_10 : decode prog_24_method_1_code 10 = .ok (.invokespecial 13, 3) := by decide +kernel
theorem w46 : Jvm.Cond.code N7 prog_24_method_2_code (6 : Nat) (Option.none : Option Jvm.ClassFile.FieldType) ∈ tables_1 := List.mem_of_getElem? (i := 46) rfl
theorem w32 : Jvm.Cond.initialized "com/example/dunlin/dunlin/RunText" ∈ tables_1 := List.mem_of_getElem? (i := 32) rfl
theorem pd_N7 : parseMethodDescriptor N7.desc = some ⟨[(.object "java/lang/String"), (.object "java/lang/String"), (.array .int), .int, (.object "java/util/List")], none⟩ := by decide +kernel
theorem nh_N7 : N7.cls ≠ "java/lang/invoke/MethodHandle" ∧ N7.cls ≠ "java/lang/invoke/VarHandle" := by decide
theorem w44 : Jvm.Cond.methodLink "com/example/dunlin/dunlin/RunText" (13 : Nat) N7 ∈ tables_1 := List.mem_of_getElem? (i := 44) rfl
theorem w45 : Jvm.Cond.instanceMethod N7 ∈ tables_1 := List.mem_of_getElem? (i := 45) rfl
theorem d7_13 : decode prog_24_method_1_code 13 = .ok (.return_, 1) := by decide +kernel
abbrev N8 : MethodName := ⟨"com/example/dunlin/dunlin/RunText", "<init>", "(Ljava/lang/String;)V"⟩

abbrev rm_rt1 : Room := { frames := 2, cells := 0, slots := 0, locals := 29 }
set_option maxRecDepth 65536 in
set_option maxHeartbeats 4000000 in
theorem ct_rt1 (l : Launch) {Z : State} {n0 : Nat} {z : Int32} {f g : Value} {e : Addr} (W : Sx Z z f g e) (x s1 : Addr) (h : Heap) (A : Exa Z h x "com/example/dunlin/dunlin/RunText") (Fwritten : Fld Z h x "com/example/dunlin/dunlin/RunText" "written" "Ljava/lang/String;" .null) (Ftext : Fld Z h x "com/example/dunlin/dunlin/RunText" "text" "Ljava/lang/String;" .null) (Freplaced : Fld Z h x "com/example/dunlin/dunlin/RunText" "replaced" "[I" .null) (Fcount : Fld Z h x "com/example/dunlin/dunlin/RunText" "count" "I" (.int (0 : Int32))) (Funresolved : Fld Z h x "com/example/dunlin/dunlin/RunText" "unresolved" "Ljava/util/List;" .null) (zx : n0 ≤ x) :
    Ctr l Z n0 N8 prog_24_method_1_code 2 none rm_rt1 #[(.ref x), (.ref s1)] h [x] (fun v h' sn => v = none ∧ Keep h h' [x] ∧ Exa Z h' x "com/example/dunlin/dunlin/RunText" ∧ Fld Z h' x "com/example/dunlin/dunlin/RunText" "count" "I" (.int 0) ∧ sn = []) := by
  refine Ctr.of_go (ls := #[.val (.ref x), .val (.ref s1)]) W.1.1 pn_N7 (fun m => rfl) (fun K H => ?_)
  refine Go.aloadN H d7_0 rfl rfl rfl ?_
  refine Go.aloadN H d7_1 rfl rfl rfl ?_
  refine Go.aloadN H d7_2 rfl rfl rfl ?_
  refine Go.getstatic H d7_3 rfl w36 W.2.2.1 ?_
  refine Go.iconst (0 : Int32) H d7_6 rfl rfl ?_
  refine Go.callS (rest := [(.int (0 : Int32)), g, (.ref s1), (.ref s1), (.ref x)]) 5 [] H d7_7 rfl w38 w39 w40 w41 pd_N6 (ct_lof l W h) all0 rfl rfl rfl (by simp only [List.map_cons, List.sum_cons, own_cat W.2.1]; exact Nat.le_of_eq rfl) (by decide) (by decide) (by decide) (by decide) nh_N6 ?_
  rintro _ _ _ ⟨rfl, rfl, rfl⟩
  show Go _ _ _ _ _ _ h [x] 0 0 10 #[.val (.ref x), .val (.ref s1)] [(.ref e), (.int (0 : Int32)), g, (.ref s1), (.ref s1), (.ref x)]
  refine Go.callI (rest := []) 0 [(.ref s1), (.ref s1), g, (.int (0 : Int32)), (.ref e)] H d7_10 rfl rfl w44 w45 w32 w46 pd_N7 (ct_rt5 l W x s1 s1 h A Fwritten Ftext Freplaced Fcount Funresolved zx) (by simp) rfl rfl rfl (Nat.le_of_eq rfl) (by decide) (by decide) (by decide) (by decide) nh_N7 ?_
  rintro _ h1 _ ⟨rfl, K2, A3, F4, rfl⟩
  show Go _ _ _ _ _ _ h1 [x] 0 0 13 #[.val (.ref x), .val (.ref s1)] []
  exact Go.return_ [] H d7_13 ⟨rfl, K2, A3, F4, rfl⟩ all0 (by decide) (by decide)
theorem d10_0 : decode prog_24_method_12_code 0 = .ok (.iconst 0, 1) := by decide +kernel
theorem d10_1 : decode prog_24_method_12_code 1 = .ok (.istore_n 2, 1) := by decide +kernel
theorem d10_2 : decode prog_24_method_12_code 2 = .ok (.aload_n 0, 1) := by decide +kernel
theorem d10_3 : decode prog_24_method_12_code 3 = .ok (.getfield 32, 3) := by decide +kernel
theorem d10_6 : decode prog_24_method_12_code 6 = .ok (.istore_n 3, 1) := by decide +kernel
theorem d10_7 : decode prog_24_method_12_code 7 = .ok (.iload_n 2, 1) := by decide +kernel
theorem d10_8 : decode prog_24_method_12_code 8 = .ok (.iload_n 3, 1) := by decide +kernel
theorem d10_9 : decode prog_24_method_12_code 9 = .ok (.if_icmp .ge 39, 3) := by decide +kernel
theorem d10_48 : decode prog_24_method_12_code 48 = .ok (.iload_n 2, 1) := by decide +kernel
theorem d10_49 : decode prog_24_method_12_code 49 = .ok (.iconst 1, 1) := by decide +kernel
theorem d10_50 : decode prog_24_method_12_code 50 = .ok (.isub, 1) := by decide +kernel
theorem d10_51 : decode prog_24_method_12_code 51 = .ok (.iconst 4, 1) := by decide +kernel
theorem d10_52 : decode prog_24_method_12_code 52 = .ok (.imul, 1) := by decide +kernel
theorem d10_53 : decode prog_24_method_12_code 53 = .ok (.istore 4, 2) := by decide +kernel
theorem d10_55 : decode prog_24_method_12_code 55 = .ok (.iload 4, 2) := by decide +kernel
theorem d10_57 : decode prog_24_method_12_code 57 = .ok (.ifCond .ge 9, 3) := by decide +kernel
theorem d10_60 : decode prog_24_method_12_code 60 = .ok (.iload_n 1, 1) := by decide +kernel
theorem d10_61 : decode prog_24_method_12_code 61 = .ok (.istore 5, 2) := by decide +kernel
theorem d10_63 : decode prog_24_method_12_code 63 = .ok (.goto 53, 3) := by decide +kernel
theorem d10_116 : decode prog_24_method_12_code 116 = .ok (.iload 5, 2) := by decide +kernel
theorem d10_118 : decode prog_24_method_12_code 118 = .ok (.ireturn, 1) := by decide +kernel
abbrev N9 : MethodName := ⟨"com/example/dunlin/dunlin/RunText", "writtenOffset", "(I)I"⟩

abbrev rm_wo : Room := { frames := 0, cells := 0, slots := 0, locals := 0 }
set_option maxRecDepth 65536 in
set_option maxHeartbeats 4000000 in
theorem ct_wo (l : Launch) {Z : State} {n0 : Nat} {z : Int32} {f g : Value} {e : Addr} (W : Sx Z z f g e) (x : Addr) (o : Int32) (h : Heap) (A : Exa Z h x "com/example/dunlin/dunlin/RunText") (F : Fld Z h x "com/example/dunlin/dunlin/RunText" "count" "I" (.int 0)) :
    Ctr l Z n0 N9 prog_24_method_12_code 6 (some .int) rm_wo #[(.ref x), (.int o)] h [] (fun v h' sn => v = some (.int o) ∧ h = h' ∧ sn = []) := by
  refine Ctr.of_go (ls := #[.val (.ref x), .val (.int o), .unset, .unset, .unset, .unset]) W.1.1 pn_N7 (fun m => rfl) (fun K H => ?_)
  refine Go.iconst (0 : Int32) H d10_0 rfl rfl ?_
  refine Go.istoreN (ls' := #[.val (.ref x), .val (.int o), .val (.int (0 : Int32)), .unset, .unset, .unset]) H d10_1 rfl rfl ?_
  refine Go.aloadN H d10_2 rfl rfl rfl ?_
  refine Go.getfield H d10_3 rfl w54 F ?_
  refine Go.istoreN (ls' := #[.val (.ref x), .val (.int o), .val (.int (0 : Int32)), .val (.int (0 : Int32)), .unset, .unset]) H d10_6 rfl rfl ?_
  refine Go.iloadN H d10_7 rfl rfl ?_
  refine Go.iloadN H d10_8 rfl rfl ?_
  refine Go.icmpY (pc' := 48) H d10_9 (by decide) (by decide) (by decide) ?_
  refine Go.iloadN H d10_48 rfl rfl ?_
  refine Go.iconst (1 : Int32) H d10_49 rfl rfl ?_
  refine Go.isub H d10_50 rfl ?_
  show Go _ _ _ _ _ _ h [] 0 0 51 #[.val (.ref x), .val (.int o), .val (.int (0 : Int32)), .val (.int (0 : Int32)), .unset, .unset] [(.int (-1 : Int32))]
  refine Go.iconst (4 : Int32) H d10_51 rfl rfl ?_
  refine Go.imul H d10_52 rfl ?_
  show Go _ _ _ _ _ _ h [] 0 0 53 #[.val (.ref x), .val (.int o), .val (.int (0 : Int32)), .val (.int (0 : Int32)), .unset, .unset] [(.int (-4 : Int32))]
  refine Go.istore (ls' := #[.val (.ref x), .val (.int o), .val (.int (0 : Int32)), .val (.int (0 : Int32)), .val (.int (-4 : Int32)), .unset]) H d10_53 rfl rfl ?_
  refine Go.iload H d10_55 rfl rfl ?_
  refine Go.ifN H d10_57 (by decide) rfl ?_
  refine Go.iloadN H d10_60 rfl rfl ?_
  refine Go.istore (ls' := #[.val (.ref x), .val (.int o), .val (.int (0 : Int32)), .val (.int (0 : Int32)), .val (.int (-4 : Int32)), .val (.int o)]) H d10_61 rfl rfl ?_
  refine Go.goto (pc' := 116) H d10_63 (by decide) (by decide) ?_
  refine Go.iload H d10_116 rfl rfl ?_
  exact Go.ireturnI [] H d10_118 ⟨rfl, rfl, rfl⟩ all0 (by decide) (by decide)
theorem w0 : Jvm.Cond.arrayClass Jvm.ClassFile.FieldType.char ∈ tables_1 := List.mem_of_getElem? (i := 0) rfl
theorem w1 : Jvm.Cond.classLink "com/example/dunlin/dunlin/RunTextWrittenOffsetPinLaw" (7 : Nat) "java/lang/String" ∈ tables_1 := List.mem_of_getElem? (i := 1) rfl
theorem w6 : Jvm.Cond.code N5 jdk_42_method_3_code (2 : Nat) (Option.none : Option Jvm.ClassFile.FieldType) ∈ tables_1 := List.mem_of_getElem? (i := 6) rfl
theorem pd_N5 : parseMethodDescriptor N5.desc = some ⟨[(.array .char)], none⟩ := by decide +kernel
theorem w4 : Jvm.Cond.methodLink "com/example/dunlin/dunlin/RunTextWrittenOffsetPinLaw" (9 : Nat) N5 ∈ tables_1 := List.mem_of_getElem? (i := 4) rfl
theorem w5 : Jvm.Cond.instanceMethod N5 ∈ tables_1 := List.mem_of_getElem? (i := 5) rfl
theorem w30 : Jvm.Cond.classLink "com/example/dunlin/dunlin/RunTextWrittenOffsetPinLaw" (12 : Nat) "com/example/dunlin/dunlin/RunText" ∈ tables_1 := List.mem_of_getElem? (i := 30) rfl
theorem w35 : Jvm.Cond.code N8 prog_24_method_1_code (2 : Nat) (Option.none : Option Jvm.ClassFile.FieldType) ∈ tables_1 := List.mem_of_getElem? (i := 35) rfl
theorem pd_N8 : parseMethodDescriptor N8.desc = some ⟨[(.object "java/lang/String")], none⟩ := by decide +kernel
theorem w33 : Jvm.Cond.methodLink "com/example/dunlin/dunlin/RunTextWrittenOffsetPinLaw" (14 : Nat) N8 ∈ tables_1 := List.mem_of_getElem? (i := 33) rfl
theorem w34 : Jvm.Cond.instanceMethod N8 ∈ tables_1 := List.mem_of_getElem? (i := 34) rfl
theorem w62 : Jvm.Cond.code N9 prog_24_method_12_code (6 : Nat) (Option.some Jvm.ClassFile.FieldType.int) ∈ tables_1 := List.mem_of_getElem? (i := 62) rfl
theorem pd_N9 : parseMethodDescriptor N9.desc = some ⟨[.int], (some .int)⟩ := by decide +kernel
theorem w58 : Jvm.Cond.methodLink "com/example/dunlin/dunlin/RunTextWrittenOffsetPinLaw" (17 : Nat) N9 ∈ tables_1 := List.mem_of_getElem? (i := 58) rfl
theorem w59 : Jvm.Cond.declares N9 ∈ tables_1 := List.mem_of_getElem? (i := 59) rfl
theorem w61 : Jvm.Cond.selects "com/example/dunlin/dunlin/RunText" N9 N9 ∈ tables_1 := List.mem_of_getElem? (i := 61) rfl
theorem w60 : Jvm.Cond.instanceMethod N9 ∈ tables_1 := List.mem_of_getElem? (i := 60) rfl
abbrev N10 : MethodName := ⟨"com/example/dunlin/dunlin/RunTextWrittenOffsetPinLaw", "law", "(IIIII)Z"⟩
theorem pn_N10 : plainName N10.cls = true := by first | (simp [plainName, overriddenIn]; done) | decide +kernel
set_option maxRecDepth 65536 in
set_option maxHeartbeats 40000000 in
theorem ct_law (l : Launch) {Z : State} {n0 : Nat} {z : Int32} {f g : Value} {e : Addr} (W : Sx Z z f g e) (o : Int32) (a : Int32) (b : Int32) (c : Int32) (fl : Int32) (h : Heap) : Ctr l Z n0 x code maxLocals ret room_1 #[(.int o), (.int a), (.int b), (.int c), (.int fl)] h [] (fun v h' sn => v = some (.int 1) ∧ True) := by
  refine Ctr.of_go (ls := #[.val (.int o), .val (.int a), .val (.int b), .val (.int c), .val (.int fl), .unset, .unset, .unset]) W.1.1 pn_N10 (fun m => rfl) (fun K H0 => ?_)
  have H : Ok Z K "com/example/dunlin/dunlin/RunTextWrittenOffsetPinLaw" code 8 (some .boolean) "law" := H0
  refine Go.iconst (4 : Int32) H at_0 rfl rfl ?_
  refine Go.newarray 4 4 H at_1 rfl w0 rfl (by decide) (by decide) (by decide) (by decide) (by decide) (by decide) (by decide) ?_
  intro a1 h2 g3 z4 E5 F6
  replace F6 : Vec Z h2 a1 .char [(0 : Int32), (0 : Int32), (0 : Int32), (0 : Int32)] := F6
  show Go _ _ _ _ _ _ h2 [a1] 1 4 3 #[.val (.int o), .val (.int a), .val (.int b), .val (.int c), .val (.int fl), .unset, .unset, .unset] [(.ref a1)]
  refine Go.astore (ls' := #[.val (.int o), .val (.int a), .val (.int b), .val (.int c), .val (.int fl), .val (.ref a1), .unset, .unset]) H at_3 rfl rfl rfl ?_
  refine Go.iload H at_5 rfl rfl ?_
  refine Go.iconst (1 : Int32) H at_7 rfl rfl ?_
  refine Go.iand H at_8 rfl ?_
  by_cases c7 : (fl &&& (1 : Int32)) = (0 : Int32)
  ·
    refine Go.ifY (pc' := 43) H at_9 (teq c7).1 (by decide) (by decide) ?_
    refine Go.aload H at_43 rfl rfl rfl ?_
    refine Go.iconst (0 : Int32) H at_45 rfl rfl ?_
    refine Go.iloadN H at_46 rfl rfl ?_
    refine Go.sipush (255 : Int32) H at_47 rfl rfl ?_
    refine Go.iand H at_50 rfl ?_
    refine Go.i2c H at_51 rfl ?_
    refine Go.castore (nar .char (a &&& (255 : Int32))) H at_52 rfl F6 0 (by decide) (by decide) (Nat.le_of_ble_eq_true rfl) own_nn z4 (by simp) ?_
    intro h8 K9 F10
    replace F10 : Vec Z h8 a1 .char [(nar .char (a &&& (255 : Int32))), (0 : Int32), (0 : Int32), (0 : Int32)] := F10
    refine Go.aload H at_53 rfl rfl rfl ?_
    refine Go.iconst (1 : Int32) H at_55 rfl rfl ?_
    refine Go.iloadN H at_56 rfl rfl ?_
    refine Go.sipush (255 : Int32) H at_57 rfl rfl ?_
    refine Go.iand H at_60 rfl ?_
    refine Go.i2c H at_61 rfl ?_
    refine Go.castore (nar .char (b &&& (255 : Int32))) H at_62 rfl F10 1 (by decide) (by decide) (Nat.le_of_ble_eq_true rfl) own_nn z4 (by simp) ?_
    intro h11 K12 F13
    replace F13 : Vec Z h11 a1 .char [(nar .char (a &&& (255 : Int32))), (nar .char (b &&& (255 : Int32))), (0 : Int32), (0 : Int32)] := F13
    refine Go.aload H at_63 rfl rfl rfl ?_
    refine Go.iconst (2 : Int32) H at_65 rfl rfl ?_
    refine Go.iloadN H at_66 rfl rfl ?_
    refine Go.sipush (255 : Int32) H at_67 rfl rfl ?_
    refine Go.iand H at_70 rfl ?_
    refine Go.i2c H at_71 rfl ?_
    refine Go.castore (nar .char (c &&& (255 : Int32))) H at_72 rfl F13 2 (by decide) (by decide) (Nat.le_of_ble_eq_true rfl) own_nn z4 (by simp) ?_
    intro h14 K15 F16
    replace F16 : Vec Z h14 a1 .char [(nar .char (a &&& (255 : Int32))), (nar .char (b &&& (255 : Int32))), (nar .char (c &&& (255 : Int32))), (0 : Int32)] := F16
    refine Go.aload H at_73 rfl rfl rfl ?_
    refine Go.iconst (3 : Int32) H at_75 rfl rfl ?_
    refine Go.iloadN H at_76 rfl rfl ?_
    refine Go.bipush (8 : Int32) H at_77 rfl rfl ?_
    refine Go.iushr H at_79 rfl ?_
    refine Go.sipush (255 : Int32) H at_80 rfl rfl ?_
    refine Go.iand H at_83 rfl ?_
    refine Go.i2c H at_84 rfl ?_
    refine Go.castore (nar .char (((a.toUInt32 >>> ((8 : Int32) &&& 31).toUInt32).toInt32) &&& (255 : Int32))) H at_85 rfl F16 3 (by decide) (by decide) (Nat.le_of_ble_eq_true rfl) own_nn z4 (by simp) ?_
    intro h17 K18 F19
    replace F19 : Vec Z h17 a1 .char [(nar .char (a &&& (255 : Int32))), (nar .char (b &&& (255 : Int32))), (nar .char (c &&& (255 : Int32))), (nar .char (((a.toUInt32 >>> ((8 : Int32) &&& 31).toUInt32).toInt32) &&& (255 : Int32)))] := F19
    refine Go.new H at_86 rfl w1 w2 w3 (by decide) (by decide) ?_
    intro a20 h21 g22 z23 E24 A25 D26
    have ne27 : a1 ≠ a20 := Nat.ne_of_lt (Nat.lt_of_lt_of_le F19.lt (Nat.le_of_eq g22.symm))
    replace F19 := F19.ext E24
    have F28 : Fld Z h21 a20 "java/lang/String" "coder" "B" (.int (0 : Int32)) := D26 (Or.inr w27) (ty := .byte) (by decide)
    have F29 : Fld Z h21 a20 "java/lang/String" "value" "[B" .null := D26 (Or.inr w29) (ty := (.array .byte)) (by decide)
    show Go _ _ _ _ _ _ h21 [a20, a1] 2 8 89 #[.val (.int o), .val (.int a), .val (.int b), .val (.int c), .val (.int fl), .val (.ref a1), .unset, .unset] [(.ref a20)]
    refine Go.dup H at_89 rfl rfl ?_
    refine Go.aload H at_90 rfl rfl rfl ?_
    refine Go.callI (rest := [(.ref a20)]) 1 [(.ref a1)] H at_92 rfl rfl w4 w5 w3 w6 pd_N5 (ct_new1 l W a20 a1 [(nar .char (a &&& (255 : Int32))), (nar .char (b &&& (255 : Int32))), (nar .char (c &&& (255 : Int32))), (nar .char (((a.toUInt32 >>> ((8 : Int32) &&& 31).toUInt32).toInt32) &&& (255 : Int32)))] h21 A25 F29 F28 F19 (own_ac (own_and255 _) (own_ac (own_and255 _) (own_ac (own_and255 _) (own_ac (own_and255 _) own_an)))) (Nat.le_of_ble_eq_true rfl) (Nat.le_of_ble_eq_true rfl) z23) (by simp) rfl rfl rfl (Nat.le_of_eq rfl) (by decide) (by decide) (by decide) (by decide) nh_N4 ?_
    rintro _ h30 _ ⟨rfl, K31, ⟨b32, g33, S34⟩, rfl⟩
    have ne35 : a1 ≠ b32 := Nat.ne_of_lt (Nat.lt_of_lt_of_le F19.lt g33)
    have ne36 : a20 ≠ b32 := Nat.ne_of_lt (Nat.lt_of_lt_of_le A25.lt g33)
    replace F19 := F19.keep K31 (ninS ne27 nin0)
    show Go _ _ _ _ _ _ h30 [a20, a1] 3 12 95 #[.val (.int o), .val (.int a), .val (.int b), .val (.int c), .val (.int fl), .val (.ref a1), .unset, .unset] [(.ref a20)]
    refine Go.astore (ls' := #[.val (.int o), .val (.int a), .val (.int b), .val (.int c), .val (.int fl), .val (.ref a1), .val (.ref a20), .unset]) H at_95 rfl rfl rfl ?_
    refine Go.new H at_97 rfl w30 w31 w32 (by decide) (by decide) ?_
    intro a37 h38 g39 z40 E41 A42 D43
    have ne44 : a1 ≠ a37 := Nat.ne_of_lt (Nat.lt_of_lt_of_le F19.lt (Nat.le_of_eq g39.symm))
    have ne45 : a20 ≠ a37 := Nat.ne_of_lt (Nat.lt_of_lt_of_le S34.lt (Nat.le_of_eq g39.symm))
    have ne46 : b32 ≠ a37 := Nat.ne_of_lt (Nat.lt_of_lt_of_le S34.ltb (Nat.le_of_eq g39.symm))
    replace F19 := F19.ext E41
    replace S34 := S34.ext E41
    have F47 : Fld Z h38 a37 "com/example/dunlin/dunlin/RunText" "written" "Ljava/lang/String;" .null := D43 (Or.inr w49) (ty := (.object "java/lang/String")) (by decide)
    have F48 : Fld Z h38 a37 "com/example/dunlin/dunlin/RunText" "text" "Ljava/lang/String;" .null := D43 (Or.inr w51) (ty := (.object "java/lang/String")) (by decide)
    have F49 : Fld Z h38 a37 "com/example/dunlin/dunlin/RunText" "replaced" "[I" .null := D43 (Or.inr w53) (ty := (.array .int)) (by decide)
    have F50 : Fld Z h38 a37 "com/example/dunlin/dunlin/RunText" "count" "I" (.int (0 : Int32)) := D43 (Or.inr w55) (ty := .int) (by decide)
    have F51 : Fld Z h38 a37 "com/example/dunlin/dunlin/RunText" "unresolved" "Ljava/util/List;" .null := D43 (Or.inr w57) (ty := (.object "java/util/List")) (by decide)
    show Go _ _ _ _ _ _ h38 [a37, a20, a1] 4 17 100 #[.val (.int o), .val (.int a), .val (.int b), .val (.int c), .val (.int fl), .val (.ref a1), .val (.ref a20), .unset] [(.ref a37)]
    refine Go.dup H at_100 rfl rfl ?_
    refine Go.aload H at_101 rfl rfl rfl ?_
    refine Go.callI (rest := [(.ref a37)]) 1 [(.ref a20)] H at_103 rfl rfl w33 w34 w32 w35 pd_N8 (ct_rt1 l W a37 a20 h38 A42 F47 F48 F49 F50 F51 z40) (by simp) rfl rfl rfl (Nat.le_of_eq rfl) (by decide) (by decide) (by decide) (by decide) nh_N7 ?_
    rintro _ h52 _ ⟨rfl, K53, A54, F55, rfl⟩
    replace F19 := F19.keep K53 (ninS ne44 nin0)
    replace S34 := S34.keep K53 (ninS ne45 nin0) (ninS ne46 nin0)
    show Go _ _ _ _ _ _ h52 [a37, a20, a1] 4 17 106 #[.val (.int o), .val (.int a), .val (.int b), .val (.int c), .val (.int fl), .val (.ref a1), .val (.ref a20), .unset] [(.ref a37)]
    refine Go.astore (ls' := #[.val (.int o), .val (.int a), .val (.int b), .val (.int c), .val (.int fl), .val (.ref a1), .val (.ref a20), .val (.ref a37)]) H at_106 rfl rfl rfl ?_
    refine Go.aload H at_108 rfl rfl rfl ?_
    refine Go.iloadN H at_110 rfl rfl ?_
    refine Go.callV (rest := []) 0 [(.int o)] H at_111 rfl A54 w58 w59 w61 w60 w32 w62 pd_N9 (ct_wo l W a37 o h52 A54 F55) all0 rfl rfl rfl (Nat.le_of_eq rfl) (by decide) (by decide) (by decide) (by decide) nh_N7 ?_
    rintro _ _ _ ⟨rfl, rfl, rfl⟩
    show Go _ _ _ _ _ _ h52 [a37, a20, a1] 4 17 114 #[.val (.int o), .val (.int a), .val (.int b), .val (.int c), .val (.int fl), .val (.ref a1), .val (.ref a20), .val (.ref a37)] [(.int o)]
    refine Go.iloadN H at_114 rfl rfl ?_
    refine Go.icmpN H at_115 (teq rfl).2 rfl ?_
    refine Go.iconst (1 : Int32) H at_118 rfl rfl ?_
    refine Go.goto (pc' := 123) H at_119 (by decide) (by decide) ?_
    exact Go.ireturn 1 [] H at_123 (by simp) (by decide) ⟨rfl, trivial⟩ all0 (by decide) (by decide)
  ·
    refine Go.ifN H at_9 (feq c7).1 rfl ?_
    refine Go.aload H at_12 rfl rfl rfl ?_
    refine Go.iconst (0 : Int32) H at_14 rfl rfl ?_
    refine Go.bipush (36 : Int32) H at_15 rfl rfl ?_
    refine Go.castore (36 : Int32) H at_17 rfl F6 0 (by decide) (by decide) (Nat.le_of_ble_eq_true rfl) (by decide) z4 (by simp) ?_
    intro h56 K57 F58
    replace F58 : Vec Z h56 a1 .char [(36 : Int32), (0 : Int32), (0 : Int32), (0 : Int32)] := F58
    refine Go.aload H at_18 rfl rfl rfl ?_
    refine Go.iconst (1 : Int32) H at_20 rfl rfl ?_
    refine Go.bipush (123 : Int32) H at_21 rfl rfl ?_
    refine Go.castore (123 : Int32) H at_23 rfl F58 1 (by decide) (by decide) (Nat.le_of_ble_eq_true rfl) (by decide) z4 (by simp) ?_
    intro h59 K60 F61
    replace F61 : Vec Z h59 a1 .char [(36 : Int32), (123 : Int32), (0 : Int32), (0 : Int32)] := F61
    refine Go.aload H at_24 rfl rfl rfl ?_
    refine Go.iconst (2 : Int32) H at_26 rfl rfl ?_
    refine Go.iloadN H at_27 rfl rfl ?_
    refine Go.sipush (255 : Int32) H at_28 rfl rfl ?_
    refine Go.iand H at_31 rfl ?_
    refine Go.i2c H at_32 rfl ?_
    refine Go.castore (nar .char (a &&& (255 : Int32))) H at_33 rfl F61 2 (by decide) (by decide) (Nat.le_of_ble_eq_true rfl) own_nn z4 (by simp) ?_
    intro h62 K63 F64
    replace F64 : Vec Z h62 a1 .char [(36 : Int32), (123 : Int32), (nar .char (a &&& (255 : Int32))), (0 : Int32)] := F64
    refine Go.aload H at_34 rfl rfl rfl ?_
    refine Go.iconst (3 : Int32) H at_36 rfl rfl ?_
    refine Go.bipush (125 : Int32) H at_37 rfl rfl ?_
    refine Go.castore (125 : Int32) H at_39 rfl F64 3 (by decide) (by decide) (Nat.le_of_ble_eq_true rfl) (by decide) z4 (by simp) ?_
    intro h65 K66 F67
    replace F67 : Vec Z h65 a1 .char [(36 : Int32), (123 : Int32), (nar .char (a &&& (255 : Int32))), (125 : Int32)] := F67
    refine Go.goto (pc' := 86) H at_40 (by decide) (by decide) ?_
    refine Go.new H at_86 rfl w1 w2 w3 (by decide) (by decide) ?_
    intro a68 h69 g70 z71 E72 A73 D74
    have ne75 : a1 ≠ a68 := Nat.ne_of_lt (Nat.lt_of_lt_of_le F67.lt (Nat.le_of_eq g70.symm))
    replace F67 := F67.ext E72
    have F76 : Fld Z h69 a68 "java/lang/String" "coder" "B" (.int (0 : Int32)) := D74 (Or.inr w27) (ty := .byte) (by decide)
    have F77 : Fld Z h69 a68 "java/lang/String" "value" "[B" .null := D74 (Or.inr w29) (ty := (.array .byte)) (by decide)
    show Go _ _ _ _ _ _ h69 [a68, a1] 2 8 89 #[.val (.int o), .val (.int a), .val (.int b), .val (.int c), .val (.int fl), .val (.ref a1), .unset, .unset] [(.ref a68)]
    refine Go.dup H at_89 rfl rfl ?_
    refine Go.aload H at_90 rfl rfl rfl ?_
    refine Go.callI (rest := [(.ref a68)]) 1 [(.ref a1)] H at_92 rfl rfl w4 w5 w3 w6 pd_N5 (ct_new1 l W a68 a1 [(36 : Int32), (123 : Int32), (nar .char (a &&& (255 : Int32))), (125 : Int32)] h69 A73 F77 F76 F67 (own_ac (show isL (36 : Int32) from ⟨by decide, by decide⟩) (own_ac (show isL (123 : Int32) from ⟨by decide, by decide⟩) (own_ac (own_and255 _) (own_ac (show isL (125 : Int32) from ⟨by decide, by decide⟩) own_an)))) (Nat.le_of_ble_eq_true rfl) (Nat.le_of_ble_eq_true rfl) z71) (by simp) rfl rfl rfl (Nat.le_of_eq rfl) (by decide) (by decide) (by decide) (by decide) nh_N4 ?_
    rintro _ h78 _ ⟨rfl, K79, ⟨b80, g81, S82⟩, rfl⟩
    have ne83 : a1 ≠ b80 := Nat.ne_of_lt (Nat.lt_of_lt_of_le F67.lt g81)
    have ne84 : a68 ≠ b80 := Nat.ne_of_lt (Nat.lt_of_lt_of_le A73.lt g81)
    replace F67 := F67.keep K79 (ninS ne75 nin0)
    show Go _ _ _ _ _ _ h78 [a68, a1] 3 12 95 #[.val (.int o), .val (.int a), .val (.int b), .val (.int c), .val (.int fl), .val (.ref a1), .unset, .unset] [(.ref a68)]
    refine Go.astore (ls' := #[.val (.int o), .val (.int a), .val (.int b), .val (.int c), .val (.int fl), .val (.ref a1), .val (.ref a68), .unset]) H at_95 rfl rfl rfl ?_
    refine Go.new H at_97 rfl w30 w31 w32 (by decide) (by decide) ?_
    intro a85 h86 g87 z88 E89 A90 D91
    have ne92 : a1 ≠ a85 := Nat.ne_of_lt (Nat.lt_of_lt_of_le F67.lt (Nat.le_of_eq g87.symm))
    have ne93 : a68 ≠ a85 := Nat.ne_of_lt (Nat.lt_of_lt_of_le S82.lt (Nat.le_of_eq g87.symm))
    have ne94 : b80 ≠ a85 := Nat.ne_of_lt (Nat.lt_of_lt_of_le S82.ltb (Nat.le_of_eq g87.symm))
    replace F67 := F67.ext E89
    replace S82 := S82.ext E89
    have F95 : Fld Z h86 a85 "com/example/dunlin/dunlin/RunText" "written" "Ljava/lang/String;" .null := D91 (Or.inr w49) (ty := (.object "java/lang/String")) (by decide)
    have F96 : Fld Z h86 a85 "com/example/dunlin/dunlin/RunText" "text" "Ljava/lang/String;" .null := D91 (Or.inr w51) (ty := (.object "java/lang/String")) (by decide)
    have F97 : Fld Z h86 a85 "com/example/dunlin/dunlin/RunText" "replaced" "[I" .null := D91 (Or.inr w53) (ty := (.array .int)) (by decide)
    have F98 : Fld Z h86 a85 "com/example/dunlin/dunlin/RunText" "count" "I" (.int (0 : Int32)) := D91 (Or.inr w55) (ty := .int) (by decide)
    have F99 : Fld Z h86 a85 "com/example/dunlin/dunlin/RunText" "unresolved" "Ljava/util/List;" .null := D91 (Or.inr w57) (ty := (.object "java/util/List")) (by decide)
    show Go _ _ _ _ _ _ h86 [a85, a68, a1] 4 17 100 #[.val (.int o), .val (.int a), .val (.int b), .val (.int c), .val (.int fl), .val (.ref a1), .val (.ref a68), .unset] [(.ref a85)]
    refine Go.dup H at_100 rfl rfl ?_
    refine Go.aload H at_101 rfl rfl rfl ?_
    refine Go.callI (rest := [(.ref a85)]) 1 [(.ref a68)] H at_103 rfl rfl w33 w34 w32 w35 pd_N8 (ct_rt1 l W a85 a68 h86 A90 F95 F96 F97 F98 F99 z88) (by simp) rfl rfl rfl (Nat.le_of_eq rfl) (by decide) (by decide) (by decide) (by decide) nh_N7 ?_
    rintro _ h100 _ ⟨rfl, K101, A102, F103, rfl⟩
    replace F67 := F67.keep K101 (ninS ne92 nin0)
    replace S82 := S82.keep K101 (ninS ne93 nin0) (ninS ne94 nin0)
    show Go _ _ _ _ _ _ h100 [a85, a68, a1] 4 17 106 #[.val (.int o), .val (.int a), .val (.int b), .val (.int c), .val (.int fl), .val (.ref a1), .val (.ref a68), .unset] [(.ref a85)]
    refine Go.astore (ls' := #[.val (.int o), .val (.int a), .val (.int b), .val (.int c), .val (.int fl), .val (.ref a1), .val (.ref a68), .val (.ref a85)]) H at_106 rfl rfl rfl ?_
    refine Go.aload H at_108 rfl rfl rfl ?_
    refine Go.iloadN H at_110 rfl rfl ?_
    refine Go.callV (rest := []) 0 [(.int o)] H at_111 rfl A102 w58 w59 w61 w60 w32 w62 pd_N9 (ct_wo l W a85 o h100 A102 F103) all0 rfl rfl rfl (Nat.le_of_eq rfl) (by decide) (by decide) (by decide) (by decide) nh_N7 ?_
    rintro _ _ _ ⟨rfl, rfl, rfl⟩
    show Go _ _ _ _ _ _ h100 [a85, a68, a1] 4 17 114 #[.val (.int o), .val (.int a), .val (.int b), .val (.int c), .val (.int fl), .val (.ref a1), .val (.ref a68), .val (.ref a85)] [(.int o)]
    refine Go.iloadN H at_114 rfl rfl ?_
    refine Go.icmpN H at_115 (teq rfl).2 rfl ?_
    refine Go.iconst (1 : Int32) H at_118 rfl rfl ?_
    refine Go.goto (pc' := 123) H at_119 (by decide) (by decide) ?_
    exact Go.ireturn 1 [] H at_123 (by simp) (by decide) ⟨rfl, trivial⟩ all0 (by decide) (by decide)
theorem w37 : Jvm.Cond.laysStatic "com/example/dunlin/dunlin/RunText" "NONE" "[I" ∈ tables_1 := List.mem_of_getElem? (i := 37) rfl
set_option maxRecDepth 65536 in
set_option maxHeartbeats 4000000 in
theorem comes_1 {Post : Tables → Env → Array Value → State → Outcome → State → Prop} (hpost : ∀ tb e args s v u, (limb_1_1.after args s (.returned v) u = true ∧ limb_1_2.after args s (.returned v) u = true ∧ True) → FrameEnd s (.returned v) u (Jvm.fieldLocs frame_1_writes args s ++ Jvm.arrayLocs frame_1_arrays args s ++ Jvm.staticLocs frame_1_statics s) 16 128 → Post tb e args s (.returned v) u) :
    ArmFor flags0 classFile x code maxLocals ret World_1 tables_1 room_1 Calls_1 rest_1 Pre_1 Post := by
  intro l hfl _ _ p e ha hc hk s m args below hf hA hF happ hP
  obtain ⟨hcalls, hrest, hpre⟩ := hP
  obtain ⟨-, -, -, hnamed, -, -, -, hat⟩ := (Spec.applies_iff hf).mp happ
  obtain ⟨hg, hn⟩ := and_e (Cond.before_iff.mp (show (Jvm.Cond.and given_1 narrow_1).before args s = true from hpre))
  obtain ⟨h1, h2⟩ := and_e hg
  obtain ⟨k0, r0⟩ := and_e h2
  obtain ⟨k1, r1⟩ := and_e r0
  obtain ⟨k2, r2⟩ := and_e r1
  obtain ⟨k3, r3⟩ := and_e r2
  obtain ⟨w0, w1, w2, w3, w4, rfl⟩ : ∃ w0 w1 w2 w3 w4 : Value, args = #[w0, w1, w2, w3, w4] := by
    have hs : args.size = 5 := by simpa [Cond.value, given_1] using h1
    obtain ⟨L⟩ := args
    match L, hs with
    | [w0, w1, w2, w3, w4], _ => exact ⟨w0, w1, w2, w3, w4, rfl⟩
  have hw := fun d (hd : d ∈ tables_1) => atoms_spec (ws := Jvm.Cond.code x code maxLocals ret :: tables_1) hat d (List.mem_cons_of_mem _ hd)
  obtain ⟨hsets, hown0⟩ := atoms_of _ (rest_1_c_eq ▸ (show rest_1_c.before _ s = true from hrest))
  have hfit : Fit s := fun {y c} hc i hi => by
    obtain ⟨ha, rfl⟩ := Array.getElem?_eq_some_iff.mp hc
    have q := List.all_eq_true.mp ((Array.all_eq_true_iff_forall_mem.mp hF) _ (Array.getElem_mem ha)) i (List.mem_range.mpr hi)
    simpa [Array.getElem?_eq_getElem hi] using q
  obtain ⟨i0, e0⟩ := is_v k0
  obtain rfl : w0 = (.int i0) := Option.some.inj e0
  obtain ⟨i1, e1⟩ := is_v k1
  obtain rfl : w1 = (.int i1) := Option.some.inj e1
  obtain ⟨i2, e2⟩ := is_v k2
  obtain rfl : w2 = (.int i2) := Option.some.inj e2
  obtain ⟨i3, e3⟩ := is_v k3
  obtain rfl : w3 = (.int i3) := Option.some.inj e3
  obtain ⟨i4, e4⟩ := is_v r3
  obtain rfl : w4 = (.int i4) := Option.some.inj e4
  have n5 := not_v (Cond.before_iff.mp (hsets _ (List.mem_of_getElem? (i := 2) rfl)))
  obtain ⟨iz, ez⟩ := is_v (Cond.before_iff.mp (hsets _ (List.mem_of_getElem? (i := 1) rfl)))
  have Sz : Sta s s.heap "java/lang/String" "COMPACT_STRINGS" "Z" (.int iz) := Sta.start ez (Or.inl (hsets _ (List.mem_of_getElem? (i := 0) rfl)))
  obtain ⟨vf, ef, rf⟩ := isR_v (Cond.before_iff.mp (hsets _ (List.mem_of_getElem? (i := 8) rfl)))
  have Sf : Sta s s.heap "jdk/internal/util/Preconditions" "SIOOBE_FORMATTER" "Ljava/util/function/BiFunction;" vf := Sta.start ef (Or.inl (hsets _ (List.mem_of_getElem? (i := 7) rfl)))
  have cz : ¬ (iz = (0 : Int32)) := gotF (Cond.eq_ints ez (Term.int_eval (0))) n5
  obtain ⟨vg, eg, fg⟩ := static_fit hfit (hw _ w37) (ty := .array .int) (by decide)
  have Sg : Sta s s.heap "com/example/dunlin/dunlin/RunText" "NONE" "[I" vg := Sta.start eg (Or.inr ⟨hw _ w32, hw _ w37⟩)
  obtain ⟨ve, ee⟩ := exa_v (Cond.before_iff.mp (hsets _ (List.mem_of_getElem? (i := 11) rfl)))
  have Se : Sta s s.heap "java/util/ImmutableCollections" "EMPTY_LIST" "Ljava/util/ImmutableCollections$ListN;" (.ref ve) := Sta.start ee (Or.inl (hsets _ (List.mem_of_getElem? (i := 10) rfl)))
  obtain ⟨n, o, h1, h2, h3, _, L, rfl, ⟨⟨sn, rfl, -⟩, N, -⟩, hq⟩ := ct_law l (Z := s) (n0 := s.heap.size) ⟨⟨⟨_, hw⟩, cz, Sz, rf, Sf⟩, fit_R fg rfl, Sg, Se⟩ i0 i1 i2 i3 i4 s.heap (Old.start s) tables_1 p e ha hc hk s m _ below hf ((Spec.applies_iff_loose hf).mp happ).1 ⟨rfl, State.Warmed39.refl s, rfl⟩ trivial
  refine ⟨n, _, h1, h2, h3, hpost _ _ _ _ _ _ ⟨Cond.after_iff.mpr rfl, Cond.after_iff.mpr (eq_i res_at (Term.int_eval (1)) rfl), trivial⟩ ⟨hq.1, hq.2.1, (hq.2.2.sift fun y hy => Or.inr (N y hy)).mono (by decide) (by decide)⟩⟩
theorem main_1_1 : Claimed_1_1 := comes_1 fun _ _ _ _ _ _ h hF => ⟨h.1, hF⟩
theorem main_1_2 : Claimed_1_2 := comes_1 fun _ _ _ _ _ _ h hF => ⟨h.2.1, hF⟩
end Jvm.Pilot.@@N@@
namespace Jvm.Pilot.@@N@@
open Jvm Jvm.ClassFile Sem Op Lib Jvm.Free Jvm.Stand Jvm.Pilot.@@N@@.Jvm.D
/-! MADE BY PROGRAM (witnessworld.py) out of the Statement's table words and the real class files: 31 classes; the members and pool entries that the words name. The judged class is class 1, her method 1. -/
namespace start1
open Jvm.ClassFile
def u (s : String) : CpInfo := .utf8 (stringToUtf16 s)
/-- a pool by its gaps: so many unusable entries, then the entry; so many at the end -/
def gap : Nat → List CpInfo → List CpInfo
  | 0, r => r
  | n + 1, r => .unusable :: gap n r
def poolList (es : List (Nat × CpInfo)) (last : Nat) : List CpInfo := es.foldr (fun e r => gap e.1 (e.2 :: r)) (gap last [])
def pool (es : List (Nat × CpInfo)) (last : Nat) : Array CpInfo := ⟨poolList es last⟩
def fileOf (pool : Array CpInfo) (this : Nat) (attrs : Array Attribute := #[]) (ms : Array MethodInfo := #[]) (fl : Nat := 33) (sup : Nat := 0) (ifs : Array Nat := #[]) (fds : Array FieldInfo := #[]) : ClassFile where
  minorVersion := 0
  majorVersion := 65
  constantPool := pool
  accessFlags := fl
  thisClass := this
  superClass := sup
  interfaces := ifs
  fields := fds
  methods := ms
  attributes := attrs
def plain (name : String) (sup : Option ClassId) : Class where
  name := name
  kind := .ordinary
  loader := none
  accessFlags := 33
  super := sup
  interfaces := #[]
  cf := none
  fields := #[]
  methods := #[]
  instanceTypes := #[]
  staticTypes := #[]
  resolved := #[]
  callSites := []
  init := .initialized
  statics := none
  mirror := none

def pool0 : Array CpInfo := pool [(5, u "<init>"), (0, u "()V"), (1, .class_ 10), (1, u "java/lang/Object")] 113

def k0c0 : Code := { maxStack := 0, maxLocals := 1, code := object_method_1_code, exceptionTable := #[], attributes := #[] }
def k0m0 : Method := { name := "<init>", desc := "()V", sig := { parameters := [], returnType := none }, accessFlags := 1, code := some k0c0 }
/-- java/lang/Object -/
def k0 : Class := { plain "java/lang/Object" none with
  accessFlags := 33
  interfaces := #[]
  cf := some (fileOf pool0 8 #[] #[{ accessFlags := 1, nameIndex := 5, descriptorIndex := 6, attributes := #[] }] 33 0 #[] #[])
  fields := #[]
  methods := #[k0m0]
  instanceTypes := #[]
  staticTypes := #[]
  resolved := Array.replicate 124 none
  statics := none }

def pool1 : Array CpInfo := pool [(2, .class_ 4), (1, u "java/lang/Object"), (0, u "<init>"), (0, u "()V"), (0, .class_ 8), (0, u "java/lang/String"), (0, .methodref 7 10), (0, .nameAndType 5 11), (0, u "([C)V"), (0, .class_ 13), (0, u "com/example/dunlin/dunlin/RunText"), (0, .methodref 12 15), (0, .nameAndType 5 16), (0, u "(Ljava/lang/String;)V"), (0, .methodref 12 18), (0, .nameAndType 19 20), (0, u "writtenOffset"), (0, u "(I)I"), (0, .class_ 22), (0, u "com/example/dunlin/dunlin/RunTextWrittenOffsetPinLaw"), (2, u "law"), (0, u "(IIIII)Z")] 5

def k1m0 : Method := { name := "<init>", desc := "()V", sig := { parameters := [], returnType := none }, accessFlags := 1, code := none }
def k1c1 : Code := { maxStack := 4, maxLocals := 8, code := code, exceptionTable := #[], attributes := #[] }
def k1m1 : Method := { name := "law", desc := "(IIIII)Z", sig := { parameters := [.int, .int, .int, .int, .int], returnType := some .boolean }, accessFlags := 9, code := some k1c1 }
/-- com/example/dunlin/dunlin/RunTextWrittenOffsetPinLaw -/
def k1 : Class := { plain "com/example/dunlin/dunlin/RunTextWrittenOffsetPinLaw" (some 0) with
  accessFlags := 49
  interfaces := #[]
  cf := some (fileOf pool1 21 #[] #[{ accessFlags := 1, nameIndex := 5, descriptorIndex := 6, attributes := #[] }, { accessFlags := 9, nameIndex := 25, descriptorIndex := 26, attributes := #[] }] 49 2 #[] #[])
  fields := #[]
  methods := #[k1m0, k1m1]
  instanceTypes := #[]
  staticTypes := #[]
  resolved := Array.replicate 32 none
  statics := none }

def pool2 : Array CpInfo := pool [(1, .class_ 2), (0, u "java/io/Serializable"), (0, .class_ 4), (0, u "java/lang/Object")] 2

/-- java/io/Serializable -/
def k2 : Class := { plain "java/io/Serializable" (some 0) with
  accessFlags := 1537
  interfaces := #[]
  cf := some (fileOf pool2 1 #[] #[] 1537 3 #[] #[])
  fields := #[]
  methods := #[]
  instanceTypes := #[]
  staticTypes := #[]
  resolved := Array.replicate 7 none
  statics := none }

def pool3 : Array CpInfo := pool [(1, .class_ 2), (0, u "java/lang/Comparable"), (0, .class_ 4), (0, u "java/lang/Object")] 7

/-- java/lang/Comparable -/
def k3 : Class := { plain "java/lang/Comparable" (some 0) with
  accessFlags := 1537
  interfaces := #[]
  cf := some (fileOf pool3 1 #[] #[] 1537 3 #[] #[])
  fields := #[]
  methods := #[]
  instanceTypes := #[]
  staticTypes := #[]
  resolved := Array.replicate 12 none
  statics := none }

def pool4 : Array CpInfo := pool [(2, .class_ 4), (1, u "java/lang/CharSequence"), (42, .class_ 48), (0, u "java/lang/CharSequence$1CodePointIterator"), (10, .class_ 60), (0, u "java/lang/CharSequence$1CharIterator"), (5, .class_ 67), (0, u "java/lang/Object")] 63

/-- java/lang/CharSequence -/
def k4 : Class := { plain "java/lang/CharSequence" (some 0) with
  accessFlags := 1537
  interfaces := #[]
  cf := some (fileOf pool4 2 #[.nestMembers #[47, 59]] #[] 1537 66 #[] #[])
  fields := #[]
  methods := #[]
  instanceTypes := #[]
  staticTypes := #[]
  resolved := Array.replicate 131 none
  statics := none }

def pool5 : Array CpInfo := pool [(1, .class_ 2), (0, u "java/lang/constant/Constable"), (0, .class_ 4), (0, u "java/lang/Object")] 6

/-- java/lang/constant/Constable -/
def k5 : Class := { plain "java/lang/constant/Constable" (some 0) with
  accessFlags := 1537
  interfaces := #[]
  cf := some (fileOf pool5 1 #[] #[] 1537 3 #[] #[])
  fields := #[]
  methods := #[]
  instanceTypes := #[]
  staticTypes := #[]
  resolved := Array.replicate 11 none
  statics := none }

def pool6 : Array CpInfo := pool [(1, .class_ 2), (0, u "java/lang/constant/ConstantDesc"), (0, .class_ 4), (0, u "java/lang/Object")] 32

/-- java/lang/constant/ConstantDesc -/
def k6 : Class := { plain "java/lang/constant/ConstantDesc" (some 0) with
  accessFlags := 1537
  interfaces := #[]
  cf := some (fileOf pool6 1 #[] #[] 1537 3 #[] #[])
  fields := #[]
  methods := #[]
  instanceTypes := #[]
  staticTypes := #[]
  resolved := Array.replicate 37 none
  statics := none }

def pool7 : Array CpInfo := pool [(1, .methodref 2 3), (0, .class_ 4), (0, .nameAndType 5 6), (0, u "java/lang/Object"), (0, u "<init>"), (0, u "()V"), (2, .fieldref 10 11), (0, .class_ 12), (0, .nameAndType 13 14), (0, u "java/lang/String"), (0, u "value"), (0, u "[B"), (0, .fieldref 10 16), (0, .nameAndType 17 18), (0, u "coder"), (0, u "B"), (2, u "hash"), (0, u "I"), (2, u "hashIsZero"), (0, u "Z"), (0, .methodref 10 28), (0, .nameAndType 5 29), (0, u "([CIILjava/lang/Void;)V"), (8, .fieldref 10 39), (0, .nameAndType 40 26), (0, u "COMPACT_STRINGS"), (1, .class_ 44), (1, u "java/lang/StringUTF16"), (0, u "compress"), (1, .methodref 42 48), (0, .nameAndType 49 50), (0, u "coderFromArrayLen"), (0, u "([BI)B"), (126, .methodref 42 178), (0, .nameAndType 45 179), (0, u "([CII)[B"), (395, .class_ 576), (0, u "java/lang/CharSequence"), (22, u "CASE_INSENSITIVE_ORDER"), (0, u "Ljava/util/Comparator;"), (409, u "([C)V"), (90, u "serialPersistentFields"), (0, u "[Ljava/io/ObjectStreamField;"), (0, .class_ 1104), (0, u "java/lang/String$CaseInsensitiveComparator"), (1, .class_ 1107), (0, u "java/io/Serializable"), (0, .class_ 1109), (0, u "java/lang/Comparable"), (0, .class_ 1111), (0, u "java/lang/constant/Constable"), (0, .class_ 1113), (0, u "java/lang/constant/ConstantDesc"), (2, u "serialVersionUID"), (0, u "J"), (3, u "REPL"), (0, u "C"), (2, u "LATIN1"), (1, u "UTF16")] 323

def k7m0 : Method := { name := "<init>", desc := "()V", sig := { parameters := [], returnType := none }, accessFlags := 1, code := none }
def k7c1 : Code := { maxStack := 5, maxLocals := 2, code := jdk_42_method_3_code, exceptionTable := #[], attributes := #[] }
def k7m1 : Method := { name := "<init>", desc := "([C)V", sig := { parameters := [(.array .char)], returnType := none }, accessFlags := 1, code := some k7c1 }
def k7c2 : Code := { maxStack := 4, maxLocals := 6, code := jdk_42_method_149_code, exceptionTable := #[], attributes := #[] }
def k7m2 : Method := { name := "<init>", desc := "([CIILjava/lang/Void;)V", sig := { parameters := [(.array .char), .int, .int, (.object "java/lang/Void")], returnType := none }, accessFlags := 2, code := some k7c2 }
/-- java/lang/String -/
def k7 : Class := { plain "java/lang/String" (some 0) with
  accessFlags := 49
  interfaces := #[2, 3, 4, 5, 6]
  cf := some (fileOf pool7 10 #[.nestMembers #[1103]] #[{ accessFlags := 1, nameIndex := 5, descriptorIndex := 6, attributes := #[] }, { accessFlags := 1, nameIndex := 5, descriptorIndex := 1010, attributes := #[] }, { accessFlags := 2, nameIndex := 5, descriptorIndex := 29, attributes := #[] }] 49 2 #[1106, 1108, 575, 1110, 1112] #[{ accessFlags := 18, nameIndex := 13, descriptorIndex := 14, attributes := #[] }, { accessFlags := 18, nameIndex := 17, descriptorIndex := 18, attributes := #[] }, { accessFlags := 2, nameIndex := 21, descriptorIndex := 22, attributes := #[] }, { accessFlags := 2, nameIndex := 25, descriptorIndex := 26, attributes := #[] }, { accessFlags := 26, nameIndex := 1116, descriptorIndex := 1117, attributes := #[] }, { accessFlags := 24, nameIndex := 40, descriptorIndex := 26, attributes := #[] }, { accessFlags := 26, nameIndex := 1101, descriptorIndex := 1102, attributes := #[] }, { accessFlags := 26, nameIndex := 1121, descriptorIndex := 1122, attributes := #[] }, { accessFlags := 25, nameIndex := 599, descriptorIndex := 600, attributes := #[] }, { accessFlags := 24, nameIndex := 1125, descriptorIndex := 18, attributes := #[] }, { accessFlags := 24, nameIndex := 1127, descriptorIndex := 18, attributes := #[] }])
  fields := #[{ name := "value", type := (.array .byte), accessFlags := 18, slot := 0, constantValue := 0 }, { name := "coder", type := .byte, accessFlags := 18, slot := 1, constantValue := 0 }, { name := "hash", type := .int, accessFlags := 2, slot := 2, constantValue := 0 }, { name := "hashIsZero", type := .boolean, accessFlags := 2, slot := 3, constantValue := 0 }, { name := "serialVersionUID", type := .long, accessFlags := 26, slot := 0, constantValue := 0 }, { name := "COMPACT_STRINGS", type := .boolean, accessFlags := 24, slot := 1, constantValue := 0 }, { name := "serialPersistentFields", type := (.array (.object "java/io/ObjectStreamField")), accessFlags := 26, slot := 2, constantValue := 0 }, { name := "REPL", type := .char, accessFlags := 26, slot := 3, constantValue := 0 }, { name := "CASE_INSENSITIVE_ORDER", type := (.object "java/util/Comparator"), accessFlags := 25, slot := 4, constantValue := 0 }, { name := "LATIN1", type := .byte, accessFlags := 24, slot := 5, constantValue := 0 }, { name := "UTF16", type := .byte, accessFlags := 24, slot := 6, constantValue := 0 }]
  methods := #[k7m0, k7m1, k7m2]
  instanceTypes := #[(.array .byte), .byte, .int, .boolean]
  staticTypes := #[.long, .boolean, (.array (.object "java/io/ObjectStreamField")), .char, (.object "java/util/Comparator"), .byte, .byte]
  resolved := Array.replicate 1451 none
  statics := some 0 }

def pool8 : Array CpInfo := pool [(6, .class_ 8), (1, u "java/lang/Object"), (0, u "<init>"), (0, u "()V"), (1, .class_ 14), (1, u "java/lang/StringUTF16"), (31, u "$assertionsDisabled"), (0, u "Z"), (13, u "HI_BYTE_SHIFT"), (0, u "I"), (2, u "LO_BYTE_SHIFT"), (49, .methodref 12 116), (0, .nameAndType 117 118), (0, u "compress"), (0, u "([CI[BII)I"), (3, u "([CII)[B"), (138, u "coderFromArrayLen"), (0, u "([BI)B"), (106, .class_ 371), (1, u "java/lang/StringUTF16$LinesSpliterator"), (58, u "MAX_LENGTH"), (196, .class_ 628), (0, u "java/lang/StringUTF16$CodePointsSpliterator"), (0, .class_ 630), (0, u "java/lang/StringUTF16$CharsSpliterator")] 4

def k8m0 : Method := { name := "<init>", desc := "()V", sig := { parameters := [], returnType := none }, accessFlags := 0, code := none }
def k8c1 : Code := { maxStack := 2, maxLocals := 2, code := jdk_52_method_15_code, exceptionTable := #[], attributes := #[] }
def k8m1 : Method := { name := "coderFromArrayLen", desc := "([BI)B", sig := { parameters := [(.array .byte), .int], returnType := some .byte }, accessFlags := 8, code := some k8c1 }
def k8c2 : Code := { maxStack := 5, maxLocals := 6, code := jdk_52_method_16_code, exceptionTable := #[], attributes := #[] }
def k8m2 : Method := { name := "compress", desc := "([CII)[B", sig := { parameters := [(.array .char), .int, .int], returnType := some (.array .byte) }, accessFlags := 9, code := some k8c2 }
def k8c3 : Code := { maxStack := 3, maxLocals := 7, code := jdk_52_method_21_code, exceptionTable := #[], attributes := #[] }
def k8m3 : Method := { name := "compress", desc := "([CI[BII)I", sig := { parameters := [(.array .char), .int, (.array .byte), .int, .int], returnType := some .int }, accessFlags := 9, code := some k8c3 }
/-- java/lang/StringUTF16 -/
def k8 : Class := { plain "java/lang/StringUTF16" (some 0) with
  accessFlags := 48
  interfaces := #[]
  cf := some (fileOf pool8 12 #[.nestMembers #[627, 629, 369]] #[{ accessFlags := 0, nameIndex := 9, descriptorIndex := 10, attributes := #[] }, { accessFlags := 8, nameIndex := 261, descriptorIndex := 262, attributes := #[] }, { accessFlags := 9, nameIndex := 117, descriptorIndex := 122, attributes := #[] }, { accessFlags := 9, nameIndex := 117, descriptorIndex := 118, attributes := #[] }] 48 6 #[] #[{ accessFlags := 26, nameIndex := 61, descriptorIndex := 62, attributes := #[] }, { accessFlags := 26, nameIndex := 65, descriptorIndex := 62, attributes := #[] }, { accessFlags := 24, nameIndex := 430, descriptorIndex := 62, attributes := #[] }, { accessFlags := 4120, nameIndex := 46, descriptorIndex := 47, attributes := #[] }])
  fields := #[{ name := "HI_BYTE_SHIFT", type := .int, accessFlags := 26, slot := 0, constantValue := 0 }, { name := "LO_BYTE_SHIFT", type := .int, accessFlags := 26, slot := 1, constantValue := 0 }, { name := "MAX_LENGTH", type := .int, accessFlags := 24, slot := 2, constantValue := 0 }, { name := "$assertionsDisabled", type := .boolean, accessFlags := 4120, slot := 3, constantValue := 0 }]
  methods := #[k8m0, k8m1, k8m2, k8m3]
  instanceTypes := #[]
  staticTypes := #[.int, .int, .int, .boolean]
  resolved := Array.replicate 635 none
  statics := none }

def pool9 : Array CpInfo := pool [(1, .fieldref 2 3), (0, .class_ 4), (0, .nameAndType 5 6), (0, u "com/example/dunlin/dunlin/RunText"), (0, u "NONE"), (0, u "[I"), (0, .interfaceMethodref 8 9), (0, .class_ 10), (0, .nameAndType 11 12), (0, u "java/util/List"), (0, u "of"), (0, u "()Ljava/util/List;"), (0, .methodref 2 14), (0, .nameAndType 15 16), (0, u "<init>"), (0, u "(Ljava/lang/String;Ljava/lang/String;[IILjava/util/List;)V"), (0, .methodref 18 19), (0, .class_ 20), (0, .nameAndType 15 21), (0, u "java/lang/Object"), (0, u "()V"), (0, .fieldref 2 23), (0, .nameAndType 24 25), (0, u "written"), (0, u "Ljava/lang/String;"), (0, .fieldref 2 27), (0, .nameAndType 28 25), (0, u "text"), (0, .fieldref 2 30), (0, .nameAndType 31 6), (0, u "replaced"), (0, .fieldref 2 33), (0, .nameAndType 34 35), (0, u "count"), (0, u "I"), (0, .fieldref 2 37), (0, .nameAndType 38 39), (0, u "unresolved"), (0, u "Ljava/util/List;"), (16, u "(Ljava/lang/String;)V"), (114, u "OPENING"), (14, u "writtenOffset"), (0, u "(I)I")] 19

def k9c0 : Code := { maxStack := 6, maxLocals := 2, code := prog_24_method_1_code, exceptionTable := #[], attributes := #[] }
def k9m0 : Method := { name := "<init>", desc := "(Ljava/lang/String;)V", sig := { parameters := [(.object "java/lang/String")], returnType := none }, accessFlags := 0, code := some k9c0 }
def k9c1 : Code := { maxStack := 2, maxLocals := 6, code := prog_24_method_2_code, exceptionTable := #[], attributes := #[] }
def k9m1 : Method := { name := "<init>", desc := "(Ljava/lang/String;Ljava/lang/String;[IILjava/util/List;)V", sig := { parameters := [(.object "java/lang/String"), (.object "java/lang/String"), (.array .int), .int, (.object "java/util/List")], returnType := none }, accessFlags := 2, code := some k9c1 }
def k9c2 : Code := { maxStack := 4, maxLocals := 6, code := prog_24_method_12_code, exceptionTable := #[], attributes := #[] }
def k9m2 : Method := { name := "writtenOffset", desc := "(I)I", sig := { parameters := [.int], returnType := some .int }, accessFlags := 0, code := some k9c2 }
/-- com/example/dunlin/dunlin/RunText -/
def k9 : Class := { plain "com/example/dunlin/dunlin/RunText" (some 0) with
  accessFlags := 48
  interfaces := #[]
  cf := some (fileOf pool9 2 #[] #[{ accessFlags := 0, nameIndex := 15, descriptorIndex := 56, attributes := #[] }, { accessFlags := 2, nameIndex := 15, descriptorIndex := 16, attributes := #[] }, { accessFlags := 0, nameIndex := 186, descriptorIndex := 187, attributes := #[] }] 48 18 #[] #[{ accessFlags := 26, nameIndex := 171, descriptorIndex := 25, attributes := #[] }, { accessFlags := 26, nameIndex := 5, descriptorIndex := 6, attributes := #[] }, { accessFlags := 18, nameIndex := 24, descriptorIndex := 25, attributes := #[] }, { accessFlags := 18, nameIndex := 28, descriptorIndex := 25, attributes := #[] }, { accessFlags := 18, nameIndex := 31, descriptorIndex := 6, attributes := #[] }, { accessFlags := 18, nameIndex := 34, descriptorIndex := 35, attributes := #[] }, { accessFlags := 18, nameIndex := 38, descriptorIndex := 39, attributes := #[] }])
  fields := #[{ name := "OPENING", type := (.object "java/lang/String"), accessFlags := 26, slot := 0, constantValue := 0 }, { name := "NONE", type := (.array .int), accessFlags := 26, slot := 1, constantValue := 0 }, { name := "written", type := (.object "java/lang/String"), accessFlags := 18, slot := 0, constantValue := 0 }, { name := "text", type := (.object "java/lang/String"), accessFlags := 18, slot := 1, constantValue := 0 }, { name := "replaced", type := (.array .int), accessFlags := 18, slot := 2, constantValue := 0 }, { name := "count", type := .int, accessFlags := 18, slot := 3, constantValue := 0 }, { name := "unresolved", type := (.object "java/util/List"), accessFlags := 18, slot := 4, constantValue := 0 }]
  methods := #[k9m0, k9m1, k9m2]
  instanceTypes := #[(.object "java/lang/String"), (.object "java/lang/String"), (.array .int), .int, (.object "java/util/List")]
  staticTypes := #[(.object "java/lang/String"), (.array .int)]
  resolved := Array.replicate 207 none
  statics := some 1 }

def pool10 : Array CpInfo := pool [(8, .class_ 10), (1, u "java/lang/Iterable"), (24, .class_ 36), (0, u "java/lang/Object")] 25

/-- java/lang/Iterable -/
def k10 : Class := { plain "java/lang/Iterable" (some 0) with
  accessFlags := 1537
  interfaces := #[]
  cf := some (fileOf pool10 8 #[] #[] 1537 35 #[] #[])
  fields := #[]
  methods := #[]
  instanceTypes := #[]
  staticTypes := #[]
  resolved := Array.replicate 62 none
  statics := none }

def pool11 : Array CpInfo := pool [(10, .class_ 12), (1, u "java/util/Collection"), (47, .class_ 61), (0, u "java/lang/Object"), (0, .class_ 63), (0, u "java/lang/Iterable")] 51

/-- java/util/Collection -/
def k11 : Class := { plain "java/util/Collection" (some 0) with
  accessFlags := 1537
  interfaces := #[10]
  cf := some (fileOf pool11 10 #[] #[] 1537 60 #[62] #[])
  fields := #[]
  methods := #[]
  instanceTypes := #[]
  staticTypes := #[]
  resolved := Array.replicate 115 none
  statics := none }

def pool12 : Array CpInfo := pool [(8, .class_ 10), (1, u "java/util/SequencedCollection"), (15, .class_ 27), (0, u "java/lang/Object"), (0, .class_ 29), (0, u "java/util/Collection")] 27

/-- java/util/SequencedCollection -/
def k12 : Class := { plain "java/util/SequencedCollection" (some 0) with
  accessFlags := 1537
  interfaces := #[11]
  cf := some (fileOf pool12 8 #[] #[] 1537 26 #[28] #[])
  fields := #[]
  methods := #[]
  instanceTypes := #[]
  staticTypes := #[]
  resolved := Array.replicate 57 none
  statics := none }

def pool13 : Array CpInfo := pool [(8, .class_ 10), (1, u "java/util/List"), (77, u "of"), (1, .fieldref 91 92), (0, .class_ 93), (0, .nameAndType 94 95), (0, u "java/util/ImmutableCollections"), (0, u "EMPTY_LIST"), (0, u "Ljava/util/ImmutableCollections$ListN;"), (7, .class_ 104), (0, u "java/lang/Object"), (14, u "()Ljava/util/List;"), (0, .class_ 121), (0, u "java/util/SequencedCollection")] 129

def k13c0 : Code := { maxStack := 1, maxLocals := 0, code := jdk_40_method_36_code, exceptionTable := #[], attributes := #[] }
def k13m0 : Method := { name := "of", desc := "()Ljava/util/List;", sig := { parameters := [], returnType := some (.object "java/util/List") }, accessFlags := 9, code := some k13c0 }
/-- java/util/List -/
def k13 : Class := { plain "java/util/List" (some 0) with
  accessFlags := 1537
  interfaces := #[12]
  cf := some (fileOf pool13 8 #[] #[{ accessFlags := 9, nameIndex := 88, descriptorIndex := 119, attributes := #[] }] 1537 103 #[120] #[])
  fields := #[]
  methods := #[k13m0]
  instanceTypes := #[]
  staticTypes := #[]
  resolved := Array.replicate 251 none
  statics := none }

def pool14 : Array CpInfo := pool [(2, .class_ 4), (1, u "java/lang/Object"), (0, u "<init>"), (0, u "()V"), (3, .class_ 11), (0, u "java/util/ImmutableCollections$List12"), (0, .class_ 13), (0, u "java/util/ImmutableCollections$ListN"), (3, u "Z"), (29, .class_ 49), (1, u "java/util/ImmutableCollections"), (0, u "$assertionsDisabled"), (5, u "[Ljava/lang/Object;"), (5, u "EMPTY_LIST"), (0, u "Ljava/util/ImmutableCollections$ListN;"), (8, u "EMPTY_LIST_NULLS"), (22, u "SALT32L"), (0, u "J"), (2, u "REVERSE"), (6, u "archivedObjects"), (2, u "EMPTY"), (0, u "Ljava/lang/Object;"), (0, .class_ 112), (0, u "java/util/ImmutableCollections$SetN"), (5, u "EMPTY_SET"), (0, u "Ljava/util/ImmutableCollections$SetN;"), (0, .class_ 121), (0, u "java/util/ImmutableCollections$MapN"), (3, u "EMPTY_MAP"), (0, u "Ljava/util/ImmutableCollections$MapN;"), (4, u "EXPAND_FACTOR"), (0, u "I"), (36, .class_ 170), (0, u "java/util/ImmutableCollections$MapN$MapNIterator"), (0, .class_ 172), (0, u "java/util/ImmutableCollections$MapN$1"), (0, .class_ 174), (0, u "java/util/ImmutableCollections$Map1"), (0, .class_ 176), (0, u "java/util/ImmutableCollections$AbstractImmutableMap"), (0, .class_ 178), (0, u "java/util/ImmutableCollections$SetN$SetNIterator"), (0, .class_ 180), (0, u "java/util/ImmutableCollections$Set12"), (0, .class_ 182), (0, u "java/util/ImmutableCollections$Set12$1"), (0, .class_ 184), (0, u "java/util/ImmutableCollections$AbstractImmutableSet"), (0, .class_ 186), (0, u "java/util/ImmutableCollections$SubList"), (0, .class_ 188), (0, u "java/util/ImmutableCollections$ListItr"), (0, .class_ 190), (0, u "java/util/ImmutableCollections$AbstractImmutableList"), (0, .class_ 192), (0, u "java/util/ImmutableCollections$AbstractImmutableCollection"), (0, .class_ 194), (0, u "java/util/ImmutableCollections$Access"), (0, .class_ 196), (0, u "java/util/ImmutableCollections$Access$1")] 16

def k14m0 : Method := { name := "<init>", desc := "()V", sig := { parameters := [], returnType := none }, accessFlags := 2, code := none }
/-- java/util/ImmutableCollections -/
def k14 : Class := { plain "java/util/ImmutableCollections" (some 0) with
  accessFlags := 32
  interfaces := #[]
  cf := some (fileOf pool14 47 #[.nestMembers #[120, 169, 171, 173, 175, 111, 177, 179, 181, 183, 12, 10, 185, 187, 189, 191, 193, 195]] #[{ accessFlags := 2, nameIndex := 5, descriptorIndex := 6, attributes := #[] }] 32 2 #[] #[{ accessFlags := 26, nameIndex := 95, descriptorIndex := 96, attributes := #[] }, { accessFlags := 26, nameIndex := 99, descriptorIndex := 17, attributes := #[] }, { accessFlags := 10, nameIndex := 106, descriptorIndex := 56, attributes := #[] }, { accessFlags := 26, nameIndex := 109, descriptorIndex := 110, attributes := #[] }, { accessFlags := 24, nameIndex := 62, descriptorIndex := 63, attributes := #[] }, { accessFlags := 24, nameIndex := 72, descriptorIndex := 63, attributes := #[] }, { accessFlags := 24, nameIndex := 118, descriptorIndex := 119, attributes := #[] }, { accessFlags := 24, nameIndex := 125, descriptorIndex := 126, attributes := #[] }, { accessFlags := 24, nameIndex := 131, descriptorIndex := 132, attributes := #[] }, { accessFlags := 4120, nameIndex := 50, descriptorIndex := 17, attributes := #[] }])
  fields := #[{ name := "SALT32L", type := .long, accessFlags := 26, slot := 0, constantValue := 0 }, { name := "REVERSE", type := .boolean, accessFlags := 26, slot := 1, constantValue := 0 }, { name := "archivedObjects", type := (.array (.object "java/lang/Object")), accessFlags := 10, slot := 2, constantValue := 0 }, { name := "EMPTY", type := (.object "java/lang/Object"), accessFlags := 26, slot := 3, constantValue := 0 }, { name := "EMPTY_LIST", type := (.object "java/util/ImmutableCollections$ListN"), accessFlags := 24, slot := 4, constantValue := 0 }, { name := "EMPTY_LIST_NULLS", type := (.object "java/util/ImmutableCollections$ListN"), accessFlags := 24, slot := 5, constantValue := 0 }, { name := "EMPTY_SET", type := (.object "java/util/ImmutableCollections$SetN"), accessFlags := 24, slot := 6, constantValue := 0 }, { name := "EMPTY_MAP", type := (.object "java/util/ImmutableCollections$MapN"), accessFlags := 24, slot := 7, constantValue := 0 }, { name := "EXPAND_FACTOR", type := .int, accessFlags := 24, slot := 8, constantValue := 0 }, { name := "$assertionsDisabled", type := .boolean, accessFlags := 4120, slot := 9, constantValue := 0 }]
  methods := #[k14m0]
  instanceTypes := #[]
  staticTypes := #[.long, .boolean, (.array (.object "java/lang/Object")), (.object "java/lang/Object"), (.object "java/util/ImmutableCollections$ListN"), (.object "java/util/ImmutableCollections$ListN"), (.object "java/util/ImmutableCollections$SetN"), (.object "java/util/ImmutableCollections$MapN"), .int, .boolean]
  resolved := Array.replicate 213 none
  statics := some 2 }

def pool15 : Array CpInfo := pool [(4, .class_ 6), (1, u "java/lang/Object"), (0, u "<init>"), (0, u "()V"), (5, .class_ 16), (1, u "java/lang/StringLatin1"), (104, u "$assertionsDisabled"), (0, u "Z"), (98, .class_ 223), (1, u "java/lang/StringLatin1$LinesSpliterator"), (166, .class_ 391), (0, u "java/lang/StringLatin1$CharsSpliterator")] 3

def k15m0 : Method := { name := "<init>", desc := "()V", sig := { parameters := [], returnType := none }, accessFlags := 0, code := none }
/-- java/lang/StringLatin1 -/
def k15 : Class := { plain "java/lang/StringLatin1" (some 0) with
  accessFlags := 48
  interfaces := #[]
  cf := some (fileOf pool15 14 #[.nestMembers #[390, 221]] #[{ accessFlags := 0, nameIndex := 7, descriptorIndex := 8, attributes := #[] }] 48 4 #[] #[{ accessFlags := 4120, nameIndex := 121, descriptorIndex := 122, attributes := #[] }])
  fields := #[{ name := "$assertionsDisabled", type := .boolean, accessFlags := 4120, slot := 0, constantValue := 0 }]
  methods := #[k15m0]
  instanceTypes := #[]
  staticTypes := #[.boolean]
  resolved := Array.replicate 395 none
  statics := none }

def pool16 : Array CpInfo := pool [(2, .class_ 4), (1, u "java/lang/Object"), (0, u "<init>"), (0, u "()V"), (17, .class_ 26), (1, u "jdk/internal/util/Preconditions"), (28, .class_ 56), (0, u "jdk/internal/util/Preconditions$4"), (57, .class_ 115), (0, u "jdk/internal/util/Preconditions$1"), (7, u "SIOOBE_FORMATTER"), (0, u "Ljava/util/function/BiFunction;"), (0, .class_ 126), (0, u "jdk/internal/util/Preconditions$2"), (3, u "AIOOBE_FORMATTER"), (0, .class_ 132), (0, u "jdk/internal/util/Preconditions$3"), (3, u "IOOBE_FORMATTER")] 57

def k16m0 : Method := { name := "<init>", desc := "()V", sig := { parameters := [], returnType := none }, accessFlags := 1, code := none }
/-- jdk/internal/util/Preconditions -/
def k16 : Class := { plain "jdk/internal/util/Preconditions" (some 0) with
  accessFlags := 33
  interfaces := #[]
  cf := some (fileOf pool16 24 #[.nestMembers #[55, 131, 125, 114]] #[{ accessFlags := 1, nameIndex := 5, descriptorIndex := 6, attributes := #[] }] 33 2 #[] #[{ accessFlags := 25, nameIndex := 123, descriptorIndex := 124, attributes := #[] }, { accessFlags := 25, nameIndex := 130, descriptorIndex := 124, attributes := #[] }, { accessFlags := 25, nameIndex := 136, descriptorIndex := 124, attributes := #[] }])
  fields := #[{ name := "SIOOBE_FORMATTER", type := (.object "java/util/function/BiFunction"), accessFlags := 25, slot := 0, constantValue := 0 }, { name := "AIOOBE_FORMATTER", type := (.object "java/util/function/BiFunction"), accessFlags := 25, slot := 1, constantValue := 0 }, { name := "IOOBE_FORMATTER", type := (.object "java/util/function/BiFunction"), accessFlags := 25, slot := 2, constantValue := 0 }]
  methods := #[k16m0]
  instanceTypes := #[]
  staticTypes := #[(.object "java/util/function/BiFunction"), (.object "java/util/function/BiFunction"), (.object "java/util/function/BiFunction")]
  resolved := Array.replicate 194 none
  statics := some 3 }

def pool17 : Array CpInfo := pool [(9, u "<init>"), (6, .class_ 18), (1, u "java/lang/Object"), (0, u "()V"), (1, .class_ 23), (1, u "jdk/internal/util/ArraysSupport"), (0, u "LOG2_ARRAY_LONG_INDEX_SCALE"), (0, u "I"), (2, u "U"), (0, u "Ljdk/internal/misc/Unsafe;"), (8, u "BIG_ENDIAN"), (0, u "Z"), (8, u "LOG2_BYTE_BIT_SIZE"), (4, u "LOG2_ARRAY_INT_INDEX_SCALE"), (54, u "JLA"), (0, u "Ljdk/internal/access/JavaLangAccess;"), (11, u "LOG2_ARRAY_BOOLEAN_INDEX_SCALE"), (9, u "LOG2_ARRAY_BYTE_INDEX_SCALE"), (5, u "LOG2_ARRAY_CHAR_INDEX_SCALE"), (5, u "LOG2_ARRAY_SHORT_INDEX_SCALE"), (18, u "LOG2_ARRAY_FLOAT_INDEX_SCALE"), (24, u "LOG2_ARRAY_DOUBLE_INDEX_SCALE"), (89, u "T_BOOLEAN"), (2, u "T_CHAR"), (1, u "T_FLOAT"), (1, u "T_DOUBLE"), (1, u "T_BYTE"), (1, u "T_SHORT"), (1, u "T_INT"), (1, u "T_LONG"), (1, u "SOFT_MAX_ARRAY_LENGTH")] 83

def k17m0 : Method := { name := "<init>", desc := "()V", sig := { parameters := [], returnType := none }, accessFlags := 2, code := none }
/-- jdk/internal/util/ArraysSupport -/
def k17 : Class := { plain "jdk/internal/util/ArraysSupport" (some 0) with
  accessFlags := 33
  interfaces := #[]
  cf := some (fileOf pool17 21 #[] #[{ accessFlags := 2, nameIndex := 9, descriptorIndex := 19, attributes := #[] }] 33 16 #[] #[{ accessFlags := 24, nameIndex := 28, descriptorIndex := 29, attributes := #[] }, { accessFlags := 26, nameIndex := 38, descriptorIndex := 39, attributes := #[] }, { accessFlags := 25, nameIndex := 121, descriptorIndex := 25, attributes := #[] }, { accessFlags := 25, nameIndex := 131, descriptorIndex := 25, attributes := #[] }, { accessFlags := 25, nameIndex := 137, descriptorIndex := 25, attributes := #[] }, { accessFlags := 25, nameIndex := 143, descriptorIndex := 25, attributes := #[] }, { accessFlags := 25, nameIndex := 53, descriptorIndex := 25, attributes := #[] }, { accessFlags := 25, nameIndex := 24, descriptorIndex := 25, attributes := #[] }, { accessFlags := 25, nameIndex := 162, descriptorIndex := 25, attributes := #[] }, { accessFlags := 25, nameIndex := 187, descriptorIndex := 25, attributes := #[] }, { accessFlags := 26, nameIndex := 48, descriptorIndex := 25, attributes := #[] }, { accessFlags := 25, nameIndex := 277, descriptorIndex := 25, attributes := #[] }, { accessFlags := 25, nameIndex := 280, descriptorIndex := 25, attributes := #[] }, { accessFlags := 25, nameIndex := 282, descriptorIndex := 25, attributes := #[] }, { accessFlags := 25, nameIndex := 284, descriptorIndex := 25, attributes := #[] }, { accessFlags := 25, nameIndex := 286, descriptorIndex := 25, attributes := #[] }, { accessFlags := 25, nameIndex := 288, descriptorIndex := 25, attributes := #[] }, { accessFlags := 25, nameIndex := 290, descriptorIndex := 25, attributes := #[] }, { accessFlags := 25, nameIndex := 292, descriptorIndex := 25, attributes := #[] }, { accessFlags := 26, nameIndex := 108, descriptorIndex := 109, attributes := #[] }, { accessFlags := 25, nameIndex := 294, descriptorIndex := 25, attributes := #[] }])
  fields := #[{ name := "U", type := (.object "jdk/internal/misc/Unsafe"), accessFlags := 24, slot := 0, constantValue := 0 }, { name := "BIG_ENDIAN", type := .boolean, accessFlags := 26, slot := 1, constantValue := 0 }, { name := "LOG2_ARRAY_BOOLEAN_INDEX_SCALE", type := .int, accessFlags := 25, slot := 2, constantValue := 0 }, { name := "LOG2_ARRAY_BYTE_INDEX_SCALE", type := .int, accessFlags := 25, slot := 3, constantValue := 0 }, { name := "LOG2_ARRAY_CHAR_INDEX_SCALE", type := .int, accessFlags := 25, slot := 4, constantValue := 0 }, { name := "LOG2_ARRAY_SHORT_INDEX_SCALE", type := .int, accessFlags := 25, slot := 5, constantValue := 0 }, { name := "LOG2_ARRAY_INT_INDEX_SCALE", type := .int, accessFlags := 25, slot := 6, constantValue := 0 }, { name := "LOG2_ARRAY_LONG_INDEX_SCALE", type := .int, accessFlags := 25, slot := 7, constantValue := 0 }, { name := "LOG2_ARRAY_FLOAT_INDEX_SCALE", type := .int, accessFlags := 25, slot := 8, constantValue := 0 }, { name := "LOG2_ARRAY_DOUBLE_INDEX_SCALE", type := .int, accessFlags := 25, slot := 9, constantValue := 0 }, { name := "LOG2_BYTE_BIT_SIZE", type := .int, accessFlags := 26, slot := 10, constantValue := 0 }, { name := "T_BOOLEAN", type := .int, accessFlags := 25, slot := 11, constantValue := 0 }, { name := "T_CHAR", type := .int, accessFlags := 25, slot := 12, constantValue := 0 }, { name := "T_FLOAT", type := .int, accessFlags := 25, slot := 13, constantValue := 0 }, { name := "T_DOUBLE", type := .int, accessFlags := 25, slot := 14, constantValue := 0 }, { name := "T_BYTE", type := .int, accessFlags := 25, slot := 15, constantValue := 0 }, { name := "T_SHORT", type := .int, accessFlags := 25, slot := 16, constantValue := 0 }, { name := "T_INT", type := .int, accessFlags := 25, slot := 17, constantValue := 0 }, { name := "T_LONG", type := .int, accessFlags := 25, slot := 18, constantValue := 0 }, { name := "JLA", type := (.object "jdk/internal/access/JavaLangAccess"), accessFlags := 26, slot := 19, constantValue := 0 }, { name := "SOFT_MAX_ARRAY_LENGTH", type := .int, accessFlags := 25, slot := 20, constantValue := 0 }]
  methods := #[k17m0]
  instanceTypes := #[]
  staticTypes := #[(.object "jdk/internal/misc/Unsafe"), .boolean, .int, .int, .int, .int, .int, .int, .int, .int, .int, .int, .int, .int, .int, .int, .int, .int, .int, (.object "jdk/internal/access/JavaLangAccess"), .int]
  resolved := Array.replicate 378 none
  statics := none }

def pool18 : Array CpInfo := pool [(2, .class_ 4), (1, u "java/lang/Object"), (0, u "<init>"), (0, u "()V"), (1, .class_ 10), (1, u "java/util/AbstractCollection"), (66, .class_ 78), (0, u "java/util/Collection")] 81

def k18m0 : Method := { name := "<init>", desc := "()V", sig := { parameters := [], returnType := none }, accessFlags := 4, code := none }
/-- java/util/AbstractCollection -/
def k18 : Class := { plain "java/util/AbstractCollection" (some 0) with
  accessFlags := 1057
  interfaces := #[11]
  cf := some (fileOf pool18 8 #[] #[{ accessFlags := 4, nameIndex := 5, descriptorIndex := 6, attributes := #[] }] 1057 2 #[77] #[])
  fields := #[]
  methods := #[k18m0]
  instanceTypes := #[]
  staticTypes := #[]
  resolved := Array.replicate 160 none
  statics := none }

def pool19 : Array CpInfo := pool [(2, .class_ 4), (1, u "java/util/AbstractCollection"), (0, u "<init>"), (0, u "()V"), (1, .class_ 10), (1, u "java/util/ImmutableCollections"), (2, .class_ 14), (0, u "java/util/ImmutableCollections$AbstractImmutableCollection")] 41

def k19m0 : Method := { name := "<init>", desc := "()V", sig := { parameters := [], returnType := none }, accessFlags := 0, code := none }
/-- java/util/ImmutableCollections$AbstractImmutableCollection -/
def k19 : Class := { plain "java/util/ImmutableCollections$AbstractImmutableCollection" (some 18) with
  accessFlags := 1056
  interfaces := #[]
  cf := some (fileOf pool19 13 #[.nestHost 8] #[{ accessFlags := 0, nameIndex := 5, descriptorIndex := 6, attributes := #[] }] 1056 2 #[] #[])
  fields := #[]
  methods := #[k19m0]
  instanceTypes := #[]
  staticTypes := #[]
  resolved := Array.replicate 56 none
  statics := none }

def pool20 : Array CpInfo := pool [(1, .class_ 2), (0, u "java/util/RandomAccess"), (0, .class_ 4), (0, u "java/lang/Object")] 2

/-- java/util/RandomAccess -/
def k20 : Class := { plain "java/util/RandomAccess" (some 0) with
  accessFlags := 1537
  interfaces := #[]
  cf := some (fileOf pool20 1 #[] #[] 1537 3 #[] #[])
  fields := #[]
  methods := #[]
  instanceTypes := #[]
  staticTypes := #[]
  resolved := Array.replicate 7 none
  statics := none }

def pool21 : Array CpInfo := pool [(2, .class_ 4), (1, u "java/util/ImmutableCollections$AbstractImmutableCollection"), (0, u "<init>"), (0, u "()V"), (1, .class_ 10), (1, u "java/util/ImmutableCollections"), (3, .class_ 16), (1, u "java/util/ImmutableCollections$AbstractImmutableList"), (60, .class_ 78), (0, u "java/util/List"), (45, .class_ 125), (0, u "java/util/RandomAccess")] 70

def k21m0 : Method := { name := "<init>", desc := "()V", sig := { parameters := [], returnType := none }, accessFlags := 0, code := none }
/-- java/util/ImmutableCollections$AbstractImmutableList -/
def k21 : Class := { plain "java/util/ImmutableCollections$AbstractImmutableList" (some 19) with
  accessFlags := 1056
  interfaces := #[13, 20]
  cf := some (fileOf pool21 14 #[.nestHost 8] #[{ accessFlags := 0, nameIndex := 5, descriptorIndex := 6, attributes := #[] }] 1056 2 #[77, 124] #[])
  fields := #[]
  methods := #[k21m0]
  instanceTypes := #[]
  staticTypes := #[]
  resolved := Array.replicate 196 none
  statics := none }

def pool22 : Array CpInfo := pool [(2, .class_ 4), (1, u "java/util/ImmutableCollections$AbstractImmutableList"), (3, .class_ 10), (1, u "java/util/ImmutableCollections$ListN"), (0, u "elements"), (0, u "[Ljava/lang/Object;"), (2, u "allowNulls"), (0, u "Z"), (42, .class_ 60), (0, u "java/io/Serializable"), (53, .class_ 115), (0, u "java/util/ImmutableCollections")] 3

/-- java/util/ImmutableCollections$ListN -/
def k22 : Class := { plain "java/util/ImmutableCollections$ListN" (some 21) with
  accessFlags := 48
  interfaces := #[2]
  cf := some (fileOf pool22 8 #[.nestHost 114] #[] 48 2 #[59] #[{ accessFlags := 18, nameIndex := 11, descriptorIndex := 12, attributes := #[] }, { accessFlags := 18, nameIndex := 15, descriptorIndex := 16, attributes := #[] }])
  fields := #[{ name := "elements", type := (.array (.object "java/lang/Object")), accessFlags := 18, slot := 0, constantValue := 0 }, { name := "allowNulls", type := .boolean, accessFlags := 18, slot := 1, constantValue := 0 }]
  methods := #[]
  instanceTypes := #[(.array (.object "java/lang/Object")), .boolean]
  staticTypes := #[]
  resolved := Array.replicate 119 none
  statics := none }

def pool23 : Array CpInfo := pool [(1, u "java/lang/Cloneable"), (0, .class_ 1), (0, u "java/lang/Object"), (0, .class_ 3)] 3

/-- java/lang/Cloneable -/
def k23 : Class := { plain "java/lang/Cloneable" (some 0) with
  accessFlags := 1537
  interfaces := #[]
  cf := some (fileOf pool23 2 #[] #[] 1537 4 #[] #[])
  fields := #[]
  methods := #[]
  instanceTypes := #[]
  staticTypes := #[]
  resolved := Array.replicate 8 none
  statics := none }

/-- the primitive byte -/
def k24 : Class := { plain "byte" none with kind := .primitive 'B', accessFlags := 0x411 }
/-- [B -/
def k25 : Class := { plain "[B" (some 0) with kind := .array 24 .byte, interfaces := #[23, 2], accessFlags := 1041 }

/-- the primitive char -/
def k26 : Class := { plain "char" none with kind := .primitive 'C', accessFlags := 0x411 }
/-- [C -/
def k27 : Class := { plain "[C" (some 0) with kind := .array 26 .char, interfaces := #[23, 2], accessFlags := 1041 }

/-- the primitive int -/
def k28 : Class := { plain "int" none with kind := .primitive 'I', accessFlags := 0x411 }
/-- [I -/
def k29 : Class := { plain "[I" (some 0) with kind := .array 28 .int, interfaces := #[23, 2], accessFlags := 1041 }

/-- [Ljava/lang/Object; -/
def k30 : Class := { plain "[Ljava/lang/Object;" (some 0) with kind := .array 0 (.object "java/lang/Object"), interfaces := #[23, 2], accessFlags := 1041 }

def heap : Heap := #[{ cls := 7, slots := #[.long 0, .int 1, .null, .int 0, .null, .int 0, .int 0], vm := .statics 7 },
  { cls := 9, slots := #[.null, .ref 5], vm := .statics 9 },
  { cls := 14, slots := #[.long 0, .int 0, .null, .null, .ref 6, .null, .null, .null, .int 0, .int 0], vm := .statics 14 },
  { cls := 16, slots := #[.null, .null, .null], vm := .statics 16 },
  { cls := 30, slots := #[], vm := .none },
  { cls := 29, slots := #[], vm := .none },
  { cls := 22, slots := #[.ref 4, .int 0], vm := .none }]
def classes : Array Class := #[k0, k1, k2, k3, k4, k5, k6, k7, k8, k9, k10, k11, k12, k13, k14, k15, k16, k17, k18, k19, k20, k21, k22, k23, k24, k25, k26, k27, k28, k29, k30]
def interned : List (Array UInt16 × Addr) := []
def slotsUsed : Nat := 24
def theMethod : MethodId := ⟨1, 1⟩
def args0 : Array Value := #[.int 5, .int 6, .int 7, .int 8, .int 9]
def aboutOver (below : List Frame) : State where
  vm := { classes := classes, interned := interned.toArray }
  heap := heap
  slotsUsed := slotsUsed
  threads := #[{ frames := .invoking theMethod args0 :: below }]
def below0 : List Frame := [.native { method := ⟨0, 0⟩, args := #[] }]
def about1 : State := aboutOver below0
def p0 : Program := .bare "" "" ""
def e0 : Env := launch0.env 0 0 0
theorem w_frames : about1.frames = Frame.invoking theMethod args0 :: below0 := rfl
set_option maxRecDepth 65536 in
theorem w_args : argsFit about1.vm theMethod args0 = true := by decide +kernel
set_option maxRecDepth 65536 in
theorem w_heap : heapFits about1 = true := by decide +kernel
set_option maxRecDepth 65536 in
theorem w_runnable : about1.curStatus? = some .runnable := by decide +kernel
set_option maxRecDepth 65536 in
theorem w_alone : about1.alone = true := by decide +kernel
set_option maxRecDepth 65536 in
theorem w_named : about1.methodNamed? x = some theMethod := by decide +kernel
set_option maxRecDepth 65536 in
theorem w_hears : about1.hears theMethod below0 = true := by decide +kernel
set_option maxRecDepth 65536 in
theorem w_ripe : about1.ripe theMethod args0 below0 = true := by decide +kernel
theorem w_running : about1.status = .running := rfl
set_option maxRecDepth 65536 in
theorem w_room : about1.hasRoom e0.platform room_1 = true :=
  launch0.hasRoom_least _ room_1 (by decide +kernel) (by decide +kernel) (by decide +kernel) (by decide +kernel) (by decide +kernel) (by decide +kernel)
theorem allAtoms_all (ts : List Jvm.Cond) (a : Array Jvm.Value) (st : Jvm.State) : (allAtoms ts).before a st = ts.all (fun c => c.before a st) := by
  induction ts with
  | nil => rfl
  | cons c t ih =>
    show (Jvm.Cond.and c (allAtoms t)).before a st = _
    rw [Jvm.Cond.before_and, ih, List.all_cons]
def words1 : List Jvm.Cond := Jvm.Cond.code x code maxLocals ret :: tables_1
/-- a 'code' word, met by the world's own term for the bytes: nothing is compared byte by byte -/
theorem code_word {y : MethodName} {bytes : ByteArray} {mx : Nat} {rt : Option FieldType} {a : Array Value} {s : State} {m : MethodId} {meth : Method} {c : Code} (h1 : s.methodNamed? y = some m) (h2 : s.vm.method? m = some meth) (h3 : meth.code = some c) (h4 : c.code = bytes)
    (h5 : (c.maxLocals == mx && c.exceptionTable.isEmpty && decide (c.maxStack ≤ mostOperands) && decide (meth.sig.returnType = rt) && !meth.locks && decide (parseMethodDescriptor y.desc = some meth.sig)) = true) : (Jvm.Cond.code y bytes mx rt).before a s = true := by
  simp only [Bool.and_eq_true, beq_iff_eq, Bool.not_eq_true', decide_eq_true_eq] at h5
  obtain ⟨⟨⟨⟨⟨g1, g2⟩, g3⟩, g4⟩, g5⟩, g6⟩ := h5
  simp [Cond.before, Cond.holds, Cond.value, h1, h2, h3, h4, g1, g2, g3, g4, g5, g6]
def isCode : Jvm.Cond → Bool
  | .code _ _ _ _ => true
  | _ => false
theorem all_split {L : List Jvm.Cond} {P : Jvm.Cond → Bool} (h1 : L.all (fun c => isCode c || P c) = true) (h2 : ∀ c ∈ L.filter isCode, P c = true) : L.all P = true := by
  refine List.all_eq_true.mpr fun c hc => ?_
  have h := List.all_eq_true.mp h1 c hc
  rcases Bool.eq_false_or_eq_true (isCode c) with hi | hi
  · exact h2 c (List.mem_filter.mpr ⟨hc, hi⟩)
  · simpa [hi] using h
set_option maxRecDepth 65536 in
theorem w_c0 : (Jvm.Cond.code x code maxLocals ret).before args0 about1 = true := code_word (m := ⟨1, 1⟩) (meth := k1m1) (c := k1c1) (by decide +kernel) rfl rfl rfl (by decide +kernel)
set_option maxRecDepth 65536 in
theorem w_c1 : (Jvm.Cond.code ({ cls := "java/lang/String", name := "<init>", desc := "([C)V" } : Jvm.MethodName) jdk_42_method_3_code (2 : Nat) (Option.none : Option Jvm.ClassFile.FieldType)).before args0 about1 = true := code_word (m := ⟨7, 1⟩) (meth := k7m1) (c := k7c1) (by decide +kernel) rfl rfl rfl (by decide +kernel)
set_option maxRecDepth 65536 in
theorem w_c2 : (Jvm.Cond.code ({ cls := "java/lang/String", name := "<init>", desc := "([CIILjava/lang/Void;)V" } : Jvm.MethodName) jdk_42_method_149_code (6 : Nat) (Option.none : Option Jvm.ClassFile.FieldType)).before args0 about1 = true := code_word (m := ⟨7, 2⟩) (meth := k7m2) (c := k7c2) (by decide +kernel) rfl rfl rfl (by decide +kernel)
set_option maxRecDepth 65536 in
theorem w_c3 : (Jvm.Cond.code ({ cls := "java/lang/Object", name := "<init>", desc := "()V" } : Jvm.MethodName) object_method_1_code (1 : Nat) (Option.none : Option Jvm.ClassFile.FieldType)).before args0 about1 = true := code_word (m := ⟨0, 0⟩) (meth := k0m0) (c := k0c0) (by decide +kernel) rfl rfl rfl (by decide +kernel)
set_option maxRecDepth 65536 in
theorem w_c4 : (Jvm.Cond.code ({ cls := "java/lang/StringUTF16", name := "compress", desc := "([CII)[B" } : Jvm.MethodName) jdk_52_method_16_code (6 : Nat) (Option.some (Jvm.ClassFile.FieldType.array Jvm.ClassFile.FieldType.byte))).before args0 about1 = true := code_word (m := ⟨8, 2⟩) (meth := k8m2) (c := k8c2) (by decide +kernel) rfl rfl rfl (by decide +kernel)
set_option maxRecDepth 65536 in
theorem w_c5 : (Jvm.Cond.code ({ cls := "java/lang/StringUTF16", name := "compress", desc := "([CI[BII)I" } : Jvm.MethodName) jdk_52_method_21_code (7 : Nat) (Option.some Jvm.ClassFile.FieldType.int)).before args0 about1 = true := code_word (m := ⟨8, 3⟩) (meth := k8m3) (c := k8c3) (by decide +kernel) rfl rfl rfl (by decide +kernel)
set_option maxRecDepth 65536 in
theorem w_c6 : (Jvm.Cond.code ({ cls := "java/lang/StringUTF16", name := "coderFromArrayLen", desc := "([BI)B" } : Jvm.MethodName) jdk_52_method_15_code (2 : Nat) (Option.some Jvm.ClassFile.FieldType.byte)).before args0 about1 = true := code_word (m := ⟨8, 1⟩) (meth := k8m1) (c := k8c1) (by decide +kernel) rfl rfl rfl (by decide +kernel)
set_option maxRecDepth 65536 in
theorem w_c7 : (Jvm.Cond.code ({ cls := "com/example/dunlin/dunlin/RunText", name := "<init>", desc := "(Ljava/lang/String;)V" } : Jvm.MethodName) prog_24_method_1_code (2 : Nat) (Option.none : Option Jvm.ClassFile.FieldType)).before args0 about1 = true := code_word (m := ⟨9, 0⟩) (meth := k9m0) (c := k9c0) (by decide +kernel) rfl rfl rfl (by decide +kernel)
set_option maxRecDepth 65536 in
theorem w_c8 : (Jvm.Cond.code ({ cls := "java/util/List", name := "of", desc := "()Ljava/util/List;" } : Jvm.MethodName) jdk_40_method_36_code (0 : Nat) (Option.some (Jvm.ClassFile.FieldType.object "java/util/List"))).before args0 about1 = true := code_word (m := ⟨13, 0⟩) (meth := k13m0) (c := k13c0) (by decide +kernel) rfl rfl rfl (by decide +kernel)
set_option maxRecDepth 65536 in
theorem w_c9 : (Jvm.Cond.code ({ cls := "com/example/dunlin/dunlin/RunText", name := "<init>", desc := "(Ljava/lang/String;Ljava/lang/String;[IILjava/util/List;)V" } : Jvm.MethodName) prog_24_method_2_code (6 : Nat) (Option.none : Option Jvm.ClassFile.FieldType)).before args0 about1 = true := code_word (m := ⟨9, 1⟩) (meth := k9m1) (c := k9c1) (by decide +kernel) rfl rfl rfl (by decide +kernel)
set_option maxRecDepth 65536 in
theorem w_c10 : (Jvm.Cond.code ({ cls := "com/example/dunlin/dunlin/RunText", name := "writtenOffset", desc := "(I)I" } : Jvm.MethodName) prog_24_method_12_code (6 : Nat) (Option.some Jvm.ClassFile.FieldType.int)).before args0 about1 = true := code_word (m := ⟨9, 2⟩) (meth := k9m2) (c := k9c2) (by decide +kernel) rfl rfl rfl (by decide +kernel)
def codes1 : List Jvm.Cond := [Jvm.Cond.code x code maxLocals ret, Jvm.Cond.code ({ cls := "java/lang/String", name := "<init>", desc := "([C)V" } : Jvm.MethodName) jdk_42_method_3_code (2 : Nat) (Option.none : Option Jvm.ClassFile.FieldType), Jvm.Cond.code ({ cls := "java/lang/String", name := "<init>", desc := "([CIILjava/lang/Void;)V" } : Jvm.MethodName) jdk_42_method_149_code (6 : Nat) (Option.none : Option Jvm.ClassFile.FieldType), Jvm.Cond.code ({ cls := "java/lang/Object", name := "<init>", desc := "()V" } : Jvm.MethodName) object_method_1_code (1 : Nat) (Option.none : Option Jvm.ClassFile.FieldType), Jvm.Cond.code ({ cls := "java/lang/StringUTF16", name := "compress", desc := "([CII)[B" } : Jvm.MethodName) jdk_52_method_16_code (6 : Nat) (Option.some (Jvm.ClassFile.FieldType.array Jvm.ClassFile.FieldType.byte)), Jvm.Cond.code ({ cls := "java/lang/StringUTF16", name := "compress", desc := "([CI[BII)I" } : Jvm.MethodName) jdk_52_method_21_code (7 : Nat) (Option.some Jvm.ClassFile.FieldType.int), Jvm.Cond.code ({ cls := "java/lang/StringUTF16", name := "coderFromArrayLen", desc := "([BI)B" } : Jvm.MethodName) jdk_52_method_15_code (2 : Nat) (Option.some Jvm.ClassFile.FieldType.byte), Jvm.Cond.code ({ cls := "com/example/dunlin/dunlin/RunText", name := "<init>", desc := "(Ljava/lang/String;)V" } : Jvm.MethodName) prog_24_method_1_code (2 : Nat) (Option.none : Option Jvm.ClassFile.FieldType), Jvm.Cond.code ({ cls := "java/util/List", name := "of", desc := "()Ljava/util/List;" } : Jvm.MethodName) jdk_40_method_36_code (0 : Nat) (Option.some (Jvm.ClassFile.FieldType.object "java/util/List")), Jvm.Cond.code ({ cls := "com/example/dunlin/dunlin/RunText", name := "<init>", desc := "(Ljava/lang/String;Ljava/lang/String;[IILjava/util/List;)V" } : Jvm.MethodName) prog_24_method_2_code (6 : Nat) (Option.none : Option Jvm.ClassFile.FieldType), Jvm.Cond.code ({ cls := "com/example/dunlin/dunlin/RunText", name := "writtenOffset", desc := "(I)I" } : Jvm.MethodName) prog_24_method_12_code (6 : Nat) (Option.some Jvm.ClassFile.FieldType.int)]
set_option maxRecDepth 65536 in
theorem codes_eq : words1.filter isCode = codes1 := rfl
theorem w_codes : ∀ c ∈ words1.filter isCode, c.before args0 about1 = true := by
  rw [codes_eq]
  intro c hc
  simp only [codes1, List.mem_cons, List.not_mem_nil, or_false] at hc
  rcases hc with rfl | rfl | rfl | rfl | rfl | rfl | rfl | rfl | rfl | rfl | rfl
  · exact w_c0
  · exact w_c1
  · exact w_c2
  · exact w_c3
  · exact w_c4
  · exact w_c5
  · exact w_c6
  · exact w_c7
  · exact w_c8
  · exact w_c9
  · exact w_c10
set_option maxRecDepth 65536 in
theorem w_t1 : (words1.take 24).all (fun c => isCode c || c.before args0 about1) = true := by decide +kernel
set_option maxRecDepth 65536 in
theorem w_t2 : ((words1.drop 24).take 24).all (fun c => isCode c || c.before args0 about1) = true := by decide +kernel
set_option maxRecDepth 65536 in
theorem w_t3 : ((words1.drop 24).drop 24).all (fun c => isCode c || c.before args0 about1) = true := by decide +kernel
theorem w_tables : (allAtoms (Jvm.Cond.code x code maxLocals ret :: tables_1)).before args0 about1 = true := by
  rw [allAtoms_all]
  show words1.all (fun c => c.before args0 about1) = true
  refine all_split ?_ w_codes
  rw [← List.take_append_drop 24 words1, List.all_append, w_t1, ← List.take_append_drop 24 (words1.drop 24), List.all_append, w_t2, w_t3]
  rfl
set_option maxRecDepth 65536 in
theorem w_rest : rest_1_c.before args0 about1 = true := by decide +kernel
set_option maxRecDepth 65536 in
theorem w_case : (Jvm.Cond.and given_1 narrow_1).before args0 about1 = true := by decide +kernel
theorem w_applies : (headSpec (Jvm.Cond.code x code maxLocals ret :: tables_1) room_1).applies x e0.platform about1 = true :=
  (Spec.applies_iff w_frames).mpr ⟨w_running, w_runnable, w_alone, w_named, w_hears, w_ripe, w_room, w_tables⟩
theorem atStart : AtStart classFile x code maxLocals ret World_1 tables_1 room_1 Calls_1 rest_1 Pre_1 launch0 p0 e0 about1 theMethod args0 below0 :=
  ⟨lists_1, trivial, launch0.admits_env _ _ _, launch0.least_env, fairChoices_fair.cas, fairChoices_fair.clock, w_frames, w_args, w_heap, w_applies, trivial, w_rest, w_case⟩
end start1
theorem witness_1 : WitnessClaimed_1 := ⟨start1.p0, start1.e0, start1.about1, start1.theMethod, start1.args0, start1.below0, start1.atStart⟩
end Jvm.Pilot.@@N@@
