import JvmDerived
import JvmDerived.Pilot.@@N@@Statement
import JvmDerived.Pilot.@@N@@Code
set_option linter.unusedVariables false
set_option linter.unusedSimpArgs false
namespace Jvm.Pilot.@@N@@
open Jvm Jvm.ClassFile Sem Op Lib Jvm.Free Jvm.Stand Jvm.LawKit Jvm.RoadKit Bundle Jvm.Pilot.@@N@@.Jvm.D
/-! the walk's own layer (narrow form): Go = "from here the body returns, and Q" -/
abbrev Cx : Type := Program × Env × State × MethodId × Array Value × List Frame × Method × Code
def Wds (Z : State) : Prop := ∃ a0 : Array Value, ∀ d ∈ tables_1, d.before a0 Z = true
def Ok (Z : State) (K : Cx) (own : String) (bytes : ByteArray) (maxL : Nat) (ret : Option FieldType) (nm : String) : Prop :=
  match K with
  | (p, e, s, m, args, below, meth, c) => p.tables.exec = Jvm.exec ∧ c.code = bytes ∧ c.maxLocals = maxL ∧ meth.sig.returnType = ret ∧ s.vm.findClass own = some m.cls ∧ Z.Warmed39 s.vm ∧ meth.name = nm ∧ meth.locks = false ∧ Wds Z
def Go (l : Launch) (Z : State) (n0 : Nat) (R : Room) (K : Cx) (Q : Option Value → Heap → List Addr → Prop) (h : Heap) (sf : List Addr) (k j : Nat) (pc : Nat) (ls : Array Slot) (st : List Value) : Prop :=
  match K with
  | (p, e, s, m, args, below, meth, c) => ∀ (T : State) (locs : List Loc), Stand p l e R s m args below meth c T locs k j → T.heap = h → Fr n0 locs → Old Z n0 h →
      ∃ (s₂ : State) (o : Outcome), Steps p.tables e below (T.setTop (mkF m pc ls st)) s₂ ∧ s₂.status = .running ∧ Ended s₂ below o ∧ ∃ (v : Option Value) (L : List Loc), o = .returned v ∧ ((∃ sn, Q v s₂.heap sn) ∧ Fr n0 L ∧ Old Z n0 s₂.heap) ∧ FrameEnd s o s₂ L R.cells R.slots
def Ctr (l : Launch) (Z : State) (n0 : Nat) (y : MethodName) (bytes : ByteArray) (maxL : Nat) (ret : Option FieldType) (rm : Room) (as : Array Value) (h : Heap) (sf : List Addr) (Q : Option Value → Heap → List Addr → Prop) : Prop :=
  Old Z n0 h → ∀ ws : List Jvm.Cond, MetFree l y (head1 (Jvm.Cond.code y bytes maxL ret :: ws) rm) (fun a U => a = as ∧ Z.Warmed39 U.vm ∧ U.heap = h) (fun _ _ _ _ _ => True) (fun _ U o U' => ∃ v L, o = .returned v ∧ ((∃ sn, Q v U'.heap sn) ∧ Fr n0 L ∧ Old Z n0 U'.heap) ∧ FrameEnd U o U' L rm.cells rm.slots)
section Kit
variable {l : Launch} {Z : State} {n0 : Nat} {R : Room} {K : Cx} {Q : Option Value → Heap → List Addr → Prop} {h : Heap} {sf : List Addr} {k j pc pc' : Nat} {ls : Array Slot} {st : List Value} {own : String} {bytes : ByteArray} {maxL : Nat} {ret : Option FieldType} {nm : String}
theorem Ctr.of_go {y : MethodName} {rm : Room} {as : Array Value} (W : Wds Z) (hp : plainName y.cls = true) (hef : ∀ m, entryFrame m as maxL = mkF m 0 ls []) (hgo : ∀ K, Ok Z K y.cls bytes maxL ret y.name → Go l Z n0 rm K Q h sf 0 0 0 ls []) : Ctr l Z n0 y bytes maxL ret rm as h sf Q := fun hO ws => by
  refine MetFree.of_bodySF (plainFor_of_name hp) hisR ?_
  intro p e s m args below meth c s₁ Bd hml0 hP hK
  obtain ⟨rfl, hZ, hh⟩ := hP
  have X0 : Stand p l e rm s m args below meth c s₁ [] 0 0 := Stand.of_body Bd
  have e0 : s₁.heap = h := by rw [← hh, Bd.state]; rfl
  have hnm := (name_of_methodNamed Bd.named Bd.method).1
  have hlk : meth.locks = false := BodyLoose.notSynchronized Bd
  obtain ⟨s₂, o, h1, h2⟩ := hgo (p, e, s, m, args, below, meth, c) ⟨Bd.exec, Bd.bytes, hml0, Bd.returns, findClass_of_methodNamed Bd.named, hZ, hnm, hlk, W⟩ s₁ [] X0 e0 (Fr.nil n0) hO
  exact ⟨s₂, o, castTop (hef m) h1, h2⟩
theorem Go.of {ls' : Array Slot} {st' : List Value} (H : Ok Z K own bytes maxL ret nm) (step : ∀ (p : Program) (e : Env) (below : List Frame) (T target : State) (m : MethodId) (c : Code), At T m c below → p.tables.exec = Jvm.exec → c.code = bytes → Steps p.tables e below (T.setTop (mkF m pc' ls' st')) target → Steps p.tables e below (T.setTop (mkF m pc ls st)) target) (r : Go l Z n0 R K Q h sf k j pc' ls' st') : Go l Z n0 R K Q h sf k j pc ls st := by
  obtain ⟨p, e, s, m, args, below, meth, c⟩ := K
  intro T locs X eT hF hO
  obtain ⟨s₂, o, h1, h2⟩ := r T locs X eT hF hO
  exact ⟨s₂, o, step p e below T s₂ m c X.here H.1 H.2.1 h1, h2⟩
/-- a step that keeps the heap and may warm the tables -/
theorem Go.of2 {st' : List Value} (H : Ok Z K own bytes maxL ret nm) (step : ∀ (p : Program) (e : Env) (s : State) (m : MethodId) (args : Array Value) (below : List Frame) (meth : Method) (c : Code) (T : State) (locs : List Loc) (a0 : Array Value), (∀ d ∈ tables_1, d.before a0 Z = true) → Stand p l e R s m args below meth c T locs k j → p.tables.exec = Jvm.exec → c.code = bytes → c.maxLocals = maxL → Z.Warmed39 s.vm → s.vm.findClass own = some m.cls → T.heap = h → Old Z n0 h →
      ∃ T', Stand p l e R s m args below meth c T' locs k j ∧ T'.heap = h ∧ ∀ target, Steps p.tables e below (T'.setTop (mkF m pc' ls st')) target → Steps p.tables e below (T.setTop (mkF m pc ls st)) target) (r : Go l Z n0 R K Q h sf k j pc' ls st') : Go l Z n0 R K Q h sf k j pc ls st := by
  obtain ⟨p, e, s, m, args, below, meth, c⟩ := K
  intro T locs X eT hF hO
  obtain ⟨H1, H2, H3, H4, H5, H6, H7, H8, a0, hw⟩ := H
  obtain ⟨T', X', eT', st⟩ := step p e s m args below meth c T locs a0 hw X H1 H2 H3 H6 H5 eT hO
  obtain ⟨s₂, o, h1, h2⟩ := r T' locs X' eT' hF hO
  exact ⟨s₂, o, st _ h1, h2⟩
/-- a step that makes cells -/
theorem Go.ofNew {st' : List Value} {dk dj : Nat} {P : Addr → Heap → Prop} (H : Ok Z K own bytes maxL ret nm) (step : ∀ (p : Program) (e : Env) (s : State) (m : MethodId) (args : Array Value) (below : List Frame) (meth : Method) (c : Code) (T : State) (locs : List Loc) (a0 : Array Value), (∀ d ∈ tables_1, d.before a0 Z = true) → Stand p l e R s m args below meth c T locs k j → p.tables.exec = Jvm.exec → c.code = bytes → Z.Warmed39 s.vm → s.vm.findClass own = some m.cls → T.heap = h →
      ∃ T' h', Stand p l e R s m args below meth c T' locs (k + dk) (j + dj) ∧ T'.heap = h' ∧ Ext h h' ∧ P h.size h' ∧ ∀ target, Steps p.tables e below (T'.setTop (mkF m pc' ls (.ref h.size :: st'))) target → Steps p.tables e below (T.setTop (mkF m pc ls st)) target)
    (r : ∀ (a : Addr) (h' : Heap), a = h.size → n0 ≤ a → Ext h h' → P a h' → Go l Z n0 R K Q h' (a :: sf) (k + dk) (j + dj) pc' ls (.ref a :: st')) : Go l Z n0 R K Q h sf k j pc ls st := by
  obtain ⟨p, e, s, m, args, below, meth, c⟩ := K
  intro T locs X eT hF hO
  obtain ⟨H1, H2, H3, H4, H5, H6, H7, H8, a0, hw⟩ := H
  obtain ⟨T', h', X', eT', E, hP, st⟩ := step p e s m args below meth c T locs a0 hw X H1 H2 H6 H5 eT
  obtain ⟨s₂, o, h1, h2⟩ := r h.size h' rfl (hO.1 ▸ hO.2.1) E hP T' locs X' eT' hF (hO.ext E)
  exact ⟨s₂, o, st _ h1, h2⟩
/-- a step that writes one slot of a cell that is new since n0 -/
theorem Go.ofWr {st' : List Value} {a : Addr} {sl : Nat} {v : Value} (H : Ok Z K own bytes maxL ret nm) (ha : n0 ≤ a) (hs : a ∈ sf) (step : ∀ (p : Program) (e : Env) (s : State) (m : MethodId) (args : Array Value) (below : List Frame) (meth : Method) (c : Code) (T : State) (locs : List Loc) (a0 : Array Value), (∀ d ∈ tables_1, d.before a0 Z = true) → Stand p l e R s m args below meth c T locs k j → p.tables.exec = Jvm.exec → c.code = bytes → Z.Warmed39 s.vm → s.vm.findClass own = some m.cls → meth.name = nm → T.heap = h →
      ∃ T' h', Stand p l e R s m args below meth c T' (locs ++ [⟨a, sl⟩]) k j ∧ T'.heap = h' ∧ Wr h h' a sl v ∧ ∀ target, Steps p.tables e below (T'.setTop (mkF m pc' ls st')) target → Steps p.tables e below (T.setTop (mkF m pc ls st)) target)
    (r : ∀ (h' : Heap), Wr h h' a sl v → Go l Z n0 R K Q h' sf k j pc' ls st') : Go l Z n0 R K Q h sf k j pc ls st := by
  obtain ⟨p, e, s, m, args, below, meth, c⟩ := K
  intro T locs X eT hF hO
  obtain ⟨H1, H2, H3, H4, H5, H6, H7, H8, a0, hw⟩ := H
  obtain ⟨T', h', X', eT', W, st⟩ := step p e s m args below meth c T locs a0 hw X H1 H2 H6 H5 H7 eT
  obtain ⟨s₂, o, h1, h2⟩ := r h' W T' _ X' eT' (Fr.snoc X' hF ha) (hO.wr W ha)
  exact ⟨s₂, o, st _ h1, h2⟩
/-- a step that may write any slots of one cell that is new since n0 -/
theorem Go.ofKeep {st' : List Value} {b : Addr} {P : Heap → Prop} (H : Ok Z K own bytes maxL ret nm) (ha : n0 ≤ b) (hs : b ∈ sf) (step : ∀ (p : Program) (e : Env) (s : State) (m : MethodId) (args : Array Value) (below : List Frame) (meth : Method) (c : Code) (T : State) (locs : List Loc) (a0 : Array Value), (∀ d ∈ tables_1, d.before a0 Z = true) → Stand p l e R s m args below meth c T locs k j → p.tables.exec = Jvm.exec → c.code = bytes → c.maxLocals = maxL → Z.Warmed39 s.vm → s.vm.findClass own = some m.cls → T.heap = h → Fr n0 locs →
      ∃ T' h' L, Stand p l e R s m args below meth c T' L k j ∧ T'.heap = h' ∧ Fr n0 L ∧ Keep h h' [b] ∧ P h' ∧ ∀ target, Steps p.tables e below (T'.setTop (mkF m pc' ls st')) target → Steps p.tables e below (T.setTop (mkF m pc ls st)) target)
    (r : ∀ (h' : Heap), Keep h h' [b] → P h' → Go l Z n0 R K Q h' sf k j pc' ls st') : Go l Z n0 R K Q h sf k j pc ls st := by
  obtain ⟨p, e, s, m, args, below, meth, c⟩ := K
  intro T locs X eT hF hO
  obtain ⟨H1, H2, H3, H4, H5, H6, H7, H8, a0, hw⟩ := H
  obtain ⟨T', h', L, X', eT', hL, hK, hP, st⟩ := step p e s m args below meth c T locs a0 hw X H1 H2 H3 H6 H5 eT hF
  obtain ⟨s₂, o, h1, h2⟩ := r h' hK hP T' L X' eT' hL (hO.keep hK (allS ha all0))
  exact ⟨s₂, o, st _ h1, h2⟩
/-- a call, by whatever law of calls -/
theorem Go.ofCall {y : MethodName} {ybytes : ByteArray} {ymaxL : Nat} {yret : Option FieldType} {rm : Room} {as : Array Value} {Qc : Option Value → Heap → List Addr → Prop} {sfc : List Addr} {rest : List Value} {W : Nat} (H : Ok Z K own bytes maxL ret nm) (ct : Ctr l Z n0 y ybytes ymaxL yret rm as h sfc Qc) (hsf : ∀ x ∈ sfc, x ∈ sf)
    (hc : Jvm.Cond.code y ybytes ymaxL yret ∈ tables_1) (hi : Jvm.Cond.initialized y.cls ∈ tables_1) (hfr : rm.frames + 1 ≤ R.frames) (hlo : W + (ymaxL + 11) + rm.locals ≤ R.locals) (hce : k + rm.cells ≤ R.cells) (hsl : j + rm.slots ≤ R.slots)
    (law : ∀ (p : Program) (e : Env) (s : State) (m : MethodId) (args : Array Value) (below : List Frame) (meth : Method) (c : Code) (T : State) (locs : List Loc) (a0 : Array Value), (∀ d ∈ tables_1, d.before a0 Z = true) → Stand p l e R s m args below meth c T locs k j → p.tables.exec = Jvm.exec → c.code = bytes → c.maxLocals = maxL → Z.Warmed39 s.vm → s.vm.findClass own = some m.cls → T.heap = h →
      ∀ (Pre : Pt → Array Value → Prop) (Post : Pt → Array Value → Option Value → Pt → Prop), Back l R p e below s args y 3 W Pre Post → (∀ vm₁, s.WarmedH vm₁ → Pre ⟨T.setVm vm₁, locs, k, j⟩ as) →
      ∃ (v : Option Value) (vm₁ : Vm) (B : Pt), Stand p l e R s m args below meth c B.U B.locs B.cells B.slots ∧ Post ⟨T.setVm vm₁, locs, k, j⟩ as v B ∧ ∀ target, Steps p.tables e below (B.U.setTop (mkF m pc' ls (v.toList ++ rest))) target → Steps p.tables e below (T.setTop (mkF m pc ls st)) target)
    (r : ∀ (v : Option Value) (h' : Heap) (sn : List Addr), Qc v h' sn → Go l Z n0 R K Q h' (sn ++ sf) (k + rm.cells) (j + rm.slots) pc' ls (v.toList ++ rest)) : Go l Z n0 R K Q h sf k j pc ls st := by
  obtain ⟨p, e, s, m, args, below, meth, c⟩ := K
  intro T locs X eT hF hO
  obtain ⟨H1, H2, H3, H4, H5, H6, H7, H8, a0, hw⟩ := H
  have hB := backOf (p := p) (e := e) (below := below) (args := args) (R := R) (len := 3) (W := W) (Q := fun v h' L => (∃ sn, Qc v h' sn) ∧ Fr n0 L ∧ Old Z n0 h') (ct hO []) H6 (hw _ hc) (hw _ hi) hfr hlo
  obtain ⟨v, vm₁, B, X', ⟨L, ⟨⟨sn, hq⟩, hFL, hO'⟩, e1, e2, e3⟩, stp⟩ := law p e s m args below meth c T locs a0 hw X H1 H2 H3 H6 H5 eT _ _ hB (fun vm₁ _ => ⟨rfl, eT, hce, hsl⟩)
  obtain ⟨U, Lc, kc, jc⟩ := B
  dsimp only [Pt.U, Pt.locs, Pt.cells, Pt.slots] at X' hq hO' e1 e2 e3 stp
  subst e1 e2 e3
  obtain ⟨s₂, o, h1, h2⟩ := r v _ sn hq U _ X' rfl (hF.app hFL) hO'
  exact ⟨s₂, o, stp _ h1, h2⟩
theorem Go.callS {y : MethodName} {ybytes : ByteArray} {ymaxL : Nat} {yret : Option FieldType} {rm : Room} {Qc : Option Value → Heap → List Addr → Prop} {sfc : List Addr} {rest : List Value} (W : Nat) {idx : Nat} (argsL : List Value) {ps : List FieldType} {rt : Option FieldType} (H : Ok Z K own bytes maxL ret nm) (d : decode bytes pc = .ok (.invokestatic idx, 3)) (hp : pc + 3 = pc')
    (hl : Jvm.Cond.methodLink own idx y ∈ tables_1) (hst : Jvm.Cond.static y ∈ tables_1) (hi : Jvm.Cond.initialized y.cls ∈ tables_1) (hc : Jvm.Cond.code y ybytes ymaxL yret ∈ tables_1) (hpd : parseMethodDescriptor y.desc = some ⟨ps, rt⟩)
    (ct : Ctr l Z n0 y ybytes ymaxL yret rm argsL.toArray h sfc Qc) (hsf : ∀ x ∈ sfc, x ∈ sf) (hlen : argsL.length = ps.length) (hsz : ls.size = maxL) (hstk : st = argsL.reverse ++ rest) (hW : (rest.map fun v => v.category).sum ≤ W)
    (hfr : rm.frames + 1 ≤ R.frames) (hlo : W + (ymaxL + 11) + rm.locals ≤ R.locals) (hce : k + rm.cells ≤ R.cells) (hsl : j + rm.slots ≤ R.slots) (hy : y.cls ≠ "java/lang/invoke/MethodHandle" ∧ y.cls ≠ "java/lang/invoke/VarHandle")
    (r : ∀ (v : Option Value) (h' : Heap) (sn : List Addr), Qc v h' sn → Go l Z n0 R K Q h' (sn ++ sf) (k + rm.cells) (j + rm.slots) pc' ls (v.toList ++ rest)) : Go l Z n0 R K Q h sf k j pc ls st := by
  subst hp
  refine Go.ofCall (W := W) (rest := rest) H ct hsf hc hi hfr hlo hce hsl ?_ r
  intro p e s m args below meth c T locs a0 hw X hx hby hml hZ hown eT Pre Post hB hpre
  obtain ⟨v, vm₁, B, -, X', hpost, stp⟩ := Jvm.LawKit.callS X hx (y := y) hown (mvT hZ (hw _ hl)) (mvT hZ (hw _ hst)) (mvT hZ (hw _ hi)) (mvT hZ (hw _ hc)) hy hB (g := mkF m pc ls st) rfl (by rw [hml]; exact hsz) (argsL := argsL) (rest := rest) (lenOf hpd hlen) hstk (by show 2 * 0 + _ ≤ _; simpa using hW) (hb hby d) hpre
  exact ⟨v, vm₁, B, X', hpost, stp⟩
theorem Go.callI {y : MethodName} {ybytes : ByteArray} {ymaxL : Nat} {rm : Room} {Qc : Option Value → Heap → List Addr → Prop} {sfc : List Addr} {rest : List Value} (W : Nat) {idx : Nat} {a : Addr} (argsL : List Value) {ps : List FieldType} {rt : Option FieldType} (H : Ok Z K own bytes maxL ret nm) (d : decode bytes pc = .ok (.invokespecial idx, 3)) (hp : pc + 3 = pc') (hy1 : y.name = "<init>")
    (hl : Jvm.Cond.methodLink own idx y ∈ tables_1) (hst : Jvm.Cond.instanceMethod y ∈ tables_1) (hi : Jvm.Cond.initialized y.cls ∈ tables_1) (hc : Jvm.Cond.code y ybytes ymaxL none ∈ tables_1) (hpd : parseMethodDescriptor y.desc = some ⟨ps, rt⟩)
    (ct : Ctr l Z n0 y ybytes ymaxL none rm (.ref a :: argsL).toArray h sfc Qc) (hsf : ∀ x ∈ sfc, x ∈ sf) (hlen : argsL.length = ps.length) (hsz : ls.size = maxL) (hstk : st = argsL.reverse ++ .ref a :: rest) (hW : (rest.map fun v => v.category).sum ≤ W)
    (hfr : rm.frames + 1 ≤ R.frames) (hlo : W + (ymaxL + 11) + rm.locals ≤ R.locals) (hce : k + rm.cells ≤ R.cells) (hsl : j + rm.slots ≤ R.slots) (hy : y.cls ≠ "java/lang/invoke/MethodHandle" ∧ y.cls ≠ "java/lang/invoke/VarHandle")
    (r : ∀ (v : Option Value) (h' : Heap) (sn : List Addr), Qc v h' sn → Go l Z n0 R K Q h' (sn ++ sf) (k + rm.cells) (j + rm.slots) pc' ls (v.toList ++ rest)) : Go l Z n0 R K Q h sf k j pc ls st := by
  subst hp
  refine Go.ofCall (W := W) (rest := rest) H ct hsf hc hi hfr hlo hce hsl ?_ r
  intro p e s m args below meth c T locs a0 hw X hx hby hml hZ hown eT Pre Post hB hpre
  obtain ⟨v, vm₁, B, -, X', hpost, stp⟩ := X.specialBack hx (y := y) hy1 hown (mvT hZ (hw _ hl)) (mvT hZ (hw _ hst)) (mvT hZ (hw _ hc)) hy hB (g := mkF m pc ls st) rfl (by rw [hml]; exact hsz) (Steps.refl _) (a := a) (argsL := argsL) (rest := rest) (lenOf hpd hlen) hstk (by show 2 * 0 + _ ≤ _; simpa using hW) (hb hby d) hpre
  exact ⟨v, vm₁, B, X', hpost, fun t ht => stp.trans ht⟩
theorem Go.callV {y : MethodName} {C : String} {ybytes : ByteArray} {ymaxL : Nat} {yret : Option FieldType} {rm : Room} {Qc : Option Value → Heap → List Addr → Prop} {sfc : List Addr} {rest : List Value} (W : Nat) {idx : Nat} {a : Addr} (argsL : List Value) {ps : List FieldType} {rt : Option FieldType} (H : Ok Z K own bytes maxL ret nm) (d : decode bytes pc = .ok (.invokevirtual idx, 3)) (hp : pc + 3 = pc') (E : Exa Z h a C)
    (hl : Jvm.Cond.methodLink own idx y ∈ tables_1) (hde : Jvm.Cond.declares y ∈ tables_1) (hse : Jvm.Cond.selects C y y ∈ tables_1) (hst : Jvm.Cond.instanceMethod y ∈ tables_1) (hi : Jvm.Cond.initialized y.cls ∈ tables_1) (hc : Jvm.Cond.code y ybytes ymaxL yret ∈ tables_1) (hpd : parseMethodDescriptor y.desc = some ⟨ps, rt⟩)
    (ct : Ctr l Z n0 y ybytes ymaxL yret rm (.ref a :: argsL).toArray h sfc Qc) (hsf : ∀ x ∈ sfc, x ∈ sf) (hlen : argsL.length = ps.length) (hsz : ls.size = maxL) (hstk : st = argsL.reverse ++ .ref a :: rest) (hW : (rest.map fun v => v.category).sum ≤ W)
    (hfr : rm.frames + 1 ≤ R.frames) (hlo : W + (ymaxL + 11) + rm.locals ≤ R.locals) (hce : k + rm.cells ≤ R.cells) (hsl : j + rm.slots ≤ R.slots) (hy : y.cls ≠ "java/lang/invoke/MethodHandle" ∧ y.cls ≠ "java/lang/invoke/VarHandle")
    (r : ∀ (v : Option Value) (h' : Heap) (sn : List Addr), Qc v h' sn → Go l Z n0 R K Q h' (sn ++ sf) (k + rm.cells) (j + rm.slots) pc' ls (v.toList ++ rest)) : Go l Z n0 R K Q h sf k j pc ls st := by
  subst hp
  refine Go.ofCall (W := W) (rest := rest) H ct hsf hc hi hfr hlo hce hsl ?_ r
  intro p e s m args below meth c T locs a0 hw X hx hby hml hZ hown eT Pre Post hB hpre
  obtain ⟨cq, kq, qa, qb, qc⟩ := isOf hZ eT E
  obtain ⟨v, vm₁, B, -, X', hpost, stp⟩ := X.virtualBack hx (y := y) (z := y) hown (mvT hZ (hw _ hl)) (mvT hZ (hw _ hde)) (notFace_of_selects (args := #[]) (mvT hZ (hw _ hse))) (mvT hZ (hw _ hse)) (mvT hZ (hw _ hst)) hy hB qa qc (g := mkF m pc ls st) rfl (by rw [hml]; exact hsz) (Steps.refl _) (argsL := argsL) (rest := rest) (lenOf hpd hlen) hstk (by show 2 * 0 + _ ≤ _; simpa using hW) (hb hby d) hpre
  exact ⟨v, vm₁, B, X', hpost, fun t ht => stp.trans ht⟩
theorem Go.ret0 {sn : List Addr} {v : Option Value} (H : Ok Z K own bytes maxL ret nm) (hv : ret = none → v = none) (hq : Q v h sn) (hs : ∀ x ∈ sn, x ∈ sf) (hk : k ≤ R.cells) (hj : j ≤ R.slots)
    (step : ∀ (p : Program) (e : Env) (s : State) (m : MethodId) (args : Array Value) (below : List Frame) (meth : Method) (c : Code) (T : State) (locs : List Loc) (fs : List Frame), Stand p l e R s m args below meth c T locs k j → p.tables.exec = Jvm.exec → c.code = bytes → meth.sig.returnType = ret →
      (∀ (f : JFrame) (acts : List Action), f.method = m → f.locked = none → f.entered = [] → (doReturn e (T.setTop f) acts v).1 = T.setFrames fs) → Steps p.tables e below (T.setTop (mkF m pc ls st)) (T.setFrames fs)) : Go l Z n0 R K Q h sf k j pc ls st := by
  obtain ⟨p, e, s, m, args, below, meth, c⟩ := K
  intro T locs X eT hF hO
  obtain ⟨H1, H2, H3, H4, H5, H6, H7, H8, a0, hw⟩ := H
  obtain ⟨fs, hr, hrun, hended, hW, hsame⟩ := X.leave (v := v) (fun q => hv (H4.symm.trans q)) H8
  refine ⟨_, _, step p e s m args below meth c T locs fs X H1 H2 H4 hr, hrun, hended, v, locs, rfl, ⟨⟨sn, ?_⟩, hF, ?_⟩, ⟨_, rfl⟩, hW, hsame.mono hk hj⟩
  · show Q v T.heap sn
    rw [eT]; exact hq
  · show Old Z n0 T.heap
    rw [eT]; exact hO
end Kit
section Steps1
variable {l : Launch} {Z : State} {n0 : Nat} {R : Room} {K : Cx} {Q : Option Value → Heap → List Addr → Prop} {h : Heap} {sf : List Addr} {k j pc pc' : Nat} {ls ls' : Array Slot} {st : List Value} {own : String} {bytes : ByteArray} {maxL : Nat} {ret : Option FieldType} {nm : String}
theorem Go.aload {i : Nat} {v : Value} (H : Ok Z K own bytes maxL ret nm) (d : decode bytes pc = .ok (.aload i, 2)) (hp : pc + 2 = pc') (hl : ls[i]? = some (.val v)) (hv : v.isRef = true) (r : Go l Z n0 R K Q h sf k j pc' ls (v :: st)) : Go l Z n0 R K Q h sf k j pc ls st := by
  subst hp
  exact Go.of H (fun p e below T t m c hA hx hby hr => XS.aload hA hx rfl (hb hby d) hl hv hr) r
theorem Go.aloadN {i : Fin 4} {v : Value} (H : Ok Z K own bytes maxL ret nm) (d : decode bytes pc = .ok (.aload_n i, 1)) (hp : pc + 1 = pc') (hl : ls[i.val]? = some (.val v)) (hv : v.isRef = true) (r : Go l Z n0 R K Q h sf k j pc' ls (v :: st)) : Go l Z n0 R K Q h sf k j pc ls st := by
  subst hp
  exact Go.of H (fun p e below T t m c hA hx hby hr => XS.aloadN hA hx rfl (hb hby d) hl hv hr) r
theorem Go.iload {i : Nat} {v : Int32} (H : Ok Z K own bytes maxL ret nm) (d : decode bytes pc = .ok (.iload i, 2)) (hp : pc + 2 = pc') (hl : ls[i]? = some (.val (.int v))) (r : Go l Z n0 R K Q h sf k j pc' ls (.int v :: st)) : Go l Z n0 R K Q h sf k j pc ls st := by
  subst hp
  exact Go.of H (fun p e below T t m c hA hx hby hr => XS.iload hA hx rfl (hb hby d) hl hr) r
theorem Go.iloadN {i : Fin 4} {v : Int32} (H : Ok Z K own bytes maxL ret nm) (d : decode bytes pc = .ok (.iload_n i, 1)) (hp : pc + 1 = pc') (hl : ls[i.val]? = some (.val (.int v))) (r : Go l Z n0 R K Q h sf k j pc' ls (.int v :: st)) : Go l Z n0 R K Q h sf k j pc ls st := by
  subst hp
  exact Go.of H (fun p e below T t m c hA hx hby hr => XS.iloadN hA hx rfl (hb hby d) hl hr) r
theorem Go.lload {i : Nat} {v : Int64} (H : Ok Z K own bytes maxL ret nm) (d : decode bytes pc = .ok (.lload i, 2)) (hp : pc + 2 = pc') (hl : ls[i]? = some (.val (.long v))) (r : Go l Z n0 R K Q h sf k j pc' ls (.long v :: st)) : Go l Z n0 R K Q h sf k j pc ls st := by
  subst hp
  exact Go.of H (fun p e below T t m c hA hx hby hr => XS.lload hA hx rfl (hb hby d) hl hr) r
theorem Go.lloadN {i : Fin 4} {v : Int64} (H : Ok Z K own bytes maxL ret nm) (d : decode bytes pc = .ok (.lload_n i, 1)) (hp : pc + 1 = pc') (hl : ls[i.val]? = some (.val (.long v))) (r : Go l Z n0 R K Q h sf k j pc' ls (.long v :: st)) : Go l Z n0 R K Q h sf k j pc ls st := by
  subst hp
  exact Go.of H (fun p e below T t m c hA hx hby hr => XS.lloadN hA hx rfl (hb hby d) hl hr) r
theorem Go.istore {i : Nat} {x : Int32} (H : Ok Z K own bytes maxL ret nm) (d : decode bytes pc = .ok (.istore i, 2)) (hp : pc + 2 = pc') (hl : storeLocals ls i (.int x) = some ls') (r : Go l Z n0 R K Q h sf k j pc' ls' st) : Go l Z n0 R K Q h sf k j pc ls (.int x :: st) := by
  subst hp
  exact Go.of H (fun p e below T t m c hA hx hby hr => XS.istore hA hx rfl (hb hby d) rfl hl hr) r
theorem Go.istoreN {i : Fin 4} {x : Int32} (H : Ok Z K own bytes maxL ret nm) (d : decode bytes pc = .ok (.istore_n i, 1)) (hp : pc + 1 = pc') (hl : storeLocals ls i.val (.int x) = some ls') (r : Go l Z n0 R K Q h sf k j pc' ls' st) : Go l Z n0 R K Q h sf k j pc ls (.int x :: st) := by
  subst hp
  exact Go.of H (fun p e below T t m c hA hx hby hr => XS.istoreN hA hx rfl (hb hby d) rfl hl hr) r
theorem Go.lstore {i : Nat} {x : Int64} (H : Ok Z K own bytes maxL ret nm) (d : decode bytes pc = .ok (.lstore i, 2)) (hp : pc + 2 = pc') (hl : storeLocals ls i (.long x) = some ls') (r : Go l Z n0 R K Q h sf k j pc' ls' st) : Go l Z n0 R K Q h sf k j pc ls (.long x :: st) := by
  subst hp
  exact Go.of H (fun p e below T t m c hA hx hby hr => XS.lstore hA hx rfl (hb hby d) rfl hl hr) r
theorem Go.lstoreN {i : Fin 4} {x : Int64} (H : Ok Z K own bytes maxL ret nm) (d : decode bytes pc = .ok (.lstore_n i, 1)) (hp : pc + 1 = pc') (hl : storeLocals ls i.val (.long x) = some ls') (r : Go l Z n0 R K Q h sf k j pc' ls' st) : Go l Z n0 R K Q h sf k j pc ls (.long x :: st) := by
  subst hp
  exact Go.of H (fun p e below T t m c hA hx hby hr => XS.lstoreN hA hx rfl (hb hby d) rfl hl hr) r
theorem Go.astore {i : Nat} {x : Value} (H : Ok Z K own bytes maxL ret nm) (d : decode bytes pc = .ok (.astore i, 2)) (hp : pc + 2 = pc') (hv : x.isRef = true) (hl : storeLocals ls i x = some ls') (r : Go l Z n0 R K Q h sf k j pc' ls' st) : Go l Z n0 R K Q h sf k j pc ls (x :: st) := by
  subst hp
  exact Go.of H (fun p e below T t m c hA hx hby hr => XS.astore hA hx rfl (hb hby d) rfl hv hl hr) r
theorem Go.astoreN {i : Fin 4} {x : Value} (H : Ok Z K own bytes maxL ret nm) (d : decode bytes pc = .ok (.astore_n i, 1)) (hp : pc + 1 = pc') (hv : x.isRef = true) (hl : storeLocals ls i.val x = some ls') (r : Go l Z n0 R K Q h sf k j pc' ls' st) : Go l Z n0 R K Q h sf k j pc ls (x :: st) := by
  subst hp
  exact Go.of H (fun p e below T t m c hA hx hby hr => XS.astoreN hA hx rfl (hb hby d) rfl hv hl hr) r
theorem Go.iconst {i : Int} (v : Int32) (H : Ok Z K own bytes maxL ret nm) (d : decode bytes pc = .ok (.iconst i, 1)) (hp : pc + 1 = pc') (hv : Int32.ofInt i = v) (r : Go l Z n0 R K Q h sf k j pc' ls (.int v :: st)) : Go l Z n0 R K Q h sf k j pc ls st := by
  subst hp
  exact Go.of H (fun p e below T t m c hA hx hby hr => XS.iconst hA hx rfl (hb hby d) (hv ▸ hr)) r
theorem Go.bipush {i : Int} (v : Int32) (H : Ok Z K own bytes maxL ret nm) (d : decode bytes pc = .ok (.bipush i, 2)) (hp : pc + 2 = pc') (hv : (Int8.ofInt i).toInt32 = v) (r : Go l Z n0 R K Q h sf k j pc' ls (.int v :: st)) : Go l Z n0 R K Q h sf k j pc ls st := by
  subst hp
  exact Go.of H (fun p e below T t m c hA hx hby hr => XS.bipush hA hx rfl (hb hby d) (hv ▸ hr)) r
theorem Go.sipush {i : Int} (v : Int32) (H : Ok Z K own bytes maxL ret nm) (d : decode bytes pc = .ok (.sipush i, 3)) (hp : pc + 3 = pc') (hv : (Int16.ofInt i).toInt32 = v) (r : Go l Z n0 R K Q h sf k j pc' ls (.int v :: st)) : Go l Z n0 R K Q h sf k j pc ls st := by
  subst hp
  exact Go.of H (fun p e below T t m c hA hx hby hr => XS.sipush hA hx rfl (hb hby d) (hv ▸ hr)) r
theorem Go.lconst {i : Fin 2} (v : Int64) (H : Ok Z K own bytes maxL ret nm) (d : decode bytes pc = .ok (.lconst i, 1)) (hp : pc + 1 = pc') (hv : Int64.ofNat i.val = v) (r : Go l Z n0 R K Q h sf k j pc' ls (.long v :: st)) : Go l Z n0 R K Q h sf k j pc ls st := by
  subst hp
  exact Go.of H (fun p e below T t m c hA hx hby hr => XS.lconst hA hx rfl (hb hby d) (hv ▸ hr)) r
theorem Go.aconstNull  (H : Ok Z K own bytes maxL ret nm) (d : decode bytes pc = .ok (.aconst_null, 1)) (hp : pc + 1 = pc')  (r : Go l Z n0 R K Q h sf k j pc' ls (.null :: st)) : Go l Z n0 R K Q h sf k j pc ls st := by
  subst hp
  exact Go.of H (fun p e below T t m c hA hx hby hr => XS.aconstNull hA hx rfl (hb hby d) hr) r
theorem Go.iadd {x y : Int32} (H : Ok Z K own bytes maxL ret nm) (d : decode bytes pc = .ok (.iadd, 1)) (hp : pc + 1 = pc')  (r : Go l Z n0 R K Q h sf k j pc' ls (.int (x + y) :: st)) : Go l Z n0 R K Q h sf k j pc ls (.int y :: .int x :: st) := by
  subst hp
  exact Go.of H (fun p e below T t m c hA hx hby hr => XS.iadd hA hx rfl (hb hby d) rfl hr) r
theorem Go.isub {x y : Int32} (H : Ok Z K own bytes maxL ret nm) (d : decode bytes pc = .ok (.isub, 1)) (hp : pc + 1 = pc')  (r : Go l Z n0 R K Q h sf k j pc' ls (.int (x - y) :: st)) : Go l Z n0 R K Q h sf k j pc ls (.int y :: .int x :: st) := by
  subst hp
  exact Go.of H (fun p e below T t m c hA hx hby hr => XS.isub hA hx rfl (hb hby d) rfl hr) r
theorem Go.imul {x y : Int32} (H : Ok Z K own bytes maxL ret nm) (d : decode bytes pc = .ok (.imul, 1)) (hp : pc + 1 = pc')  (r : Go l Z n0 R K Q h sf k j pc' ls (.int (x * y) :: st)) : Go l Z n0 R K Q h sf k j pc ls (.int y :: .int x :: st) := by
  subst hp
  exact Go.of H (fun p e below T t m c hA hx hby hr => XS.imul hA hx rfl (hb hby d) rfl hr) r
theorem Go.iand {x y : Int32} (H : Ok Z K own bytes maxL ret nm) (d : decode bytes pc = .ok (.iand, 1)) (hp : pc + 1 = pc')  (r : Go l Z n0 R K Q h sf k j pc' ls (.int (x &&& y) :: st)) : Go l Z n0 R K Q h sf k j pc ls (.int y :: .int x :: st) := by
  subst hp
  exact Go.of H (fun p e below T t m c hA hx hby hr => XS.iand hA hx rfl (hb hby d) rfl hr) r
theorem Go.ior {x y : Int32} (H : Ok Z K own bytes maxL ret nm) (d : decode bytes pc = .ok (.ior, 1)) (hp : pc + 1 = pc')  (r : Go l Z n0 R K Q h sf k j pc' ls (.int (x ||| y) :: st)) : Go l Z n0 R K Q h sf k j pc ls (.int y :: .int x :: st) := by
  subst hp
  exact Go.of H (fun p e below T t m c hA hx hby hr => XS.ior hA hx rfl (hb hby d) rfl hr) r
theorem Go.ixor {x y : Int32} (H : Ok Z K own bytes maxL ret nm) (d : decode bytes pc = .ok (.ixor, 1)) (hp : pc + 1 = pc')  (r : Go l Z n0 R K Q h sf k j pc' ls (.int (x ^^^ y) :: st)) : Go l Z n0 R K Q h sf k j pc ls (.int y :: .int x :: st) := by
  subst hp
  exact Go.of H (fun p e below T t m c hA hx hby hr => XS.ixor hA hx rfl (hb hby d) rfl hr) r
theorem Go.ladd {x y : Int64} (H : Ok Z K own bytes maxL ret nm) (d : decode bytes pc = .ok (.ladd, 1)) (hp : pc + 1 = pc')  (r : Go l Z n0 R K Q h sf k j pc' ls (.long (x + y) :: st)) : Go l Z n0 R K Q h sf k j pc ls (.long y :: .long x :: st) := by
  subst hp
  exact Go.of H (fun p e below T t m c hA hx hby hr => XS.ladd hA hx rfl (hb hby d) rfl hr) r
theorem Go.lsub {x y : Int64} (H : Ok Z K own bytes maxL ret nm) (d : decode bytes pc = .ok (.lsub, 1)) (hp : pc + 1 = pc')  (r : Go l Z n0 R K Q h sf k j pc' ls (.long (x - y) :: st)) : Go l Z n0 R K Q h sf k j pc ls (.long y :: .long x :: st) := by
  subst hp
  exact Go.of H (fun p e below T t m c hA hx hby hr => XS.lsub hA hx rfl (hb hby d) rfl hr) r
theorem Go.lmul {x y : Int64} (H : Ok Z K own bytes maxL ret nm) (d : decode bytes pc = .ok (.lmul, 1)) (hp : pc + 1 = pc')  (r : Go l Z n0 R K Q h sf k j pc' ls (.long (x * y) :: st)) : Go l Z n0 R K Q h sf k j pc ls (.long y :: .long x :: st) := by
  subst hp
  exact Go.of H (fun p e below T t m c hA hx hby hr => XS.lmul hA hx rfl (hb hby d) rfl hr) r
theorem Go.land {x y : Int64} (H : Ok Z K own bytes maxL ret nm) (d : decode bytes pc = .ok (.land, 1)) (hp : pc + 1 = pc')  (r : Go l Z n0 R K Q h sf k j pc' ls (.long (x &&& y) :: st)) : Go l Z n0 R K Q h sf k j pc ls (.long y :: .long x :: st) := by
  subst hp
  exact Go.of H (fun p e below T t m c hA hx hby hr => XS.land hA hx rfl (hb hby d) rfl hr) r
theorem Go.lor {x y : Int64} (H : Ok Z K own bytes maxL ret nm) (d : decode bytes pc = .ok (.lor, 1)) (hp : pc + 1 = pc')  (r : Go l Z n0 R K Q h sf k j pc' ls (.long (x ||| y) :: st)) : Go l Z n0 R K Q h sf k j pc ls (.long y :: .long x :: st) := by
  subst hp
  exact Go.of H (fun p e below T t m c hA hx hby hr => XS.lor hA hx rfl (hb hby d) rfl hr) r
theorem Go.lxor {x y : Int64} (H : Ok Z K own bytes maxL ret nm) (d : decode bytes pc = .ok (.lxor, 1)) (hp : pc + 1 = pc')  (r : Go l Z n0 R K Q h sf k j pc' ls (.long (x ^^^ y) :: st)) : Go l Z n0 R K Q h sf k j pc ls (.long y :: .long x :: st) := by
  subst hp
  exact Go.of H (fun p e below T t m c hA hx hby hr => XS.lxor hA hx rfl (hb hby d) rfl hr) r
theorem Go.ishl {x y : Int32} (H : Ok Z K own bytes maxL ret nm) (d : decode bytes pc = .ok (.ishl, 1)) (hp : pc + 1 = pc')  (r : Go l Z n0 R K Q h sf k j pc' ls (.int (x <<< (y &&& 31)) :: st)) : Go l Z n0 R K Q h sf k j pc ls (.int y :: .int x :: st) := by
  subst hp
  exact Go.of H (fun p e below T t m c hA hx hby hr => XS.ishl hA hx rfl (hb hby d) rfl hr) r
theorem Go.ishr {x y : Int32} (H : Ok Z K own bytes maxL ret nm) (d : decode bytes pc = .ok (.ishr, 1)) (hp : pc + 1 = pc')  (r : Go l Z n0 R K Q h sf k j pc' ls (.int (x >>> (y &&& 31)) :: st)) : Go l Z n0 R K Q h sf k j pc ls (.int y :: .int x :: st) := by
  subst hp
  exact Go.of H (fun p e below T t m c hA hx hby hr => XS.ishr hA hx rfl (hb hby d) rfl hr) r
theorem Go.iushr {x y : Int32} (H : Ok Z K own bytes maxL ret nm) (d : decode bytes pc = .ok (.iushr, 1)) (hp : pc + 1 = pc')  (r : Go l Z n0 R K Q h sf k j pc' ls (.int ((x.toUInt32 >>> (y &&& 31).toUInt32).toInt32) :: st)) : Go l Z n0 R K Q h sf k j pc ls (.int y :: .int x :: st) := by
  subst hp
  exact Go.of H (fun p e below T t m c hA hx hby hr => XS.iushr hA hx rfl (hb hby d) rfl hr) r
theorem Go.lshl {x : Int64} {y : Int32} (H : Ok Z K own bytes maxL ret nm) (d : decode bytes pc = .ok (.lshl, 1)) (hp : pc + 1 = pc')  (r : Go l Z n0 R K Q h sf k j pc' ls (.long (x <<< (y &&& 0x3f).toInt64) :: st)) : Go l Z n0 R K Q h sf k j pc ls (.int y :: .long x :: st) := by
  subst hp
  exact Go.of H (fun p e below T t m c hA hx hby hr => XS.lshl hA hx rfl (hb hby d) rfl hr) r
theorem Go.lshr {x : Int64} {y : Int32} (H : Ok Z K own bytes maxL ret nm) (d : decode bytes pc = .ok (.lshr, 1)) (hp : pc + 1 = pc')  (r : Go l Z n0 R K Q h sf k j pc' ls (.long (x >>> (y &&& 0x3f).toInt64) :: st)) : Go l Z n0 R K Q h sf k j pc ls (.int y :: .long x :: st) := by
  subst hp
  exact Go.of H (fun p e below T t m c hA hx hby hr => XS.lshr hA hx rfl (hb hby d) rfl hr) r
theorem Go.lushr {x : Int64} {y : Int32} (H : Ok Z K own bytes maxL ret nm) (d : decode bytes pc = .ok (.lushr, 1)) (hp : pc + 1 = pc')  (r : Go l Z n0 R K Q h sf k j pc' ls (.long ((x.toUInt64 >>> (y &&& 0x3f).toInt64.toUInt64).toInt64) :: st)) : Go l Z n0 R K Q h sf k j pc ls (.int y :: .long x :: st) := by
  subst hp
  exact Go.of H (fun p e below T t m c hA hx hby hr => XS.lushr hA hx rfl (hb hby d) rfl hr) r
theorem Go.idiv {x y : Int32} (H : Ok Z K own bytes maxL ret nm) (d : decode bytes pc = .ok (.idiv, 1)) (hp : pc + 1 = pc') (hy : y ≠ 0) (r : Go l Z n0 R K Q h sf k j pc' ls (.int (x / y) :: st)) : Go l Z n0 R K Q h sf k j pc ls (.int y :: .int x :: st) := by
  subst hp
  exact Go.of H (fun p e below T t m c hA hx hby hr => XS.idiv hA hx rfl (hb hby d) rfl hy hr) r
theorem Go.irem {x y : Int32} (H : Ok Z K own bytes maxL ret nm) (d : decode bytes pc = .ok (.irem, 1)) (hp : pc + 1 = pc') (hy : y ≠ 0) (r : Go l Z n0 R K Q h sf k j pc' ls (.int (x % y) :: st)) : Go l Z n0 R K Q h sf k j pc ls (.int y :: .int x :: st) := by
  subst hp
  exact Go.of H (fun p e below T t m c hA hx hby hr => XS.irem hA hx rfl (hb hby d) rfl hy (by rw [irem_eq_mod x y]; exact hr)) r
theorem Go.ldiv {x y : Int64} (H : Ok Z K own bytes maxL ret nm) (d : decode bytes pc = .ok (.ldiv, 1)) (hp : pc + 1 = pc') (hy : y ≠ 0) (r : Go l Z n0 R K Q h sf k j pc' ls (.long (x / y) :: st)) : Go l Z n0 R K Q h sf k j pc ls (.long y :: .long x :: st) := by
  subst hp
  exact Go.of H (fun p e below T t m c hA hx hby hr => XS.ldiv hA hx rfl (hb hby d) rfl hy hr) r
theorem Go.lrem {x y : Int64} (H : Ok Z K own bytes maxL ret nm) (d : decode bytes pc = .ok (.lrem, 1)) (hp : pc + 1 = pc') (hy : y ≠ 0) (r : Go l Z n0 R K Q h sf k j pc' ls (.long (x % y) :: st)) : Go l Z n0 R K Q h sf k j pc ls (.long y :: .long x :: st) := by
  subst hp
  exact Go.of H (fun p e below T t m c hA hx hby hr => XS.lrem hA hx rfl (hb hby d) rfl hy (by rw [lrem_mod x y]; exact hr)) r
theorem Go.ineg {x : Int32} (H : Ok Z K own bytes maxL ret nm) (d : decode bytes pc = .ok (.ineg, 1)) (hp : pc + 1 = pc')  (r : Go l Z n0 R K Q h sf k j pc' ls (.int (-x) :: st)) : Go l Z n0 R K Q h sf k j pc ls (.int x :: st) := by
  subst hp
  exact Go.of H (fun p e below T t m c hA hx hby hr => XS.ineg hA hx rfl (hb hby d) rfl hr) r
theorem Go.lneg {x : Int64} (H : Ok Z K own bytes maxL ret nm) (d : decode bytes pc = .ok (.lneg, 1)) (hp : pc + 1 = pc')  (r : Go l Z n0 R K Q h sf k j pc' ls (.long (-x) :: st)) : Go l Z n0 R K Q h sf k j pc ls (.long x :: st) := by
  subst hp
  exact Go.of H (fun p e below T t m c hA hx hby hr => XS.lneg hA hx rfl (hb hby d) rfl hr) r
theorem Go.i2c {x : Int32} (H : Ok Z K own bytes maxL ret nm) (d : decode bytes pc = .ok (.i2c, 1)) (hp : pc + 1 = pc')  (r : Go l Z n0 R K Q h sf k j pc' ls (.int (nar .char x) :: st)) : Go l Z n0 R K Q h sf k j pc ls (.int x :: st) := by
  subst hp
  exact Go.of H (fun p e below T t m c hA hx hby hr => XS.i2c hA hx rfl (hb hby d) rfl hr) r
theorem Go.i2b {x : Int32} (H : Ok Z K own bytes maxL ret nm) (d : decode bytes pc = .ok (.i2b, 1)) (hp : pc + 1 = pc')  (r : Go l Z n0 R K Q h sf k j pc' ls (.int (nar .byte x) :: st)) : Go l Z n0 R K Q h sf k j pc ls (.int x :: st) := by
  subst hp
  exact Go.of H (fun p e below T t m c hA hx hby hr => XS.i2b hA hx rfl (hb hby d) rfl hr) r
theorem Go.i2s {x : Int32} (H : Ok Z K own bytes maxL ret nm) (d : decode bytes pc = .ok (.i2s, 1)) (hp : pc + 1 = pc')  (r : Go l Z n0 R K Q h sf k j pc' ls (.int (nar .short x) :: st)) : Go l Z n0 R K Q h sf k j pc ls (.int x :: st) := by
  subst hp
  exact Go.of H (fun p e below T t m c hA hx hby hr => XS.i2s hA hx rfl (hb hby d) rfl hr) r
theorem Go.i2l {x : Int32} (H : Ok Z K own bytes maxL ret nm) (d : decode bytes pc = .ok (.i2l, 1)) (hp : pc + 1 = pc')  (r : Go l Z n0 R K Q h sf k j pc' ls (.long x.toInt64 :: st)) : Go l Z n0 R K Q h sf k j pc ls (.int x :: st) := by
  subst hp
  exact Go.of H (fun p e below T t m c hA hx hby hr => XS.i2l hA hx rfl (hb hby d) rfl hr) r
theorem Go.l2i {x : Int64} (H : Ok Z K own bytes maxL ret nm) (d : decode bytes pc = .ok (.l2i, 1)) (hp : pc + 1 = pc')  (r : Go l Z n0 R K Q h sf k j pc' ls (.int x.toInt32 :: st)) : Go l Z n0 R K Q h sf k j pc ls (.long x :: st) := by
  subst hp
  exact Go.of H (fun p e below T t m c hA hx hby hr => XS.l2i hA hx rfl (hb hby d) rfl hr) r
theorem Go.lcmp {x y : Int64} (H : Ok Z K own bytes maxL ret nm) (d : decode bytes pc = .ok (.lcmp, 1)) (hp : pc + 1 = pc')  (r : Go l Z n0 R K Q h sf k j pc' ls (.int (lcmpW x y) :: st)) : Go l Z n0 R K Q h sf k j pc ls (.long y :: .long x :: st) := by
  subst hp
  exact Go.of H (fun p e below T t m c hA hx hby hr => XS.lcmp hA hx rfl (hb hby d) rfl hr) r
theorem Go.iinc {i : Nat} {cst : Int} {x : Int32} (v : Int32) (H : Ok Z K own bytes maxL ret nm) (d : decode bytes pc = .ok (.iinc i cst, 3)) (hp : pc + 3 = pc') (hl : ls[i]? = some (.val (.int x))) (hv : Int32.ofInt cst = v) (hl' : storeLocals ls i (.int (x + v)) = some ls') (r : Go l Z n0 R K Q h sf k j pc' ls' st) : Go l Z n0 R K Q h sf k j pc ls st := by
  subst hp
  exact Go.of H (fun p e below T t m c hA hx hby hr => XS.iinc hA hx rfl (hb hby d) hl (by rw [hv]; exact hl') hr) r
theorem Go.dup {x : Value} (H : Ok Z K own bytes maxL ret nm) (d : decode bytes pc = .ok (.dup, 1)) (hp : pc + 1 = pc') (hc : x.category = 1) (r : Go l Z n0 R K Q h sf k j pc' ls (x :: x :: st)) : Go l Z n0 R K Q h sf k j pc ls (x :: st) := by
  subst hp
  exact Go.of H (fun p e below T t m c hA hx hby hr => XS.dup hA hx rfl (hb hby d) rfl hc hr) r
theorem Go.pop {x : Value} (H : Ok Z K own bytes maxL ret nm) (d : decode bytes pc = .ok (.pop, 1)) (hp : pc + 1 = pc') (hc : x.category = 1) (r : Go l Z n0 R K Q h sf k j pc' ls st) : Go l Z n0 R K Q h sf k j pc ls (x :: st) := by
  subst hp
  exact Go.of H (fun p e below T t m c hA hx hby hr => XS.pop hA hx rfl (hb hby d) rfl hc hr) r
theorem Go.dupX1 {x y : Value} (H : Ok Z K own bytes maxL ret nm) (d : decode bytes pc = .ok (.dup_x1, 1)) (hp : pc + 1 = pc') (hc : x.category = 1) (hc' : y.category = 1) (r : Go l Z n0 R K Q h sf k j pc' ls (x :: y :: x :: st)) : Go l Z n0 R K Q h sf k j pc ls (x :: y :: st) := by
  subst hp
  exact Go.of H (fun p e below T t m c hA hx hby hr => XT.dupX1 hA hx rfl (hb hby d) rfl hc hc' hr) r
theorem Go.dup2 {x y : Value} (H : Ok Z K own bytes maxL ret nm) (d : decode bytes pc = .ok (.dup2, 1)) (hp : pc + 1 = pc') (hc : x.category = 1) (hc' : y.category = 1) (r : Go l Z n0 R K Q h sf k j pc' ls (x :: y :: x :: y :: st)) : Go l Z n0 R K Q h sf k j pc ls (x :: y :: st) := by
  subst hp
  exact Go.of H (fun p e below T t m c hA hx hby hr => XT.dup2 hA hx rfl (hb hby d) rfl hc hc' hr) r
theorem Go.goto {o : Int} (H : Ok Z K own bytes maxL ret nm) (d : decode bytes pc = .ok (.goto o, 3)) (ho : 0 ≤ (pc : Int) + o) (hp : ((pc : Int) + o).toNat = pc') (r : Go l Z n0 R K Q h sf k j pc' ls st) : Go l Z n0 R K Q h sf k j pc ls st := Go.of H (fun p e below T t m c hA hx hby hr => XS.goto hA hx rfl (pc0 := pc) (pc' := pc') rfl (hb hby d) ho hp hr) r
theorem Go.icmpY {cd : ClassFile.Cond} {x y : Int32} {o : Int} (H : Ok Z K own bytes maxL ret nm) (d : decode bytes pc = .ok (.if_icmp cd o, 3)) (hc : if_icmp.holds cd x y = true) (ho : 0 ≤ (pc : Int) + o) (hp : ((pc : Int) + o).toNat = pc') (r : Go l Z n0 R K Q h sf k j pc' ls st) : Go l Z n0 R K Q h sf k j pc ls (.int y :: .int x :: st) := Go.of H (fun p e below T t m c hA hx hby hr => XS.icmpYes hA hx rfl (pc0 := pc) (pc' := pc') rfl (hb hby d) rfl hc ho hp hr) r
theorem Go.icmpN {cd : ClassFile.Cond} {x y : Int32} {o : Int} (H : Ok Z K own bytes maxL ret nm) (d : decode bytes pc = .ok (.if_icmp cd o, 3)) (hc : if_icmp.holds cd x y = false) (hp : pc + 3 = pc') (r : Go l Z n0 R K Q h sf k j pc' ls st) : Go l Z n0 R K Q h sf k j pc ls (.int y :: .int x :: st) := by
  subst hp
  exact Go.of H (fun p e below T t m c hA hx hby hr => XS.icmpNo hA hx rfl (hb hby d) rfl hc hr) r
theorem Go.ifY {cd : ClassFile.Cond} {x : Int32} {o : Int} (H : Ok Z K own bytes maxL ret nm) (d : decode bytes pc = .ok (.ifCond cd o, 3)) (hc : if_icmp.holds cd x 0 = true) (ho : 0 ≤ (pc : Int) + o) (hp : ((pc : Int) + o).toNat = pc') (r : Go l Z n0 R K Q h sf k j pc' ls st) : Go l Z n0 R K Q h sf k j pc ls (.int x :: st) := Go.of H (fun p e below T t m c hA hx hby hr => XS.ifYes hA hx rfl (pc0 := pc) (pc' := pc') rfl (hb hby d) rfl ((if0 _ _).trans hc) ho hp hr) r
theorem Go.ifN {cd : ClassFile.Cond} {x : Int32} {o : Int} (H : Ok Z K own bytes maxL ret nm) (d : decode bytes pc = .ok (.ifCond cd o, 3)) (hc : if_icmp.holds cd x 0 = false) (hp : pc + 3 = pc') (r : Go l Z n0 R K Q h sf k j pc' ls st) : Go l Z n0 R K Q h sf k j pc ls (.int x :: st) := by
  subst hp
  exact Go.of H (fun p e below T t m c hA hx hby hr => XS.ifNo hA hx rfl (hb hby d) rfl ((if0 _ _).trans hc) hr) r
theorem Go.ifnullY {o : Int} (H : Ok Z K own bytes maxL ret nm) (d : decode bytes pc = .ok (.ifnull o, 3)) (ho : 0 ≤ (pc : Int) + o) (hp : ((pc : Int) + o).toNat = pc') (r : Go l Z n0 R K Q h sf k j pc' ls st) : Go l Z n0 R K Q h sf k j pc ls (.null :: st) := Go.of H (fun p e below T t m c hA hx hby hr => XS.ifnullYes hA hx rfl (pc0 := pc) (pc' := pc') rfl (hb hby d) rfl ho hp hr) r
theorem Go.ifnullN {b : Addr} {o : Int} (H : Ok Z K own bytes maxL ret nm) (d : decode bytes pc = .ok (.ifnull o, 3)) (hp : pc + 3 = pc') (r : Go l Z n0 R K Q h sf k j pc' ls st) : Go l Z n0 R K Q h sf k j pc ls (.ref b :: st) := by
  subst hp
  exact Go.of H (fun p e below T t m c hA hx hby hr => XS.ifnullNo hA hx rfl (hb hby d) rfl hr) r
theorem Go.ifnonnullY {b : Addr} {o : Int} (H : Ok Z K own bytes maxL ret nm) (d : decode bytes pc = .ok (.ifnonnull o, 3)) (ho : 0 ≤ (pc : Int) + o) (hp : ((pc : Int) + o).toNat = pc') (r : Go l Z n0 R K Q h sf k j pc' ls st) : Go l Z n0 R K Q h sf k j pc ls (.ref b :: st) := Go.of H (fun p e below T t m c hA hx hby hr => XS.ifnonnullYes hA hx rfl (pc0 := pc) (pc' := pc') rfl (hb hby d) rfl ho hp hr) r
theorem Go.ifnonnullN {o : Int} (H : Ok Z K own bytes maxL ret nm) (d : decode bytes pc = .ok (.ifnonnull o, 3)) (hp : pc + 3 = pc') (r : Go l Z n0 R K Q h sf k j pc' ls st) : Go l Z n0 R K Q h sf k j pc ls (.null :: st) := by
  subst hp
  exact Go.of H (fun p e below T t m c hA hx hby hr => XS.ifnonnullNo hA hx rfl (hb hby d) rfl hr) r
theorem Go.acmpY {cd : ClassFile.ACond} {x y : Value} {o : Int} (H : Ok Z K own bytes maxL ret nm) (d : decode bytes pc = .ok (.if_acmp cd o, 3)) (h1 : x.isRef = true) (h2 : y.isRef = true) (hc : XT.acmp cd x y = true) (ho : 0 ≤ (pc : Int) + o) (hp : ((pc : Int) + o).toNat = pc') (r : Go l Z n0 R K Q h sf k j pc' ls st) : Go l Z n0 R K Q h sf k j pc ls (y :: x :: st) := Go.of H (fun p e below T t m c hA hx hby hr => XT.acmpYes hA hx rfl (pc0 := pc) (pc' := pc') rfl (hb hby d) rfl h1 h2 hc ho hp hr) r
theorem Go.acmpN {cd : ClassFile.ACond} {x y : Value} {o : Int} (H : Ok Z K own bytes maxL ret nm) (d : decode bytes pc = .ok (.if_acmp cd o, 3)) (h1 : x.isRef = true) (h2 : y.isRef = true) (hc : XT.acmp cd x y = false) (hp : pc + 3 = pc') (r : Go l Z n0 R K Q h sf k j pc' ls st) : Go l Z n0 R K Q h sf k j pc ls (y :: x :: st) := by
  subst hp
  exact Go.of H (fun p e below T t m c hA hx hby hr => XT.acmpNo hA hx rfl (hb hby d) rfl h1 h2 hc hr) r
theorem Go.ldcInt {idx : Nat} {v : Int32} (H : Ok Z K own bytes maxL ret nm) (d : decode bytes pc = .ok (.ldc idx, 2)) (hp : pc + 2 = pc') (w : Jvm.Cond.constant own idx v ∈ tables_1) (r : Go l Z n0 R K Q h sf k j pc' ls (.int v :: st)) : Go l Z n0 R K Q h sf k j pc ls st := by
  subst hp
  refine Go.of2 H ?_ r
  intro p e s m args below meth c T locs a0 hw X hx hby hml hZ hown eT hO
  exact ⟨T, X, eT, fun t hr => X.ldcInt hx hown (mvT hZ (hw _ w)) (g := mkF m pc ls st) rfl (hb hby d) t hr⟩
theorem Go.ldcWInt {idx : Nat} {v : Int32} (H : Ok Z K own bytes maxL ret nm) (d : decode bytes pc = .ok (.ldc_w idx, 3)) (hp : pc + 3 = pc') (w : Jvm.Cond.constant own idx v ∈ tables_1) (r : Go l Z n0 R K Q h sf k j pc' ls (.int v :: st)) : Go l Z n0 R K Q h sf k j pc ls st := by
  subst hp
  refine Go.of2 H ?_ r
  intro p e s m args below meth c T locs a0 hw X hx hby hml hZ hown eT hO
  exact ⟨T, X, eT, fun t hr => X.ldcwInt hx hown (mvT hZ (hw _ w)) (g := mkF m pc ls st) rfl (hb hby d) t hr⟩
theorem Go.ldc2 {idx : Nat} {v : Int64} (H : Ok Z K own bytes maxL ret nm) (d : decode bytes pc = .ok (.ldc2_w idx, 3)) (hp : pc + 3 = pc') (w : Jvm.Cond.constantLong own idx v ∈ tables_1) (r : Go l Z n0 R K Q h sf k j pc' ls (.long v :: st)) : Go l Z n0 R K Q h sf k j pc ls st := by
  subst hp
  refine Go.of2 H ?_ r
  intro p e s m args below meth c T locs a0 hw X hx hby hml hZ hown eT hO
  exact ⟨T, X, eT, fun t hr => X.ldc2Long hx hown (mvT hZ (hw _ w)) (g := mkF m pc ls st) rfl (hb hby d) t hr⟩
theorem Go.getfield {idx : Nat} {O n d' : String} {a : Addr} {v : Value} (H : Ok Z K own bytes maxL ret nm) (d : decode bytes pc = .ok (.getfield idx, 3)) (hp : pc + 3 = pc') (w : Jvm.Cond.fieldLink own idx O n d' ∈ tables_1) (F : Fld Z h a O n d' v) (r : Go l Z n0 R K Q h sf k j pc' ls (v :: st)) : Go l Z n0 R K Q h sf k j pc ls (.ref a :: st) := by
  subst hp
  refine Go.of2 H ?_ r
  intro p e s m args below meth c T locs a0 hw X hx hby hml hZ hown eT hO
  exact getF X hx hZ hown (host := "") (Or.inl (hw _ w)) Via.refl eT F (g := mkF m pc ls (.ref a :: st)) rfl rfl (hb hby d)
theorem Go.getstatic {idx : Nat} {O n d' : String} {v : Value} (H : Ok Z K own bytes maxL ret nm) (d : decode bytes pc = .ok (.getstatic idx, 3)) (hp : pc + 3 = pc') (w : Jvm.Cond.fieldLink own idx O n d' ∈ tables_1) (F : Sta Z Z.heap O n d' v) (r : Go l Z n0 R K Q h sf k j pc' ls (v :: st)) : Go l Z n0 R K Q h sf k j pc ls st := by
  subst hp
  refine Go.of2 H ?_ r
  intro p e s m args below meth c T locs a0 hw X hx hby hml hZ hown eT hO
  exact getS (host := "") X hx hZ hown (hw _ w) Via.refl eT (F.ext hO.2) (g := mkF m pc ls st) rfl (hb hby d)
theorem Go.checkcast {idx : Nat} {C : String} {a : Addr} (H : Ok Z K own bytes maxL ret nm) (d : decode bytes pc = .ok (.checkcast idx, 3)) (hp : pc + 3 = pc') (w : Jvm.Cond.classLink own idx C ∈ tables_1) (F : Ins Z h a C true) (r : Go l Z n0 R K Q h sf k j pc' ls (.ref a :: st)) : Go l Z n0 R K Q h sf k j pc ls (.ref a :: st) := by
  subst hp
  refine Go.of2 H ?_ r
  intro p e s m args below meth c T locs a0 hw X hx hby hml hZ hown eT hO
  exact castY X hx hZ hown (hw _ w) eT F (g := mkF m pc ls (.ref a :: st)) rfl rfl (hb hby d)
theorem Go.instanceofY {idx : Nat} {C : String} {a : Addr} (H : Ok Z K own bytes maxL ret nm) (d : decode bytes pc = .ok (.instanceof idx, 3)) (hp : pc + 3 = pc') (w : Jvm.Cond.classLink own idx C ∈ tables_1) (F : Ins Z h a C true) (r : Go l Z n0 R K Q h sf k j pc' ls (.int 1 :: st)) : Go l Z n0 R K Q h sf k j pc ls (.ref a :: st) := by
  subst hp
  refine Go.of2 H ?_ r
  intro p e s m args below meth c T locs a0 hw X hx hby hml hZ hown eT hO
  exact instY X hx hZ hown (hw _ w) eT F (g := mkF m pc ls (.ref a :: st)) rfl rfl (hb hby d)
theorem Go.initObj {idx : Nat} {a : Addr} (H : Ok Z K own bytes maxL ret nm) (d : decode bytes pc = .ok (.invokespecial idx, 3)) (hp : pc + 3 = pc') (w1 : Jvm.Cond.methodLink own idx Lib.objectInit ∈ tables_1) (w2 : Jvm.Cond.instanceMethod Lib.objectInit ∈ tables_1) (w3 : Jvm.Cond.code Lib.objectInit ⟨#[0xb1]⟩ 1 none ∈ tables_1) (W : Nat) (hsz : ls.size = maxL) (hW : (st.map fun v => v.category).sum ≤ W) (hf : 1 ≤ R.frames) (hlo : W + 12 ≤ R.locals) (r : Go l Z n0 R K Q h sf k j pc' ls st) : Go l Z n0 R K Q h sf k j pc ls (.ref a :: st) := by
  subst hp
  refine Go.of2 H ?_ r
  intro p e s m args below meth c T locs a0 hw X hx hby hml hZ hown eT hO
  exact initO X hx hZ hown (hw _ w1) (hw _ w2) (hw _ w3) eT (g := mkF m pc ls (.ref a :: st)) rfl (by rw [hml]; exact hsz) rfl (hb hby d) hf (W := W) (by show 2 * 0 + _ ≤ _; simpa using hW) hlo
end Steps1
/-- an array whose components are just these ints -/
def Vec (Z : State) (h : Heap) (a : Addr) (ty : FieldType) (vs : List Int32) : Prop := ∃ c : Cell, Arr Z h a c ty ∧ c.slots.toList = vs.map Value.int ∧ ∀ v ∈ vs, fits ty (.int v) = true
section Vecs
variable {Z : State} {h h' : Heap} {a b : Addr} {ty : FieldType} {vs : List Int32} {ws : List Addr}
theorem Vec.lt (F : Vec Z h a ty vs) : a < h.size := by obtain ⟨c, A, -⟩ := F; exact A.lt
theorem Vec.ext (F : Vec Z h a ty vs) (E : Ext h h') : Vec Z h' a ty vs := by obtain ⟨c, A, q⟩ := F; exact ⟨c, A.ext E, q⟩
theorem Vec.keep (F : Vec Z h a ty vs) (K : Keep h h' ws) (q : a ∉ ws) : Vec Z h' a ty vs := by obtain ⟨c, A, r⟩ := F; exact ⟨c, ⟨K.2.1 a c A.1 q, A.2⟩, r⟩
theorem Vec.size {c : Cell} (q : c.slots.toList = vs.map Value.int) : c.slots.size = vs.length := by rw [← Array.length_toList, q, List.length_map]
theorem Vec.get {c : Cell} (q : c.slots.toList = vs.map Value.int) {i : Nat} {v : Int32} (hv : vs[i]? = some v) : c.slots[i]? = some (.int v) := by
  rw [← Array.getElem?_toList, q, List.getElem?_map, hv]; rfl
theorem Vec.set {i : Nat} {v : Int32} (F : Vec Z h a ty vs) (W : Wr h h' a i (.int v)) (hv : fits ty (.int v) = true) : Vec Z h' a ty (vs.set i v) := by
  obtain ⟨c, A, q, hf⟩ := F
  refine ⟨_, A.same W, ?_, fun u hu => (List.mem_or_eq_of_mem_set hu).elim (hf u) (fun e => e ▸ hv)⟩
  rw [List.map_set, ← q]
  show (c.slots.setIfInBounds i _).toList = _
  rw [Array.toList_setIfInBounds]
theorem Vec.ne {ty' : FieldType} {vs' : List Int32} (F : Vec Z h a ty vs) (G : Vec Z h b ty' vs') (hn : ty ≠ ty') : a ≠ b := fun e => by
  subst e
  obtain ⟨c, ⟨h1, ⟨-, k, g1, comp, g2⟩, -⟩, -, -⟩ := F
  obtain ⟨c', ⟨h1', ⟨-, k', g1', comp', g2'⟩, -⟩, -, -⟩ := G
  cases h1.symm.trans h1'
  cases g1.symm.trans g1'
  rw [g2] at g2'
  cases g2'
  exact hn rfl
theorem Vec.neExa {C : String} {x : Addr} {n : Nat} (F : Vec Z h a ty vs) (G : Exa Z h x C) (w : Wds Z) (hi : Jvm.Cond.instantiable C n ∈ tables_1) : a ≠ x := by
  obtain ⟨c, A, -⟩ := F
  obtain ⟨a0, hw⟩ := w
  exact (ne_arr G (hw _ hi) A).symm
end Vecs
section Steps2
variable {l : Launch} {Z : State} {n0 : Nat} {R : Room} {K : Cx} {Q : Option Value → Heap → List Addr → Prop} {h : Heap} {sf : List Addr} {k j pc pc' : Nat} {ls ls' : Array Slot} {st : List Value} {own : String} {bytes : ByteArray} {maxL : Nat} {ret : Option FieldType} {nm : String}
theorem Go.caload {a : Addr} {i : Int32} {v : Int32} {vs : List Int32} (H : Ok Z K own bytes maxL ret nm) (d : decode bytes pc = .ok (.caload, 1)) (hp : pc + 1 = pc') (F : Vec Z h a .char vs) (n : Nat) (hi : i.toNatClampNeg = n) (h0 : ¬ i < 0) (hv : vs[n]? = some v) (r : Go l Z n0 R K Q h sf k j pc' ls (.int v :: st)) : Go l Z n0 R K Q h sf k j pc ls (.int i :: .ref a :: st) := by
  subst hp
  refine Go.of2 H ?_ r
  intro p e s m args below meth c T locs a0 hw X hx hby hml hZ hown eT hO
  obtain ⟨c', A, q, -⟩ := F
  refine ⟨T, X, eT, fun t hr => X.caload hx (j := i) (v := .int v) (by rw [eT]; exact A.1) (State.isArrayOf_alike hZ.alike A.2.1) A.2.2 ?_ (by rw [hi]; exact Vec.get q hv) (g := mkF m pc ls (.int i :: .ref a :: st)) rfl rfl (hb hby d) t hr⟩
  rw [Vec.size q, hi]
  have := (List.getElem?_eq_some_iff.mp hv).1
  rintro (q | q)
  · exact h0 q
  · omega
theorem Go.baload {a : Addr} {i : Int32} {v : Int32} {vs : List Int32} (H : Ok Z K own bytes maxL ret nm) (d : decode bytes pc = .ok (.baload, 1)) (hp : pc + 1 = pc') (F : Vec Z h a .byte vs) (n : Nat) (hi : i.toNatClampNeg = n) (h0 : ¬ i < 0) (hv : vs[n]? = some v) (r : Go l Z n0 R K Q h sf k j pc' ls (.int v :: st)) : Go l Z n0 R K Q h sf k j pc ls (.int i :: .ref a :: st) := by
  subst hp
  refine Go.of2 H ?_ r
  intro p e s m args below meth c T locs a0 hw X hx hby hml hZ hown eT hO
  obtain ⟨c', A, q, -⟩ := F
  refine ⟨T, X, eT, fun t hr => X.baloadBytes hx (j := i) (v := .int v) (by rw [eT]; exact A.1) (State.isArrayOf_alike hZ.alike A.2.1) A.2.2 ?_ (by rw [hi]; exact Vec.get q hv) (g := mkF m pc ls (.int i :: .ref a :: st)) rfl rfl (hb hby d) t hr⟩
  rw [Vec.size q, hi]
  have := (List.getElem?_eq_some_iff.mp hv).1
  rintro (q | q)
  · exact h0 q
  · omega
theorem Go.iaload {a : Addr} {i : Int32} {v : Int32} {vs : List Int32} (H : Ok Z K own bytes maxL ret nm) (d : decode bytes pc = .ok (.iaload, 1)) (hp : pc + 1 = pc') (F : Vec Z h a .int vs) (n : Nat) (hi : i.toNatClampNeg = n) (h0 : ¬ i < 0) (hv : vs[n]? = some v) (r : Go l Z n0 R K Q h sf k j pc' ls (.int v :: st)) : Go l Z n0 R K Q h sf k j pc ls (.int i :: .ref a :: st) := by
  subst hp
  refine Go.of2 H ?_ r
  intro p e s m args below meth c T locs a0 hw X hx hby hml hZ hown eT hO
  obtain ⟨c', A, q, -⟩ := F
  refine ⟨T, X, eT, fun t hr => X.iaload hx (j := i) (v := .int v) (by rw [eT]; exact A.1) (State.isArrayOf_alike hZ.alike A.2.1) A.2.2 ?_ (by rw [hi]; exact Vec.get q hv) (g := mkF m pc ls (.int i :: .ref a :: st)) rfl rfl (hb hby d) t hr⟩
  rw [Vec.size q, hi]
  have := (List.getElem?_eq_some_iff.mp hv).1
  rintro (q | q)
  · exact h0 q
  · omega
theorem Go.arraylength {a : Addr} {ty : FieldType} {vs : List Int32} (v : Int32) (H : Ok Z K own bytes maxL ret nm) (d : decode bytes pc = .ok (.arraylength, 1)) (hp : pc + 1 = pc') (F : Vec Z h a ty vs) (hv : vs.length.toInt32 = v) (r : Go l Z n0 R K Q h sf k j pc' ls (.int v :: st)) : Go l Z n0 R K Q h sf k j pc ls (.ref a :: st) := by
  subst hp
  refine Go.of2 H ?_ r
  intro p e s m args below meth c T locs a0 hw X hx hby hml hZ hown eT hO
  obtain ⟨c', A, q, -⟩ := F
  refine ⟨T, X, eT, fun t hr => X.arraylength hx (by rw [eT]; exact A.1) (State.isArrayOf_alike hZ.alike A.2.1) (g := mkF m pc ls (.ref a :: st)) rfl rfl (hb hby d) t ?_⟩
  rw [Vec.size q, hv]; exact hr
theorem Go.castore {a : Addr} {i x : Int32} {vs : List Int32} (v : Int32) (H : Ok Z K own bytes maxL ret nm) (d : decode bytes pc = .ok (.castore, 1)) (hp : pc + 1 = pc') (F : Vec Z h a .char vs) (n : Nat) (hi : i.toNatClampNeg = n) (h0 : ¬ i < 0) (hn : n < vs.length) (hx : nar .char x = v) (ha : n0 ≤ a) (hs : a ∈ sf) (r : ∀ h', Keep h h' [a] → Vec Z h' a .char (vs.set n v) → Go l Z n0 R K Q h' sf k j pc' ls st) : Go l Z n0 R K Q h sf k j pc ls (.int x :: .int i :: .ref a :: st) := by
  subst hp hx
  refine Go.ofWr (a := a) (sl := i.toNatClampNeg) (v := .int (nar .char x)) H ha hs ?_ (fun h' W => r h' (Keep.of_wr W) (by rw [← hi]; exact F.set W (fits_nar_char _)))
  intro p e s m args below meth c T locs a0 hw X hx hby hZ hown hnm eT
  obtain ⟨c', A, q, -⟩ := F
  refine stC X hx hZ eT A (j := i) ?_ (g := mkF m pc ls (.int x :: .int i :: .ref a :: st)) rfl rfl (hb hby d)
  rw [Vec.size q, hi]
  rintro (q | q)
  · exact h0 q
  · omega
theorem Go.bastore {a : Addr} {i x : Int32} {vs : List Int32} (v : Int32) (H : Ok Z K own bytes maxL ret nm) (d : decode bytes pc = .ok (.bastore, 1)) (hp : pc + 1 = pc') (F : Vec Z h a .byte vs) (n : Nat) (hi : i.toNatClampNeg = n) (h0 : ¬ i < 0) (hn : n < vs.length) (hx : nar .byte x = v) (ha : n0 ≤ a) (hs : a ∈ sf) (r : ∀ h', Keep h h' [a] → Vec Z h' a .byte (vs.set n v) → Go l Z n0 R K Q h' sf k j pc' ls st) : Go l Z n0 R K Q h sf k j pc ls (.int x :: .int i :: .ref a :: st) := by
  subst hp hx
  refine Go.ofWr (a := a) (sl := i.toNatClampNeg) (v := .int (nar .byte x)) H ha hs ?_ (fun h' W => r h' (Keep.of_wr W) (by rw [← hi]; exact F.set W (fits_nar_byte _)))
  intro p e s m args below meth c T locs a0 hw X hx hby hZ hown hnm eT
  obtain ⟨c', A, q, -⟩ := F
  refine stB X hx hZ eT A (j := i) ?_ (g := mkF m pc ls (.int x :: .int i :: .ref a :: st)) rfl rfl (hb hby d)
  rw [Vec.size q, hi]
  rintro (q | q)
  · exact h0 q
  · omega
theorem Go.newarray {aty : ArrayType} {n : Int32} (N : Nat) (cap : Nat) (H : Ok Z K own bytes maxL ret nm) (d : decode bytes pc = .ok (.newarray aty, 2)) (hp : pc + 2 = pc') (w : Jvm.Cond.arrayClass (newarray.typeOf aty) ∈ tables_1) (hd : defaultValue (newarray.typeOf aty) = .int 0) (hft : fits (newarray.typeOf aty) (.int 0) = true) (hn : ¬ n < 0) (hN : n.toNatClampNeg = N) (hcap : N ≤ cap) (hb' : cap * 8 ≤ 536870912) (hce : k + 1 ≤ R.cells) (hsl : j + cap ≤ R.slots)
    (r : ∀ a h', a = h.size → n0 ≤ a → Ext h h' → Vec Z h' a (newarray.typeOf aty) (List.replicate N 0) → Go l Z n0 R K Q h' (a :: sf) (k + 1) (j + cap) pc' ls (.ref a :: st)) : Go l Z n0 R K Q h sf k j pc ls (.int n :: st) := by
  subst hp hN
  refine Go.ofNew (P := fun a h' => Vec Z h' a (newarray.typeOf aty) (List.replicate n.toNatClampNeg 0)) H ?_ r
  intro p e s m args below meth c T locs a0 hw X hx hby hZ hown eT
  obtain ⟨T', h', cA, X', eT', E, A, stp⟩ := newP X hx hZ (hw _ w) eT (g := mkF m pc ls (.int n :: st)) rfl (hb hby d) rfl hn (cap := cap) hcap hb' hce hsl
  refine ⟨T', h', X', eT', E, ⟨_, A, ?_, fun v hv => by rw [List.eq_of_mem_replicate hv]; exact hft⟩, stp⟩
  simp [newA, hd]
theorem Go.new {C : String} {idx n : Nat} (H : Ok Z K own bytes maxL ret nm) (d : decode bytes pc = .ok (.new idx, 3)) (hp : pc + 3 = pc') (w : Jvm.Cond.classLink own idx C ∈ tables_1) (wi : Jvm.Cond.instantiable C n ∈ tables_1) (wz : Jvm.Cond.initialized C ∈ tables_1) (hce : k + 1 ≤ R.cells) (hsl : j + n ≤ R.slots)
    (r : ∀ a h', a = h.size → n0 ≤ a → Ext h h' → Exa Z h' a C → (∀ {O nm d : String} {ty : FieldType}, (Jvm.Cond.lays C O nm d ∈ tables_1 ∨ Jvm.Cond.laysFinal C O nm d ∈ tables_1) → parseFieldDescriptor d = some ty → Fld Z h' a O nm d (defaultValue ty)) → Go l Z n0 R K Q h' (a :: sf) (k + 1) (j + n) pc' ls (.ref a :: st)) : Go l Z n0 R K Q h sf k j pc ls st := by
  subst hp
  refine Go.ofNew (P := fun a h' => Exa Z h' a C ∧ (∀ {O nm d : String} {ty : FieldType}, (Jvm.Cond.lays C O nm d ∈ tables_1 ∨ Jvm.Cond.laysFinal C O nm d ∈ tables_1) → parseFieldDescriptor d = some ty → Fld Z h' a O nm d (defaultValue ty))) H ?_ (fun a h' e1 e2 E hP => r a h' e1 e2 E hP.1 hP.2)
  intro p e s m args below meth c T locs a0 hw X hx hby hZ hown eT
  obtain ⟨T', h', X', eT', E, A, D, -, stp⟩ := newO X hx hZ hown (hw _ w) (hw _ wi) (hw _ wz) eT (g := mkF m pc ls st) rfl (hb hby d) hce hsl
  exact ⟨T', h', X', eT', E, ⟨A, fun L ht => D (L.imp (hw _) (hw _)) ht⟩, stp⟩
theorem Go.putfield {idx kk : Nat} {C O n d' : String} {ty : FieldType} {a : Addr} {x v old : Value} (H : Ok Z K own bytes maxL ret nm) (d : decode bytes pc = .ok (.putfield idx, 3)) (hp : pc + 3 = pc') (w : Jvm.Cond.fieldLink own idx O n d' ∈ tables_1) (F : Fld Z h a O n d' old) (E : Exa Z h a C) (L : Jvm.Cond.lays C O n d' ∈ tables_1 ∨ (Jvm.Cond.laysFinal C O n d' ∈ tables_1 ∧ own = O ∧ nm = "<init>")) (wi : Jvm.Cond.instantiable C kk ∈ tables_1) (hty : parseFieldDescriptor d' = some ty) (hn : narrow ty x = v) (hf : fits ty v = true) (ha : n0 ≤ a) (hs : a ∈ sf)
    (r : ∀ h', Wr h h' a (Jvm.RoadKit.slotOf Z O n d') v → Go l Z n0 R K Q h' sf k j pc' ls st) : Go l Z n0 R K Q h sf k j pc ls (x :: .ref a :: st) := by
  subst hp
  refine Go.ofWr (a := a) (sl := Jvm.RoadKit.slotOf Z O n d') (v := v) H ha hs ?_ r
  intro p e s m args below meth c T locs a0 hw X hx hby hZ hown hnm eT
  exact putFN X hx hZ hown (hw _ w) Via.refl eT F E (L.imp (hw _) (fun q => ⟨hw _ q.1, q.2.1, hnm.trans q.2.2⟩)) (hw _ wi) hty hn hf (g := mkF m pc ls (x :: .ref a :: st)) rfl rfl (hb hby d)
theorem Go.ireturn {x : Int32} {t : FieldType} (v : Int32) (sn : List Addr) (H : Ok Z K own bytes maxL (some t) nm) (d : decode bytes pc = .ok (.ireturn, 1)) (ht : t = .boolean ∨ t = .byte ∨ t = .char ∨ t = .short) (hv : nar t x = v) (hq : Q (some (.int v)) h sn) (hs : ∀ y ∈ sn, y ∈ sf) (hk : k ≤ R.cells) (hj : j ≤ R.slots) : Go l Z n0 R K Q h sf k j pc ls (.int x :: st) := by
  subst hv
  exact Go.ret0 H (v := some (.int (nar t x))) (fun q => nomatch q) hq hs hk hj (fun p e s m args below meth c T locs fs X hx hby hret hl => retN X hx hret ht (hb hby d) hl)
theorem Go.ireturnI {x : Int32} (sn : List Addr) (H : Ok Z K own bytes maxL (some .int) nm) (d : decode bytes pc = .ok (.ireturn, 1)) (hq : Q (some (.int x)) h sn) (hs : ∀ y ∈ sn, y ∈ sf) (hk : k ≤ R.cells) (hj : j ≤ R.slots) : Go l Z n0 R K Q h sf k j pc ls (.int x :: st) := by
  exact Go.ret0 H (v := some (.int x)) (fun q => nomatch q) hq hs hk hj (fun p e s m args below meth c T locs fs X hx hby hret hl => retOut X hx hret rfl (Or.inl ⟨rfl, Or.inl rfl, _, rfl⟩) (hb hby d) hl)
theorem Go.lreturn {x : Int64} (sn : List Addr) (H : Ok Z K own bytes maxL (some .long) nm) (d : decode bytes pc = .ok (.lreturn, 1)) (hq : Q (some (.long x)) h sn) (hs : ∀ y ∈ sn, y ∈ sf) (hk : k ≤ R.cells) (hj : j ≤ R.slots) : Go l Z n0 R K Q h sf k j pc ls (.long x :: st) := by
  exact Go.ret0 H (v := some (.long x)) (fun q => nomatch q) hq hs hk hj (fun p e s m args below meth c T locs fs X hx hby hret hl => retOut X hx hret rfl (Or.inr (Or.inl ⟨rfl, rfl, _, rfl⟩)) (hb hby d) hl)
theorem Go.areturn {x : Value} {t : FieldType} (sn : List Addr) (H : Ok Z K own bytes maxL (some t) nm) (d : decode bytes pc = .ok (.areturn, 1)) (ht : t.isReference = true) (hx : x.isRef = true) (hn : narrow t x = x) (hq : Q (some x) h sn) (hs : ∀ y ∈ sn, y ∈ sf) (hk : k ≤ R.cells) (hj : j ≤ R.slots) : Go l Z n0 R K Q h sf k j pc ls (x :: st) := by
  exact Go.ret0 H (v := some x) (fun q => nomatch q) hq hs hk hj (fun p e s m args below meth c T locs fs X hx' hby hret hl => retOut X hx' hret hn (Or.inr (Or.inr (Or.inr (Or.inr ⟨rfl, ht, hx⟩)))) (hb hby d) hl)
theorem Go.return_ (sn : List Addr) (H : Ok Z K own bytes maxL none nm) (d : decode bytes pc = .ok (.return_, 1)) (hq : Q none h sn) (hs : ∀ y ∈ sn, y ∈ sf) (hk : k ≤ R.cells) (hj : j ≤ R.slots) : Go l Z n0 R K Q h sf k j pc ls [] := by
  exact Go.ret0 H (v := none) (fun _ => rfl) hq hs hk hj (fun p e s m args below meth c T locs fs X hx hby hret hl => X.returnOut hx hret (hb hby d) hl)
theorem own_toarv {Z : State} {h : Heap} {a : Addr} {ty : FieldType} {vs : List Int32} (F : Vec Z h a ty vs) (hn : vs.length < 2 ^ 31) : ∃ kc, Arv Z h a kc ty vs.length.toInt32 (vs.map Value.int) (.int 0) := by
  obtain ⟨c, A, q, hf⟩ := F
  have hs := Vec.size q
  have e : vs.length.toInt32.toNatClampNeg = vs.length := by rw [Int32.toNatClampNeg, len_toInt hn]; simp
  have hg : ∀ i, i < vs.length → (vs.map Value.int).getD i (.int 0) = .int (vs.getD i 0) := fun i hi => by simp [List.getD, hi]
  refine ⟨c.cls, c, A, rfl, by rw [hs, e], by rw [Int32.lt_iff_toInt_lt, len_toInt hn]; simp, fun i hi => ?_, fun i hi => ?_⟩
  · rw [hg i (by omega)]
    exact Vec.get q (by simp [List.getD, show i < vs.length by omega])
  · rw [hg i (by omega)]
    exact hf _ (by have : i < vs.length := by omega
                   simp [List.getD, this])
theorem own_ofarv {Z : State} {h : Heap} {b : Addr} {k : ClassId} {ty : FieldType} {z : Int32} {bs : List Int32} (F : Arv Z h b k ty z (bs.map Value.int) (.int 0)) (hz : z.toNatClampNeg = bs.length) : Vec Z h b ty bs := by
  obtain ⟨c, A, -, S, -, H, G⟩ := F
  refine ⟨c, A, ?_, fun v hv => ?_⟩
  · apply List.ext_getElem?
    intro i
    rw [Array.getElem?_toList]
    by_cases hi : i < c.slots.size
    · have hb : i < bs.length := by omega
      rw [H i hi]; simp [List.getD, hb]
    · rw [Array.getElem?_eq_none (by omega), List.getElem?_eq_none (by simp; omega)]
  · obtain ⟨i, hi, rfl⟩ := List.mem_iff_getElem.mp hv
    have := G i (by omega)
    simpa [List.getD, hi] using this
/-- System.arraycopy between two arrays of one primitive kind; sp, dp, nn: the two places and how many -/
theorem Go.arraycopy {idx : Nat} {a b : Addr} {ty : FieldType} {us vs : List Int32} {sp dp nn : Int32} (S D N : Nat) (H : Ok Z K own bytes maxL ret nm) (d : decode bytes pc = .ok (.invokestatic idx, 3)) (hp : pc + 3 = pc') (w1 : Jvm.Cond.methodLink own idx Jvm.Stand.acN ∈ tables_1) (w2 : Jvm.Cond.native Jvm.Stand.acN ∈ tables_1) (w3 : Jvm.Cond.static Jvm.Stand.acN ∈ tables_1) (w4 : Jvm.Cond.initialized "java/lang/System" ∈ tables_1)
    (A : Vec Z h a ty us) (B : Vec Z h b ty vs) (hu : us.length < 2 ^ 31) (hv : vs.length < 2 ^ 31) (hty : refKind ty = false) (hS : sp.toNatClampNeg = S) (hD : dp.toNatClampNeg = D) (hN : nn.toNatClampNeg = N) (h1 : ¬ sp < 0) (h2 : ¬ dp < 0) (h3 : ¬ nn < 0) (h4 : S + N ≤ us.length) (h5 : D + N ≤ vs.length) (ha : n0 ≤ b) (hs : b ∈ sf) (W : Nat) (hsz : ls.size = maxL) (hW : (st.map fun v => v.category).sum ≤ W) (hf : 1 ≤ R.frames) (hlo : W + (nativeFrameWords "java/lang/System" "arraycopy" 5 + 11) ≤ R.locals)
    (r : ∀ h', Keep h h' [b] → Vec Z h' b ty (vs.take D ++ (us.drop S).take N ++ vs.drop (D + N)) → Go l Z n0 R K Q h' sf k j pc' ls st) : Go l Z n0 R K Q h sf k j pc ls (.int nn :: .int dp :: .ref b :: .int sp :: .ref a :: st) := by
  subst hp hS hD hN
  refine Go.ofKeep (b := b) (P := fun h' => Vec Z h' b ty (vs.take dp.toNatClampNeg ++ (us.drop sp.toNatClampNeg).take nn.toNatClampNeg ++ vs.drop (dp.toNatClampNeg + nn.toNatClampNeg))) H ha hs ?_ r
  intro p e s m args below meth c T locs a0 hw X hx hby hml hZ hown eT hF
  obtain ⟨ka, A'⟩ := own_toarv A hu
  obtain ⟨kb, B'⟩ := own_toarv B hv
  have eu : us.length.toInt32.toNatClampNeg = us.length := by rw [Int32.toNatClampNeg, len_toInt hu]; simp
  have ev : vs.length.toInt32.toNatClampNeg = vs.length := by rw [Int32.toNatClampNeg, len_toInt hv]; simp
  have hus : ((us.drop sp.toNatClampNeg).take nn.toNatClampNeg).map Value.int = (List.range nn.toNatClampNeg).map fun i => (us.map Value.int).getD (sp.toNatClampNeg + i) (.int 0) := by
    apply List.ext_getElem
    · simp; omega
    · intro i g1 g2
      simp only [List.length_map, List.length_take, List.length_drop] at g1
      have g3 : sp.toNatClampNeg + i < us.length := by omega
      simp [List.getD, g3]
  obtain ⟨T', h', L, X', eT', hL, hK, V, stp⟩ := cpA X hx hZ hown (hw _ w1) (hw _ w2) (hw _ w3) (hw _ w4) eT A' B' (Or.inl ⟨rfl, hty⟩) h1 h2 h3 (by rw [eu]; exact h4) (by rw [ev]; exact h5) hus (by simpa using h5) hF ha (g := mkF m pc ls (.int nn :: .int dp :: .ref b :: .int sp :: .ref a :: st)) rfl (by rw [hml]; exact hsz) rfl (hb hby d) hf (W := W) (by show 2 * 0 + _ ≤ _; simpa using hW) hlo
  refine ⟨T', h', L, X', eT', hL, hK, own_ofarv (by rw [List.map_append, List.map_append, List.map_take, List.map_drop]; exact V) ?_, stp⟩
  rw [ev]; simp; omega
end Steps2
/-! numbers and strings -/
theorem own_ins {Z : State} {h : Heap} {a : Addr} {C D : String} (W : Wds Z) (F : Exa Z h a C) (w : Jvm.Cond.castable C D ∈ tables_1) : Ins Z h a D true := by
  obtain ⟨a0, hw⟩ := W; exact Ins.of_exa F (hw _ w)
theorem own_sne {Z : State} {C O n d O' n' d' : String} {t t' : FieldType} (W : Wds Z) (L : Jvm.Cond.lays C O n d ∈ tables_1 ∨ Jvm.Cond.laysFinal C O n d ∈ tables_1) (L' : Jvm.Cond.lays C O' n' d' ∈ tables_1 ∨ Jvm.Cond.laysFinal C O' n' d' ∈ tables_1) (hn : n ≠ n') (ht : parseFieldDescriptor d = some t) (ht' : parseFieldDescriptor d' = some t') : Jvm.RoadKit.slotOf Z O n d ≠ Jvm.RoadKit.slotOf Z O' n' d' := by
  obtain ⟨a0, hw⟩ := W
  exact slot_ne (a0 := a0) (C := C) (L.imp (hw _) (hw _)) (L'.imp (hw _) (hw _)) hn ht ht'
theorem own_len {n : Nat} (h : n < 2 ^ 31) : n.toInt32.toInt = n := len_toInt h
theorem own_lt {i n : Nat} (hn : n < 2 ^ 31) (h : i < n) : i.toInt32 < n.toInt32 := by
  rw [Int32.lt_iff_toInt_lt, own_len hn, own_len (by omega)]; omega
theorem own_nlt {i n : Nat} (hi : i < 2 ^ 31) (h : n ≤ i) : ¬ i.toInt32 < n.toInt32 := by
  rw [Int32.lt_iff_toInt_lt, own_len hi, own_len (by omega)]; omega
theorem own_n0 {i : Nat} (h : i < 2 ^ 31) : ¬ i.toInt32 < 0 := by
  rw [Int32.lt_iff_toInt_lt, own_len h]; simp
theorem own_cl {i : Nat} (h : i < 2 ^ 31) : i.toInt32.toNatClampNeg = i := by
  rw [Int32.toNatClampNeg, own_len h]; simp
theorem own_s (i : Nat) : i.toInt32 + 1 = (i + 1).toInt32 := (Int32.ofNat_add i 1).symm
theorem own_ne0 {n : Nat} (hn : n < 2 ^ 31) (h : 0 < n) : ¬ n.toInt32 = 0 := fun e => by
  have := congrArg Int32.toInt e; rw [own_len hn] at this; simp at this; omega
def isL (c : Int32) : Prop := 0 ≤ c.toInt ∧ c.toInt ≤ 255
def isC (c : Int32) : Prop := 0 ≤ c.toInt ∧ c.toInt ≤ 65535
theorem isL.c {c : Int32} (h : isL c) : isC c := ⟨h.1, by have := h.2; omega⟩
theorem own_char {x : Int32} (h : isC x) : nar .char x = x := Int32.toInt_inj.mp (by have := c_i2c x; obtain ⟨h1, h2⟩ := h; simp only [nar]; omega)
theorem own_isC (x : Int32) : isC (nar .char x) := by have := c_i2c x; simp only [nar]; exact ⟨this.2.1, by omega⟩
theorem own_nn {x : Int32} : nar .char (nar .char x) = nar .char x := own_char (own_isC x)
theorem own_nb {x : Int32} : nar .byte (nar .byte x) = nar .byte x := by
  have h1 := c_i2b x
  have h2 := c_i2b (nar .byte x)
  simp only [nar] at *
  exact Int32.toInt_inj.mp (by omega)
theorem own_back {c : Int32} (h : isL c) : nar .char (nar .byte c &&& 255) = c := by
  have h1 := c_i2b c
  have h2 := c_mask (nar .byte c) 255 8 (by decide) (by decide)
  have h3 := c_i2c (nar .byte c &&& 255)
  obtain ⟨g1, g2⟩ := h
  simp only [nar] at *
  exact Int32.toInt_inj.mp (by omega)
theorem own_le255 {c : Int32} (h : isL c) : ¬ (255 : Int32) < c := by
  rw [Int32.lt_iff_toInt_lt]; have := h.2; simp only [Int32.reduceToInt]; omega
theorem own_cat {f : Value} (h : f.isRef = true) : f.category = 1 := by rcases ref_cases h with rfl | ⟨a, rfl⟩ <;> rfl
theorem own_ext {h h' : Heap} (K : Keep h h' []) : Ext h h' := ⟨K.1, fun a c q => K.2.1 a c q nin0⟩
theorem own_keep {h h' : Heap} {ws : List Addr} (E : Ext h h') : Keep h h' ws := (Keep.refl _ _).ext E
theorem Exa.ltb {Z : State} {h : Heap} {a : Addr} {C : String} (F : Exa Z h a C) : a < h.size := F.lt
/-- a Latin-1 String x whose bytes lie at b -/
def Str (Z : State) (h : Heap) (x b : Addr) (cs : List Int32) : Prop := Exa Z h x "java/lang/String" ∧ Fld Z h x "java/lang/String" "value" "[B" (.ref b) ∧ Fld Z h x "java/lang/String" "coder" "B" (.int 0) ∧ Vec Z h b .byte (cs.map (nar .byte)) ∧ (∀ c ∈ cs, isL c) ∧ cs.length < 2 ^ 31
section StrF
variable {Z : State} {h h' : Heap} {x b : Addr} {cs : List Int32} {ws : List Addr}
theorem Str.lt (F : Str Z h x b cs) : x < h.size := F.1.lt
theorem Str.ltb (F : Str Z h x b cs) : b < h.size := F.2.2.2.1.lt
theorem Str.ext (F : Str Z h x b cs) (E : Ext h h') : Str Z h' x b cs := ⟨F.1.ext E, F.2.1.ext E, F.2.2.1.ext E, F.2.2.2.1.ext E, F.2.2.2.2⟩
theorem Str.keep (F : Str Z h x b cs) (K : Keep h h' ws) (q : x ∉ ws) (q' : b ∉ ws) : Str Z h' x b cs := ⟨F.1.keep K, F.2.1.keep K q, F.2.2.1.keep K q, F.2.2.2.1.keep K q', F.2.2.2.2⟩
end StrF
theorem own_and255 (y : Int32) : isL (nar .char (y &&& 255)) := by
  have h1 := c_and y 255 (by decide)
  have h2 : (255 : Int32).toInt = 255 := by decide
  have h3 : nar .char (y &&& 255) = y &&& 255 := own_char ⟨h1.1, by omega⟩
  rw [h3]; exact ⟨h1.1, by omega⟩
theorem own_an {P : Int32 → Prop} : ∀ c ∈ ([] : List Int32), P c := fun _ q => nomatch q
theorem own_ac {P : Int32 → Prop} {a : Int32} {t : List Int32} (h : P a) (r : ∀ c ∈ t, P c) : ∀ c ∈ a :: t, P c := fun c q => by
  rcases List.mem_cons.mp q with rfl | q
  · exact h
  · exact r c q
theorem own_narR {t : FieldType} {v : Value} (h : v.isRef = true) : narrow t v = v := by rcases ref_cases h with rfl | ⟨a, rfl⟩ <;> cases t <;> rfl
theorem own_fitR {t : FieldType} {v : Value} (h : v.isRef = true) (ht : t.isReference = true) : fits t v = true := by rcases ref_cases h with rfl | ⟨a, rfl⟩ <;> cases t <;> first | rfl | (cases ht)
theorem Fld.det {Z : State} {h : Heap} {a : Addr} {C n d : String} {v w : Value} (F : Fld Z h a C n d v) (G : Fld Z h a C n d w) : v = w := Decidable.byContradiction fun q => (F.ne G q) rfl
theorem Vec.det {Z : State} {h : Heap} {a : Addr} {ty ty' : FieldType} {vs ws : List Int32} (F : Vec Z h a ty vs) (G : Vec Z h a ty' ws) : vs = ws := by
  obtain ⟨c, A, q, -⟩ := F
  obtain ⟨c', A', q', -⟩ := G
  cases A.1.symm.trans A'.1
  have e := q.symm.trans q'
  exact (List.map_inj_right (fun a b e => by cases e; rfl)).mp e
theorem own_inj {c d : Int32} (h : isL c) (g : isL d) (e : nar .byte c = nar .byte d) : c = d := by rw [← own_back h, ← own_back g, e]
theorem own_mapinj : ∀ {cs ds : List Int32}, (∀ c ∈ cs, isL c) → (∀ d ∈ ds, isL d) → cs.map (nar .byte) = ds.map (nar .byte) → cs = ds
  | [], [], _, _, _ => rfl
  | [], _ :: _, _, _, e => by cases e
  | _ :: _, [], _, _, e => by cases e
  | c :: cs, d :: ds, h, g, e => by
    simp only [List.map_cons, List.cons.injEq] at e
    rw [own_inj (h c (by simp)) (g d (by simp)) e.1, own_mapinj (fun c q => h c (by simp [q])) (fun c q => g c (by simp [q])) e.2]
theorem Str.det {Z : State} {h : Heap} {x b b' : Addr} {cs ds : List Int32} (F : Str Z h x b cs) (G : Str Z h x b' ds) : cs = ds := by
  have e := Fld.det F.2.1 G.2.1
  cases e
  exact own_mapinj F.2.2.2.2.1 G.2.2.2.2.1 (F.2.2.2.1.det G.2.2.2.1)
def Sx (Z : State) (z : Int32) (f : Value) : Prop := Wds Z ∧ ¬ z = 0 ∧ Sta Z Z.heap "java/lang/String" "COMPACT_STRINGS" "Z" (.int z) ∧ f.isRef = true ∧ Sta Z Z.heap "jdk/internal/util/Preconditions" "SIOOBE_FORMATTER" "Ljava/util/function/BiFunction;" f
def pickF (x : Int32) : Int32 := if (x &&& (3 : Int32)) = (0 : Int32) then (10 : Int32) else if (x &&& (3 : Int32)) = (1 : Int32) then (13 : Int32) else (nar .char (((x.toUInt32 >>> ((2 : Int32) &&& 31).toUInt32).toInt32) &&& (255 : Int32)))
theorem d1_0 : decode method_2_code 0 = .ok (.iload_n 0, 1) := by decide +kernel
theorem d1_1 : decode method_2_code 1 = .ok (.iconst 3, 1) := by decide +kernel
theorem d1_2 : decode method_2_code 2 = .ok (.iand, 1) := by decide +kernel
theorem d1_3 : decode method_2_code 3 = .ok (.istore_n 1, 1) := by decide +kernel
theorem d1_4 : decode method_2_code 4 = .ok (.iload_n 1, 1) := by decide +kernel
theorem d1_5 : decode method_2_code 5 = .ok (.ifCond .ne 6, 3) := by decide +kernel
theorem d1_8 : decode method_2_code 8 = .ok (.bipush 10, 2) := by decide +kernel
theorem d1_10 : decode method_2_code 10 = .ok (.ireturn, 1) := by decide +kernel
theorem d1_11 : decode method_2_code 11 = .ok (.iload_n 1, 1) := by decide +kernel
theorem d1_12 : decode method_2_code 12 = .ok (.iconst 1, 1) := by decide +kernel
theorem d1_13 : decode method_2_code 13 = .ok (.if_icmp .ne 6, 3) := by decide +kernel
theorem d1_16 : decode method_2_code 16 = .ok (.bipush 13, 2) := by decide +kernel
theorem d1_18 : decode method_2_code 18 = .ok (.ireturn, 1) := by decide +kernel
theorem d1_19 : decode method_2_code 19 = .ok (.iload_n 0, 1) := by decide +kernel
theorem d1_20 : decode method_2_code 20 = .ok (.iconst 2, 1) := by decide +kernel
theorem d1_21 : decode method_2_code 21 = .ok (.iushr, 1) := by decide +kernel
theorem d1_22 : decode method_2_code 22 = .ok (.sipush 255, 3) := by decide +kernel
theorem d1_25 : decode method_2_code 25 = .ok (.iand, 1) := by decide +kernel
theorem d1_26 : decode method_2_code 26 = .ok (.i2c, 1) := by decide +kernel
theorem d1_27 : decode method_2_code 27 = .ok (.ireturn, 1) := by decide +kernel
abbrev N0 : MethodName := ⟨"com/example/dunlin/dunlin/RunTextEndsLinePinLaw", "pick", "(I)C"⟩
theorem pn_N0 : plainName N0.cls = true := by first | (simp [plainName, overriddenIn]; done) | decide +kernel

abbrev rm_pick : Room := { frames := 0, cells := 0, slots := 0, locals := 0 }
set_option maxRecDepth 65536 in
set_option maxHeartbeats 4000000 in
theorem ct_pick (l : Launch) {Z : State} {n0 : Nat} {z : Int32} {f : Value} (W : Sx Z z f) (x : Int32) (h : Heap) :
    Ctr l Z n0 N0 method_2_code 2 (some .char) rm_pick #[(.int x)] h [] (fun v h' sn => v = some (.int (pickF x)) ∧ h = h' ∧ sn = []) := by
  refine Ctr.of_go (ls := #[.val (.int x), .unset]) W.1 pn_N0 (fun m => rfl) (fun K H => ?_)
  refine Go.iloadN H d1_0 rfl rfl ?_
  refine Go.iconst (3 : Int32) H d1_1 rfl rfl ?_
  refine Go.iand H d1_2 rfl ?_
  refine Go.istoreN (ls' := #[.val (.int x), .val (.int (x &&& (3 : Int32)))]) H d1_3 rfl rfl ?_
  refine Go.iloadN H d1_4 rfl rfl ?_
  by_cases c1 : (x &&& (3 : Int32)) = (0 : Int32)
  ·
    refine Go.ifN H d1_5 (teq c1).2 rfl ?_
    refine Go.bipush (10 : Int32) H d1_8 rfl rfl ?_
    exact Go.ireturn (10 : Int32) [] H d1_10 (by simp) (by decide) ⟨congrArg (fun q => some (Value.int q)) (show (10 : Int32) = pickF x from Eq.symm (by rw [pickF, if_pos c1])), rfl, rfl⟩ all0 (by decide) (by decide)
  ·
    refine Go.ifY (pc' := 11) H d1_5 (feq c1).2 (by decide) (by decide) ?_
    refine Go.iloadN H d1_11 rfl rfl ?_
    refine Go.iconst (1 : Int32) H d1_12 rfl rfl ?_
    by_cases c2 : (x &&& (3 : Int32)) = (1 : Int32)
    ·
      refine Go.icmpN H d1_13 (teq c2).2 rfl ?_
      refine Go.bipush (13 : Int32) H d1_16 rfl rfl ?_
      exact Go.ireturn (13 : Int32) [] H d1_18 (by simp) (by decide) ⟨congrArg (fun q => some (Value.int q)) (show (13 : Int32) = pickF x from Eq.symm (by rw [pickF, if_neg c1, if_pos c2])), rfl, rfl⟩ all0 (by decide) (by decide)
    ·
      refine Go.icmpY (pc' := 19) H d1_13 (feq c2).2 (by decide) (by decide) ?_
      refine Go.iloadN H d1_19 rfl rfl ?_
      refine Go.iconst (2 : Int32) H d1_20 rfl rfl ?_
      refine Go.iushr H d1_21 rfl ?_
      refine Go.sipush (255 : Int32) H d1_22 rfl rfl ?_
      refine Go.iand H d1_25 rfl ?_
      refine Go.i2c H d1_26 rfl ?_
      exact Go.ireturn (nar .char (((x.toUInt32 >>> ((2 : Int32) &&& 31).toUInt32).toInt32) &&& (255 : Int32))) [] H d1_27 (by simp) own_nn ⟨congrArg (fun q => some (Value.int q)) (show (nar .char (((x.toUInt32 >>> ((2 : Int32) &&& 31).toUInt32).toInt32) &&& (255 : Int32))) = pickF x from Eq.symm (by rw [pickF, if_neg c1, if_neg c2])), rfl, rfl⟩ all0 (by decide) (by decide)
theorem pickF_l (x : Int32) : isL (pickF x) := by
  unfold pickF
  split
  · exact ⟨by decide, by decide⟩
  · split
    · exact ⟨by decide, by decide⟩
    · exact own_and255 _
theorem pickF_c (x : Int32) : nar .char (pickF x) = pickF x := own_char (pickF_l x).c
theorem d6_3 : decode jdk_52_method_21_code 3 = .ok (.iload 5, 2) := by decide +kernel
theorem d6_5 : decode jdk_52_method_21_code 5 = .ok (.iload 4, 2) := by decide +kernel
theorem d6_7 : decode jdk_52_method_21_code 7 = .ok (.if_icmp .ge 37, 3) := by decide +kernel
theorem d6_44 : decode jdk_52_method_21_code 44 = .ok (.iload 4, 2) := by decide +kernel
theorem d6_46 : decode jdk_52_method_21_code 46 = .ok (.ireturn, 1) := by decide +kernel
theorem d6_10 : decode jdk_52_method_21_code 10 = .ok (.aload_n 0, 1) := by decide +kernel
theorem d6_11 : decode jdk_52_method_21_code 11 = .ok (.iload_n 1, 1) := by decide +kernel
theorem d6_12 : decode jdk_52_method_21_code 12 = .ok (.caload, 1) := by decide +kernel
theorem d6_13 : decode jdk_52_method_21_code 13 = .ok (.istore 6, 2) := by decide +kernel
theorem d6_15 : decode jdk_52_method_21_code 15 = .ok (.iload 6, 2) := by decide +kernel
theorem d6_17 : decode jdk_52_method_21_code 17 = .ok (.sipush 255, 3) := by decide +kernel
theorem d6_20 : decode jdk_52_method_21_code 20 = .ok (.if_icmp .le 6, 3) := by decide +kernel
theorem d6_26 : decode jdk_52_method_21_code 26 = .ok (.aload_n 2, 1) := by decide +kernel
theorem d6_27 : decode jdk_52_method_21_code 27 = .ok (.iload_n 3, 1) := by decide +kernel
theorem d6_28 : decode jdk_52_method_21_code 28 = .ok (.iload 6, 2) := by decide +kernel
theorem d6_30 : decode jdk_52_method_21_code 30 = .ok (.i2b, 1) := by decide +kernel
theorem d6_31 : decode jdk_52_method_21_code 31 = .ok (.bastore, 1) := by decide +kernel
theorem d6_32 : decode jdk_52_method_21_code 32 = .ok (.iinc 1 1, 3) := by decide +kernel
theorem d6_35 : decode jdk_52_method_21_code 35 = .ok (.iinc 3 1, 3) := by decide +kernel
theorem d6_38 : decode jdk_52_method_21_code 38 = .ok (.iinc 5 1, 3) := by decide +kernel
theorem d6_41 : decode jdk_52_method_21_code 41 = .ok (.goto (-38), 3) := by decide +kernel
abbrev N1 : MethodName := ⟨"java/lang/StringUTF16", "compress", "([CI[BII)I"⟩

theorem own_full {Z : State} {h : Heap} {d : Addr} {cs : List Int32} {i : Nat} (e : i = cs.length) (F : Vec Z h d .byte ((cs.take i).map (nar .byte) ++ List.replicate 0 0)) : Vec Z h d .byte (cs.map (nar .byte)) := by
  subst e; simpa using F
theorem own_fill {cs : List Int32} {g : Int32 → Int32} {i m : Nat} {c : Int32} (hc : cs[i]? = some c) : ((cs.take i).map g ++ List.replicate (m + 1) 0).set i (g c) = (cs.take (i + 1)).map g ++ List.replicate m 0 := by
  have hl : i < cs.length := (List.getElem?_eq_some_iff.mp hc).1
  have h1 : ((cs.take i).map g).length = i := by simp; omega
  rw [List.set_append_right _ _ (by omega), h1, Nat.sub_self, List.replicate_succ, List.set_cons_zero, List.take_add_one, hc]; simp
set_option maxRecDepth 65536 in
theorem lp_cmp5 (l : Launch) {Z : State} {n0 : Nat} (a d : Addr) (cs : List Int32) (h0 : Heap) (hL : ∀ c ∈ cs, isL c) (hn : cs.length < 2 ^ 31) (zd : n0 ≤ d) (hne : a ≠ d) {R : Room} {K : Cx} (H : Ok Z K "java/lang/StringUTF16" jdk_52_method_21_code 7 (some .int) "compress") :
    ∀ (m i : Nat), i + m = cs.length → ∀ (h : Heap) (s6 : Slot), One s6 → Vec Z h a .char cs → Vec Z h d .byte ((cs.take i).map (nar .byte) ++ List.replicate m 0) → Keep h0 h [d] →
      Go l Z n0 R K (fun v h' sn => v = some (.int cs.length.toInt32) ∧ Keep h0 h' [d] ∧ Vec Z h' d .byte (cs.map (nar .byte)) ∧ sn = []) h [d] 0 0 3 #[.val (.ref a), .val (.int i.toInt32), .val (.ref d), .val (.int i.toInt32), .val (.int cs.length.toInt32), .val (.int i.toInt32), s6] [] := by
  intro m
  induction m with
  | zero =>
    intro i hi h s6 h6 Fa Fd KK
    refine Go.iload H d6_3 rfl rfl ?_
    refine Go.iload H d6_5 rfl rfl ?_
    refine Go.icmpY (pc' := 44) H d6_7 (flt (own_nlt (by omega) (by omega))).2.1 (by decide) (by decide) ?_
    refine Go.iload H d6_44 rfl rfl ?_
    exact Go.ireturnI [] H d6_46 ⟨rfl, KK, own_full (by omega) Fd, rfl⟩ all0 (Nat.zero_le _) (Nat.zero_le _)
  | succ m ih =>
    intro i hi h s6 h6 Fa Fd KK
    have hlt : i < cs.length := by omega
    obtain ⟨c, hc⟩ : ∃ c, cs[i]? = some c := ⟨_, List.getElem?_eq_getElem hlt⟩
    have hLc : isL c := hL c (List.mem_of_getElem? hc)
    refine Go.iload H d6_3 rfl rfl ?_
    refine Go.iload H d6_5 rfl rfl ?_
    refine Go.icmpN H d6_7 (tlt (own_lt hn hlt)).2.1 rfl ?_
    refine Go.aloadN H d6_10 rfl rfl rfl ?_
    refine Go.iloadN H d6_11 rfl rfl ?_
    refine Go.caload (v := c) H d6_12 rfl Fa i (own_cl (by omega)) (own_n0 (by omega)) hc ?_
    refine Go.istore (ls' := #[.val (.ref a), .val (.int i.toInt32), .val (.ref d), .val (.int i.toInt32), .val (.int cs.length.toInt32), .val (.int i.toInt32), .val (.int c)]) H d6_13 rfl (XS.store1 rfl h6 rfl) ?_
    refine Go.iload H d6_15 rfl rfl ?_
    refine Go.sipush (255 : Int32) H d6_17 rfl rfl ?_
    refine Go.icmpY (pc' := 26) H d6_20 (flt (own_le255 hLc)).2.2.2 (by decide) (by decide) ?_
    refine Go.aloadN H d6_26 rfl rfl rfl ?_
    refine Go.iloadN H d6_27 rfl rfl ?_
    refine Go.iload H d6_28 rfl rfl ?_
    refine Go.i2b H d6_30 rfl ?_
    refine Go.bastore (nar .byte c) H d6_31 rfl Fd i (own_cl (by omega)) (own_n0 (by omega)) (by simp; omega) own_nb zd (by simp) ?_
    intro h1 K2 F3
    replace Fa := Fa.keep K2 (ninS hne nin0)
    replace KK := KK.trans K2 (allS (Or.inl (by simp)) all0)
    refine Go.iinc (ls' := #[.val (.ref a), .val (.int (i.toInt32 + (1 : Int32))), .val (.ref d), .val (.int i.toInt32), .val (.int cs.length.toInt32), .val (.int i.toInt32), .val (.int c)]) (1 : Int32) H d6_32 rfl rfl rfl rfl ?_
    refine Go.iinc (ls' := #[.val (.ref a), .val (.int (i.toInt32 + (1 : Int32))), .val (.ref d), .val (.int (i.toInt32 + (1 : Int32))), .val (.int cs.length.toInt32), .val (.int i.toInt32), .val (.int c)]) (1 : Int32) H d6_35 rfl rfl rfl rfl ?_
    refine Go.iinc (ls' := #[.val (.ref a), .val (.int (i.toInt32 + (1 : Int32))), .val (.ref d), .val (.int (i.toInt32 + (1 : Int32))), .val (.int cs.length.toInt32), .val (.int (i.toInt32 + (1 : Int32))), .val (.int c)]) (1 : Int32) H d6_38 rfl rfl rfl rfl ?_
    refine Go.goto (pc' := 3) H d6_41 (by decide) (by decide) ?_
    rw [own_fill hc] at F3
    rw [own_s i]
    exact ih (i + 1) (by omega) _ _ (One.val rfl) Fa F3 KK
theorem d6_0 : decode jdk_52_method_21_code 0 = .ok (.iconst 0, 1) := by decide +kernel
theorem d6_1 : decode jdk_52_method_21_code 1 = .ok (.istore 5, 2) := by decide +kernel
theorem pn_N1 : plainName N1.cls = true := by first | (simp [plainName, overriddenIn]; done) | decide +kernel

abbrev rm_cmp5 : Room := { frames := 0, cells := 0, slots := 0, locals := 0 }
set_option maxRecDepth 65536 in
set_option maxHeartbeats 4000000 in
theorem ct_cmp5 (l : Launch) {Z : State} {n0 : Nat} {z : Int32} {f : Value} (W : Sx Z z f) (a d : Addr) (cs : List Int32) (h : Heap) (Fa : Vec Z h a .char cs) (Fd : Vec Z h d .byte (List.replicate cs.length 0)) (hL : ∀ c ∈ cs, isL c) (hn : cs.length < 2 ^ 31) (zd : n0 ≤ d) (hne : a ≠ d) :
    Ctr l Z n0 N1 jdk_52_method_21_code 7 (some .int) rm_cmp5 #[(.ref a), (.int (0 : Int32)), (.ref d), (.int (0 : Int32)), (.int cs.length.toInt32)] h [d] (fun v h' sn => v = some (.int cs.length.toInt32) ∧ Keep h h' [d] ∧ Vec Z h' d .byte (cs.map (nar .byte)) ∧ sn = []) := by
  refine Ctr.of_go (ls := #[.val (.ref a), .val (.int (0 : Int32)), .val (.ref d), .val (.int (0 : Int32)), .val (.int cs.length.toInt32), .unset, .unset]) W.1 pn_N1 (fun m => rfl) (fun K H => ?_)
  refine Go.iconst (0 : Int32) H d6_0 rfl rfl ?_
  refine Go.istore (ls' := #[.val (.ref a), .val (.int (0 : Int32)), .val (.ref d), .val (.int (0 : Int32)), .val (.int cs.length.toInt32), .val (.int (0 : Int32)), .unset]) H d6_1 rfl rfl ?_
  exact lp_cmp5 l a d cs h hL hn zd hne H cs.length 0 (by omega) h _ One.u Fa (by simpa using Fd) (Keep.refl _ _)
theorem d5_0 : decode jdk_52_method_16_code 0 = .ok (.iload_n 2, 1) := by decide +kernel
theorem d5_1 : decode jdk_52_method_16_code 1 = .ok (.newarray .byte, 2) := by decide +kernel
theorem w24 : Jvm.Cond.arrayClass Jvm.ClassFile.FieldType.byte ∈ tables_1 := List.mem_of_getElem? (i := 24) rfl
theorem d5_3 : decode jdk_52_method_16_code 3 = .ok (.astore_n 3, 1) := by decide +kernel
theorem d5_4 : decode jdk_52_method_16_code 4 = .ok (.aload_n 0, 1) := by decide +kernel
theorem d5_5 : decode jdk_52_method_16_code 5 = .ok (.iload_n 1, 1) := by decide +kernel
theorem d5_6 : decode jdk_52_method_16_code 6 = .ok (.aload_n 3, 1) := by decide +kernel
theorem d5_7 : decode jdk_52_method_16_code 7 = .ok (.iconst 0, 1) := by decide +kernel
theorem d5_8 : decode jdk_52_method_16_code 8 = .ok (.iload_n 2, 1) := by decide +kernel
theorem d5_9 : decode jdk_52_method_16_code 9 = .ok (.invokestatic 115, 3) := by decide +kernel
theorem w27 : Jvm.Cond.code N1 jdk_52_method_21_code (7 : Nat) (Option.some Jvm.ClassFile.FieldType.int) ∈ tables_1 := List.mem_of_getElem? (i := 27) rfl
theorem w22 : Jvm.Cond.initialized "java/lang/StringUTF16" ∈ tables_1 := List.mem_of_getElem? (i := 22) rfl
theorem pd_N1 : parseMethodDescriptor N1.desc = some ⟨[(.array .char), .int, (.array .byte), .int, .int], (some .int)⟩ := by decide +kernel
theorem nh_N1 : N1.cls ≠ "java/lang/invoke/MethodHandle" ∧ N1.cls ≠ "java/lang/invoke/VarHandle" := by decide
theorem w25 : Jvm.Cond.methodLink "java/lang/StringUTF16" (115 : Nat) N1 ∈ tables_1 := List.mem_of_getElem? (i := 25) rfl
theorem w26 : Jvm.Cond.static N1 ∈ tables_1 := List.mem_of_getElem? (i := 26) rfl
theorem d5_12 : decode jdk_52_method_16_code 12 = .ok (.istore 4, 2) := by decide +kernel
theorem d5_14 : decode jdk_52_method_16_code 14 = .ok (.iload 4, 2) := by decide +kernel
theorem d5_16 : decode jdk_52_method_16_code 16 = .ok (.iload_n 2, 1) := by decide +kernel
theorem d5_17 : decode jdk_52_method_16_code 17 = .ok (.if_icmp .eq 40, 3) := by decide +kernel
theorem d5_57 : decode jdk_52_method_16_code 57 = .ok (.aload_n 3, 1) := by decide +kernel
theorem d5_58 : decode jdk_52_method_16_code 58 = .ok (.areturn, 1) := by decide +kernel
abbrev N2 : MethodName := ⟨"java/lang/StringUTF16", "compress", "([CII)[B"⟩

abbrev rm_cmp3 : Room := { frames := 1, cells := 1, slots := 3, locals := 18 }
set_option maxRecDepth 65536 in
set_option maxHeartbeats 4000000 in
theorem ct_cmp3 (l : Launch) {Z : State} {n0 : Nat} {z : Int32} {f : Value} (W : Sx Z z f) (a : Addr) (cs : List Int32) (h : Heap) (Fa : Vec Z h a .char cs) (hL : ∀ c ∈ cs, isL c) (hn : cs.length ≤ 3) :
    Ctr l Z n0 N2 jdk_52_method_16_code 6 (some (.array .byte)) rm_cmp3 #[(.ref a), (.int (0 : Int32)), (.int cs.length.toInt32)] h [] (fun v h' sn => ∃ b, v = some (.ref b) ∧ Ext h h' ∧ h.size ≤ b ∧ Vec Z h' b .byte (cs.map (nar .byte)) ∧ sn = []) := by
  refine Ctr.of_go (ls := #[.val (.ref a), .val (.int (0 : Int32)), .val (.int cs.length.toInt32), .unset, .unset, .unset]) W.1 pn_N1 (fun m => rfl) (fun K H => ?_)
  have KK : Keep h h [] := Keep.refl _ _
  refine Go.iloadN H d5_0 rfl rfl ?_
  refine Go.newarray cs.length 3 H d5_1 rfl w24 rfl (by decide) (own_n0 (by omega)) (own_cl (by omega)) hn (by decide) (by decide) (by decide) ?_
  intro a1 h2 g3 z4 E5 F6
  have ne7 : a ≠ a1 := Nat.ne_of_lt (Nat.lt_of_lt_of_le Fa.lt (Nat.le_of_eq g3.symm))
  have sz8 := Nat.le_trans KK.1 (Nat.le_of_eq g3.symm)
  replace Fa := Fa.ext E5
  replace KK := KK.ext E5
  show Go _ _ _ _ _ _ h2 [a1] 1 3 3 #[.val (.ref a), .val (.int (0 : Int32)), .val (.int cs.length.toInt32), .unset, .unset, .unset] [(.ref a1)]
  refine Go.astoreN (ls' := #[.val (.ref a), .val (.int (0 : Int32)), .val (.int cs.length.toInt32), .val (.ref a1), .unset, .unset]) H d5_3 rfl rfl rfl ?_
  refine Go.aloadN H d5_4 rfl rfl rfl ?_
  refine Go.iloadN H d5_5 rfl rfl ?_
  refine Go.aloadN H d5_6 rfl rfl rfl ?_
  refine Go.iconst (0 : Int32) H d5_7 rfl rfl ?_
  refine Go.iloadN H d5_8 rfl rfl ?_
  refine Go.callS (rest := []) 0 [(.ref a), (.int (0 : Int32)), (.ref a1), (.int (0 : Int32)), (.int cs.length.toInt32)] H d5_9 rfl w25 w26 w22 w27 pd_N1 (ct_cmp5 l W a a1 cs h2 Fa F6 hL (by omega) z4 ne7) (by simp) rfl rfl rfl (Nat.le_of_eq rfl) (by decide) (by decide) (by decide) (by decide) nh_N1 ?_
  rintro _ h9 _ ⟨rfl, K10, F11, rfl⟩
  replace Fa := Fa.keep K10 (ninS ne7 nin0)
  replace KK := KK.trans K10 (allS (Or.inr sz8) all0)
  show Go _ _ _ _ _ _ h9 [a1] 1 3 12 #[.val (.ref a), .val (.int (0 : Int32)), .val (.int cs.length.toInt32), .val (.ref a1), .unset, .unset] [(.int cs.length.toInt32)]
  refine Go.istore (ls' := #[.val (.ref a), .val (.int (0 : Int32)), .val (.int cs.length.toInt32), .val (.ref a1), .val (.int cs.length.toInt32), .unset]) H d5_12 rfl rfl ?_
  refine Go.iload H d5_14 rfl rfl ?_
  refine Go.iloadN H d5_16 rfl rfl ?_
  refine Go.icmpY (pc' := 57) H d5_17 (teq rfl).1 (by decide) (by decide) ?_
  refine Go.aloadN H d5_57 rfl rfl rfl ?_
  exact Go.areturn [] H d5_58 rfl rfl rfl ⟨_, rfl, own_ext KK, Nat.le_of_eq g3.symm, F11, rfl⟩ all0 (by decide) (by decide)
theorem own_cod (x : Int32) : nar .byte (((x - x).toUInt32 >>> ((31 : Int32) &&& 31).toUInt32).toInt32) = 0 := by rw [Int32.sub_self]; decide
theorem d7_0 : decode jdk_52_method_15_code 0 = .ok (.iload_n 1, 1) := by decide +kernel
theorem d7_1 : decode jdk_52_method_15_code 1 = .ok (.aload_n 0, 1) := by decide +kernel
theorem d7_2 : decode jdk_52_method_15_code 2 = .ok (.arraylength, 1) := by decide +kernel
theorem d7_3 : decode jdk_52_method_15_code 3 = .ok (.isub, 1) := by decide +kernel
theorem d7_4 : decode jdk_52_method_15_code 4 = .ok (.bipush 31, 2) := by decide +kernel
theorem d7_6 : decode jdk_52_method_15_code 6 = .ok (.iushr, 1) := by decide +kernel
theorem d7_7 : decode jdk_52_method_15_code 7 = .ok (.i2b, 1) := by decide +kernel
theorem d7_8 : decode jdk_52_method_15_code 8 = .ok (.ireturn, 1) := by decide +kernel
abbrev N3 : MethodName := ⟨"java/lang/StringUTF16", "coderFromArrayLen", "([BI)B"⟩

abbrev rm_codl : Room := { frames := 0, cells := 0, slots := 0, locals := 0 }
set_option maxRecDepth 65536 in
set_option maxHeartbeats 4000000 in
theorem ct_codl (l : Launch) {Z : State} {n0 : Nat} {z : Int32} {f : Value} (W : Sx Z z f) (b : Addr) (bs : List Int32) (n : Int32) (h : Heap) (Fb : Vec Z h b .byte bs) (hb : bs.length.toInt32 = n) :
    Ctr l Z n0 N3 jdk_52_method_15_code 2 (some .byte) rm_codl #[(.ref b), (.int n)] h [] (fun v h' sn => v = some (.int 0) ∧ h = h' ∧ sn = []) := by
  refine Ctr.of_go (ls := #[.val (.ref b), .val (.int n)]) W.1 pn_N1 (fun m => rfl) (fun K H => ?_)
  refine Go.iloadN H d7_0 rfl rfl ?_
  refine Go.aloadN H d7_1 rfl rfl rfl ?_
  refine Go.arraylength n H d7_2 rfl Fb hb ?_
  refine Go.isub H d7_3 rfl ?_
  refine Go.bipush (31 : Int32) H d7_4 rfl rfl ?_
  refine Go.iushr H d7_6 rfl ?_
  refine Go.i2b H d7_7 rfl ?_
  exact Go.ireturn (0 : Int32) [] H d7_8 (by simp) (own_nb.trans (own_cod _)) ⟨rfl, rfl, rfl⟩ all0 (by decide) (by decide)
theorem w7 : Jvm.Cond.instantiable "java/lang/String" (4 : Nat) ∈ tables_1 := List.mem_of_getElem? (i := 7) rfl
theorem d3_0 : decode jdk_42_method_149_code 0 = .ok (.aload_n 0, 1) := by decide +kernel
theorem d3_1 : decode jdk_42_method_149_code 1 = .ok (.invokespecial 1, 3) := by decide +kernel
abbrev N4 : MethodName := ⟨"java/lang/Object", "<init>", "()V"⟩
theorem w16 : Jvm.Cond.methodLink "java/lang/String" (1 : Nat) N4 ∈ tables_1 := List.mem_of_getElem? (i := 16) rfl
theorem w17 : Jvm.Cond.instanceMethod N4 ∈ tables_1 := List.mem_of_getElem? (i := 17) rfl
theorem w18 : Jvm.Cond.code N4 object_method_1_code (1 : Nat) (Option.none : Option Jvm.ClassFile.FieldType) ∈ tables_1 := List.mem_of_getElem? (i := 18) rfl
theorem d3_4 : decode jdk_42_method_149_code 4 = .ok (.iload_n 3, 1) := by decide +kernel
theorem d3_5 : decode jdk_42_method_149_code 5 = .ok (.ifCond .ne 22, 3) := by decide +kernel
theorem d3_27 : decode jdk_42_method_149_code 27 = .ok (.getstatic 38, 3) := by decide +kernel
theorem w19 : Jvm.Cond.fieldLink "java/lang/String" (38 : Nat) "java/lang/String" "COMPACT_STRINGS" "Z" ∈ tables_1 := List.mem_of_getElem? (i := 19) rfl
theorem d3_30 : decode jdk_42_method_149_code 30 = .ok (.ifCond .eq 28, 3) := by decide +kernel
theorem d3_33 : decode jdk_42_method_149_code 33 = .ok (.aload_n 1, 1) := by decide +kernel
theorem d3_34 : decode jdk_42_method_149_code 34 = .ok (.iload_n 2, 1) := by decide +kernel
theorem d3_35 : decode jdk_42_method_149_code 35 = .ok (.iload_n 3, 1) := by decide +kernel
theorem d3_36 : decode jdk_42_method_149_code 36 = .ok (.invokestatic 177, 3) := by decide +kernel
theorem w23 : Jvm.Cond.code N2 jdk_52_method_16_code (6 : Nat) (Option.some (Jvm.ClassFile.FieldType.array Jvm.ClassFile.FieldType.byte)) ∈ tables_1 := List.mem_of_getElem? (i := 23) rfl
theorem pd_N2 : parseMethodDescriptor N2.desc = some ⟨[(.array .char), .int, .int], (some (.array .byte))⟩ := by decide +kernel
theorem w20 : Jvm.Cond.methodLink "java/lang/String" (177 : Nat) N2 ∈ tables_1 := List.mem_of_getElem? (i := 20) rfl
theorem w21 : Jvm.Cond.static N2 ∈ tables_1 := List.mem_of_getElem? (i := 21) rfl
theorem d3_39 : decode jdk_42_method_149_code 39 = .ok (.astore 5, 2) := by decide +kernel
theorem d3_41 : decode jdk_42_method_149_code 41 = .ok (.aload_n 0, 1) := by decide +kernel
theorem d3_42 : decode jdk_42_method_149_code 42 = .ok (.aload 5, 2) := by decide +kernel
theorem d3_44 : decode jdk_42_method_149_code 44 = .ok (.iload_n 3, 1) := by decide +kernel
theorem d3_45 : decode jdk_42_method_149_code 45 = .ok (.invokestatic 47, 3) := by decide +kernel
theorem w30 : Jvm.Cond.code N3 jdk_52_method_15_code (2 : Nat) (Option.some Jvm.ClassFile.FieldType.byte) ∈ tables_1 := List.mem_of_getElem? (i := 30) rfl
theorem pd_N3 : parseMethodDescriptor N3.desc = some ⟨[(.array .byte), .int], (some .byte)⟩ := by decide +kernel
theorem w28 : Jvm.Cond.methodLink "java/lang/String" (47 : Nat) N3 ∈ tables_1 := List.mem_of_getElem? (i := 28) rfl
theorem w29 : Jvm.Cond.static N3 ∈ tables_1 := List.mem_of_getElem? (i := 29) rfl
theorem d3_48 : decode jdk_42_method_149_code 48 = .ok (.putfield 15, 3) := by decide +kernel
theorem w31 : Jvm.Cond.fieldLink "java/lang/String" (15 : Nat) "java/lang/String" "coder" "B" ∈ tables_1 := List.mem_of_getElem? (i := 31) rfl
theorem w32 : Jvm.Cond.laysFinal "java/lang/String" "java/lang/String" "coder" "B" ∈ tables_1 := List.mem_of_getElem? (i := 32) rfl
theorem w34 : Jvm.Cond.laysFinal "java/lang/String" "java/lang/String" "value" "[B" ∈ tables_1 := List.mem_of_getElem? (i := 34) rfl
theorem d3_51 : decode jdk_42_method_149_code 51 = .ok (.aload_n 0, 1) := by decide +kernel
theorem d3_52 : decode jdk_42_method_149_code 52 = .ok (.aload 5, 2) := by decide +kernel
theorem d3_54 : decode jdk_42_method_149_code 54 = .ok (.putfield 9, 3) := by decide +kernel
theorem w33 : Jvm.Cond.fieldLink "java/lang/String" (9 : Nat) "java/lang/String" "value" "[B" ∈ tables_1 := List.mem_of_getElem? (i := 33) rfl
theorem d3_57 : decode jdk_42_method_149_code 57 = .ok (.return_, 1) := by decide +kernel
abbrev N5 : MethodName := ⟨"java/lang/String", "<init>", "([CIILjava/lang/Void;)V"⟩
theorem pn_N5 : plainName N5.cls = true := by first | (simp [plainName, overriddenIn]; done) | decide +kernel

abbrev rm_new4 : Room := { frames := 2, cells := 1, slots := 3, locals := 35 }
set_option maxRecDepth 65536 in
set_option maxHeartbeats 4000000 in
theorem ct_new4 (l : Launch) {Z : State} {n0 : Nat} {z : Int32} {f : Value} (W : Sx Z z f) (x a : Addr) (cs : List Int32) (h : Heap) (A : Exa Z h x "java/lang/String") (Fv : Fld Z h x "java/lang/String" "value" "[B" .null) (Fc : Fld Z h x "java/lang/String" "coder" "B" (.int 0)) (Fa : Vec Z h a .char cs) (hL : ∀ c ∈ cs, isL c) (hn : cs.length ≤ 3) (hp : 0 < cs.length) (zx : n0 ≤ x) :
    Ctr l Z n0 N5 jdk_42_method_149_code 6 none rm_new4 #[(.ref x), (.ref a), (.int (0 : Int32)), (.int cs.length.toInt32), .null] h [x] (fun v h' sn => v = none ∧ Keep h h' [x] ∧ (∃ b, h.size ≤ b ∧ Str Z h' x b cs) ∧ sn = []) := by
  refine Ctr.of_go (ls := #[.val (.ref x), .val (.ref a), .val (.int (0 : Int32)), .val (.int cs.length.toInt32), .val .null, .unset]) W.1 pn_N5 (fun m => rfl) (fun K H => ?_)
  have KK : Keep h h [x] := Keep.refl _ _
  have hax : a ≠ x := Vec.neExa Fa A W.1 w7
  refine Go.aloadN H d3_0 rfl rfl rfl ?_
  refine Go.initObj H d3_1 rfl w16 w17 w18 0 rfl (Nat.le_of_eq rfl) (by decide) (by decide) ?_
  refine Go.iloadN H d3_4 rfl rfl ?_
  refine Go.ifY (pc' := 27) H d3_5 (feq (own_ne0 (by omega) hp)).2 (by decide) (by decide) ?_
  refine Go.getstatic H d3_27 rfl w19 W.2.2.1 ?_
  refine Go.ifN H d3_30 (feq W.2.1).1 rfl ?_
  refine Go.aloadN H d3_33 rfl rfl rfl ?_
  refine Go.iloadN H d3_34 rfl rfl ?_
  refine Go.iloadN H d3_35 rfl rfl ?_
  refine Go.callS (rest := []) 0 [(.ref a), (.int (0 : Int32)), (.int cs.length.toInt32)] H d3_36 rfl w20 w21 w22 w23 pd_N2 (ct_cmp3 l W a cs h Fa hL hn) all0 rfl rfl rfl (Nat.le_of_eq rfl) (by decide) (by decide) (by decide) (by decide) nh_N1 ?_
  rintro _ h2 _ ⟨b1, rfl, E3, g4, F5, rfl⟩
  have ne6 : x ≠ b1 := Nat.ne_of_lt (Nat.lt_of_lt_of_le A.lt g4)
  have ne7 : a ≠ b1 := Nat.ne_of_lt (Nat.lt_of_lt_of_le Fa.lt g4)
  replace A := A.ext E3
  replace Fv := Fv.ext E3
  replace Fc := Fc.ext E3
  replace Fa := Fa.ext E3
  replace KK := KK.ext E3
  show Go _ _ _ _ _ _ h2 [x] 1 3 39 #[.val (.ref x), .val (.ref a), .val (.int (0 : Int32)), .val (.int cs.length.toInt32), .val .null, .unset] [(.ref b1)]
  refine Go.astore (ls' := #[.val (.ref x), .val (.ref a), .val (.int (0 : Int32)), .val (.int cs.length.toInt32), .val .null, .val (.ref b1)]) H d3_39 rfl rfl rfl ?_
  refine Go.aloadN H d3_41 rfl rfl rfl ?_
  refine Go.aload H d3_42 rfl rfl rfl ?_
  refine Go.iloadN H d3_44 rfl rfl ?_
  refine Go.callS (rest := [(.ref x)]) 1 [(.ref b1), (.int cs.length.toInt32)] H d3_45 rfl w28 w29 w22 w30 pd_N3 (ct_codl l W b1 _ cs.length.toInt32 h2 F5 (by rw [List.length_map])) all0 rfl rfl rfl (Nat.le_of_eq rfl) (by decide) (by decide) (by decide) (by decide) nh_N1 ?_
  rintro _ _ _ ⟨rfl, rfl, rfl⟩
  show Go _ _ _ _ _ _ h2 [x] 1 3 48 #[.val (.ref x), .val (.ref a), .val (.int (0 : Int32)), .val (.int cs.length.toInt32), .val .null, .val (.ref b1)] [(.int (0 : Int32)), (.ref x)]
  refine Go.putfield (v := (.int (0 : Int32))) H d3_48 rfl w31 Fc A (Or.inr ⟨w32, rfl, rfl⟩) w7 (ty := .byte) (by decide) (by decide) (by decide) zx (by simp) ?_
  intro h8 Wr9
  have F10 := Fc.same Wr9
  have K11 := Keep.of_wr Wr9
  replace A := A.wr Wr9
  replace Fv := Fv.other Wr9 (Or.inr (own_sne W.1 (Or.inr w34) (Or.inr w32) (by decide) (t := (.array .byte)) (t' := .byte) (by decide) (by decide)))
  replace Fa := Fa.keep K11 (ninS hax nin0)
  replace F5 := F5.keep K11 (ninS (Ne.symm ne6) nin0)
  replace KK := KK.wr Wr9 (Or.inl (by simp))
  refine Go.aloadN H d3_51 rfl rfl rfl ?_
  refine Go.aload H d3_52 rfl rfl rfl ?_
  refine Go.putfield (v := (.ref b1)) H d3_54 rfl w33 Fv A (Or.inr ⟨w34, rfl, rfl⟩) w7 (ty := (.array .byte)) (by decide) rfl rfl zx (by simp) ?_
  intro h12 Wr13
  have F14 := Fv.same Wr13
  have K15 := Keep.of_wr Wr13
  replace A := A.wr Wr13
  replace Fa := Fa.keep K15 (ninS hax nin0)
  replace F5 := F5.keep K15 (ninS (Ne.symm ne6) nin0)
  replace F10 := F10.other Wr13 (Or.inr (own_sne W.1 (Or.inr w32) (Or.inr w34) (by decide) (t := .byte) (t' := (.array .byte)) (by decide) (by decide)))
  replace KK := KK.wr Wr13 (Or.inl (by simp))
  exact Go.return_ [] H d3_57 ⟨rfl, KK, ⟨_, g4, A, F14, F10, F5, hL, by omega⟩, rfl⟩ all0 (by decide) (by decide)
theorem d2_0 : decode jdk_42_method_3_code 0 = .ok (.aload_n 0, 1) := by decide +kernel
theorem d2_1 : decode jdk_42_method_3_code 1 = .ok (.aload_n 1, 1) := by decide +kernel
theorem d2_2 : decode jdk_42_method_3_code 2 = .ok (.iconst 0, 1) := by decide +kernel
theorem d2_3 : decode jdk_42_method_3_code 3 = .ok (.aload_n 1, 1) := by decide +kernel
theorem d2_4 : decode jdk_42_method_3_code 4 = .ok (.arraylength, 1) := by decide +kernel
theorem d2_5 : decode jdk_42_method_3_code 5 = .ok (.aconst_null, 1) := by decide +kernel
theorem d2_6 : decode jdk_42_method_3_code 6 = .ok (.invokespecial 27, 3) := by decide +kernel
theorem w15 : Jvm.Cond.code N5 jdk_42_method_149_code (6 : Nat) (Option.none : Option Jvm.ClassFile.FieldType) ∈ tables_1 := List.mem_of_getElem? (i := 15) rfl
theorem w8 : Jvm.Cond.initialized "java/lang/String" ∈ tables_1 := List.mem_of_getElem? (i := 8) rfl
theorem pd_N5 : parseMethodDescriptor N5.desc = some ⟨[(.array .char), .int, .int, (.object "java/lang/Void")], none⟩ := by decide +kernel
theorem nh_N5 : N5.cls ≠ "java/lang/invoke/MethodHandle" ∧ N5.cls ≠ "java/lang/invoke/VarHandle" := by decide
theorem w12 : Jvm.Cond.methodLink "java/lang/String" (27 : Nat) N5 ∈ tables_1 := List.mem_of_getElem? (i := 12) rfl
theorem w13 : Jvm.Cond.instanceMethod N5 ∈ tables_1 := List.mem_of_getElem? (i := 13) rfl
theorem d2_9 : decode jdk_42_method_3_code 9 = .ok (.return_, 1) := by decide +kernel
abbrev N6 : MethodName := ⟨"java/lang/String", "<init>", "([C)V"⟩

abbrev rm_new1 : Room := { frames := 3, cells := 1, slots := 3, locals := 52 }
set_option maxRecDepth 65536 in
set_option maxHeartbeats 4000000 in
theorem ct_new1 (l : Launch) {Z : State} {n0 : Nat} {z : Int32} {f : Value} (W : Sx Z z f) (x a : Addr) (cs : List Int32) (h : Heap) (A : Exa Z h x "java/lang/String") (Fv : Fld Z h x "java/lang/String" "value" "[B" .null) (Fc : Fld Z h x "java/lang/String" "coder" "B" (.int 0)) (Fa : Vec Z h a .char cs) (hL : ∀ c ∈ cs, isL c) (hn : cs.length ≤ 3) (hp : 0 < cs.length) (zx : n0 ≤ x) :
    Ctr l Z n0 N6 jdk_42_method_3_code 2 none rm_new1 #[(.ref x), (.ref a)] h [x] (fun v h' sn => v = none ∧ Keep h h' [x] ∧ (∃ b, h.size ≤ b ∧ Str Z h' x b cs) ∧ sn = []) := by
  refine Ctr.of_go (ls := #[.val (.ref x), .val (.ref a)]) W.1 pn_N5 (fun m => rfl) (fun K H => ?_)
  have hax : a ≠ x := Vec.neExa Fa A W.1 w7
  refine Go.aloadN H d2_0 rfl rfl rfl ?_
  refine Go.aloadN H d2_1 rfl rfl rfl ?_
  refine Go.iconst (0 : Int32) H d2_2 rfl rfl ?_
  refine Go.aloadN H d2_3 rfl rfl rfl ?_
  refine Go.arraylength cs.length.toInt32 H d2_4 rfl Fa rfl ?_
  refine Go.aconstNull H d2_5 rfl ?_
  refine Go.callI (rest := []) 0 [(.ref a), (.int (0 : Int32)), (.int cs.length.toInt32), .null] H d2_6 rfl rfl w12 w13 w8 w15 pd_N5 (ct_new4 l W x a cs h A Fv Fc Fa hL hn hp zx) (by simp) rfl rfl rfl (Nat.le_of_eq rfl) (by decide) (by decide) (by decide) (by decide) nh_N5 ?_
  rintro _ h1 _ ⟨rfl, K2, ⟨b3, g4, S5⟩, rfl⟩
  have ne6 : x ≠ b3 := Nat.ne_of_lt (Nat.lt_of_lt_of_le A.lt g4)
  have ne7 : a ≠ b3 := Nat.ne_of_lt (Nat.lt_of_lt_of_le Fa.lt g4)
  replace Fa := Fa.keep K2 (ninS hax nin0)
  show Go _ _ _ _ _ _ h1 [x] 1 3 9 #[.val (.ref x), .val (.ref a)] []
  exact Go.return_ [] H d2_9 ⟨rfl, K2, ⟨_, g4, S5⟩, rfl⟩ all0 (by decide) (by decide)
theorem d10_0 : decode jdk_42_method_154_code 0 = .ok (.getstatic 38, 3) := by decide +kernel
theorem d10_3 : decode jdk_42_method_154_code 3 = .ok (.ifCond .eq 14, 3) := by decide +kernel
theorem d10_6 : decode jdk_42_method_154_code 6 = .ok (.aload_n 0, 1) := by decide +kernel
theorem d10_7 : decode jdk_42_method_154_code 7 = .ok (.getfield 15, 3) := by decide +kernel
theorem d10_10 : decode jdk_42_method_154_code 10 = .ok (.ifCond .ne 7, 3) := by decide +kernel
theorem d10_13 : decode jdk_42_method_154_code 13 = .ok (.iconst 1, 1) := by decide +kernel
theorem d10_14 : decode jdk_42_method_154_code 14 = .ok (.goto 4, 3) := by decide +kernel
theorem d10_18 : decode jdk_42_method_154_code 18 = .ok (.ireturn, 1) := by decide +kernel
abbrev N7 : MethodName := ⟨"java/lang/String", "isLatin1", "()Z"⟩

abbrev rm_isl : Room := { frames := 0, cells := 0, slots := 0, locals := 0 }
set_option maxRecDepth 65536 in
set_option maxHeartbeats 4000000 in
theorem ct_isl (l : Launch) {Z : State} {n0 : Nat} {z : Int32} {f : Value} (W : Sx Z z f) (x b : Addr) (cs : List Int32) (h : Heap) (S : Str Z h x b cs) :
    Ctr l Z n0 N7 jdk_42_method_154_code 1 (some .boolean) rm_isl #[(.ref x)] h [] (fun v h' sn => v = some (.int 1) ∧ h = h' ∧ sn = []) := by
  refine Ctr.of_go (ls := #[.val (.ref x)]) W.1 pn_N5 (fun m => rfl) (fun K H => ?_)
  obtain ⟨A, Fv, Fc, Fb, hL, hn⟩ := S
  refine Go.getstatic H d10_0 rfl w19 W.2.2.1 ?_
  refine Go.ifN H d10_3 (feq W.2.1).1 rfl ?_
  refine Go.aloadN H d10_6 rfl rfl rfl ?_
  refine Go.getfield H d10_7 rfl w31 Fc ?_
  refine Go.ifN H d10_10 (by decide) rfl ?_
  refine Go.iconst (1 : Int32) H d10_13 rfl rfl ?_
  refine Go.goto (pc' := 18) H d10_14 (by decide) (by decide) ?_
  exact Go.ireturn (1 : Int32) [] H d10_18 (by simp) (by decide) ⟨rfl, rfl, rfl⟩ all0 (by decide) (by decide)
theorem d13_0 : decode jdk_41_method_11_code 0 = .ok (.iload_n 0, 1) := by decide +kernel
theorem d13_1 : decode jdk_41_method_11_code 1 = .ok (.ifCond .lt 8, 3) := by decide +kernel
theorem d13_4 : decode jdk_41_method_11_code 4 = .ok (.iload_n 0, 1) := by decide +kernel
theorem d13_5 : decode jdk_41_method_11_code 5 = .ok (.iload_n 1, 1) := by decide +kernel
theorem d13_6 : decode jdk_41_method_11_code 6 = .ok (.if_icmp .lt 10, 3) := by decide +kernel
theorem d13_16 : decode jdk_41_method_11_code 16 = .ok (.iload_n 0, 1) := by decide +kernel
theorem d13_17 : decode jdk_41_method_11_code 17 = .ok (.ireturn, 1) := by decide +kernel
abbrev N8 : MethodName := ⟨"jdk/internal/util/Preconditions", "checkIndex", "(IILjava/util/function/BiFunction;)I"⟩
theorem pn_N8 : plainName N8.cls = true := by first | (simp [plainName, overriddenIn]; done) | decide +kernel

abbrev rm_pre : Room := { frames := 0, cells := 0, slots := 0, locals := 0 }
set_option maxRecDepth 65536 in
set_option maxHeartbeats 4000000 in
theorem ct_pre (l : Launch) {Z : State} {n0 : Nat} {z : Int32} {f : Value} (W : Sx Z z f) (i n : Int32) (h : Heap) (h0 : ¬ i < 0) (hi : i < n) :
    Ctr l Z n0 N8 jdk_41_method_11_code 3 (some .int) rm_pre #[(.int i), (.int n), f] h [] (fun v h' sn => v = some (.int i) ∧ h = h' ∧ sn = []) := by
  refine Ctr.of_go (ls := #[.val (.int i), .val (.int n), .val f]) W.1 pn_N8 (fun m => (by rcases ref_cases W.2.2.2.1 with q | ⟨fa, q⟩ <;> rw [q] <;> rfl)) (fun K H => ?_)
  refine Go.iloadN H d13_0 rfl rfl ?_
  refine Go.ifN H d13_1 (flt h0).1 rfl ?_
  refine Go.iloadN H d13_4 rfl rfl ?_
  refine Go.iloadN H d13_5 rfl rfl ?_
  refine Go.icmpY (pc' := 16) H d13_6 (tlt hi).1 (by decide) (by decide) ?_
  refine Go.iloadN H d13_16 rfl rfl ?_
  exact Go.ireturnI [] H d13_17 ⟨rfl, rfl, rfl⟩ all0 (by decide) (by decide)
theorem d12_0 : decode jdk_42_method_155_code 0 = .ok (.iload_n 0, 1) := by decide +kernel
theorem d12_1 : decode jdk_42_method_155_code 1 = .ok (.iload_n 1, 1) := by decide +kernel
theorem d12_2 : decode jdk_42_method_155_code 2 = .ok (.getstatic 1053, 3) := by decide +kernel
theorem w56 : Jvm.Cond.fieldLink "java/lang/String" (1053 : Nat) "jdk/internal/util/Preconditions" "SIOOBE_FORMATTER" "Ljava/util/function/BiFunction;" ∈ tables_1 := List.mem_of_getElem? (i := 56) rfl
theorem d12_5 : decode jdk_42_method_155_code 5 = .ok (.invokestatic 1059, 3) := by decide +kernel
theorem w60 : Jvm.Cond.code N8 jdk_41_method_11_code (3 : Nat) (Option.some Jvm.ClassFile.FieldType.int) ∈ tables_1 := List.mem_of_getElem? (i := 60) rfl
theorem w57 : Jvm.Cond.initialized "jdk/internal/util/Preconditions" ∈ tables_1 := List.mem_of_getElem? (i := 57) rfl
theorem pd_N8 : parseMethodDescriptor N8.desc = some ⟨[.int, .int, (.object "java/util/function/BiFunction")], (some .int)⟩ := by decide +kernel
theorem nh_N8 : N8.cls ≠ "java/lang/invoke/MethodHandle" ∧ N8.cls ≠ "java/lang/invoke/VarHandle" := by decide
theorem w58 : Jvm.Cond.methodLink "java/lang/String" (1059 : Nat) N8 ∈ tables_1 := List.mem_of_getElem? (i := 58) rfl
theorem w59 : Jvm.Cond.static N8 ∈ tables_1 := List.mem_of_getElem? (i := 59) rfl
theorem d12_8 : decode jdk_42_method_155_code 8 = .ok (.pop, 1) := by decide +kernel
theorem d12_9 : decode jdk_42_method_155_code 9 = .ok (.return_, 1) := by decide +kernel
abbrev N9 : MethodName := ⟨"java/lang/String", "checkIndex", "(II)V"⟩

abbrev rm_chk : Room := { frames := 1, cells := 0, slots := 0, locals := 14 }
set_option maxRecDepth 65536 in
set_option maxHeartbeats 4000000 in
theorem ct_chk (l : Launch) {Z : State} {n0 : Nat} {z : Int32} {f : Value} (W : Sx Z z f) (i n : Int32) (h : Heap) (h0 : ¬ i < 0) (hi : i < n) :
    Ctr l Z n0 N9 jdk_42_method_155_code 2 none rm_chk #[(.int i), (.int n)] h [] (fun v h' sn => v = none ∧ h = h' ∧ sn = []) := by
  refine Ctr.of_go (ls := #[.val (.int i), .val (.int n)]) W.1 pn_N5 (fun m => rfl) (fun K H => ?_)
  refine Go.iloadN H d12_0 rfl rfl ?_
  refine Go.iloadN H d12_1 rfl rfl ?_
  refine Go.getstatic H d12_2 rfl w56 W.2.2.2.2 ?_
  refine Go.callS (rest := []) 0 [(.int i), (.int n), f] H d12_5 rfl w58 w59 w57 w60 pd_N8 (ct_pre l W i n h h0 hi) all0 rfl rfl rfl (Nat.le_of_eq rfl) (by decide) (by decide) (by decide) (by decide) nh_N8 ?_
  rintro _ _ _ ⟨rfl, rfl, rfl⟩
  show Go _ _ _ _ _ _ h [] 0 0 8 #[.val (.int i), .val (.int n)] [(.int i)]
  refine Go.pop H d12_8 rfl rfl ?_
  exact Go.return_ [] H d12_9 ⟨rfl, rfl, rfl⟩ all0 (by decide) (by decide)
theorem own_ltn {i : Int32} {n ni : Nat} (h0 : ¬ i < 0) (hi : i.toNatClampNeg = ni) (hn : n < 2 ^ 31) (h : ni < n) : i < n.toInt32 := by
  rw [Int32.lt_iff_toInt_lt] at h0 ⊢; rw [own_len hn]; simp only [Int32.toNatClampNeg] at hi; simp only [Int32.reduceToInt] at h0; omega
theorem own_getm {cs : List Int32} {ni : Nat} {c : Int32} (hc : cs[ni]? = some c) : (cs.map (nar .byte))[ni]? = some (nar .byte c) := by rw [List.getElem?_map, hc]; rfl
theorem d11_0 : decode jdk_43_method_2_code 0 = .ok (.iload_n 1, 1) := by decide +kernel
theorem d11_1 : decode jdk_43_method_2_code 1 = .ok (.aload_n 0, 1) := by decide +kernel
theorem d11_2 : decode jdk_43_method_2_code 2 = .ok (.arraylength, 1) := by decide +kernel
theorem d11_3 : decode jdk_43_method_2_code 3 = .ok (.invokestatic 9, 3) := by decide +kernel
theorem w55 : Jvm.Cond.code N9 jdk_42_method_155_code (2 : Nat) (Option.none : Option Jvm.ClassFile.FieldType) ∈ tables_1 := List.mem_of_getElem? (i := 55) rfl
theorem pd_N9 : parseMethodDescriptor N9.desc = some ⟨[.int, .int], none⟩ := by decide +kernel
theorem w53 : Jvm.Cond.methodLink "java/lang/StringLatin1" (9 : Nat) N9 ∈ tables_1 := List.mem_of_getElem? (i := 53) rfl
theorem w54 : Jvm.Cond.static N9 ∈ tables_1 := List.mem_of_getElem? (i := 54) rfl
theorem d11_6 : decode jdk_43_method_2_code 6 = .ok (.aload_n 0, 1) := by decide +kernel
theorem d11_7 : decode jdk_43_method_2_code 7 = .ok (.iload_n 1, 1) := by decide +kernel
theorem d11_8 : decode jdk_43_method_2_code 8 = .ok (.baload, 1) := by decide +kernel
theorem d11_9 : decode jdk_43_method_2_code 9 = .ok (.sipush 255, 3) := by decide +kernel
theorem d11_12 : decode jdk_43_method_2_code 12 = .ok (.iand, 1) := by decide +kernel
theorem d11_13 : decode jdk_43_method_2_code 13 = .ok (.i2c, 1) := by decide +kernel
theorem d11_14 : decode jdk_43_method_2_code 14 = .ok (.ireturn, 1) := by decide +kernel
abbrev N10 : MethodName := ⟨"java/lang/StringLatin1", "charAt", "([BI)C"⟩
theorem pn_N10 : plainName N10.cls = true := by first | (simp [plainName, overriddenIn]; done) | decide +kernel

abbrev rm_lch : Room := { frames := 2, cells := 0, slots := 0, locals := 27 }
set_option maxRecDepth 65536 in
set_option maxHeartbeats 4000000 in
theorem ct_lch (l : Launch) {Z : State} {n0 : Nat} {z : Int32} {f : Value} (W : Sx Z z f) (b : Addr) (cs : List Int32) (i c : Int32) (ni : Nat) (h : Heap) (Fb : Vec Z h b .byte (cs.map (nar .byte))) (hL : ∀ c ∈ cs, isL c) (hn : cs.length < 2 ^ 31) (h0 : ¬ i < 0) (hi : i.toNatClampNeg = ni) (hc : cs[ni]? = some c) :
    Ctr l Z n0 N10 jdk_43_method_2_code 2 (some .char) rm_lch #[(.ref b), (.int i)] h [] (fun v h' sn => v = some (.int c) ∧ h = h' ∧ sn = []) := by
  refine Ctr.of_go (ls := #[.val (.ref b), .val (.int i)]) W.1 pn_N10 (fun m => rfl) (fun K H => ?_)
  refine Go.iloadN H d11_0 rfl rfl ?_
  refine Go.aloadN H d11_1 rfl rfl rfl ?_
  refine Go.arraylength cs.length.toInt32 H d11_2 rfl Fb (by rw [List.length_map]) ?_
  refine Go.callS (rest := []) 0 [(.int i), (.int cs.length.toInt32)] H d11_3 rfl w53 w54 w8 w55 pd_N9 (ct_chk l W i cs.length.toInt32 h h0 (own_ltn h0 hi hn (List.getElem?_eq_some_iff.mp hc).1)) all0 rfl rfl rfl (Nat.le_of_eq rfl) (by decide) (by decide) (by decide) (by decide) nh_N5 ?_
  rintro _ _ _ ⟨rfl, rfl, rfl⟩
  show Go _ _ _ _ _ _ h [] 0 0 6 #[.val (.ref b), .val (.int i)] []
  refine Go.aloadN H d11_6 rfl rfl rfl ?_
  refine Go.iloadN H d11_7 rfl rfl ?_
  refine Go.baload (v := (nar .byte c)) H d11_8 rfl Fb ni hi h0 (own_getm hc) ?_
  refine Go.sipush (255 : Int32) H d11_9 rfl rfl ?_
  refine Go.iand H d11_12 rfl ?_
  refine Go.i2c H d11_13 rfl ?_
  exact Go.ireturn c [] H d11_14 (by simp) (own_nn.trans (own_back (hL c (List.mem_of_getElem? hc)))) ⟨rfl, rfl, rfl⟩ all0 (by decide) (by decide)
theorem d9_0 : decode jdk_42_method_56_code 0 = .ok (.aload_n 0, 1) := by decide +kernel
theorem d9_1 : decode jdk_42_method_56_code 1 = .ok (.invokevirtual 492, 3) := by decide +kernel
theorem w48 : Jvm.Cond.code N7 jdk_42_method_154_code (1 : Nat) (Option.some Jvm.ClassFile.FieldType.boolean) ∈ tables_1 := List.mem_of_getElem? (i := 48) rfl
theorem pd_N7 : parseMethodDescriptor N7.desc = some ⟨[], (some .boolean)⟩ := by decide +kernel
theorem w44 : Jvm.Cond.methodLink "java/lang/String" (492 : Nat) N7 ∈ tables_1 := List.mem_of_getElem? (i := 44) rfl
theorem w45 : Jvm.Cond.declares N7 ∈ tables_1 := List.mem_of_getElem? (i := 45) rfl
theorem w47 : Jvm.Cond.selects "java/lang/String" N7 N7 ∈ tables_1 := List.mem_of_getElem? (i := 47) rfl
theorem w46 : Jvm.Cond.instanceMethod N7 ∈ tables_1 := List.mem_of_getElem? (i := 46) rfl
theorem d9_4 : decode jdk_42_method_56_code 4 = .ok (.ifCond .eq 12, 3) := by decide +kernel
theorem d9_7 : decode jdk_42_method_56_code 7 = .ok (.aload_n 0, 1) := by decide +kernel
theorem d9_8 : decode jdk_42_method_56_code 8 = .ok (.getfield 9, 3) := by decide +kernel
theorem d9_11 : decode jdk_42_method_56_code 11 = .ok (.iload_n 1, 1) := by decide +kernel
theorem d9_12 : decode jdk_42_method_56_code 12 = .ok (.invokestatic 495, 3) := by decide +kernel
theorem w52 : Jvm.Cond.code N10 jdk_43_method_2_code (2 : Nat) (Option.some Jvm.ClassFile.FieldType.char) ∈ tables_1 := List.mem_of_getElem? (i := 52) rfl
theorem w51 : Jvm.Cond.initialized "java/lang/StringLatin1" ∈ tables_1 := List.mem_of_getElem? (i := 51) rfl
theorem pd_N10 : parseMethodDescriptor N10.desc = some ⟨[(.array .byte), .int], (some .char)⟩ := by decide +kernel
theorem nh_N10 : N10.cls ≠ "java/lang/invoke/MethodHandle" ∧ N10.cls ≠ "java/lang/invoke/VarHandle" := by decide
theorem w49 : Jvm.Cond.methodLink "java/lang/String" (495 : Nat) N10 ∈ tables_1 := List.mem_of_getElem? (i := 49) rfl
theorem w50 : Jvm.Cond.static N10 ∈ tables_1 := List.mem_of_getElem? (i := 50) rfl
theorem d9_15 : decode jdk_42_method_56_code 15 = .ok (.ireturn, 1) := by decide +kernel
abbrev N11 : MethodName := ⟨"java/lang/String", "charAt", "(I)C"⟩

abbrev rm_cha : Room := { frames := 3, cells := 0, slots := 0, locals := 40 }
set_option maxRecDepth 65536 in
set_option maxHeartbeats 4000000 in
theorem ct_cha (l : Launch) {Z : State} {n0 : Nat} {z : Int32} {f : Value} (W : Sx Z z f) (x b : Addr) (cs : List Int32) (i c : Int32) (ni : Nat) (h : Heap) (S : Str Z h x b cs) (h0 : ¬ i < 0) (hi : i.toNatClampNeg = ni) (hc : cs[ni]? = some c) :
    Ctr l Z n0 N11 jdk_42_method_56_code 2 (some .char) rm_cha #[(.ref x), (.int i)] h [] (fun v h' sn => v = some (.int c) ∧ h = h' ∧ sn = []) := by
  refine Ctr.of_go (ls := #[.val (.ref x), .val (.int i)]) W.1 pn_N5 (fun m => rfl) (fun K H => ?_)
  have S0 := S
  obtain ⟨A, Fv, Fc, Fb, hL, hn⟩ := S
  refine Go.aloadN H d9_0 rfl rfl rfl ?_
  refine Go.callV (rest := []) 0 [] H d9_1 rfl A w44 w45 w47 w46 w8 w48 pd_N7 (ct_isl l W x b cs h S0) all0 rfl rfl rfl (Nat.le_of_eq rfl) (by decide) (by decide) (by decide) (by decide) nh_N5 ?_
  rintro _ _ _ ⟨rfl, rfl, rfl⟩
  show Go _ _ _ _ _ _ h [] 0 0 4 #[.val (.ref x), .val (.int i)] [(.int (1 : Int32))]
  refine Go.ifN H d9_4 (by decide) rfl ?_
  refine Go.aloadN H d9_7 rfl rfl rfl ?_
  refine Go.getfield H d9_8 rfl w33 Fv ?_
  refine Go.iloadN H d9_11 rfl rfl ?_
  refine Go.callS (rest := []) 0 [(.ref b), (.int i)] H d9_12 rfl w49 w50 w51 w52 pd_N10 (ct_lch l W b cs i c ni h Fb hL hn h0 hi hc) all0 rfl rfl rfl (Nat.le_of_eq rfl) (by decide) (by decide) (by decide) (by decide) nh_N10 ?_
  rintro _ _ _ ⟨rfl, rfl, rfl⟩
  show Go _ _ _ _ _ _ h [] 0 0 15 #[.val (.ref x), .val (.int i)] [(.int c)]
  exact Go.ireturn c [] H d9_15 (by simp) (own_char (hL c (List.mem_of_getElem? hc)).c) ⟨rfl, rfl, rfl⟩ all0 (by decide) (by decide)
theorem d15_0 : decode jdk_42_method_152_code 0 = .ok (.getstatic 38, 3) := by decide +kernel
theorem d15_3 : decode jdk_42_method_152_code 3 = .ok (.ifCond .eq 10, 3) := by decide +kernel
theorem d15_6 : decode jdk_42_method_152_code 6 = .ok (.aload_n 0, 1) := by decide +kernel
theorem d15_7 : decode jdk_42_method_152_code 7 = .ok (.getfield 15, 3) := by decide +kernel
theorem d15_10 : decode jdk_42_method_152_code 10 = .ok (.goto 4, 3) := by decide +kernel
theorem d15_14 : decode jdk_42_method_152_code 14 = .ok (.ireturn, 1) := by decide +kernel
abbrev N12 : MethodName := ⟨"java/lang/String", "coder", "()B"⟩

abbrev rm_cod : Room := { frames := 0, cells := 0, slots := 0, locals := 0 }
set_option maxRecDepth 65536 in
set_option maxHeartbeats 4000000 in
theorem ct_cod (l : Launch) {Z : State} {n0 : Nat} {z : Int32} {f : Value} (W : Sx Z z f) (x b : Addr) (cs : List Int32) (h : Heap) (S : Str Z h x b cs) :
    Ctr l Z n0 N12 jdk_42_method_152_code 1 (some .byte) rm_cod #[(.ref x)] h [] (fun v h' sn => v = some (.int 0) ∧ h = h' ∧ sn = []) := by
  refine Ctr.of_go (ls := #[.val (.ref x)]) W.1 pn_N5 (fun m => rfl) (fun K H => ?_)
  obtain ⟨A, Fv, Fc, Fb, hL, hn⟩ := S
  refine Go.getstatic H d15_0 rfl w19 W.2.2.1 ?_
  refine Go.ifN H d15_3 (feq W.2.1).1 rfl ?_
  refine Go.aloadN H d15_6 rfl rfl rfl ?_
  refine Go.getfield H d15_7 rfl w31 Fc ?_
  refine Go.goto (pc' := 14) H d15_10 (by decide) (by decide) ?_
  exact Go.ireturn (0 : Int32) [] H d15_14 (by simp) (by decide) ⟨rfl, rfl, rfl⟩ all0 (by decide) (by decide)
theorem own_shr0 (x : Int32) : x >>> ((0 : Int32) &&& 31) = x := Int32.toInt_inj.mp (by rw [c_ishr x 0 0 (by decide)]; simp)
theorem d14_0 : decode jdk_42_method_54_code 0 = .ok (.aload_n 0, 1) := by decide +kernel
theorem d14_1 : decode jdk_42_method_54_code 1 = .ok (.getfield 9, 3) := by decide +kernel
theorem d14_4 : decode jdk_42_method_54_code 4 = .ok (.arraylength, 1) := by decide +kernel
theorem d14_5 : decode jdk_42_method_54_code 5 = .ok (.aload_n 0, 1) := by decide +kernel
theorem d14_6 : decode jdk_42_method_54_code 6 = .ok (.invokevirtual 335, 3) := by decide +kernel
theorem w70 : Jvm.Cond.code N12 jdk_42_method_152_code (1 : Nat) (Option.some Jvm.ClassFile.FieldType.byte) ∈ tables_1 := List.mem_of_getElem? (i := 70) rfl
theorem pd_N12 : parseMethodDescriptor N12.desc = some ⟨[], (some .byte)⟩ := by decide +kernel
theorem w66 : Jvm.Cond.methodLink "java/lang/String" (335 : Nat) N12 ∈ tables_1 := List.mem_of_getElem? (i := 66) rfl
theorem w67 : Jvm.Cond.declares N12 ∈ tables_1 := List.mem_of_getElem? (i := 67) rfl
theorem w69 : Jvm.Cond.selects "java/lang/String" N12 N12 ∈ tables_1 := List.mem_of_getElem? (i := 69) rfl
theorem w68 : Jvm.Cond.instanceMethod N12 ∈ tables_1 := List.mem_of_getElem? (i := 68) rfl
theorem d14_9 : decode jdk_42_method_54_code 9 = .ok (.ishr, 1) := by decide +kernel
theorem d14_10 : decode jdk_42_method_54_code 10 = .ok (.ireturn, 1) := by decide +kernel
abbrev N13 : MethodName := ⟨"java/lang/String", "length", "()I"⟩

abbrev rm_len : Room := { frames := 1, cells := 0, slots := 0, locals := 13 }
set_option maxRecDepth 65536 in
set_option maxHeartbeats 4000000 in
theorem ct_len (l : Launch) {Z : State} {n0 : Nat} {z : Int32} {f : Value} (W : Sx Z z f) (x b : Addr) (cs : List Int32) (h : Heap) (S : Str Z h x b cs) :
    Ctr l Z n0 N13 jdk_42_method_54_code 1 (some .int) rm_len #[(.ref x)] h [] (fun v h' sn => v = some (.int cs.length.toInt32) ∧ h = h' ∧ sn = []) := by
  refine Ctr.of_go (ls := #[.val (.ref x)]) W.1 pn_N5 (fun m => rfl) (fun K H => ?_)
  have S0 := S
  obtain ⟨A, Fv, Fc, Fb, hL, hn⟩ := S
  refine Go.aloadN H d14_0 rfl rfl rfl ?_
  refine Go.getfield H d14_1 rfl w33 Fv ?_
  refine Go.arraylength cs.length.toInt32 H d14_4 rfl Fb (by rw [List.length_map]) ?_
  refine Go.aloadN H d14_5 rfl rfl rfl ?_
  refine Go.callV (rest := [(.int cs.length.toInt32)]) 1 [] H d14_6 rfl A w66 w67 w69 w68 w8 w70 pd_N12 (ct_cod l W x b cs h S0) all0 rfl rfl rfl (Nat.le_of_eq rfl) (by decide) (by decide) (by decide) (by decide) nh_N5 ?_
  rintro _ _ _ ⟨rfl, rfl, rfl⟩
  show Go _ _ _ _ _ _ h [] 0 0 9 #[.val (.ref x)] [(.int (0 : Int32)), (.int cs.length.toInt32)]
  refine Go.ishr H d14_9 rfl ?_
  exact Go.ireturnI [] H d14_10 ⟨by rw [own_shr0], rfl, rfl⟩ all0 (by decide) (by decide)
def endsF (cs : List Int32) (i : Nat) : Int32 := if cs.getD i 0 = 10 then 1 else if cs.getD i 0 = 13 then (if i + 1 < cs.length then (if cs.getD (i + 1) 0 = 10 then 0 else 1) else 1) else 0
theorem own_getD {cs : List Int32} {i : Nat} (h : i < cs.length) : cs[i]? = some (cs.getD i 0) := by simp [h]
theorem d8_0 : decode prog_24_method_8_code 0 = .ok (.aload_n 0, 1) := by decide +kernel
theorem d8_1 : decode prog_24_method_8_code 1 = .ok (.iload_n 1, 1) := by decide +kernel
theorem d8_2 : decode prog_24_method_8_code 2 = .ok (.invokevirtual 162, 3) := by decide +kernel
theorem w43 : Jvm.Cond.code N11 jdk_42_method_56_code (2 : Nat) (Option.some Jvm.ClassFile.FieldType.char) ∈ tables_1 := List.mem_of_getElem? (i := 43) rfl
theorem pd_N11 : parseMethodDescriptor N11.desc = some ⟨[.int], (some .char)⟩ := by decide +kernel
theorem w39 : Jvm.Cond.methodLink "com/example/dunlin/dunlin/RunText" (162 : Nat) N11 ∈ tables_1 := List.mem_of_getElem? (i := 39) rfl
theorem w40 : Jvm.Cond.declares N11 ∈ tables_1 := List.mem_of_getElem? (i := 40) rfl
theorem w42 : Jvm.Cond.selects "java/lang/String" N11 N11 ∈ tables_1 := List.mem_of_getElem? (i := 42) rfl
theorem w41 : Jvm.Cond.instanceMethod N11 ∈ tables_1 := List.mem_of_getElem? (i := 41) rfl
theorem d8_5 : decode prog_24_method_8_code 5 = .ok (.istore_n 2, 1) := by decide +kernel
theorem d8_6 : decode prog_24_method_8_code 6 = .ok (.iload_n 2, 1) := by decide +kernel
theorem d8_7 : decode prog_24_method_8_code 7 = .ok (.bipush 10, 2) := by decide +kernel
theorem d8_9 : decode prog_24_method_8_code 9 = .ok (.if_icmp .eq 31, 3) := by decide +kernel
theorem d8_40 : decode prog_24_method_8_code 40 = .ok (.iconst 1, 1) := by decide +kernel
theorem d8_41 : decode prog_24_method_8_code 41 = .ok (.goto 4, 3) := by decide +kernel
theorem d8_45 : decode prog_24_method_8_code 45 = .ok (.ireturn, 1) := by decide +kernel
theorem d8_12 : decode prog_24_method_8_code 12 = .ok (.iload_n 2, 1) := by decide +kernel
theorem d8_13 : decode prog_24_method_8_code 13 = .ok (.bipush 13, 2) := by decide +kernel
theorem d8_15 : decode prog_24_method_8_code 15 = .ok (.if_icmp .ne 29, 3) := by decide +kernel
theorem d8_18 : decode prog_24_method_8_code 18 = .ok (.iload_n 1, 1) := by decide +kernel
theorem d8_19 : decode prog_24_method_8_code 19 = .ok (.iconst 1, 1) := by decide +kernel
theorem d8_20 : decode prog_24_method_8_code 20 = .ok (.iadd, 1) := by decide +kernel
theorem d8_21 : decode prog_24_method_8_code 21 = .ok (.aload_n 0, 1) := by decide +kernel
theorem d8_22 : decode prog_24_method_8_code 22 = .ok (.invokevirtual 62, 3) := by decide +kernel
theorem w65 : Jvm.Cond.code N13 jdk_42_method_54_code (1 : Nat) (Option.some Jvm.ClassFile.FieldType.int) ∈ tables_1 := List.mem_of_getElem? (i := 65) rfl
theorem pd_N13 : parseMethodDescriptor N13.desc = some ⟨[], (some .int)⟩ := by decide +kernel
theorem w61 : Jvm.Cond.methodLink "com/example/dunlin/dunlin/RunText" (62 : Nat) N13 ∈ tables_1 := List.mem_of_getElem? (i := 61) rfl
theorem w62 : Jvm.Cond.declares N13 ∈ tables_1 := List.mem_of_getElem? (i := 62) rfl
theorem w64 : Jvm.Cond.selects "java/lang/String" N13 N13 ∈ tables_1 := List.mem_of_getElem? (i := 64) rfl
theorem w63 : Jvm.Cond.instanceMethod N13 ∈ tables_1 := List.mem_of_getElem? (i := 63) rfl
theorem d8_25 : decode prog_24_method_8_code 25 = .ok (.if_icmp .ge 15, 3) := by decide +kernel
theorem d8_28 : decode prog_24_method_8_code 28 = .ok (.aload_n 0, 1) := by decide +kernel
theorem d8_29 : decode prog_24_method_8_code 29 = .ok (.iload_n 1, 1) := by decide +kernel
theorem d8_30 : decode prog_24_method_8_code 30 = .ok (.iconst 1, 1) := by decide +kernel
theorem d8_31 : decode prog_24_method_8_code 31 = .ok (.iadd, 1) := by decide +kernel
theorem d8_32 : decode prog_24_method_8_code 32 = .ok (.invokevirtual 162, 3) := by decide +kernel
theorem d8_35 : decode prog_24_method_8_code 35 = .ok (.bipush 10, 2) := by decide +kernel
theorem d8_37 : decode prog_24_method_8_code 37 = .ok (.if_icmp .eq 7, 3) := by decide +kernel
theorem d8_44 : decode prog_24_method_8_code 44 = .ok (.iconst 0, 1) := by decide +kernel
abbrev N14 : MethodName := ⟨"com/example/dunlin/dunlin/RunText", "endsLine", "(Ljava/lang/String;I)Z"⟩
theorem pn_N14 : plainName N14.cls = true := by first | (simp [plainName, overriddenIn]; done) | decide +kernel

abbrev rm_ends : Room := { frames := 4, cells := 0, slots := 0, locals := 53 }
set_option maxRecDepth 65536 in
set_option maxHeartbeats 4000000 in
theorem ct_ends (l : Launch) {Z : State} {n0 : Nat} {z : Int32} {f : Value} (W : Sx Z z f) (x b : Addr) (cs : List Int32) (i : Nat) (h : Heap) (S : Str Z h x b cs) (hi : i < cs.length) :
    Ctr l Z n0 N14 prog_24_method_8_code 3 (some .boolean) rm_ends #[(.ref x), (.int i.toInt32)] h [] (fun v h' sn => v = some (.int (endsF cs i)) ∧ h = h' ∧ sn = []) := by
  refine Ctr.of_go (ls := #[.val (.ref x), .val (.int i.toInt32), .unset]) W.1 pn_N14 (fun m => rfl) (fun K H => ?_)
  have hn := S.2.2.2.2.2
  refine Go.aloadN H d8_0 rfl rfl rfl ?_
  refine Go.iloadN H d8_1 rfl rfl ?_
  refine Go.callV (rest := []) 0 [(.int i.toInt32)] H d8_2 rfl S.1 w39 w40 w42 w41 w8 w43 pd_N11 (ct_cha l W x b cs i.toInt32 (cs.getD i 0) i h S (own_n0 (by omega)) (own_cl (by omega)) (own_getD hi)) all0 rfl rfl rfl (Nat.le_of_eq rfl) (by decide) (by decide) (by decide) (by decide) nh_N5 ?_
  rintro _ _ _ ⟨rfl, rfl, rfl⟩
  show Go _ _ _ _ _ _ h [] 0 0 5 #[.val (.ref x), .val (.int i.toInt32), .unset] [(.int (cs.getD i 0))]
  refine Go.istoreN (ls' := #[.val (.ref x), .val (.int i.toInt32), .val (.int (cs.getD i 0))]) H d8_5 rfl rfl ?_
  refine Go.iloadN H d8_6 rfl rfl ?_
  refine Go.bipush (10 : Int32) H d8_7 rfl rfl ?_
  by_cases c1 : (cs.getD i 0) = (10 : Int32)
  ·
    refine Go.icmpY (pc' := 40) H d8_9 (teq c1).1 (by decide) (by decide) ?_
    refine Go.iconst (1 : Int32) H d8_40 rfl rfl ?_
    refine Go.goto (pc' := 45) H d8_41 (by decide) (by decide) ?_
    exact Go.ireturn (1 : Int32) [] H d8_45 (by simp) (by decide) ⟨by rw [endsF, if_pos c1], rfl, rfl⟩ all0 (by decide) (by decide)
  ·
    refine Go.icmpN H d8_9 (feq c1).1 rfl ?_
    refine Go.iloadN H d8_12 rfl rfl ?_
    refine Go.bipush (13 : Int32) H d8_13 rfl rfl ?_
    by_cases c2 : (cs.getD i 0) = (13 : Int32)
    ·
      refine Go.icmpN H d8_15 (teq c2).2 rfl ?_
      refine Go.iloadN H d8_18 rfl rfl ?_
      refine Go.iconst (1 : Int32) H d8_19 rfl rfl ?_
      refine Go.iadd H d8_20 rfl ?_
      refine Go.aloadN H d8_21 rfl rfl rfl ?_
      refine Go.callV (rest := [(.int (i.toInt32 + (1 : Int32)))]) 1 [] H d8_22 rfl S.1 w61 w62 w64 w63 w8 w65 pd_N13 (ct_len l W x b cs h S) all0 rfl rfl rfl (Nat.le_of_eq rfl) (by decide) (by decide) (by decide) (by decide) nh_N5 ?_
      rintro _ _ _ ⟨rfl, rfl, rfl⟩
      show Go _ _ _ _ _ _ h [] 0 0 25 #[.val (.ref x), .val (.int i.toInt32), .val (.int (cs.getD i 0))] [(.int cs.length.toInt32), (.int (i.toInt32 + (1 : Int32)))]
      by_cases c3 : i + 1 < cs.length
      ·
        refine Go.icmpN H d8_25 (tlt (by rw [own_s]; exact own_lt hn c3)).2.1 rfl ?_
        refine Go.aloadN H d8_28 rfl rfl rfl ?_
        refine Go.iloadN H d8_29 rfl rfl ?_
        refine Go.iconst (1 : Int32) H d8_30 rfl rfl ?_
        refine Go.iadd H d8_31 rfl ?_
        refine Go.callV (rest := []) 0 [(.int (i.toInt32 + (1 : Int32)))] H d8_32 rfl S.1 w39 w40 w42 w41 w8 w43 pd_N11 (ct_cha l W x b cs (i.toInt32 + (1 : Int32)) (cs.getD (i + 1) 0) (i + 1) h S (by rw [own_s]; exact own_n0 (by omega)) (by rw [own_s]; exact own_cl (by omega)) (own_getD c3)) all0 rfl rfl rfl (Nat.le_of_eq rfl) (by decide) (by decide) (by decide) (by decide) nh_N5 ?_
        rintro _ _ _ ⟨rfl, rfl, rfl⟩
        show Go _ _ _ _ _ _ h [] 0 0 35 #[.val (.ref x), .val (.int i.toInt32), .val (.int (cs.getD i 0))] [(.int (cs.getD (i + 1) 0))]
        refine Go.bipush (10 : Int32) H d8_35 rfl rfl ?_
        by_cases c4 : (cs.getD (i + 1) 0) = (10 : Int32)
        ·
          refine Go.icmpY (pc' := 44) H d8_37 (teq c4).1 (by decide) (by decide) ?_
          refine Go.iconst (0 : Int32) H d8_44 rfl rfl ?_
          exact Go.ireturn (0 : Int32) [] H d8_45 (by simp) (by decide) ⟨by rw [endsF, if_neg c1, if_pos c2, if_pos c3, if_pos c4], rfl, rfl⟩ all0 (by decide) (by decide)
        ·
          refine Go.icmpN H d8_37 (feq c4).1 rfl ?_
          refine Go.iconst (1 : Int32) H d8_40 rfl rfl ?_
          refine Go.goto (pc' := 45) H d8_41 (by decide) (by decide) ?_
          exact Go.ireturn (1 : Int32) [] H d8_45 (by simp) (by decide) ⟨by rw [endsF, if_neg c1, if_pos c2, if_pos c3, if_neg c4], rfl, rfl⟩ all0 (by decide) (by decide)
      ·
        refine Go.icmpY (pc' := 40) H d8_25 (flt (by rw [own_s]; exact own_nlt (by omega) (by omega))).2.1 (by decide) (by decide) ?_
        refine Go.iconst (1 : Int32) H d8_40 rfl rfl ?_
        refine Go.goto (pc' := 45) H d8_41 (by decide) (by decide) ?_
        exact Go.ireturn (1 : Int32) [] H d8_45 (by simp) (by decide) ⟨by rw [endsF, if_neg c1, if_pos c2, if_neg c3], rfl, rfl⟩ all0 (by decide) (by decide)
    ·
      refine Go.icmpY (pc' := 44) H d8_15 (feq c2).2 (by decide) (by decide) ?_
      refine Go.iconst (0 : Int32) H d8_44 rfl rfl ?_
      exact Go.ireturn (0 : Int32) [] H d8_45 (by simp) (by decide) ⟨by rw [endsF, if_neg c1, if_neg c2], rfl, rfl⟩ all0 (by decide) (by decide)
theorem own_LA (n a : Int32) : ∃ L A : Int32, (n &&& 2147483647) % 3 + 1 = L ∧ ¬ L = 0 ∧ (a &&& 2147483647) % L = A ∧ ((L = 1 ∧ A = 0) ∨ (L = 2 ∧ A = 0) ∨ (L = 2 ∧ A = 1) ∨ (L = 3 ∧ A = 0) ∨ (L = 3 ∧ A = 1) ∨ (L = 3 ∧ A = 2)) := by
  have m1 := c_mask n 2147483647 31 (by decide) (by decide)
  have m2 := c_mask a 2147483647 31 (by decide) (by decide)
  have q1 := (c_irem (n &&& 2147483647) 3 3 (by decide)).1 (by omega)
  have e1 := c_iadd ((n &&& 2147483647) % 3) 1
  have r1 := rng32 ((n &&& 2147483647) % 3 + 1)
  have o1 : (1 : Int32).toInt = 1 := by decide
  have hL : ((n &&& 2147483647) % 3 + 1).toInt = 1 ∨ ((n &&& 2147483647) % 3 + 1).toInt = 2 ∨ ((n &&& 2147483647) % 3 + 1).toInt = 3 := by omega
  have k : ∀ (y : Int32) (v : Int), y.toInt = v → v = 0 ∨ v = 1 ∨ v = 2 ∨ v = 3 → y = Int32.ofInt v := fun y v e h => by
    apply Int32.toInt_inj.mp; rcases h with rfl | rfl | rfl | rfl <;> rw [e] <;> decide
  have g : ∀ (d : Int32) (D : Int), d.toInt = D → 0 < D → ((a &&& 2147483647) % d).toInt = (a &&& 2147483647).toInt % D := fun d D e h => (c_irem (a &&& 2147483647) d D e).1 (by omega)
  rcases hL with h | h | h
  · have hl := k _ _ h (by omega)
    have q := g _ _ h (by omega)
    refine ⟨_, _, rfl, by rw [hl]; decide, rfl, Or.inl ⟨hl, ?_⟩⟩
    exact k _ _ (show _ = (0 : Int) by omega) (by omega)
  · have hl := k _ _ h (by omega)
    have q := g _ _ h (by omega)
    have : ((a &&& 2147483647) % ((n &&& 2147483647) % 3 + 1)).toInt = 0 ∨ ((a &&& 2147483647) % ((n &&& 2147483647) % 3 + 1)).toInt = 1 := by omega
    refine ⟨_, _, rfl, by rw [hl]; decide, rfl, ?_⟩
    rcases this with t | t
    · exact Or.inr (Or.inl ⟨hl, k _ _ t (by omega)⟩)
    · exact Or.inr (Or.inr (Or.inl ⟨hl, k _ _ t (by omega)⟩))
  · have hl := k _ _ h (by omega)
    have q := g _ _ h (by omega)
    have : ((a &&& 2147483647) % ((n &&& 2147483647) % 3 + 1)).toInt = 0 ∨ ((a &&& 2147483647) % ((n &&& 2147483647) % 3 + 1)).toInt = 1 ∨ ((a &&& 2147483647) % ((n &&& 2147483647) % 3 + 1)).toInt = 2 := by omega
    refine ⟨_, _, rfl, by rw [hl]; decide, rfl, ?_⟩
    rcases this with t | t | t
    · exact Or.inr (Or.inr (Or.inr (Or.inl ⟨hl, k _ _ t (by omega)⟩)))
    · exact Or.inr (Or.inr (Or.inr (Or.inr (Or.inl ⟨hl, k _ _ t (by omega)⟩))))
    · exact Or.inr (Or.inr (Or.inr (Or.inr (Or.inr ⟨hl, k _ _ t (by omega)⟩))))
theorem w0 : Jvm.Cond.constant "com/example/dunlin/dunlin/RunTextEndsLinePinLaw" (7 : Nat) (2147483647 : Int32) ∈ tables_1 := List.mem_of_getElem? (i := 0) rfl
theorem w1 : Jvm.Cond.arrayClass Jvm.ClassFile.FieldType.char ∈ tables_1 := List.mem_of_getElem? (i := 1) rfl
theorem w5 : Jvm.Cond.code N0 method_2_code (2 : Nat) (Option.some Jvm.ClassFile.FieldType.char) ∈ tables_1 := List.mem_of_getElem? (i := 5) rfl
theorem w4 : Jvm.Cond.initialized "com/example/dunlin/dunlin/RunTextEndsLinePinLaw" ∈ tables_1 := List.mem_of_getElem? (i := 4) rfl
theorem pd_N0 : parseMethodDescriptor N0.desc = some ⟨[.int], (some .char)⟩ := by decide +kernel
theorem nh_N0 : N0.cls ≠ "java/lang/invoke/MethodHandle" ∧ N0.cls ≠ "java/lang/invoke/VarHandle" := by decide
theorem w2 : Jvm.Cond.methodLink "com/example/dunlin/dunlin/RunTextEndsLinePinLaw" (8 : Nat) N0 ∈ tables_1 := List.mem_of_getElem? (i := 2) rfl
theorem w3 : Jvm.Cond.static N0 ∈ tables_1 := List.mem_of_getElem? (i := 3) rfl
theorem w6 : Jvm.Cond.classLink "com/example/dunlin/dunlin/RunTextEndsLinePinLaw" (14 : Nat) "java/lang/String" ∈ tables_1 := List.mem_of_getElem? (i := 6) rfl
theorem w11 : Jvm.Cond.code N6 jdk_42_method_3_code (2 : Nat) (Option.none : Option Jvm.ClassFile.FieldType) ∈ tables_1 := List.mem_of_getElem? (i := 11) rfl
theorem pd_N6 : parseMethodDescriptor N6.desc = some ⟨[(.array .char)], none⟩ := by decide +kernel
theorem w9 : Jvm.Cond.methodLink "com/example/dunlin/dunlin/RunTextEndsLinePinLaw" (16 : Nat) N6 ∈ tables_1 := List.mem_of_getElem? (i := 9) rfl
theorem w10 : Jvm.Cond.instanceMethod N6 ∈ tables_1 := List.mem_of_getElem? (i := 10) rfl
theorem w38 : Jvm.Cond.code N14 prog_24_method_8_code (3 : Nat) (Option.some Jvm.ClassFile.FieldType.boolean) ∈ tables_1 := List.mem_of_getElem? (i := 38) rfl
theorem w37 : Jvm.Cond.initialized "com/example/dunlin/dunlin/RunText" ∈ tables_1 := List.mem_of_getElem? (i := 37) rfl
theorem pd_N14 : parseMethodDescriptor N14.desc = some ⟨[(.object "java/lang/String"), .int], (some .boolean)⟩ := by decide +kernel
theorem nh_N14 : N14.cls ≠ "java/lang/invoke/MethodHandle" ∧ N14.cls ≠ "java/lang/invoke/VarHandle" := by decide
theorem w35 : Jvm.Cond.methodLink "com/example/dunlin/dunlin/RunTextEndsLinePinLaw" (19 : Nat) N14 ∈ tables_1 := List.mem_of_getElem? (i := 35) rfl
theorem w36 : Jvm.Cond.static N14 ∈ tables_1 := List.mem_of_getElem? (i := 36) rfl
abbrev N15 : MethodName := ⟨"com/example/dunlin/dunlin/RunTextEndsLinePinLaw", "law", "(IIIII)Z"⟩
set_option maxRecDepth 65536 in
set_option maxHeartbeats 40000000 in
theorem ct_law (l : Launch) {Z : State} {n0 : Nat} {z : Int32} {f : Value} (W : Sx Z z f) (x0 : Int32) (x1 : Int32) (x2 : Int32) (n : Int32) (a : Int32) (h : Heap) : Ctr l Z n0 x code maxLocals ret room_1 #[(.int x0), (.int x1), (.int x2), (.int n), (.int a)] h [] (fun v h' sn => v = some (.int 1) ∧ True) := by
  refine Ctr.of_go (ls := #[.val (.int x0), .val (.int x1), .val (.int x2), .val (.int n), .val (.int a), .unset, .unset, .unset, .unset, .unset, .unset, .unset]) W.1 pn_N0 (fun m => rfl) (fun K H0 => ?_)
  have H : Ok Z K "com/example/dunlin/dunlin/RunTextEndsLinePinLaw" code 12 (some .boolean) "law" := H0
  obtain ⟨L, A, hL, hL0, hA, hLA⟩ := own_LA n a
  refine Go.iloadN H at_0 rfl rfl ?_
  refine Go.ldcInt H at_1 rfl w0 ?_
  refine Go.iand H at_3 rfl ?_
  refine Go.iconst (3 : Int32) H at_4 rfl rfl ?_
  refine Go.irem H at_5 rfl (by decide) ?_
  refine Go.iconst (1 : Int32) H at_6 rfl rfl ?_
  refine Go.iadd H at_7 rfl ?_
  rw [hL]
  refine Go.istore (ls' := #[.val (.int x0), .val (.int x1), .val (.int x2), .val (.int n), .val (.int a), .val (.int L), .unset, .unset, .unset, .unset, .unset, .unset]) H at_8 rfl rfl ?_
  refine Go.iload H at_10 rfl rfl ?_
  refine Go.ldcInt H at_12 rfl w0 ?_
  refine Go.iand H at_14 rfl ?_
  refine Go.iload H at_15 rfl rfl ?_
  refine Go.irem H at_17 rfl hL0 ?_
  rw [hA]
  refine Go.istore (ls' := #[.val (.int x0), .val (.int x1), .val (.int x2), .val (.int n), .val (.int a), .val (.int L), .val (.int A), .unset, .unset, .unset, .unset, .unset]) H at_18 rfl rfl ?_
  refine Go.iconst (3 : Int32) H at_20 rfl rfl ?_
  refine Go.newarray 3 3 H at_21 rfl w1 rfl (by decide) (by decide) (by decide) (by decide) (by decide) (by decide) (by decide) ?_
  intro a1 h2 g3 z4 E5 F6
  replace F6 : Vec Z h2 a1 .char [(0 : Int32), (0 : Int32), (0 : Int32)] := F6
  show Go _ _ _ _ _ _ h2 [a1] 1 3 23 #[.val (.int x0), .val (.int x1), .val (.int x2), .val (.int n), .val (.int a), .val (.int L), .val (.int A), .unset, .unset, .unset, .unset, .unset] [(.ref a1)]
  refine Go.astore (ls' := #[.val (.int x0), .val (.int x1), .val (.int x2), .val (.int n), .val (.int a), .val (.int L), .val (.int A), .val (.ref a1), .unset, .unset, .unset, .unset]) H at_23 rfl rfl rfl ?_
  refine Go.aload H at_25 rfl rfl rfl ?_
  refine Go.iconst (0 : Int32) H at_27 rfl rfl ?_
  refine Go.iloadN H at_28 rfl rfl ?_
  refine Go.callS (rest := [(.int (0 : Int32)), (.ref a1)]) 2 [(.int x0)] H at_29 rfl w2 w3 w4 w5 pd_N0 (ct_pick l W x0 h2) all0 rfl rfl rfl (Nat.le_of_eq rfl) (by decide) (by decide) (by decide) (by decide) nh_N0 ?_
  rintro _ _ _ ⟨rfl, rfl, rfl⟩
  show Go _ _ _ _ _ _ h2 [a1] 1 3 32 #[.val (.int x0), .val (.int x1), .val (.int x2), .val (.int n), .val (.int a), .val (.int L), .val (.int A), .val (.ref a1), .unset, .unset, .unset, .unset] [(.int (pickF x0)), (.int (0 : Int32)), (.ref a1)]
  refine Go.castore (pickF x0) H at_32 rfl F6 0 (by decide) (by decide) (Nat.le_of_ble_eq_true rfl) (pickF_c _) z4 (by simp) ?_
  intro h7 K8 F9
  replace F9 : Vec Z h7 a1 .char [(pickF x0), (0 : Int32), (0 : Int32)] := F9
  refine Go.aload H at_33 rfl rfl rfl ?_
  refine Go.iconst (1 : Int32) H at_35 rfl rfl ?_
  refine Go.iloadN H at_36 rfl rfl ?_
  refine Go.callS (rest := [(.int (1 : Int32)), (.ref a1)]) 2 [(.int x1)] H at_37 rfl w2 w3 w4 w5 pd_N0 (ct_pick l W x1 h7) all0 rfl rfl rfl (Nat.le_of_eq rfl) (by decide) (by decide) (by decide) (by decide) nh_N0 ?_
  rintro _ _ _ ⟨rfl, rfl, rfl⟩
  show Go _ _ _ _ _ _ h7 [a1] 1 3 40 #[.val (.int x0), .val (.int x1), .val (.int x2), .val (.int n), .val (.int a), .val (.int L), .val (.int A), .val (.ref a1), .unset, .unset, .unset, .unset] [(.int (pickF x1)), (.int (1 : Int32)), (.ref a1)]
  refine Go.castore (pickF x1) H at_40 rfl F9 1 (by decide) (by decide) (Nat.le_of_ble_eq_true rfl) (pickF_c _) z4 (by simp) ?_
  intro h10 K11 F12
  replace F12 : Vec Z h10 a1 .char [(pickF x0), (pickF x1), (0 : Int32)] := F12
  refine Go.aload H at_41 rfl rfl rfl ?_
  refine Go.iconst (2 : Int32) H at_43 rfl rfl ?_
  refine Go.iloadN H at_44 rfl rfl ?_
  refine Go.callS (rest := [(.int (2 : Int32)), (.ref a1)]) 2 [(.int x2)] H at_45 rfl w2 w3 w4 w5 pd_N0 (ct_pick l W x2 h10) all0 rfl rfl rfl (Nat.le_of_eq rfl) (by decide) (by decide) (by decide) (by decide) nh_N0 ?_
  rintro _ _ _ ⟨rfl, rfl, rfl⟩
  show Go _ _ _ _ _ _ h10 [a1] 1 3 48 #[.val (.int x0), .val (.int x1), .val (.int x2), .val (.int n), .val (.int a), .val (.int L), .val (.int A), .val (.ref a1), .unset, .unset, .unset, .unset] [(.int (pickF x2)), (.int (2 : Int32)), (.ref a1)]
  refine Go.castore (pickF x2) H at_48 rfl F12 2 (by decide) (by decide) (Nat.le_of_ble_eq_true rfl) (pickF_c _) z4 (by simp) ?_
  intro h13 K14 F15
  replace F15 : Vec Z h13 a1 .char [(pickF x0), (pickF x1), (pickF x2)] := F15
  rcases hLA with ⟨rfl, rfl⟩ | ⟨rfl, rfl⟩ | ⟨rfl, rfl⟩ | ⟨rfl, rfl⟩ | ⟨rfl, rfl⟩ | ⟨rfl, rfl⟩
  ·
    show Go _ _ _ _ _ _ h13 [a1] 1 3 49 #[.val (.int x0), .val (.int x1), .val (.int x2), .val (.int n), .val (.int a), .val (.int (1 : Int32)), .val (.int (0 : Int32)), .val (.ref a1), .unset, .unset, .unset, .unset] []
    refine Go.iload H at_49 rfl rfl ?_
    refine Go.iconst (1 : Int32) H at_51 rfl rfl ?_
    refine Go.icmpN H at_52 (by decide) rfl ?_
    refine Go.new H at_55 rfl w6 w7 w8 (by decide) (by decide) ?_
    intro a16 h17 g18 z19 E20 A21 D22
    have ne23 : a1 ≠ a16 := Nat.ne_of_lt (Nat.lt_of_lt_of_le F15.lt (Nat.le_of_eq g18.symm))
    replace F15 := F15.ext E20
    have F24 : Fld Z h17 a16 "java/lang/String" "coder" "B" (.int (0 : Int32)) := D22 (Or.inr w32) (ty := .byte) (by decide)
    have F25 : Fld Z h17 a16 "java/lang/String" "value" "[B" .null := D22 (Or.inr w34) (ty := (.array .byte)) (by decide)
    show Go _ _ _ _ _ _ h17 [a16, a1] 2 7 58 #[.val (.int x0), .val (.int x1), .val (.int x2), .val (.int n), .val (.int a), .val (.int (1 : Int32)), .val (.int (0 : Int32)), .val (.ref a1), .unset, .unset, .unset, .unset] [(.ref a16)]
    refine Go.dup H at_58 rfl rfl ?_
    refine Go.iconst (1 : Int32) H at_59 rfl rfl ?_
    refine Go.newarray 1 1 H at_60 rfl w1 rfl (by decide) (by decide) (by decide) (by decide) (by decide) (by decide) (by decide) ?_
    intro a26 h27 g28 z29 E30 F31
    have ne32 : a1 ≠ a26 := Nat.ne_of_lt (Nat.lt_of_lt_of_le F15.lt (Nat.le_of_eq g28.symm))
    have ne33 : a16 ≠ a26 := Nat.ne_of_lt (Nat.lt_of_lt_of_le A21.lt (Nat.le_of_eq g28.symm))
    replace F15 := F15.ext E30
    replace A21 := A21.ext E30
    replace F24 := F24.ext E30
    replace F25 := F25.ext E30
    replace F31 : Vec Z h27 a26 .char [(0 : Int32)] := F31
    show Go _ _ _ _ _ _ h27 [a26, a16, a1] 3 8 62 #[.val (.int x0), .val (.int x1), .val (.int x2), .val (.int n), .val (.int a), .val (.int (1 : Int32)), .val (.int (0 : Int32)), .val (.ref a1), .unset, .unset, .unset, .unset] [(.ref a26), (.ref a16), (.ref a16)]
    refine Go.dup H at_62 rfl rfl ?_
    refine Go.iconst (0 : Int32) H at_63 rfl rfl ?_
    refine Go.aload H at_64 rfl rfl rfl ?_
    refine Go.iconst (0 : Int32) H at_66 rfl rfl ?_
    refine Go.caload (v := (pickF x0)) H at_67 rfl F15 0 (by decide) (by decide) rfl ?_
    refine Go.castore (pickF x0) H at_68 rfl F31 0 (by decide) (by decide) (Nat.le_of_ble_eq_true rfl) (pickF_c _) z29 (by simp) ?_
    intro h34 K35 F36
    replace F15 := F15.keep K35 (ninS ne32 nin0)
    replace A21 := A21.keep K35
    replace F24 := F24.keep K35 (ninS ne33 nin0)
    replace F25 := F25.keep K35 (ninS ne33 nin0)
    replace F36 : Vec Z h34 a26 .char [(pickF x0)] := F36
    refine Go.callI (rest := [(.ref a16)]) 1 [(.ref a26)] H at_69 rfl rfl w9 w10 w8 w11 pd_N6 (ct_new1 l W a16 a26 [(pickF x0)] h34 A21 F25 F24 F36 (own_ac (pickF_l _) own_an) (Nat.le_of_ble_eq_true rfl) (Nat.le_of_ble_eq_true rfl) z19) (by simp) rfl rfl rfl (Nat.le_of_eq rfl) (by decide) (by decide) (by decide) (by decide) nh_N5 ?_
    rintro _ h37 _ ⟨rfl, K38, ⟨b39, g40, S41⟩, rfl⟩
    have ne42 : a1 ≠ b39 := Nat.ne_of_lt (Nat.lt_of_lt_of_le F15.lt g40)
    have ne43 : a16 ≠ b39 := Nat.ne_of_lt (Nat.lt_of_lt_of_le A21.lt g40)
    have ne44 : a26 ≠ b39 := Nat.ne_of_lt (Nat.lt_of_lt_of_le F36.lt g40)
    replace F15 := F15.keep K38 (ninS ne23 nin0)
    replace F36 := F36.keep K38 (ninS (Ne.symm ne33) nin0)
    show Go _ _ _ _ _ _ h37 [a26, a16, a1] 4 11 72 #[.val (.int x0), .val (.int x1), .val (.int x2), .val (.int n), .val (.int a), .val (.int (1 : Int32)), .val (.int (0 : Int32)), .val (.ref a1), .unset, .unset, .unset, .unset] [(.ref a16)]
    refine Go.astore (ls' := #[.val (.int x0), .val (.int x1), .val (.int x2), .val (.int n), .val (.int a), .val (.int (1 : Int32)), .val (.int (0 : Int32)), .val (.ref a1), .val (.ref a16), .unset, .unset, .unset]) H at_72 rfl rfl rfl ?_
    refine Go.goto (pc' := 145) H at_74 (by decide) (by decide) ?_
    refine Go.aload H at_145 rfl rfl rfl ?_
    refine Go.iload H at_147 rfl rfl ?_
    refine Go.caload (v := (pickF x0)) H at_149 rfl F15 0 (by decide) (by decide) rfl ?_
    refine Go.istore (ls' := #[.val (.int x0), .val (.int x1), .val (.int x2), .val (.int n), .val (.int a), .val (.int (1 : Int32)), .val (.int (0 : Int32)), .val (.ref a1), .val (.ref a16), .val (.int (pickF x0)), .unset, .unset]) H at_150 rfl rfl ?_
    refine Go.iload H at_152 rfl rfl ?_
    refine Go.iconst (1 : Int32) H at_154 rfl rfl ?_
    refine Go.iadd H at_155 rfl ?_
    show Go _ _ _ _ _ _ h37 [a26, a16, a1] 4 11 156 #[.val (.int x0), .val (.int x1), .val (.int x2), .val (.int n), .val (.int a), .val (.int (1 : Int32)), .val (.int (0 : Int32)), .val (.ref a1), .val (.ref a16), .val (.int (pickF x0)), .unset, .unset] [(.int (1 : Int32))]
    refine Go.iload H at_156 rfl rfl ?_
    refine Go.icmpY (pc' := 165) H at_158 (by decide) (by decide) (by decide) ?_
    refine Go.iconst (0 : Int32) H at_165 rfl rfl ?_
    refine Go.istore (ls' := #[.val (.int x0), .val (.int x1), .val (.int x2), .val (.int n), .val (.int a), .val (.int (1 : Int32)), .val (.int (0 : Int32)), .val (.ref a1), .val (.ref a16), .val (.int (pickF x0)), .val (.int (0 : Int32)), .unset]) H at_166 rfl rfl ?_
    refine Go.iload H at_168 rfl rfl ?_
    refine Go.bipush (10 : Int32) H at_170 rfl rfl ?_
    by_cases c45 : (pickF x0) = (10 : Int32)
    ·
      refine Go.icmpN H at_172 (teq c45).2 rfl ?_
      refine Go.iconst (1 : Int32) H at_175 rfl rfl ?_
      refine Go.istore (ls' := #[.val (.int x0), .val (.int x1), .val (.int x2), .val (.int n), .val (.int a), .val (.int (1 : Int32)), .val (.int (0 : Int32)), .val (.ref a1), .val (.ref a16), .val (.int (pickF x0)), .val (.int (0 : Int32)), .val (.int (1 : Int32))]) H at_176 rfl rfl ?_
      refine Go.goto (pc' := 224) H at_178 (by decide) (by decide) ?_
      refine Go.aload H at_224 rfl rfl rfl ?_
      refine Go.iload H at_226 rfl rfl ?_
      refine Go.callS (rest := []) 0 [(.ref a16), (.int (0 : Int32))] H at_228 rfl w35 w36 w37 w38 pd_N14 (ct_ends l W a16 b39 [(pickF x0)] 0 h37 S41 (Nat.le_of_ble_eq_true rfl)) all0 rfl rfl rfl (Nat.le_of_eq rfl) (by decide) (by decide) (by decide) (by decide) nh_N14 ?_
      rintro _ _ _ ⟨rfl, rfl, rfl⟩
      show Go _ _ _ _ _ _ h37 [a26, a16, a1] 4 11 231 #[.val (.int x0), .val (.int x1), .val (.int x2), .val (.int n), .val (.int a), .val (.int (1 : Int32)), .val (.int (0 : Int32)), .val (.ref a1), .val (.ref a16), .val (.int (pickF x0)), .val (.int (0 : Int32)), .val (.int (1 : Int32))] [(.int (endsF [(pickF x0)] 0))]
      refine Go.iload H at_231 rfl rfl ?_
      refine Go.icmpN H at_233 (teq (by simp [endsF, c45])).2 rfl ?_
      refine Go.iconst (1 : Int32) H at_236 rfl rfl ?_
      refine Go.goto (pc' := 241) H at_237 (by decide) (by decide) ?_
      exact Go.ireturn 1 [] H at_241 (by simp) (by decide) ⟨rfl, trivial⟩ all0 (by decide) (by decide)
    ·
      refine Go.icmpY (pc' := 181) H at_172 (feq c45).2 (by decide) (by decide) ?_
      refine Go.iload H at_181 rfl rfl ?_
      refine Go.bipush (13 : Int32) H at_183 rfl rfl ?_
      by_cases c46 : (pickF x0) = (13 : Int32)
      ·
        refine Go.icmpN H at_185 (teq c46).2 rfl ?_
        refine Go.iload H at_188 rfl rfl ?_
        refine Go.ifY (pc' := 215) H at_190 (by decide) (by decide) (by decide) ?_
        refine Go.iconst (1 : Int32) H at_215 rfl rfl ?_
        refine Go.istore (ls' := #[.val (.int x0), .val (.int x1), .val (.int x2), .val (.int n), .val (.int a), .val (.int (1 : Int32)), .val (.int (0 : Int32)), .val (.ref a1), .val (.ref a16), .val (.int (pickF x0)), .val (.int (0 : Int32)), .val (.int (1 : Int32))]) H at_216 rfl rfl ?_
        refine Go.goto (pc' := 224) H at_218 (by decide) (by decide) ?_
        refine Go.aload H at_224 rfl rfl rfl ?_
        refine Go.iload H at_226 rfl rfl ?_
        refine Go.callS (rest := []) 0 [(.ref a16), (.int (0 : Int32))] H at_228 rfl w35 w36 w37 w38 pd_N14 (ct_ends l W a16 b39 [(pickF x0)] 0 h37 S41 (Nat.le_of_ble_eq_true rfl)) all0 rfl rfl rfl (Nat.le_of_eq rfl) (by decide) (by decide) (by decide) (by decide) nh_N14 ?_
        rintro _ _ _ ⟨rfl, rfl, rfl⟩
        show Go _ _ _ _ _ _ h37 [a26, a16, a1] 4 11 231 #[.val (.int x0), .val (.int x1), .val (.int x2), .val (.int n), .val (.int a), .val (.int (1 : Int32)), .val (.int (0 : Int32)), .val (.ref a1), .val (.ref a16), .val (.int (pickF x0)), .val (.int (0 : Int32)), .val (.int (1 : Int32))] [(.int (endsF [(pickF x0)] 0))]
        refine Go.iload H at_231 rfl rfl ?_
        refine Go.icmpN H at_233 (teq (by simp [endsF, c45, c46])).2 rfl ?_
        refine Go.iconst (1 : Int32) H at_236 rfl rfl ?_
        refine Go.goto (pc' := 241) H at_237 (by decide) (by decide) ?_
        exact Go.ireturn 1 [] H at_241 (by simp) (by decide) ⟨rfl, trivial⟩ all0 (by decide) (by decide)
      ·
        refine Go.icmpY (pc' := 221) H at_185 (feq c46).2 (by decide) (by decide) ?_
        refine Go.iconst (0 : Int32) H at_221 rfl rfl ?_
        refine Go.istore (ls' := #[.val (.int x0), .val (.int x1), .val (.int x2), .val (.int n), .val (.int a), .val (.int (1 : Int32)), .val (.int (0 : Int32)), .val (.ref a1), .val (.ref a16), .val (.int (pickF x0)), .val (.int (0 : Int32)), .val (.int (0 : Int32))]) H at_222 rfl rfl ?_
        refine Go.aload H at_224 rfl rfl rfl ?_
        refine Go.iload H at_226 rfl rfl ?_
        refine Go.callS (rest := []) 0 [(.ref a16), (.int (0 : Int32))] H at_228 rfl w35 w36 w37 w38 pd_N14 (ct_ends l W a16 b39 [(pickF x0)] 0 h37 S41 (Nat.le_of_ble_eq_true rfl)) all0 rfl rfl rfl (Nat.le_of_eq rfl) (by decide) (by decide) (by decide) (by decide) nh_N14 ?_
        rintro _ _ _ ⟨rfl, rfl, rfl⟩
        show Go _ _ _ _ _ _ h37 [a26, a16, a1] 4 11 231 #[.val (.int x0), .val (.int x1), .val (.int x2), .val (.int n), .val (.int a), .val (.int (1 : Int32)), .val (.int (0 : Int32)), .val (.ref a1), .val (.ref a16), .val (.int (pickF x0)), .val (.int (0 : Int32)), .val (.int (0 : Int32))] [(.int (endsF [(pickF x0)] 0))]
        refine Go.iload H at_231 rfl rfl ?_
        refine Go.icmpN H at_233 (teq (by simp [endsF, c45, c46])).2 rfl ?_
        refine Go.iconst (1 : Int32) H at_236 rfl rfl ?_
        refine Go.goto (pc' := 241) H at_237 (by decide) (by decide) ?_
        exact Go.ireturn 1 [] H at_241 (by simp) (by decide) ⟨rfl, trivial⟩ all0 (by decide) (by decide)
  ·
    show Go _ _ _ _ _ _ h13 [a1] 1 3 49 #[.val (.int x0), .val (.int x1), .val (.int x2), .val (.int n), .val (.int a), .val (.int (2 : Int32)), .val (.int (0 : Int32)), .val (.ref a1), .unset, .unset, .unset, .unset] []
    refine Go.iload H at_49 rfl rfl ?_
    refine Go.iconst (1 : Int32) H at_51 rfl rfl ?_
    refine Go.icmpY (pc' := 77) H at_52 (by decide) (by decide) (by decide) ?_
    refine Go.iload H at_77 rfl rfl ?_
    refine Go.iconst (2 : Int32) H at_79 rfl rfl ?_
    refine Go.icmpN H at_80 (by decide) rfl ?_
    refine Go.new H at_83 rfl w6 w7 w8 (by decide) (by decide) ?_
    intro a47 h48 g49 z50 E51 A52 D53
    have ne54 : a1 ≠ a47 := Nat.ne_of_lt (Nat.lt_of_lt_of_le F15.lt (Nat.le_of_eq g49.symm))
    replace F15 := F15.ext E51
    have F55 : Fld Z h48 a47 "java/lang/String" "coder" "B" (.int (0 : Int32)) := D53 (Or.inr w32) (ty := .byte) (by decide)
    have F56 : Fld Z h48 a47 "java/lang/String" "value" "[B" .null := D53 (Or.inr w34) (ty := (.array .byte)) (by decide)
    show Go _ _ _ _ _ _ h48 [a47, a1] 2 7 86 #[.val (.int x0), .val (.int x1), .val (.int x2), .val (.int n), .val (.int a), .val (.int (2 : Int32)), .val (.int (0 : Int32)), .val (.ref a1), .unset, .unset, .unset, .unset] [(.ref a47)]
    refine Go.dup H at_86 rfl rfl ?_
    refine Go.iconst (2 : Int32) H at_87 rfl rfl ?_
    refine Go.newarray 2 2 H at_88 rfl w1 rfl (by decide) (by decide) (by decide) (by decide) (by decide) (by decide) (by decide) ?_
    intro a57 h58 g59 z60 E61 F62
    have ne63 : a1 ≠ a57 := Nat.ne_of_lt (Nat.lt_of_lt_of_le F15.lt (Nat.le_of_eq g59.symm))
    have ne64 : a47 ≠ a57 := Nat.ne_of_lt (Nat.lt_of_lt_of_le A52.lt (Nat.le_of_eq g59.symm))
    replace F15 := F15.ext E61
    replace A52 := A52.ext E61
    replace F55 := F55.ext E61
    replace F56 := F56.ext E61
    replace F62 : Vec Z h58 a57 .char [(0 : Int32), (0 : Int32)] := F62
    show Go _ _ _ _ _ _ h58 [a57, a47, a1] 3 9 90 #[.val (.int x0), .val (.int x1), .val (.int x2), .val (.int n), .val (.int a), .val (.int (2 : Int32)), .val (.int (0 : Int32)), .val (.ref a1), .unset, .unset, .unset, .unset] [(.ref a57), (.ref a47), (.ref a47)]
    refine Go.dup H at_90 rfl rfl ?_
    refine Go.iconst (0 : Int32) H at_91 rfl rfl ?_
    refine Go.aload H at_92 rfl rfl rfl ?_
    refine Go.iconst (0 : Int32) H at_94 rfl rfl ?_
    refine Go.caload (v := (pickF x0)) H at_95 rfl F15 0 (by decide) (by decide) rfl ?_
    refine Go.castore (pickF x0) H at_96 rfl F62 0 (by decide) (by decide) (Nat.le_of_ble_eq_true rfl) (pickF_c _) z60 (by simp) ?_
    intro h65 K66 F67
    replace F15 := F15.keep K66 (ninS ne63 nin0)
    replace A52 := A52.keep K66
    replace F55 := F55.keep K66 (ninS ne64 nin0)
    replace F56 := F56.keep K66 (ninS ne64 nin0)
    replace F67 : Vec Z h65 a57 .char [(pickF x0), (0 : Int32)] := F67
    refine Go.dup H at_97 rfl rfl ?_
    refine Go.iconst (1 : Int32) H at_98 rfl rfl ?_
    refine Go.aload H at_99 rfl rfl rfl ?_
    refine Go.iconst (1 : Int32) H at_101 rfl rfl ?_
    refine Go.caload (v := (pickF x1)) H at_102 rfl F15 1 (by decide) (by decide) rfl ?_
    refine Go.castore (pickF x1) H at_103 rfl F67 1 (by decide) (by decide) (Nat.le_of_ble_eq_true rfl) (pickF_c _) z60 (by simp) ?_
    intro h68 K69 F70
    replace F15 := F15.keep K69 (ninS ne63 nin0)
    replace A52 := A52.keep K69
    replace F55 := F55.keep K69 (ninS ne64 nin0)
    replace F56 := F56.keep K69 (ninS ne64 nin0)
    replace F70 : Vec Z h68 a57 .char [(pickF x0), (pickF x1)] := F70
    refine Go.callI (rest := [(.ref a47)]) 1 [(.ref a57)] H at_104 rfl rfl w9 w10 w8 w11 pd_N6 (ct_new1 l W a47 a57 [(pickF x0), (pickF x1)] h68 A52 F56 F55 F70 (own_ac (pickF_l _) (own_ac (pickF_l _) own_an)) (Nat.le_of_ble_eq_true rfl) (Nat.le_of_ble_eq_true rfl) z50) (by simp) rfl rfl rfl (Nat.le_of_eq rfl) (by decide) (by decide) (by decide) (by decide) nh_N5 ?_
    rintro _ h71 _ ⟨rfl, K72, ⟨b73, g74, S75⟩, rfl⟩
    have ne76 : a1 ≠ b73 := Nat.ne_of_lt (Nat.lt_of_lt_of_le F15.lt g74)
    have ne77 : a47 ≠ b73 := Nat.ne_of_lt (Nat.lt_of_lt_of_le A52.lt g74)
    have ne78 : a57 ≠ b73 := Nat.ne_of_lt (Nat.lt_of_lt_of_le F70.lt g74)
    replace F15 := F15.keep K72 (ninS ne54 nin0)
    replace F70 := F70.keep K72 (ninS (Ne.symm ne64) nin0)
    show Go _ _ _ _ _ _ h71 [a57, a47, a1] 4 12 107 #[.val (.int x0), .val (.int x1), .val (.int x2), .val (.int n), .val (.int a), .val (.int (2 : Int32)), .val (.int (0 : Int32)), .val (.ref a1), .unset, .unset, .unset, .unset] [(.ref a47)]
    refine Go.astore (ls' := #[.val (.int x0), .val (.int x1), .val (.int x2), .val (.int n), .val (.int a), .val (.int (2 : Int32)), .val (.int (0 : Int32)), .val (.ref a1), .val (.ref a47), .unset, .unset, .unset]) H at_107 rfl rfl rfl ?_
    refine Go.goto (pc' := 145) H at_109 (by decide) (by decide) ?_
    refine Go.aload H at_145 rfl rfl rfl ?_
    refine Go.iload H at_147 rfl rfl ?_
    refine Go.caload (v := (pickF x0)) H at_149 rfl F15 0 (by decide) (by decide) rfl ?_
    refine Go.istore (ls' := #[.val (.int x0), .val (.int x1), .val (.int x2), .val (.int n), .val (.int a), .val (.int (2 : Int32)), .val (.int (0 : Int32)), .val (.ref a1), .val (.ref a47), .val (.int (pickF x0)), .unset, .unset]) H at_150 rfl rfl ?_
    refine Go.iload H at_152 rfl rfl ?_
    refine Go.iconst (1 : Int32) H at_154 rfl rfl ?_
    refine Go.iadd H at_155 rfl ?_
    show Go _ _ _ _ _ _ h71 [a57, a47, a1] 4 12 156 #[.val (.int x0), .val (.int x1), .val (.int x2), .val (.int n), .val (.int a), .val (.int (2 : Int32)), .val (.int (0 : Int32)), .val (.ref a1), .val (.ref a47), .val (.int (pickF x0)), .unset, .unset] [(.int (1 : Int32))]
    refine Go.iload H at_156 rfl rfl ?_
    refine Go.icmpN H at_158 (by decide) rfl ?_
    refine Go.iconst (1 : Int32) H at_161 rfl rfl ?_
    refine Go.goto (pc' := 166) H at_162 (by decide) (by decide) ?_
    refine Go.istore (ls' := #[.val (.int x0), .val (.int x1), .val (.int x2), .val (.int n), .val (.int a), .val (.int (2 : Int32)), .val (.int (0 : Int32)), .val (.ref a1), .val (.ref a47), .val (.int (pickF x0)), .val (.int (1 : Int32)), .unset]) H at_166 rfl rfl ?_
    refine Go.iload H at_168 rfl rfl ?_
    refine Go.bipush (10 : Int32) H at_170 rfl rfl ?_
    by_cases c79 : (pickF x0) = (10 : Int32)
    ·
      refine Go.icmpN H at_172 (teq c79).2 rfl ?_
      refine Go.iconst (1 : Int32) H at_175 rfl rfl ?_
      refine Go.istore (ls' := #[.val (.int x0), .val (.int x1), .val (.int x2), .val (.int n), .val (.int a), .val (.int (2 : Int32)), .val (.int (0 : Int32)), .val (.ref a1), .val (.ref a47), .val (.int (pickF x0)), .val (.int (1 : Int32)), .val (.int (1 : Int32))]) H at_176 rfl rfl ?_
      refine Go.goto (pc' := 224) H at_178 (by decide) (by decide) ?_
      refine Go.aload H at_224 rfl rfl rfl ?_
      refine Go.iload H at_226 rfl rfl ?_
      refine Go.callS (rest := []) 0 [(.ref a47), (.int (0 : Int32))] H at_228 rfl w35 w36 w37 w38 pd_N14 (ct_ends l W a47 b73 [(pickF x0), (pickF x1)] 0 h71 S75 (Nat.le_of_ble_eq_true rfl)) all0 rfl rfl rfl (Nat.le_of_eq rfl) (by decide) (by decide) (by decide) (by decide) nh_N14 ?_
      rintro _ _ _ ⟨rfl, rfl, rfl⟩
      show Go _ _ _ _ _ _ h71 [a57, a47, a1] 4 12 231 #[.val (.int x0), .val (.int x1), .val (.int x2), .val (.int n), .val (.int a), .val (.int (2 : Int32)), .val (.int (0 : Int32)), .val (.ref a1), .val (.ref a47), .val (.int (pickF x0)), .val (.int (1 : Int32)), .val (.int (1 : Int32))] [(.int (endsF [(pickF x0), (pickF x1)] 0))]
      refine Go.iload H at_231 rfl rfl ?_
      refine Go.icmpN H at_233 (teq (by simp [endsF, c79])).2 rfl ?_
      refine Go.iconst (1 : Int32) H at_236 rfl rfl ?_
      refine Go.goto (pc' := 241) H at_237 (by decide) (by decide) ?_
      exact Go.ireturn 1 [] H at_241 (by simp) (by decide) ⟨rfl, trivial⟩ all0 (by decide) (by decide)
    ·
      refine Go.icmpY (pc' := 181) H at_172 (feq c79).2 (by decide) (by decide) ?_
      refine Go.iload H at_181 rfl rfl ?_
      refine Go.bipush (13 : Int32) H at_183 rfl rfl ?_
      by_cases c80 : (pickF x0) = (13 : Int32)
      ·
        refine Go.icmpN H at_185 (teq c80).2 rfl ?_
        refine Go.iload H at_188 rfl rfl ?_
        refine Go.ifN H at_190 (by decide) rfl ?_
        refine Go.aload H at_193 rfl rfl rfl ?_
        refine Go.iload H at_195 rfl rfl ?_
        refine Go.iconst (1 : Int32) H at_197 rfl rfl ?_
        refine Go.iadd H at_198 rfl ?_
        show Go _ _ _ _ _ _ h71 [a57, a47, a1] 4 12 199 #[.val (.int x0), .val (.int x1), .val (.int x2), .val (.int n), .val (.int a), .val (.int (2 : Int32)), .val (.int (0 : Int32)), .val (.ref a1), .val (.ref a47), .val (.int (pickF x0)), .val (.int (1 : Int32)), .unset] [(.int (1 : Int32)), (.ref a1)]
        refine Go.caload (v := (pickF x1)) H at_199 rfl F15 1 (by decide) (by decide) rfl ?_
        refine Go.bipush (10 : Int32) H at_200 rfl rfl ?_
        by_cases c81 : (pickF x1) = (10 : Int32)
        ·
          refine Go.icmpY (pc' := 209) H at_202 (teq c81).1 (by decide) (by decide) ?_
          refine Go.iconst (0 : Int32) H at_209 rfl rfl ?_
          refine Go.istore (ls' := #[.val (.int x0), .val (.int x1), .val (.int x2), .val (.int n), .val (.int a), .val (.int (2 : Int32)), .val (.int (0 : Int32)), .val (.ref a1), .val (.ref a47), .val (.int (pickF x0)), .val (.int (1 : Int32)), .val (.int (0 : Int32))]) H at_210 rfl rfl ?_
          refine Go.goto (pc' := 224) H at_212 (by decide) (by decide) ?_
          refine Go.aload H at_224 rfl rfl rfl ?_
          refine Go.iload H at_226 rfl rfl ?_
          refine Go.callS (rest := []) 0 [(.ref a47), (.int (0 : Int32))] H at_228 rfl w35 w36 w37 w38 pd_N14 (ct_ends l W a47 b73 [(pickF x0), (pickF x1)] 0 h71 S75 (Nat.le_of_ble_eq_true rfl)) all0 rfl rfl rfl (Nat.le_of_eq rfl) (by decide) (by decide) (by decide) (by decide) nh_N14 ?_
          rintro _ _ _ ⟨rfl, rfl, rfl⟩
          show Go _ _ _ _ _ _ h71 [a57, a47, a1] 4 12 231 #[.val (.int x0), .val (.int x1), .val (.int x2), .val (.int n), .val (.int a), .val (.int (2 : Int32)), .val (.int (0 : Int32)), .val (.ref a1), .val (.ref a47), .val (.int (pickF x0)), .val (.int (1 : Int32)), .val (.int (0 : Int32))] [(.int (endsF [(pickF x0), (pickF x1)] 0))]
          refine Go.iload H at_231 rfl rfl ?_
          refine Go.icmpN H at_233 (teq (by simp [endsF, c79, c80, c81])).2 rfl ?_
          refine Go.iconst (1 : Int32) H at_236 rfl rfl ?_
          refine Go.goto (pc' := 241) H at_237 (by decide) (by decide) ?_
          exact Go.ireturn 1 [] H at_241 (by simp) (by decide) ⟨rfl, trivial⟩ all0 (by decide) (by decide)
        ·
          refine Go.icmpN H at_202 (feq c81).1 rfl ?_
          refine Go.iconst (1 : Int32) H at_205 rfl rfl ?_
          refine Go.goto (pc' := 210) H at_206 (by decide) (by decide) ?_
          refine Go.istore (ls' := #[.val (.int x0), .val (.int x1), .val (.int x2), .val (.int n), .val (.int a), .val (.int (2 : Int32)), .val (.int (0 : Int32)), .val (.ref a1), .val (.ref a47), .val (.int (pickF x0)), .val (.int (1 : Int32)), .val (.int (1 : Int32))]) H at_210 rfl rfl ?_
          refine Go.goto (pc' := 224) H at_212 (by decide) (by decide) ?_
          refine Go.aload H at_224 rfl rfl rfl ?_
          refine Go.iload H at_226 rfl rfl ?_
          refine Go.callS (rest := []) 0 [(.ref a47), (.int (0 : Int32))] H at_228 rfl w35 w36 w37 w38 pd_N14 (ct_ends l W a47 b73 [(pickF x0), (pickF x1)] 0 h71 S75 (Nat.le_of_ble_eq_true rfl)) all0 rfl rfl rfl (Nat.le_of_eq rfl) (by decide) (by decide) (by decide) (by decide) nh_N14 ?_
          rintro _ _ _ ⟨rfl, rfl, rfl⟩
          show Go _ _ _ _ _ _ h71 [a57, a47, a1] 4 12 231 #[.val (.int x0), .val (.int x1), .val (.int x2), .val (.int n), .val (.int a), .val (.int (2 : Int32)), .val (.int (0 : Int32)), .val (.ref a1), .val (.ref a47), .val (.int (pickF x0)), .val (.int (1 : Int32)), .val (.int (1 : Int32))] [(.int (endsF [(pickF x0), (pickF x1)] 0))]
          refine Go.iload H at_231 rfl rfl ?_
          refine Go.icmpN H at_233 (teq (by simp [endsF, c79, c80, c81])).2 rfl ?_
          refine Go.iconst (1 : Int32) H at_236 rfl rfl ?_
          refine Go.goto (pc' := 241) H at_237 (by decide) (by decide) ?_
          exact Go.ireturn 1 [] H at_241 (by simp) (by decide) ⟨rfl, trivial⟩ all0 (by decide) (by decide)
      ·
        refine Go.icmpY (pc' := 221) H at_185 (feq c80).2 (by decide) (by decide) ?_
        refine Go.iconst (0 : Int32) H at_221 rfl rfl ?_
        refine Go.istore (ls' := #[.val (.int x0), .val (.int x1), .val (.int x2), .val (.int n), .val (.int a), .val (.int (2 : Int32)), .val (.int (0 : Int32)), .val (.ref a1), .val (.ref a47), .val (.int (pickF x0)), .val (.int (1 : Int32)), .val (.int (0 : Int32))]) H at_222 rfl rfl ?_
        refine Go.aload H at_224 rfl rfl rfl ?_
        refine Go.iload H at_226 rfl rfl ?_
        refine Go.callS (rest := []) 0 [(.ref a47), (.int (0 : Int32))] H at_228 rfl w35 w36 w37 w38 pd_N14 (ct_ends l W a47 b73 [(pickF x0), (pickF x1)] 0 h71 S75 (Nat.le_of_ble_eq_true rfl)) all0 rfl rfl rfl (Nat.le_of_eq rfl) (by decide) (by decide) (by decide) (by decide) nh_N14 ?_
        rintro _ _ _ ⟨rfl, rfl, rfl⟩
        show Go _ _ _ _ _ _ h71 [a57, a47, a1] 4 12 231 #[.val (.int x0), .val (.int x1), .val (.int x2), .val (.int n), .val (.int a), .val (.int (2 : Int32)), .val (.int (0 : Int32)), .val (.ref a1), .val (.ref a47), .val (.int (pickF x0)), .val (.int (1 : Int32)), .val (.int (0 : Int32))] [(.int (endsF [(pickF x0), (pickF x1)] 0))]
        refine Go.iload H at_231 rfl rfl ?_
        refine Go.icmpN H at_233 (teq (by simp [endsF, c79, c80])).2 rfl ?_
        refine Go.iconst (1 : Int32) H at_236 rfl rfl ?_
        refine Go.goto (pc' := 241) H at_237 (by decide) (by decide) ?_
        exact Go.ireturn 1 [] H at_241 (by simp) (by decide) ⟨rfl, trivial⟩ all0 (by decide) (by decide)
  ·
    show Go _ _ _ _ _ _ h13 [a1] 1 3 49 #[.val (.int x0), .val (.int x1), .val (.int x2), .val (.int n), .val (.int a), .val (.int (2 : Int32)), .val (.int (1 : Int32)), .val (.ref a1), .unset, .unset, .unset, .unset] []
    refine Go.iload H at_49 rfl rfl ?_
    refine Go.iconst (1 : Int32) H at_51 rfl rfl ?_
    refine Go.icmpY (pc' := 77) H at_52 (by decide) (by decide) (by decide) ?_
    refine Go.iload H at_77 rfl rfl ?_
    refine Go.iconst (2 : Int32) H at_79 rfl rfl ?_
    refine Go.icmpN H at_80 (by decide) rfl ?_
    refine Go.new H at_83 rfl w6 w7 w8 (by decide) (by decide) ?_
    intro a82 h83 g84 z85 E86 A87 D88
    have ne89 : a1 ≠ a82 := Nat.ne_of_lt (Nat.lt_of_lt_of_le F15.lt (Nat.le_of_eq g84.symm))
    replace F15 := F15.ext E86
    have F90 : Fld Z h83 a82 "java/lang/String" "coder" "B" (.int (0 : Int32)) := D88 (Or.inr w32) (ty := .byte) (by decide)
    have F91 : Fld Z h83 a82 "java/lang/String" "value" "[B" .null := D88 (Or.inr w34) (ty := (.array .byte)) (by decide)
    show Go _ _ _ _ _ _ h83 [a82, a1] 2 7 86 #[.val (.int x0), .val (.int x1), .val (.int x2), .val (.int n), .val (.int a), .val (.int (2 : Int32)), .val (.int (1 : Int32)), .val (.ref a1), .unset, .unset, .unset, .unset] [(.ref a82)]
    refine Go.dup H at_86 rfl rfl ?_
    refine Go.iconst (2 : Int32) H at_87 rfl rfl ?_
    refine Go.newarray 2 2 H at_88 rfl w1 rfl (by decide) (by decide) (by decide) (by decide) (by decide) (by decide) (by decide) ?_
    intro a92 h93 g94 z95 E96 F97
    have ne98 : a1 ≠ a92 := Nat.ne_of_lt (Nat.lt_of_lt_of_le F15.lt (Nat.le_of_eq g94.symm))
    have ne99 : a82 ≠ a92 := Nat.ne_of_lt (Nat.lt_of_lt_of_le A87.lt (Nat.le_of_eq g94.symm))
    replace F15 := F15.ext E96
    replace A87 := A87.ext E96
    replace F90 := F90.ext E96
    replace F91 := F91.ext E96
    replace F97 : Vec Z h93 a92 .char [(0 : Int32), (0 : Int32)] := F97
    show Go _ _ _ _ _ _ h93 [a92, a82, a1] 3 9 90 #[.val (.int x0), .val (.int x1), .val (.int x2), .val (.int n), .val (.int a), .val (.int (2 : Int32)), .val (.int (1 : Int32)), .val (.ref a1), .unset, .unset, .unset, .unset] [(.ref a92), (.ref a82), (.ref a82)]
    refine Go.dup H at_90 rfl rfl ?_
    refine Go.iconst (0 : Int32) H at_91 rfl rfl ?_
    refine Go.aload H at_92 rfl rfl rfl ?_
    refine Go.iconst (0 : Int32) H at_94 rfl rfl ?_
    refine Go.caload (v := (pickF x0)) H at_95 rfl F15 0 (by decide) (by decide) rfl ?_
    refine Go.castore (pickF x0) H at_96 rfl F97 0 (by decide) (by decide) (Nat.le_of_ble_eq_true rfl) (pickF_c _) z95 (by simp) ?_
    intro h100 K101 F102
    replace F15 := F15.keep K101 (ninS ne98 nin0)
    replace A87 := A87.keep K101
    replace F90 := F90.keep K101 (ninS ne99 nin0)
    replace F91 := F91.keep K101 (ninS ne99 nin0)
    replace F102 : Vec Z h100 a92 .char [(pickF x0), (0 : Int32)] := F102
    refine Go.dup H at_97 rfl rfl ?_
    refine Go.iconst (1 : Int32) H at_98 rfl rfl ?_
    refine Go.aload H at_99 rfl rfl rfl ?_
    refine Go.iconst (1 : Int32) H at_101 rfl rfl ?_
    refine Go.caload (v := (pickF x1)) H at_102 rfl F15 1 (by decide) (by decide) rfl ?_
    refine Go.castore (pickF x1) H at_103 rfl F102 1 (by decide) (by decide) (Nat.le_of_ble_eq_true rfl) (pickF_c _) z95 (by simp) ?_
    intro h103 K104 F105
    replace F15 := F15.keep K104 (ninS ne98 nin0)
    replace A87 := A87.keep K104
    replace F90 := F90.keep K104 (ninS ne99 nin0)
    replace F91 := F91.keep K104 (ninS ne99 nin0)
    replace F105 : Vec Z h103 a92 .char [(pickF x0), (pickF x1)] := F105
    refine Go.callI (rest := [(.ref a82)]) 1 [(.ref a92)] H at_104 rfl rfl w9 w10 w8 w11 pd_N6 (ct_new1 l W a82 a92 [(pickF x0), (pickF x1)] h103 A87 F91 F90 F105 (own_ac (pickF_l _) (own_ac (pickF_l _) own_an)) (Nat.le_of_ble_eq_true rfl) (Nat.le_of_ble_eq_true rfl) z85) (by simp) rfl rfl rfl (Nat.le_of_eq rfl) (by decide) (by decide) (by decide) (by decide) nh_N5 ?_
    rintro _ h106 _ ⟨rfl, K107, ⟨b108, g109, S110⟩, rfl⟩
    have ne111 : a1 ≠ b108 := Nat.ne_of_lt (Nat.lt_of_lt_of_le F15.lt g109)
    have ne112 : a82 ≠ b108 := Nat.ne_of_lt (Nat.lt_of_lt_of_le A87.lt g109)
    have ne113 : a92 ≠ b108 := Nat.ne_of_lt (Nat.lt_of_lt_of_le F105.lt g109)
    replace F15 := F15.keep K107 (ninS ne89 nin0)
    replace F105 := F105.keep K107 (ninS (Ne.symm ne99) nin0)
    show Go _ _ _ _ _ _ h106 [a92, a82, a1] 4 12 107 #[.val (.int x0), .val (.int x1), .val (.int x2), .val (.int n), .val (.int a), .val (.int (2 : Int32)), .val (.int (1 : Int32)), .val (.ref a1), .unset, .unset, .unset, .unset] [(.ref a82)]
    refine Go.astore (ls' := #[.val (.int x0), .val (.int x1), .val (.int x2), .val (.int n), .val (.int a), .val (.int (2 : Int32)), .val (.int (1 : Int32)), .val (.ref a1), .val (.ref a82), .unset, .unset, .unset]) H at_107 rfl rfl rfl ?_
    refine Go.goto (pc' := 145) H at_109 (by decide) (by decide) ?_
    refine Go.aload H at_145 rfl rfl rfl ?_
    refine Go.iload H at_147 rfl rfl ?_
    refine Go.caload (v := (pickF x1)) H at_149 rfl F15 1 (by decide) (by decide) rfl ?_
    refine Go.istore (ls' := #[.val (.int x0), .val (.int x1), .val (.int x2), .val (.int n), .val (.int a), .val (.int (2 : Int32)), .val (.int (1 : Int32)), .val (.ref a1), .val (.ref a82), .val (.int (pickF x1)), .unset, .unset]) H at_150 rfl rfl ?_
    refine Go.iload H at_152 rfl rfl ?_
    refine Go.iconst (1 : Int32) H at_154 rfl rfl ?_
    refine Go.iadd H at_155 rfl ?_
    show Go _ _ _ _ _ _ h106 [a92, a82, a1] 4 12 156 #[.val (.int x0), .val (.int x1), .val (.int x2), .val (.int n), .val (.int a), .val (.int (2 : Int32)), .val (.int (1 : Int32)), .val (.ref a1), .val (.ref a82), .val (.int (pickF x1)), .unset, .unset] [(.int (2 : Int32))]
    refine Go.iload H at_156 rfl rfl ?_
    refine Go.icmpY (pc' := 165) H at_158 (by decide) (by decide) (by decide) ?_
    refine Go.iconst (0 : Int32) H at_165 rfl rfl ?_
    refine Go.istore (ls' := #[.val (.int x0), .val (.int x1), .val (.int x2), .val (.int n), .val (.int a), .val (.int (2 : Int32)), .val (.int (1 : Int32)), .val (.ref a1), .val (.ref a82), .val (.int (pickF x1)), .val (.int (0 : Int32)), .unset]) H at_166 rfl rfl ?_
    refine Go.iload H at_168 rfl rfl ?_
    refine Go.bipush (10 : Int32) H at_170 rfl rfl ?_
    by_cases c114 : (pickF x1) = (10 : Int32)
    ·
      refine Go.icmpN H at_172 (teq c114).2 rfl ?_
      refine Go.iconst (1 : Int32) H at_175 rfl rfl ?_
      refine Go.istore (ls' := #[.val (.int x0), .val (.int x1), .val (.int x2), .val (.int n), .val (.int a), .val (.int (2 : Int32)), .val (.int (1 : Int32)), .val (.ref a1), .val (.ref a82), .val (.int (pickF x1)), .val (.int (0 : Int32)), .val (.int (1 : Int32))]) H at_176 rfl rfl ?_
      refine Go.goto (pc' := 224) H at_178 (by decide) (by decide) ?_
      refine Go.aload H at_224 rfl rfl rfl ?_
      refine Go.iload H at_226 rfl rfl ?_
      refine Go.callS (rest := []) 0 [(.ref a82), (.int (1 : Int32))] H at_228 rfl w35 w36 w37 w38 pd_N14 (ct_ends l W a82 b108 [(pickF x0), (pickF x1)] 1 h106 S110 (Nat.le_of_ble_eq_true rfl)) all0 rfl rfl rfl (Nat.le_of_eq rfl) (by decide) (by decide) (by decide) (by decide) nh_N14 ?_
      rintro _ _ _ ⟨rfl, rfl, rfl⟩
      show Go _ _ _ _ _ _ h106 [a92, a82, a1] 4 12 231 #[.val (.int x0), .val (.int x1), .val (.int x2), .val (.int n), .val (.int a), .val (.int (2 : Int32)), .val (.int (1 : Int32)), .val (.ref a1), .val (.ref a82), .val (.int (pickF x1)), .val (.int (0 : Int32)), .val (.int (1 : Int32))] [(.int (endsF [(pickF x0), (pickF x1)] 1))]
      refine Go.iload H at_231 rfl rfl ?_
      refine Go.icmpN H at_233 (teq (by simp [endsF, c114])).2 rfl ?_
      refine Go.iconst (1 : Int32) H at_236 rfl rfl ?_
      refine Go.goto (pc' := 241) H at_237 (by decide) (by decide) ?_
      exact Go.ireturn 1 [] H at_241 (by simp) (by decide) ⟨rfl, trivial⟩ all0 (by decide) (by decide)
    ·
      refine Go.icmpY (pc' := 181) H at_172 (feq c114).2 (by decide) (by decide) ?_
      refine Go.iload H at_181 rfl rfl ?_
      refine Go.bipush (13 : Int32) H at_183 rfl rfl ?_
      by_cases c115 : (pickF x1) = (13 : Int32)
      ·
        refine Go.icmpN H at_185 (teq c115).2 rfl ?_
        refine Go.iload H at_188 rfl rfl ?_
        refine Go.ifY (pc' := 215) H at_190 (by decide) (by decide) (by decide) ?_
        refine Go.iconst (1 : Int32) H at_215 rfl rfl ?_
        refine Go.istore (ls' := #[.val (.int x0), .val (.int x1), .val (.int x2), .val (.int n), .val (.int a), .val (.int (2 : Int32)), .val (.int (1 : Int32)), .val (.ref a1), .val (.ref a82), .val (.int (pickF x1)), .val (.int (0 : Int32)), .val (.int (1 : Int32))]) H at_216 rfl rfl ?_
        refine Go.goto (pc' := 224) H at_218 (by decide) (by decide) ?_
        refine Go.aload H at_224 rfl rfl rfl ?_
        refine Go.iload H at_226 rfl rfl ?_
        refine Go.callS (rest := []) 0 [(.ref a82), (.int (1 : Int32))] H at_228 rfl w35 w36 w37 w38 pd_N14 (ct_ends l W a82 b108 [(pickF x0), (pickF x1)] 1 h106 S110 (Nat.le_of_ble_eq_true rfl)) all0 rfl rfl rfl (Nat.le_of_eq rfl) (by decide) (by decide) (by decide) (by decide) nh_N14 ?_
        rintro _ _ _ ⟨rfl, rfl, rfl⟩
        show Go _ _ _ _ _ _ h106 [a92, a82, a1] 4 12 231 #[.val (.int x0), .val (.int x1), .val (.int x2), .val (.int n), .val (.int a), .val (.int (2 : Int32)), .val (.int (1 : Int32)), .val (.ref a1), .val (.ref a82), .val (.int (pickF x1)), .val (.int (0 : Int32)), .val (.int (1 : Int32))] [(.int (endsF [(pickF x0), (pickF x1)] 1))]
        refine Go.iload H at_231 rfl rfl ?_
        refine Go.icmpN H at_233 (teq (by simp [endsF, c114, c115])).2 rfl ?_
        refine Go.iconst (1 : Int32) H at_236 rfl rfl ?_
        refine Go.goto (pc' := 241) H at_237 (by decide) (by decide) ?_
        exact Go.ireturn 1 [] H at_241 (by simp) (by decide) ⟨rfl, trivial⟩ all0 (by decide) (by decide)
      ·
        refine Go.icmpY (pc' := 221) H at_185 (feq c115).2 (by decide) (by decide) ?_
        refine Go.iconst (0 : Int32) H at_221 rfl rfl ?_
        refine Go.istore (ls' := #[.val (.int x0), .val (.int x1), .val (.int x2), .val (.int n), .val (.int a), .val (.int (2 : Int32)), .val (.int (1 : Int32)), .val (.ref a1), .val (.ref a82), .val (.int (pickF x1)), .val (.int (0 : Int32)), .val (.int (0 : Int32))]) H at_222 rfl rfl ?_
        refine Go.aload H at_224 rfl rfl rfl ?_
        refine Go.iload H at_226 rfl rfl ?_
        refine Go.callS (rest := []) 0 [(.ref a82), (.int (1 : Int32))] H at_228 rfl w35 w36 w37 w38 pd_N14 (ct_ends l W a82 b108 [(pickF x0), (pickF x1)] 1 h106 S110 (Nat.le_of_ble_eq_true rfl)) all0 rfl rfl rfl (Nat.le_of_eq rfl) (by decide) (by decide) (by decide) (by decide) nh_N14 ?_
        rintro _ _ _ ⟨rfl, rfl, rfl⟩
        show Go _ _ _ _ _ _ h106 [a92, a82, a1] 4 12 231 #[.val (.int x0), .val (.int x1), .val (.int x2), .val (.int n), .val (.int a), .val (.int (2 : Int32)), .val (.int (1 : Int32)), .val (.ref a1), .val (.ref a82), .val (.int (pickF x1)), .val (.int (0 : Int32)), .val (.int (0 : Int32))] [(.int (endsF [(pickF x0), (pickF x1)] 1))]
        refine Go.iload H at_231 rfl rfl ?_
        refine Go.icmpN H at_233 (teq (by simp [endsF, c114, c115])).2 rfl ?_
        refine Go.iconst (1 : Int32) H at_236 rfl rfl ?_
        refine Go.goto (pc' := 241) H at_237 (by decide) (by decide) ?_
        exact Go.ireturn 1 [] H at_241 (by simp) (by decide) ⟨rfl, trivial⟩ all0 (by decide) (by decide)
  ·
    show Go _ _ _ _ _ _ h13 [a1] 1 3 49 #[.val (.int x0), .val (.int x1), .val (.int x2), .val (.int n), .val (.int a), .val (.int (3 : Int32)), .val (.int (0 : Int32)), .val (.ref a1), .unset, .unset, .unset, .unset] []
    refine Go.iload H at_49 rfl rfl ?_
    refine Go.iconst (1 : Int32) H at_51 rfl rfl ?_
    refine Go.icmpY (pc' := 77) H at_52 (by decide) (by decide) (by decide) ?_
    refine Go.iload H at_77 rfl rfl ?_
    refine Go.iconst (2 : Int32) H at_79 rfl rfl ?_
    refine Go.icmpY (pc' := 112) H at_80 (by decide) (by decide) (by decide) ?_
    refine Go.new H at_112 rfl w6 w7 w8 (by decide) (by decide) ?_
    intro a116 h117 g118 z119 E120 A121 D122
    have ne123 : a1 ≠ a116 := Nat.ne_of_lt (Nat.lt_of_lt_of_le F15.lt (Nat.le_of_eq g118.symm))
    replace F15 := F15.ext E120
    have F124 : Fld Z h117 a116 "java/lang/String" "coder" "B" (.int (0 : Int32)) := D122 (Or.inr w32) (ty := .byte) (by decide)
    have F125 : Fld Z h117 a116 "java/lang/String" "value" "[B" .null := D122 (Or.inr w34) (ty := (.array .byte)) (by decide)
    show Go _ _ _ _ _ _ h117 [a116, a1] 2 7 115 #[.val (.int x0), .val (.int x1), .val (.int x2), .val (.int n), .val (.int a), .val (.int (3 : Int32)), .val (.int (0 : Int32)), .val (.ref a1), .unset, .unset, .unset, .unset] [(.ref a116)]
    refine Go.dup H at_115 rfl rfl ?_
    refine Go.iconst (3 : Int32) H at_116 rfl rfl ?_
    refine Go.newarray 3 3 H at_117 rfl w1 rfl (by decide) (by decide) (by decide) (by decide) (by decide) (by decide) (by decide) ?_
    intro a126 h127 g128 z129 E130 F131
    have ne132 : a1 ≠ a126 := Nat.ne_of_lt (Nat.lt_of_lt_of_le F15.lt (Nat.le_of_eq g128.symm))
    have ne133 : a116 ≠ a126 := Nat.ne_of_lt (Nat.lt_of_lt_of_le A121.lt (Nat.le_of_eq g128.symm))
    replace F15 := F15.ext E130
    replace A121 := A121.ext E130
    replace F124 := F124.ext E130
    replace F125 := F125.ext E130
    replace F131 : Vec Z h127 a126 .char [(0 : Int32), (0 : Int32), (0 : Int32)] := F131
    show Go _ _ _ _ _ _ h127 [a126, a116, a1] 3 10 119 #[.val (.int x0), .val (.int x1), .val (.int x2), .val (.int n), .val (.int a), .val (.int (3 : Int32)), .val (.int (0 : Int32)), .val (.ref a1), .unset, .unset, .unset, .unset] [(.ref a126), (.ref a116), (.ref a116)]
    refine Go.dup H at_119 rfl rfl ?_
    refine Go.iconst (0 : Int32) H at_120 rfl rfl ?_
    refine Go.aload H at_121 rfl rfl rfl ?_
    refine Go.iconst (0 : Int32) H at_123 rfl rfl ?_
    refine Go.caload (v := (pickF x0)) H at_124 rfl F15 0 (by decide) (by decide) rfl ?_
    refine Go.castore (pickF x0) H at_125 rfl F131 0 (by decide) (by decide) (Nat.le_of_ble_eq_true rfl) (pickF_c _) z129 (by simp) ?_
    intro h134 K135 F136
    replace F15 := F15.keep K135 (ninS ne132 nin0)
    replace A121 := A121.keep K135
    replace F124 := F124.keep K135 (ninS ne133 nin0)
    replace F125 := F125.keep K135 (ninS ne133 nin0)
    replace F136 : Vec Z h134 a126 .char [(pickF x0), (0 : Int32), (0 : Int32)] := F136
    refine Go.dup H at_126 rfl rfl ?_
    refine Go.iconst (1 : Int32) H at_127 rfl rfl ?_
    refine Go.aload H at_128 rfl rfl rfl ?_
    refine Go.iconst (1 : Int32) H at_130 rfl rfl ?_
    refine Go.caload (v := (pickF x1)) H at_131 rfl F15 1 (by decide) (by decide) rfl ?_
    refine Go.castore (pickF x1) H at_132 rfl F136 1 (by decide) (by decide) (Nat.le_of_ble_eq_true rfl) (pickF_c _) z129 (by simp) ?_
    intro h137 K138 F139
    replace F15 := F15.keep K138 (ninS ne132 nin0)
    replace A121 := A121.keep K138
    replace F124 := F124.keep K138 (ninS ne133 nin0)
    replace F125 := F125.keep K138 (ninS ne133 nin0)
    replace F139 : Vec Z h137 a126 .char [(pickF x0), (pickF x1), (0 : Int32)] := F139
    refine Go.dup H at_133 rfl rfl ?_
    refine Go.iconst (2 : Int32) H at_134 rfl rfl ?_
    refine Go.aload H at_135 rfl rfl rfl ?_
    refine Go.iconst (2 : Int32) H at_137 rfl rfl ?_
    refine Go.caload (v := (pickF x2)) H at_138 rfl F15 2 (by decide) (by decide) rfl ?_
    refine Go.castore (pickF x2) H at_139 rfl F139 2 (by decide) (by decide) (Nat.le_of_ble_eq_true rfl) (pickF_c _) z129 (by simp) ?_
    intro h140 K141 F142
    replace F15 := F15.keep K141 (ninS ne132 nin0)
    replace A121 := A121.keep K141
    replace F124 := F124.keep K141 (ninS ne133 nin0)
    replace F125 := F125.keep K141 (ninS ne133 nin0)
    replace F142 : Vec Z h140 a126 .char [(pickF x0), (pickF x1), (pickF x2)] := F142
    refine Go.callI (rest := [(.ref a116)]) 1 [(.ref a126)] H at_140 rfl rfl w9 w10 w8 w11 pd_N6 (ct_new1 l W a116 a126 [(pickF x0), (pickF x1), (pickF x2)] h140 A121 F125 F124 F142 (own_ac (pickF_l _) (own_ac (pickF_l _) (own_ac (pickF_l _) own_an))) (Nat.le_of_ble_eq_true rfl) (Nat.le_of_ble_eq_true rfl) z119) (by simp) rfl rfl rfl (Nat.le_of_eq rfl) (by decide) (by decide) (by decide) (by decide) nh_N5 ?_
    rintro _ h143 _ ⟨rfl, K144, ⟨b145, g146, S147⟩, rfl⟩
    have ne148 : a1 ≠ b145 := Nat.ne_of_lt (Nat.lt_of_lt_of_le F15.lt g146)
    have ne149 : a116 ≠ b145 := Nat.ne_of_lt (Nat.lt_of_lt_of_le A121.lt g146)
    have ne150 : a126 ≠ b145 := Nat.ne_of_lt (Nat.lt_of_lt_of_le F142.lt g146)
    replace F15 := F15.keep K144 (ninS ne123 nin0)
    replace F142 := F142.keep K144 (ninS (Ne.symm ne133) nin0)
    show Go _ _ _ _ _ _ h143 [a126, a116, a1] 4 13 143 #[.val (.int x0), .val (.int x1), .val (.int x2), .val (.int n), .val (.int a), .val (.int (3 : Int32)), .val (.int (0 : Int32)), .val (.ref a1), .unset, .unset, .unset, .unset] [(.ref a116)]
    refine Go.astore (ls' := #[.val (.int x0), .val (.int x1), .val (.int x2), .val (.int n), .val (.int a), .val (.int (3 : Int32)), .val (.int (0 : Int32)), .val (.ref a1), .val (.ref a116), .unset, .unset, .unset]) H at_143 rfl rfl rfl ?_
    refine Go.aload H at_145 rfl rfl rfl ?_
    refine Go.iload H at_147 rfl rfl ?_
    refine Go.caload (v := (pickF x0)) H at_149 rfl F15 0 (by decide) (by decide) rfl ?_
    refine Go.istore (ls' := #[.val (.int x0), .val (.int x1), .val (.int x2), .val (.int n), .val (.int a), .val (.int (3 : Int32)), .val (.int (0 : Int32)), .val (.ref a1), .val (.ref a116), .val (.int (pickF x0)), .unset, .unset]) H at_150 rfl rfl ?_
    refine Go.iload H at_152 rfl rfl ?_
    refine Go.iconst (1 : Int32) H at_154 rfl rfl ?_
    refine Go.iadd H at_155 rfl ?_
    show Go _ _ _ _ _ _ h143 [a126, a116, a1] 4 13 156 #[.val (.int x0), .val (.int x1), .val (.int x2), .val (.int n), .val (.int a), .val (.int (3 : Int32)), .val (.int (0 : Int32)), .val (.ref a1), .val (.ref a116), .val (.int (pickF x0)), .unset, .unset] [(.int (1 : Int32))]
    refine Go.iload H at_156 rfl rfl ?_
    refine Go.icmpN H at_158 (by decide) rfl ?_
    refine Go.iconst (1 : Int32) H at_161 rfl rfl ?_
    refine Go.goto (pc' := 166) H at_162 (by decide) (by decide) ?_
    refine Go.istore (ls' := #[.val (.int x0), .val (.int x1), .val (.int x2), .val (.int n), .val (.int a), .val (.int (3 : Int32)), .val (.int (0 : Int32)), .val (.ref a1), .val (.ref a116), .val (.int (pickF x0)), .val (.int (1 : Int32)), .unset]) H at_166 rfl rfl ?_
    refine Go.iload H at_168 rfl rfl ?_
    refine Go.bipush (10 : Int32) H at_170 rfl rfl ?_
    by_cases c151 : (pickF x0) = (10 : Int32)
    ·
      refine Go.icmpN H at_172 (teq c151).2 rfl ?_
      refine Go.iconst (1 : Int32) H at_175 rfl rfl ?_
      refine Go.istore (ls' := #[.val (.int x0), .val (.int x1), .val (.int x2), .val (.int n), .val (.int a), .val (.int (3 : Int32)), .val (.int (0 : Int32)), .val (.ref a1), .val (.ref a116), .val (.int (pickF x0)), .val (.int (1 : Int32)), .val (.int (1 : Int32))]) H at_176 rfl rfl ?_
      refine Go.goto (pc' := 224) H at_178 (by decide) (by decide) ?_
      refine Go.aload H at_224 rfl rfl rfl ?_
      refine Go.iload H at_226 rfl rfl ?_
      refine Go.callS (rest := []) 0 [(.ref a116), (.int (0 : Int32))] H at_228 rfl w35 w36 w37 w38 pd_N14 (ct_ends l W a116 b145 [(pickF x0), (pickF x1), (pickF x2)] 0 h143 S147 (Nat.le_of_ble_eq_true rfl)) all0 rfl rfl rfl (Nat.le_of_eq rfl) (by decide) (by decide) (by decide) (by decide) nh_N14 ?_
      rintro _ _ _ ⟨rfl, rfl, rfl⟩
      show Go _ _ _ _ _ _ h143 [a126, a116, a1] 4 13 231 #[.val (.int x0), .val (.int x1), .val (.int x2), .val (.int n), .val (.int a), .val (.int (3 : Int32)), .val (.int (0 : Int32)), .val (.ref a1), .val (.ref a116), .val (.int (pickF x0)), .val (.int (1 : Int32)), .val (.int (1 : Int32))] [(.int (endsF [(pickF x0), (pickF x1), (pickF x2)] 0))]
      refine Go.iload H at_231 rfl rfl ?_
      refine Go.icmpN H at_233 (teq (by simp [endsF, c151])).2 rfl ?_
      refine Go.iconst (1 : Int32) H at_236 rfl rfl ?_
      refine Go.goto (pc' := 241) H at_237 (by decide) (by decide) ?_
      exact Go.ireturn 1 [] H at_241 (by simp) (by decide) ⟨rfl, trivial⟩ all0 (by decide) (by decide)
    ·
      refine Go.icmpY (pc' := 181) H at_172 (feq c151).2 (by decide) (by decide) ?_
      refine Go.iload H at_181 rfl rfl ?_
      refine Go.bipush (13 : Int32) H at_183 rfl rfl ?_
      by_cases c152 : (pickF x0) = (13 : Int32)
      ·
        refine Go.icmpN H at_185 (teq c152).2 rfl ?_
        refine Go.iload H at_188 rfl rfl ?_
        refine Go.ifN H at_190 (by decide) rfl ?_
        refine Go.aload H at_193 rfl rfl rfl ?_
        refine Go.iload H at_195 rfl rfl ?_
        refine Go.iconst (1 : Int32) H at_197 rfl rfl ?_
        refine Go.iadd H at_198 rfl ?_
        show Go _ _ _ _ _ _ h143 [a126, a116, a1] 4 13 199 #[.val (.int x0), .val (.int x1), .val (.int x2), .val (.int n), .val (.int a), .val (.int (3 : Int32)), .val (.int (0 : Int32)), .val (.ref a1), .val (.ref a116), .val (.int (pickF x0)), .val (.int (1 : Int32)), .unset] [(.int (1 : Int32)), (.ref a1)]
        refine Go.caload (v := (pickF x1)) H at_199 rfl F15 1 (by decide) (by decide) rfl ?_
        refine Go.bipush (10 : Int32) H at_200 rfl rfl ?_
        by_cases c153 : (pickF x1) = (10 : Int32)
        ·
          refine Go.icmpY (pc' := 209) H at_202 (teq c153).1 (by decide) (by decide) ?_
          refine Go.iconst (0 : Int32) H at_209 rfl rfl ?_
          refine Go.istore (ls' := #[.val (.int x0), .val (.int x1), .val (.int x2), .val (.int n), .val (.int a), .val (.int (3 : Int32)), .val (.int (0 : Int32)), .val (.ref a1), .val (.ref a116), .val (.int (pickF x0)), .val (.int (1 : Int32)), .val (.int (0 : Int32))]) H at_210 rfl rfl ?_
          refine Go.goto (pc' := 224) H at_212 (by decide) (by decide) ?_
          refine Go.aload H at_224 rfl rfl rfl ?_
          refine Go.iload H at_226 rfl rfl ?_
          refine Go.callS (rest := []) 0 [(.ref a116), (.int (0 : Int32))] H at_228 rfl w35 w36 w37 w38 pd_N14 (ct_ends l W a116 b145 [(pickF x0), (pickF x1), (pickF x2)] 0 h143 S147 (Nat.le_of_ble_eq_true rfl)) all0 rfl rfl rfl (Nat.le_of_eq rfl) (by decide) (by decide) (by decide) (by decide) nh_N14 ?_
          rintro _ _ _ ⟨rfl, rfl, rfl⟩
          show Go _ _ _ _ _ _ h143 [a126, a116, a1] 4 13 231 #[.val (.int x0), .val (.int x1), .val (.int x2), .val (.int n), .val (.int a), .val (.int (3 : Int32)), .val (.int (0 : Int32)), .val (.ref a1), .val (.ref a116), .val (.int (pickF x0)), .val (.int (1 : Int32)), .val (.int (0 : Int32))] [(.int (endsF [(pickF x0), (pickF x1), (pickF x2)] 0))]
          refine Go.iload H at_231 rfl rfl ?_
          refine Go.icmpN H at_233 (teq (by simp [endsF, c151, c152, c153])).2 rfl ?_
          refine Go.iconst (1 : Int32) H at_236 rfl rfl ?_
          refine Go.goto (pc' := 241) H at_237 (by decide) (by decide) ?_
          exact Go.ireturn 1 [] H at_241 (by simp) (by decide) ⟨rfl, trivial⟩ all0 (by decide) (by decide)
        ·
          refine Go.icmpN H at_202 (feq c153).1 rfl ?_
          refine Go.iconst (1 : Int32) H at_205 rfl rfl ?_
          refine Go.goto (pc' := 210) H at_206 (by decide) (by decide) ?_
          refine Go.istore (ls' := #[.val (.int x0), .val (.int x1), .val (.int x2), .val (.int n), .val (.int a), .val (.int (3 : Int32)), .val (.int (0 : Int32)), .val (.ref a1), .val (.ref a116), .val (.int (pickF x0)), .val (.int (1 : Int32)), .val (.int (1 : Int32))]) H at_210 rfl rfl ?_
          refine Go.goto (pc' := 224) H at_212 (by decide) (by decide) ?_
          refine Go.aload H at_224 rfl rfl rfl ?_
          refine Go.iload H at_226 rfl rfl ?_
          refine Go.callS (rest := []) 0 [(.ref a116), (.int (0 : Int32))] H at_228 rfl w35 w36 w37 w38 pd_N14 (ct_ends l W a116 b145 [(pickF x0), (pickF x1), (pickF x2)] 0 h143 S147 (Nat.le_of_ble_eq_true rfl)) all0 rfl rfl rfl (Nat.le_of_eq rfl) (by decide) (by decide) (by decide) (by decide) nh_N14 ?_
          rintro _ _ _ ⟨rfl, rfl, rfl⟩
          show Go _ _ _ _ _ _ h143 [a126, a116, a1] 4 13 231 #[.val (.int x0), .val (.int x1), .val (.int x2), .val (.int n), .val (.int a), .val (.int (3 : Int32)), .val (.int (0 : Int32)), .val (.ref a1), .val (.ref a116), .val (.int (pickF x0)), .val (.int (1 : Int32)), .val (.int (1 : Int32))] [(.int (endsF [(pickF x0), (pickF x1), (pickF x2)] 0))]
          refine Go.iload H at_231 rfl rfl ?_
          refine Go.icmpN H at_233 (teq (by simp [endsF, c151, c152, c153])).2 rfl ?_
          refine Go.iconst (1 : Int32) H at_236 rfl rfl ?_
          refine Go.goto (pc' := 241) H at_237 (by decide) (by decide) ?_
          exact Go.ireturn 1 [] H at_241 (by simp) (by decide) ⟨rfl, trivial⟩ all0 (by decide) (by decide)
      ·
        refine Go.icmpY (pc' := 221) H at_185 (feq c152).2 (by decide) (by decide) ?_
        refine Go.iconst (0 : Int32) H at_221 rfl rfl ?_
        refine Go.istore (ls' := #[.val (.int x0), .val (.int x1), .val (.int x2), .val (.int n), .val (.int a), .val (.int (3 : Int32)), .val (.int (0 : Int32)), .val (.ref a1), .val (.ref a116), .val (.int (pickF x0)), .val (.int (1 : Int32)), .val (.int (0 : Int32))]) H at_222 rfl rfl ?_
        refine Go.aload H at_224 rfl rfl rfl ?_
        refine Go.iload H at_226 rfl rfl ?_
        refine Go.callS (rest := []) 0 [(.ref a116), (.int (0 : Int32))] H at_228 rfl w35 w36 w37 w38 pd_N14 (ct_ends l W a116 b145 [(pickF x0), (pickF x1), (pickF x2)] 0 h143 S147 (Nat.le_of_ble_eq_true rfl)) all0 rfl rfl rfl (Nat.le_of_eq rfl) (by decide) (by decide) (by decide) (by decide) nh_N14 ?_
        rintro _ _ _ ⟨rfl, rfl, rfl⟩
        show Go _ _ _ _ _ _ h143 [a126, a116, a1] 4 13 231 #[.val (.int x0), .val (.int x1), .val (.int x2), .val (.int n), .val (.int a), .val (.int (3 : Int32)), .val (.int (0 : Int32)), .val (.ref a1), .val (.ref a116), .val (.int (pickF x0)), .val (.int (1 : Int32)), .val (.int (0 : Int32))] [(.int (endsF [(pickF x0), (pickF x1), (pickF x2)] 0))]
        refine Go.iload H at_231 rfl rfl ?_
        refine Go.icmpN H at_233 (teq (by simp [endsF, c151, c152])).2 rfl ?_
        refine Go.iconst (1 : Int32) H at_236 rfl rfl ?_
        refine Go.goto (pc' := 241) H at_237 (by decide) (by decide) ?_
        exact Go.ireturn 1 [] H at_241 (by simp) (by decide) ⟨rfl, trivial⟩ all0 (by decide) (by decide)
  ·
    show Go _ _ _ _ _ _ h13 [a1] 1 3 49 #[.val (.int x0), .val (.int x1), .val (.int x2), .val (.int n), .val (.int a), .val (.int (3 : Int32)), .val (.int (1 : Int32)), .val (.ref a1), .unset, .unset, .unset, .unset] []
    refine Go.iload H at_49 rfl rfl ?_
    refine Go.iconst (1 : Int32) H at_51 rfl rfl ?_
    refine Go.icmpY (pc' := 77) H at_52 (by decide) (by decide) (by decide) ?_
    refine Go.iload H at_77 rfl rfl ?_
    refine Go.iconst (2 : Int32) H at_79 rfl rfl ?_
    refine Go.icmpY (pc' := 112) H at_80 (by decide) (by decide) (by decide) ?_
    refine Go.new H at_112 rfl w6 w7 w8 (by decide) (by decide) ?_
    intro a154 h155 g156 z157 E158 A159 D160
    have ne161 : a1 ≠ a154 := Nat.ne_of_lt (Nat.lt_of_lt_of_le F15.lt (Nat.le_of_eq g156.symm))
    replace F15 := F15.ext E158
    have F162 : Fld Z h155 a154 "java/lang/String" "coder" "B" (.int (0 : Int32)) := D160 (Or.inr w32) (ty := .byte) (by decide)
    have F163 : Fld Z h155 a154 "java/lang/String" "value" "[B" .null := D160 (Or.inr w34) (ty := (.array .byte)) (by decide)
    show Go _ _ _ _ _ _ h155 [a154, a1] 2 7 115 #[.val (.int x0), .val (.int x1), .val (.int x2), .val (.int n), .val (.int a), .val (.int (3 : Int32)), .val (.int (1 : Int32)), .val (.ref a1), .unset, .unset, .unset, .unset] [(.ref a154)]
    refine Go.dup H at_115 rfl rfl ?_
    refine Go.iconst (3 : Int32) H at_116 rfl rfl ?_
    refine Go.newarray 3 3 H at_117 rfl w1 rfl (by decide) (by decide) (by decide) (by decide) (by decide) (by decide) (by decide) ?_
    intro a164 h165 g166 z167 E168 F169
    have ne170 : a1 ≠ a164 := Nat.ne_of_lt (Nat.lt_of_lt_of_le F15.lt (Nat.le_of_eq g166.symm))
    have ne171 : a154 ≠ a164 := Nat.ne_of_lt (Nat.lt_of_lt_of_le A159.lt (Nat.le_of_eq g166.symm))
    replace F15 := F15.ext E168
    replace A159 := A159.ext E168
    replace F162 := F162.ext E168
    replace F163 := F163.ext E168
    replace F169 : Vec Z h165 a164 .char [(0 : Int32), (0 : Int32), (0 : Int32)] := F169
    show Go _ _ _ _ _ _ h165 [a164, a154, a1] 3 10 119 #[.val (.int x0), .val (.int x1), .val (.int x2), .val (.int n), .val (.int a), .val (.int (3 : Int32)), .val (.int (1 : Int32)), .val (.ref a1), .unset, .unset, .unset, .unset] [(.ref a164), (.ref a154), (.ref a154)]
    refine Go.dup H at_119 rfl rfl ?_
    refine Go.iconst (0 : Int32) H at_120 rfl rfl ?_
    refine Go.aload H at_121 rfl rfl rfl ?_
    refine Go.iconst (0 : Int32) H at_123 rfl rfl ?_
    refine Go.caload (v := (pickF x0)) H at_124 rfl F15 0 (by decide) (by decide) rfl ?_
    refine Go.castore (pickF x0) H at_125 rfl F169 0 (by decide) (by decide) (Nat.le_of_ble_eq_true rfl) (pickF_c _) z167 (by simp) ?_
    intro h172 K173 F174
    replace F15 := F15.keep K173 (ninS ne170 nin0)
    replace A159 := A159.keep K173
    replace F162 := F162.keep K173 (ninS ne171 nin0)
    replace F163 := F163.keep K173 (ninS ne171 nin0)
    replace F174 : Vec Z h172 a164 .char [(pickF x0), (0 : Int32), (0 : Int32)] := F174
    refine Go.dup H at_126 rfl rfl ?_
    refine Go.iconst (1 : Int32) H at_127 rfl rfl ?_
    refine Go.aload H at_128 rfl rfl rfl ?_
    refine Go.iconst (1 : Int32) H at_130 rfl rfl ?_
    refine Go.caload (v := (pickF x1)) H at_131 rfl F15 1 (by decide) (by decide) rfl ?_
    refine Go.castore (pickF x1) H at_132 rfl F174 1 (by decide) (by decide) (Nat.le_of_ble_eq_true rfl) (pickF_c _) z167 (by simp) ?_
    intro h175 K176 F177
    replace F15 := F15.keep K176 (ninS ne170 nin0)
    replace A159 := A159.keep K176
    replace F162 := F162.keep K176 (ninS ne171 nin0)
    replace F163 := F163.keep K176 (ninS ne171 nin0)
    replace F177 : Vec Z h175 a164 .char [(pickF x0), (pickF x1), (0 : Int32)] := F177
    refine Go.dup H at_133 rfl rfl ?_
    refine Go.iconst (2 : Int32) H at_134 rfl rfl ?_
    refine Go.aload H at_135 rfl rfl rfl ?_
    refine Go.iconst (2 : Int32) H at_137 rfl rfl ?_
    refine Go.caload (v := (pickF x2)) H at_138 rfl F15 2 (by decide) (by decide) rfl ?_
    refine Go.castore (pickF x2) H at_139 rfl F177 2 (by decide) (by decide) (Nat.le_of_ble_eq_true rfl) (pickF_c _) z167 (by simp) ?_
    intro h178 K179 F180
    replace F15 := F15.keep K179 (ninS ne170 nin0)
    replace A159 := A159.keep K179
    replace F162 := F162.keep K179 (ninS ne171 nin0)
    replace F163 := F163.keep K179 (ninS ne171 nin0)
    replace F180 : Vec Z h178 a164 .char [(pickF x0), (pickF x1), (pickF x2)] := F180
    refine Go.callI (rest := [(.ref a154)]) 1 [(.ref a164)] H at_140 rfl rfl w9 w10 w8 w11 pd_N6 (ct_new1 l W a154 a164 [(pickF x0), (pickF x1), (pickF x2)] h178 A159 F163 F162 F180 (own_ac (pickF_l _) (own_ac (pickF_l _) (own_ac (pickF_l _) own_an))) (Nat.le_of_ble_eq_true rfl) (Nat.le_of_ble_eq_true rfl) z157) (by simp) rfl rfl rfl (Nat.le_of_eq rfl) (by decide) (by decide) (by decide) (by decide) nh_N5 ?_
    rintro _ h181 _ ⟨rfl, K182, ⟨b183, g184, S185⟩, rfl⟩
    have ne186 : a1 ≠ b183 := Nat.ne_of_lt (Nat.lt_of_lt_of_le F15.lt g184)
    have ne187 : a154 ≠ b183 := Nat.ne_of_lt (Nat.lt_of_lt_of_le A159.lt g184)
    have ne188 : a164 ≠ b183 := Nat.ne_of_lt (Nat.lt_of_lt_of_le F180.lt g184)
    replace F15 := F15.keep K182 (ninS ne161 nin0)
    replace F180 := F180.keep K182 (ninS (Ne.symm ne171) nin0)
    show Go _ _ _ _ _ _ h181 [a164, a154, a1] 4 13 143 #[.val (.int x0), .val (.int x1), .val (.int x2), .val (.int n), .val (.int a), .val (.int (3 : Int32)), .val (.int (1 : Int32)), .val (.ref a1), .unset, .unset, .unset, .unset] [(.ref a154)]
    refine Go.astore (ls' := #[.val (.int x0), .val (.int x1), .val (.int x2), .val (.int n), .val (.int a), .val (.int (3 : Int32)), .val (.int (1 : Int32)), .val (.ref a1), .val (.ref a154), .unset, .unset, .unset]) H at_143 rfl rfl rfl ?_
    refine Go.aload H at_145 rfl rfl rfl ?_
    refine Go.iload H at_147 rfl rfl ?_
    refine Go.caload (v := (pickF x1)) H at_149 rfl F15 1 (by decide) (by decide) rfl ?_
    refine Go.istore (ls' := #[.val (.int x0), .val (.int x1), .val (.int x2), .val (.int n), .val (.int a), .val (.int (3 : Int32)), .val (.int (1 : Int32)), .val (.ref a1), .val (.ref a154), .val (.int (pickF x1)), .unset, .unset]) H at_150 rfl rfl ?_
    refine Go.iload H at_152 rfl rfl ?_
    refine Go.iconst (1 : Int32) H at_154 rfl rfl ?_
    refine Go.iadd H at_155 rfl ?_
    show Go _ _ _ _ _ _ h181 [a164, a154, a1] 4 13 156 #[.val (.int x0), .val (.int x1), .val (.int x2), .val (.int n), .val (.int a), .val (.int (3 : Int32)), .val (.int (1 : Int32)), .val (.ref a1), .val (.ref a154), .val (.int (pickF x1)), .unset, .unset] [(.int (2 : Int32))]
    refine Go.iload H at_156 rfl rfl ?_
    refine Go.icmpN H at_158 (by decide) rfl ?_
    refine Go.iconst (1 : Int32) H at_161 rfl rfl ?_
    refine Go.goto (pc' := 166) H at_162 (by decide) (by decide) ?_
    refine Go.istore (ls' := #[.val (.int x0), .val (.int x1), .val (.int x2), .val (.int n), .val (.int a), .val (.int (3 : Int32)), .val (.int (1 : Int32)), .val (.ref a1), .val (.ref a154), .val (.int (pickF x1)), .val (.int (1 : Int32)), .unset]) H at_166 rfl rfl ?_
    refine Go.iload H at_168 rfl rfl ?_
    refine Go.bipush (10 : Int32) H at_170 rfl rfl ?_
    by_cases c189 : (pickF x1) = (10 : Int32)
    ·
      refine Go.icmpN H at_172 (teq c189).2 rfl ?_
      refine Go.iconst (1 : Int32) H at_175 rfl rfl ?_
      refine Go.istore (ls' := #[.val (.int x0), .val (.int x1), .val (.int x2), .val (.int n), .val (.int a), .val (.int (3 : Int32)), .val (.int (1 : Int32)), .val (.ref a1), .val (.ref a154), .val (.int (pickF x1)), .val (.int (1 : Int32)), .val (.int (1 : Int32))]) H at_176 rfl rfl ?_
      refine Go.goto (pc' := 224) H at_178 (by decide) (by decide) ?_
      refine Go.aload H at_224 rfl rfl rfl ?_
      refine Go.iload H at_226 rfl rfl ?_
      refine Go.callS (rest := []) 0 [(.ref a154), (.int (1 : Int32))] H at_228 rfl w35 w36 w37 w38 pd_N14 (ct_ends l W a154 b183 [(pickF x0), (pickF x1), (pickF x2)] 1 h181 S185 (Nat.le_of_ble_eq_true rfl)) all0 rfl rfl rfl (Nat.le_of_eq rfl) (by decide) (by decide) (by decide) (by decide) nh_N14 ?_
      rintro _ _ _ ⟨rfl, rfl, rfl⟩
      show Go _ _ _ _ _ _ h181 [a164, a154, a1] 4 13 231 #[.val (.int x0), .val (.int x1), .val (.int x2), .val (.int n), .val (.int a), .val (.int (3 : Int32)), .val (.int (1 : Int32)), .val (.ref a1), .val (.ref a154), .val (.int (pickF x1)), .val (.int (1 : Int32)), .val (.int (1 : Int32))] [(.int (endsF [(pickF x0), (pickF x1), (pickF x2)] 1))]
      refine Go.iload H at_231 rfl rfl ?_
      refine Go.icmpN H at_233 (teq (by simp [endsF, c189])).2 rfl ?_
      refine Go.iconst (1 : Int32) H at_236 rfl rfl ?_
      refine Go.goto (pc' := 241) H at_237 (by decide) (by decide) ?_
      exact Go.ireturn 1 [] H at_241 (by simp) (by decide) ⟨rfl, trivial⟩ all0 (by decide) (by decide)
    ·
      refine Go.icmpY (pc' := 181) H at_172 (feq c189).2 (by decide) (by decide) ?_
      refine Go.iload H at_181 rfl rfl ?_
      refine Go.bipush (13 : Int32) H at_183 rfl rfl ?_
      by_cases c190 : (pickF x1) = (13 : Int32)
      ·
        refine Go.icmpN H at_185 (teq c190).2 rfl ?_
        refine Go.iload H at_188 rfl rfl ?_
        refine Go.ifN H at_190 (by decide) rfl ?_
        refine Go.aload H at_193 rfl rfl rfl ?_
        refine Go.iload H at_195 rfl rfl ?_
        refine Go.iconst (1 : Int32) H at_197 rfl rfl ?_
        refine Go.iadd H at_198 rfl ?_
        show Go _ _ _ _ _ _ h181 [a164, a154, a1] 4 13 199 #[.val (.int x0), .val (.int x1), .val (.int x2), .val (.int n), .val (.int a), .val (.int (3 : Int32)), .val (.int (1 : Int32)), .val (.ref a1), .val (.ref a154), .val (.int (pickF x1)), .val (.int (1 : Int32)), .unset] [(.int (2 : Int32)), (.ref a1)]
        refine Go.caload (v := (pickF x2)) H at_199 rfl F15 2 (by decide) (by decide) rfl ?_
        refine Go.bipush (10 : Int32) H at_200 rfl rfl ?_
        by_cases c191 : (pickF x2) = (10 : Int32)
        ·
          refine Go.icmpY (pc' := 209) H at_202 (teq c191).1 (by decide) (by decide) ?_
          refine Go.iconst (0 : Int32) H at_209 rfl rfl ?_
          refine Go.istore (ls' := #[.val (.int x0), .val (.int x1), .val (.int x2), .val (.int n), .val (.int a), .val (.int (3 : Int32)), .val (.int (1 : Int32)), .val (.ref a1), .val (.ref a154), .val (.int (pickF x1)), .val (.int (1 : Int32)), .val (.int (0 : Int32))]) H at_210 rfl rfl ?_
          refine Go.goto (pc' := 224) H at_212 (by decide) (by decide) ?_
          refine Go.aload H at_224 rfl rfl rfl ?_
          refine Go.iload H at_226 rfl rfl ?_
          refine Go.callS (rest := []) 0 [(.ref a154), (.int (1 : Int32))] H at_228 rfl w35 w36 w37 w38 pd_N14 (ct_ends l W a154 b183 [(pickF x0), (pickF x1), (pickF x2)] 1 h181 S185 (Nat.le_of_ble_eq_true rfl)) all0 rfl rfl rfl (Nat.le_of_eq rfl) (by decide) (by decide) (by decide) (by decide) nh_N14 ?_
          rintro _ _ _ ⟨rfl, rfl, rfl⟩
          show Go _ _ _ _ _ _ h181 [a164, a154, a1] 4 13 231 #[.val (.int x0), .val (.int x1), .val (.int x2), .val (.int n), .val (.int a), .val (.int (3 : Int32)), .val (.int (1 : Int32)), .val (.ref a1), .val (.ref a154), .val (.int (pickF x1)), .val (.int (1 : Int32)), .val (.int (0 : Int32))] [(.int (endsF [(pickF x0), (pickF x1), (pickF x2)] 1))]
          refine Go.iload H at_231 rfl rfl ?_
          refine Go.icmpN H at_233 (teq (by simp [endsF, c189, c190, c191])).2 rfl ?_
          refine Go.iconst (1 : Int32) H at_236 rfl rfl ?_
          refine Go.goto (pc' := 241) H at_237 (by decide) (by decide) ?_
          exact Go.ireturn 1 [] H at_241 (by simp) (by decide) ⟨rfl, trivial⟩ all0 (by decide) (by decide)
        ·
          refine Go.icmpN H at_202 (feq c191).1 rfl ?_
          refine Go.iconst (1 : Int32) H at_205 rfl rfl ?_
          refine Go.goto (pc' := 210) H at_206 (by decide) (by decide) ?_
          refine Go.istore (ls' := #[.val (.int x0), .val (.int x1), .val (.int x2), .val (.int n), .val (.int a), .val (.int (3 : Int32)), .val (.int (1 : Int32)), .val (.ref a1), .val (.ref a154), .val (.int (pickF x1)), .val (.int (1 : Int32)), .val (.int (1 : Int32))]) H at_210 rfl rfl ?_
          refine Go.goto (pc' := 224) H at_212 (by decide) (by decide) ?_
          refine Go.aload H at_224 rfl rfl rfl ?_
          refine Go.iload H at_226 rfl rfl ?_
          refine Go.callS (rest := []) 0 [(.ref a154), (.int (1 : Int32))] H at_228 rfl w35 w36 w37 w38 pd_N14 (ct_ends l W a154 b183 [(pickF x0), (pickF x1), (pickF x2)] 1 h181 S185 (Nat.le_of_ble_eq_true rfl)) all0 rfl rfl rfl (Nat.le_of_eq rfl) (by decide) (by decide) (by decide) (by decide) nh_N14 ?_
          rintro _ _ _ ⟨rfl, rfl, rfl⟩
          show Go _ _ _ _ _ _ h181 [a164, a154, a1] 4 13 231 #[.val (.int x0), .val (.int x1), .val (.int x2), .val (.int n), .val (.int a), .val (.int (3 : Int32)), .val (.int (1 : Int32)), .val (.ref a1), .val (.ref a154), .val (.int (pickF x1)), .val (.int (1 : Int32)), .val (.int (1 : Int32))] [(.int (endsF [(pickF x0), (pickF x1), (pickF x2)] 1))]
          refine Go.iload H at_231 rfl rfl ?_
          refine Go.icmpN H at_233 (teq (by simp [endsF, c189, c190, c191])).2 rfl ?_
          refine Go.iconst (1 : Int32) H at_236 rfl rfl ?_
          refine Go.goto (pc' := 241) H at_237 (by decide) (by decide) ?_
          exact Go.ireturn 1 [] H at_241 (by simp) (by decide) ⟨rfl, trivial⟩ all0 (by decide) (by decide)
      ·
        refine Go.icmpY (pc' := 221) H at_185 (feq c190).2 (by decide) (by decide) ?_
        refine Go.iconst (0 : Int32) H at_221 rfl rfl ?_
        refine Go.istore (ls' := #[.val (.int x0), .val (.int x1), .val (.int x2), .val (.int n), .val (.int a), .val (.int (3 : Int32)), .val (.int (1 : Int32)), .val (.ref a1), .val (.ref a154), .val (.int (pickF x1)), .val (.int (1 : Int32)), .val (.int (0 : Int32))]) H at_222 rfl rfl ?_
        refine Go.aload H at_224 rfl rfl rfl ?_
        refine Go.iload H at_226 rfl rfl ?_
        refine Go.callS (rest := []) 0 [(.ref a154), (.int (1 : Int32))] H at_228 rfl w35 w36 w37 w38 pd_N14 (ct_ends l W a154 b183 [(pickF x0), (pickF x1), (pickF x2)] 1 h181 S185 (Nat.le_of_ble_eq_true rfl)) all0 rfl rfl rfl (Nat.le_of_eq rfl) (by decide) (by decide) (by decide) (by decide) nh_N14 ?_
        rintro _ _ _ ⟨rfl, rfl, rfl⟩
        show Go _ _ _ _ _ _ h181 [a164, a154, a1] 4 13 231 #[.val (.int x0), .val (.int x1), .val (.int x2), .val (.int n), .val (.int a), .val (.int (3 : Int32)), .val (.int (1 : Int32)), .val (.ref a1), .val (.ref a154), .val (.int (pickF x1)), .val (.int (1 : Int32)), .val (.int (0 : Int32))] [(.int (endsF [(pickF x0), (pickF x1), (pickF x2)] 1))]
        refine Go.iload H at_231 rfl rfl ?_
        refine Go.icmpN H at_233 (teq (by simp [endsF, c189, c190])).2 rfl ?_
        refine Go.iconst (1 : Int32) H at_236 rfl rfl ?_
        refine Go.goto (pc' := 241) H at_237 (by decide) (by decide) ?_
        exact Go.ireturn 1 [] H at_241 (by simp) (by decide) ⟨rfl, trivial⟩ all0 (by decide) (by decide)
  ·
    show Go _ _ _ _ _ _ h13 [a1] 1 3 49 #[.val (.int x0), .val (.int x1), .val (.int x2), .val (.int n), .val (.int a), .val (.int (3 : Int32)), .val (.int (2 : Int32)), .val (.ref a1), .unset, .unset, .unset, .unset] []
    refine Go.iload H at_49 rfl rfl ?_
    refine Go.iconst (1 : Int32) H at_51 rfl rfl ?_
    refine Go.icmpY (pc' := 77) H at_52 (by decide) (by decide) (by decide) ?_
    refine Go.iload H at_77 rfl rfl ?_
    refine Go.iconst (2 : Int32) H at_79 rfl rfl ?_
    refine Go.icmpY (pc' := 112) H at_80 (by decide) (by decide) (by decide) ?_
    refine Go.new H at_112 rfl w6 w7 w8 (by decide) (by decide) ?_
    intro a192 h193 g194 z195 E196 A197 D198
    have ne199 : a1 ≠ a192 := Nat.ne_of_lt (Nat.lt_of_lt_of_le F15.lt (Nat.le_of_eq g194.symm))
    replace F15 := F15.ext E196
    have F200 : Fld Z h193 a192 "java/lang/String" "coder" "B" (.int (0 : Int32)) := D198 (Or.inr w32) (ty := .byte) (by decide)
    have F201 : Fld Z h193 a192 "java/lang/String" "value" "[B" .null := D198 (Or.inr w34) (ty := (.array .byte)) (by decide)
    show Go _ _ _ _ _ _ h193 [a192, a1] 2 7 115 #[.val (.int x0), .val (.int x1), .val (.int x2), .val (.int n), .val (.int a), .val (.int (3 : Int32)), .val (.int (2 : Int32)), .val (.ref a1), .unset, .unset, .unset, .unset] [(.ref a192)]
    refine Go.dup H at_115 rfl rfl ?_
    refine Go.iconst (3 : Int32) H at_116 rfl rfl ?_
    refine Go.newarray 3 3 H at_117 rfl w1 rfl (by decide) (by decide) (by decide) (by decide) (by decide) (by decide) (by decide) ?_
    intro a202 h203 g204 z205 E206 F207
    have ne208 : a1 ≠ a202 := Nat.ne_of_lt (Nat.lt_of_lt_of_le F15.lt (Nat.le_of_eq g204.symm))
    have ne209 : a192 ≠ a202 := Nat.ne_of_lt (Nat.lt_of_lt_of_le A197.lt (Nat.le_of_eq g204.symm))
    replace F15 := F15.ext E206
    replace A197 := A197.ext E206
    replace F200 := F200.ext E206
    replace F201 := F201.ext E206
    replace F207 : Vec Z h203 a202 .char [(0 : Int32), (0 : Int32), (0 : Int32)] := F207
    show Go _ _ _ _ _ _ h203 [a202, a192, a1] 3 10 119 #[.val (.int x0), .val (.int x1), .val (.int x2), .val (.int n), .val (.int a), .val (.int (3 : Int32)), .val (.int (2 : Int32)), .val (.ref a1), .unset, .unset, .unset, .unset] [(.ref a202), (.ref a192), (.ref a192)]
    refine Go.dup H at_119 rfl rfl ?_
    refine Go.iconst (0 : Int32) H at_120 rfl rfl ?_
    refine Go.aload H at_121 rfl rfl rfl ?_
    refine Go.iconst (0 : Int32) H at_123 rfl rfl ?_
    refine Go.caload (v := (pickF x0)) H at_124 rfl F15 0 (by decide) (by decide) rfl ?_
    refine Go.castore (pickF x0) H at_125 rfl F207 0 (by decide) (by decide) (Nat.le_of_ble_eq_true rfl) (pickF_c _) z205 (by simp) ?_
    intro h210 K211 F212
    replace F15 := F15.keep K211 (ninS ne208 nin0)
    replace A197 := A197.keep K211
    replace F200 := F200.keep K211 (ninS ne209 nin0)
    replace F201 := F201.keep K211 (ninS ne209 nin0)
    replace F212 : Vec Z h210 a202 .char [(pickF x0), (0 : Int32), (0 : Int32)] := F212
    refine Go.dup H at_126 rfl rfl ?_
    refine Go.iconst (1 : Int32) H at_127 rfl rfl ?_
    refine Go.aload H at_128 rfl rfl rfl ?_
    refine Go.iconst (1 : Int32) H at_130 rfl rfl ?_
    refine Go.caload (v := (pickF x1)) H at_131 rfl F15 1 (by decide) (by decide) rfl ?_
    refine Go.castore (pickF x1) H at_132 rfl F212 1 (by decide) (by decide) (Nat.le_of_ble_eq_true rfl) (pickF_c _) z205 (by simp) ?_
    intro h213 K214 F215
    replace F15 := F15.keep K214 (ninS ne208 nin0)
    replace A197 := A197.keep K214
    replace F200 := F200.keep K214 (ninS ne209 nin0)
    replace F201 := F201.keep K214 (ninS ne209 nin0)
    replace F215 : Vec Z h213 a202 .char [(pickF x0), (pickF x1), (0 : Int32)] := F215
    refine Go.dup H at_133 rfl rfl ?_
    refine Go.iconst (2 : Int32) H at_134 rfl rfl ?_
    refine Go.aload H at_135 rfl rfl rfl ?_
    refine Go.iconst (2 : Int32) H at_137 rfl rfl ?_
    refine Go.caload (v := (pickF x2)) H at_138 rfl F15 2 (by decide) (by decide) rfl ?_
    refine Go.castore (pickF x2) H at_139 rfl F215 2 (by decide) (by decide) (Nat.le_of_ble_eq_true rfl) (pickF_c _) z205 (by simp) ?_
    intro h216 K217 F218
    replace F15 := F15.keep K217 (ninS ne208 nin0)
    replace A197 := A197.keep K217
    replace F200 := F200.keep K217 (ninS ne209 nin0)
    replace F201 := F201.keep K217 (ninS ne209 nin0)
    replace F218 : Vec Z h216 a202 .char [(pickF x0), (pickF x1), (pickF x2)] := F218
    refine Go.callI (rest := [(.ref a192)]) 1 [(.ref a202)] H at_140 rfl rfl w9 w10 w8 w11 pd_N6 (ct_new1 l W a192 a202 [(pickF x0), (pickF x1), (pickF x2)] h216 A197 F201 F200 F218 (own_ac (pickF_l _) (own_ac (pickF_l _) (own_ac (pickF_l _) own_an))) (Nat.le_of_ble_eq_true rfl) (Nat.le_of_ble_eq_true rfl) z195) (by simp) rfl rfl rfl (Nat.le_of_eq rfl) (by decide) (by decide) (by decide) (by decide) nh_N5 ?_
    rintro _ h219 _ ⟨rfl, K220, ⟨b221, g222, S223⟩, rfl⟩
    have ne224 : a1 ≠ b221 := Nat.ne_of_lt (Nat.lt_of_lt_of_le F15.lt g222)
    have ne225 : a192 ≠ b221 := Nat.ne_of_lt (Nat.lt_of_lt_of_le A197.lt g222)
    have ne226 : a202 ≠ b221 := Nat.ne_of_lt (Nat.lt_of_lt_of_le F218.lt g222)
    replace F15 := F15.keep K220 (ninS ne199 nin0)
    replace F218 := F218.keep K220 (ninS (Ne.symm ne209) nin0)
    show Go _ _ _ _ _ _ h219 [a202, a192, a1] 4 13 143 #[.val (.int x0), .val (.int x1), .val (.int x2), .val (.int n), .val (.int a), .val (.int (3 : Int32)), .val (.int (2 : Int32)), .val (.ref a1), .unset, .unset, .unset, .unset] [(.ref a192)]
    refine Go.astore (ls' := #[.val (.int x0), .val (.int x1), .val (.int x2), .val (.int n), .val (.int a), .val (.int (3 : Int32)), .val (.int (2 : Int32)), .val (.ref a1), .val (.ref a192), .unset, .unset, .unset]) H at_143 rfl rfl rfl ?_
    refine Go.aload H at_145 rfl rfl rfl ?_
    refine Go.iload H at_147 rfl rfl ?_
    refine Go.caload (v := (pickF x2)) H at_149 rfl F15 2 (by decide) (by decide) rfl ?_
    refine Go.istore (ls' := #[.val (.int x0), .val (.int x1), .val (.int x2), .val (.int n), .val (.int a), .val (.int (3 : Int32)), .val (.int (2 : Int32)), .val (.ref a1), .val (.ref a192), .val (.int (pickF x2)), .unset, .unset]) H at_150 rfl rfl ?_
    refine Go.iload H at_152 rfl rfl ?_
    refine Go.iconst (1 : Int32) H at_154 rfl rfl ?_
    refine Go.iadd H at_155 rfl ?_
    show Go _ _ _ _ _ _ h219 [a202, a192, a1] 4 13 156 #[.val (.int x0), .val (.int x1), .val (.int x2), .val (.int n), .val (.int a), .val (.int (3 : Int32)), .val (.int (2 : Int32)), .val (.ref a1), .val (.ref a192), .val (.int (pickF x2)), .unset, .unset] [(.int (3 : Int32))]
    refine Go.iload H at_156 rfl rfl ?_
    refine Go.icmpY (pc' := 165) H at_158 (by decide) (by decide) (by decide) ?_
    refine Go.iconst (0 : Int32) H at_165 rfl rfl ?_
    refine Go.istore (ls' := #[.val (.int x0), .val (.int x1), .val (.int x2), .val (.int n), .val (.int a), .val (.int (3 : Int32)), .val (.int (2 : Int32)), .val (.ref a1), .val (.ref a192), .val (.int (pickF x2)), .val (.int (0 : Int32)), .unset]) H at_166 rfl rfl ?_
    refine Go.iload H at_168 rfl rfl ?_
    refine Go.bipush (10 : Int32) H at_170 rfl rfl ?_
    by_cases c227 : (pickF x2) = (10 : Int32)
    ·
      refine Go.icmpN H at_172 (teq c227).2 rfl ?_
      refine Go.iconst (1 : Int32) H at_175 rfl rfl ?_
      refine Go.istore (ls' := #[.val (.int x0), .val (.int x1), .val (.int x2), .val (.int n), .val (.int a), .val (.int (3 : Int32)), .val (.int (2 : Int32)), .val (.ref a1), .val (.ref a192), .val (.int (pickF x2)), .val (.int (0 : Int32)), .val (.int (1 : Int32))]) H at_176 rfl rfl ?_
      refine Go.goto (pc' := 224) H at_178 (by decide) (by decide) ?_
      refine Go.aload H at_224 rfl rfl rfl ?_
      refine Go.iload H at_226 rfl rfl ?_
      refine Go.callS (rest := []) 0 [(.ref a192), (.int (2 : Int32))] H at_228 rfl w35 w36 w37 w38 pd_N14 (ct_ends l W a192 b221 [(pickF x0), (pickF x1), (pickF x2)] 2 h219 S223 (Nat.le_of_ble_eq_true rfl)) all0 rfl rfl rfl (Nat.le_of_eq rfl) (by decide) (by decide) (by decide) (by decide) nh_N14 ?_
      rintro _ _ _ ⟨rfl, rfl, rfl⟩
      show Go _ _ _ _ _ _ h219 [a202, a192, a1] 4 13 231 #[.val (.int x0), .val (.int x1), .val (.int x2), .val (.int n), .val (.int a), .val (.int (3 : Int32)), .val (.int (2 : Int32)), .val (.ref a1), .val (.ref a192), .val (.int (pickF x2)), .val (.int (0 : Int32)), .val (.int (1 : Int32))] [(.int (endsF [(pickF x0), (pickF x1), (pickF x2)] 2))]
      refine Go.iload H at_231 rfl rfl ?_
      refine Go.icmpN H at_233 (teq (by simp [endsF, c227])).2 rfl ?_
      refine Go.iconst (1 : Int32) H at_236 rfl rfl ?_
      refine Go.goto (pc' := 241) H at_237 (by decide) (by decide) ?_
      exact Go.ireturn 1 [] H at_241 (by simp) (by decide) ⟨rfl, trivial⟩ all0 (by decide) (by decide)
    ·
      refine Go.icmpY (pc' := 181) H at_172 (feq c227).2 (by decide) (by decide) ?_
      refine Go.iload H at_181 rfl rfl ?_
      refine Go.bipush (13 : Int32) H at_183 rfl rfl ?_
      by_cases c228 : (pickF x2) = (13 : Int32)
      ·
        refine Go.icmpN H at_185 (teq c228).2 rfl ?_
        refine Go.iload H at_188 rfl rfl ?_
        refine Go.ifY (pc' := 215) H at_190 (by decide) (by decide) (by decide) ?_
        refine Go.iconst (1 : Int32) H at_215 rfl rfl ?_
        refine Go.istore (ls' := #[.val (.int x0), .val (.int x1), .val (.int x2), .val (.int n), .val (.int a), .val (.int (3 : Int32)), .val (.int (2 : Int32)), .val (.ref a1), .val (.ref a192), .val (.int (pickF x2)), .val (.int (0 : Int32)), .val (.int (1 : Int32))]) H at_216 rfl rfl ?_
        refine Go.goto (pc' := 224) H at_218 (by decide) (by decide) ?_
        refine Go.aload H at_224 rfl rfl rfl ?_
        refine Go.iload H at_226 rfl rfl ?_
        refine Go.callS (rest := []) 0 [(.ref a192), (.int (2 : Int32))] H at_228 rfl w35 w36 w37 w38 pd_N14 (ct_ends l W a192 b221 [(pickF x0), (pickF x1), (pickF x2)] 2 h219 S223 (Nat.le_of_ble_eq_true rfl)) all0 rfl rfl rfl (Nat.le_of_eq rfl) (by decide) (by decide) (by decide) (by decide) nh_N14 ?_
        rintro _ _ _ ⟨rfl, rfl, rfl⟩
        show Go _ _ _ _ _ _ h219 [a202, a192, a1] 4 13 231 #[.val (.int x0), .val (.int x1), .val (.int x2), .val (.int n), .val (.int a), .val (.int (3 : Int32)), .val (.int (2 : Int32)), .val (.ref a1), .val (.ref a192), .val (.int (pickF x2)), .val (.int (0 : Int32)), .val (.int (1 : Int32))] [(.int (endsF [(pickF x0), (pickF x1), (pickF x2)] 2))]
        refine Go.iload H at_231 rfl rfl ?_
        refine Go.icmpN H at_233 (teq (by simp [endsF, c227, c228])).2 rfl ?_
        refine Go.iconst (1 : Int32) H at_236 rfl rfl ?_
        refine Go.goto (pc' := 241) H at_237 (by decide) (by decide) ?_
        exact Go.ireturn 1 [] H at_241 (by simp) (by decide) ⟨rfl, trivial⟩ all0 (by decide) (by decide)
      ·
        refine Go.icmpY (pc' := 221) H at_185 (feq c228).2 (by decide) (by decide) ?_
        refine Go.iconst (0 : Int32) H at_221 rfl rfl ?_
        refine Go.istore (ls' := #[.val (.int x0), .val (.int x1), .val (.int x2), .val (.int n), .val (.int a), .val (.int (3 : Int32)), .val (.int (2 : Int32)), .val (.ref a1), .val (.ref a192), .val (.int (pickF x2)), .val (.int (0 : Int32)), .val (.int (0 : Int32))]) H at_222 rfl rfl ?_
        refine Go.aload H at_224 rfl rfl rfl ?_
        refine Go.iload H at_226 rfl rfl ?_
        refine Go.callS (rest := []) 0 [(.ref a192), (.int (2 : Int32))] H at_228 rfl w35 w36 w37 w38 pd_N14 (ct_ends l W a192 b221 [(pickF x0), (pickF x1), (pickF x2)] 2 h219 S223 (Nat.le_of_ble_eq_true rfl)) all0 rfl rfl rfl (Nat.le_of_eq rfl) (by decide) (by decide) (by decide) (by decide) nh_N14 ?_
        rintro _ _ _ ⟨rfl, rfl, rfl⟩
        show Go _ _ _ _ _ _ h219 [a202, a192, a1] 4 13 231 #[.val (.int x0), .val (.int x1), .val (.int x2), .val (.int n), .val (.int a), .val (.int (3 : Int32)), .val (.int (2 : Int32)), .val (.ref a1), .val (.ref a192), .val (.int (pickF x2)), .val (.int (0 : Int32)), .val (.int (0 : Int32))] [(.int (endsF [(pickF x0), (pickF x1), (pickF x2)] 2))]
        refine Go.iload H at_231 rfl rfl ?_
        refine Go.icmpN H at_233 (teq (by simp [endsF, c227, c228])).2 rfl ?_
        refine Go.iconst (1 : Int32) H at_236 rfl rfl ?_
        refine Go.goto (pc' := 241) H at_237 (by decide) (by decide) ?_
        exact Go.ireturn 1 [] H at_241 (by simp) (by decide) ⟨rfl, trivial⟩ all0 (by decide) (by decide)
set_option maxRecDepth 65536 in
set_option maxHeartbeats 4000000 in
theorem comes_1 {Post : Tables → Env → Array Value → State → Outcome → State → Prop} (hpost : ∀ tb e args s v u, (limb_1_1.after args s (.returned v) u = true ∧ limb_1_2.after args s (.returned v) u = true ∧ True) → FrameEnd s (.returned v) u (Jvm.fieldLocs frame_1_writes args s ++ Jvm.arrayLocs frame_1_arrays args s ++ Jvm.staticLocs frame_1_statics s) 16 128 → Post tb e args s (.returned v) u) :
    ArmFor flags0 classFile x code maxLocals ret World_1 tables_1 room_1 Calls_1 rest_1 Pre_1 Post := by
  intro l hfl _ _ p e ha hc hk s m args below hf hA hF happ hP
  obtain ⟨hcalls, hrest, hpre⟩ := hP
  obtain ⟨-, -, -, hnamed, -, -, -, hat⟩ := (Spec.applies_iff hf).mp happ
  obtain ⟨hg, hn⟩ := and_e (Cond.before_iff.mp (show (Jvm.Cond.and given_1 narrow_1).before args s = true from hpre))
  obtain ⟨h1, h2⟩ := and_e hg
  obtain ⟨k0, r0⟩ := and_e h2
  obtain ⟨k1, r1⟩ := and_e r0
  obtain ⟨k2, r2⟩ := and_e r1
  obtain ⟨k3, r3⟩ := and_e r2
  obtain ⟨w0, w1, w2, w3, w4, rfl⟩ : ∃ w0 w1 w2 w3 w4 : Value, args = #[w0, w1, w2, w3, w4] := by
    have hs : args.size = 5 := by simpa [Cond.value, given_1] using h1
    obtain ⟨L⟩ := args
    match L, hs with
    | [w0, w1, w2, w3, w4], _ => exact ⟨w0, w1, w2, w3, w4, rfl⟩
  have hw := fun d (hd : d ∈ tables_1) => atoms_spec (ws := Jvm.Cond.code x code maxLocals ret :: tables_1) hat d (List.mem_cons_of_mem _ hd)
  obtain ⟨hsets, hown0⟩ := atoms_of _ (rest_1_c_eq ▸ (show rest_1_c.before _ s = true from hrest))
  have hfit : Fit s := fun {y c} hc i hi => by
    obtain ⟨ha, rfl⟩ := Array.getElem?_eq_some_iff.mp hc
    have q := List.all_eq_true.mp ((Array.all_eq_true_iff_forall_mem.mp hF) _ (Array.getElem_mem ha)) i (List.mem_range.mpr hi)
    simpa [Array.getElem?_eq_getElem hi] using q
  obtain ⟨i0, e0⟩ := is_v k0
  obtain rfl : w0 = (.int i0) := Option.some.inj e0
  obtain ⟨i1, e1⟩ := is_v k1
  obtain rfl : w1 = (.int i1) := Option.some.inj e1
  obtain ⟨i2, e2⟩ := is_v k2
  obtain rfl : w2 = (.int i2) := Option.some.inj e2
  obtain ⟨i3, e3⟩ := is_v k3
  obtain rfl : w3 = (.int i3) := Option.some.inj e3
  obtain ⟨i4, e4⟩ := is_v r3
  obtain rfl : w4 = (.int i4) := Option.some.inj e4
  have n5 := not_v (Cond.before_iff.mp (hsets _ (List.mem_of_getElem? (i := 2) rfl)))
  obtain ⟨iz, ez⟩ := is_v (Cond.before_iff.mp (hsets _ (List.mem_of_getElem? (i := 1) rfl)))
  have Sz : Sta s s.heap "java/lang/String" "COMPACT_STRINGS" "Z" (.int iz) := Sta.start ez (Or.inl (hsets _ (List.mem_of_getElem? (i := 0) rfl)))
  obtain ⟨vf, ef, rf⟩ := isR_v (Cond.before_iff.mp (hsets _ (List.mem_of_getElem? (i := 8) rfl)))
  have Sf : Sta s s.heap "jdk/internal/util/Preconditions" "SIOOBE_FORMATTER" "Ljava/util/function/BiFunction;" vf := Sta.start ef (Or.inl (hsets _ (List.mem_of_getElem? (i := 7) rfl)))
  have cz : ¬ (iz = (0 : Int32)) := gotF (Cond.eq_ints ez (Term.int_eval (0))) n5
  obtain ⟨n, o, h1, h2, h3, _, L, rfl, ⟨⟨sn, rfl, -⟩, N, -⟩, hq⟩ := ct_law l (Z := s) (n0 := s.heap.size) ⟨⟨_, hw⟩, cz, Sz, rf, Sf⟩ i0 i1 i2 i3 i4 s.heap (Old.start s) tables_1 p e ha hc hk s m _ below hf ((Spec.applies_iff_loose hf).mp happ).1 ⟨rfl, State.Warmed39.refl s, rfl⟩ trivial
  refine ⟨n, _, h1, h2, h3, hpost _ _ _ _ _ _ ⟨Cond.after_iff.mpr rfl, Cond.after_iff.mpr (eq_i res_at (Term.int_eval (1)) rfl), trivial⟩ ⟨hq.1, hq.2.1, (hq.2.2.sift fun y hy => Or.inr (N y hy)).mono (by decide) (by decide)⟩⟩
theorem main_1_1 : Claimed_1_1 := comes_1 fun _ _ _ _ _ _ h hF => ⟨h.1, hF⟩
theorem main_1_2 : Claimed_1_2 := comes_1 fun _ _ _ _ _ _ h hF => ⟨h.2.1, hF⟩
end Jvm.Pilot.@@N@@
namespace Jvm.Pilot.@@N@@
open Jvm Jvm.ClassFile Sem Op Lib Jvm.Free Jvm.Stand Jvm.Pilot.@@N@@.Jvm.D
/-! MADE BY PROGRAM (witnessworld.py) out of the Statement's table words and the real class files: 20 classes; the members and pool entries that the words name. The judged class is class 1, her method 2. -/
namespace start1
open Jvm.ClassFile
def u (s : String) : CpInfo := .utf8 (stringToUtf16 s)
/-- a pool by its gaps: so many unusable entries, then the entry; so many at the end -/
def gap : Nat → List CpInfo → List CpInfo
  | 0, r => r
  | n + 1, r => .unusable :: gap n r
def poolList (es : List (Nat × CpInfo)) (last : Nat) : List CpInfo := es.foldr (fun e r => gap e.1 (e.2 :: r)) (gap last [])
def pool (es : List (Nat × CpInfo)) (last : Nat) : Array CpInfo := ⟨poolList es last⟩
def fileOf (pool : Array CpInfo) (this : Nat) (attrs : Array Attribute := #[]) (ms : Array MethodInfo := #[]) (fl : Nat := 33) (sup : Nat := 0) (ifs : Array Nat := #[]) (fds : Array FieldInfo := #[]) : ClassFile where
  minorVersion := 0
  majorVersion := 65
  constantPool := pool
  accessFlags := fl
  thisClass := this
  superClass := sup
  interfaces := ifs
  fields := fds
  methods := ms
  attributes := attrs
def plain (name : String) (sup : Option ClassId) : Class where
  name := name
  kind := .ordinary
  loader := none
  accessFlags := 33
  super := sup
  interfaces := #[]
  cf := none
  fields := #[]
  methods := #[]
  instanceTypes := #[]
  staticTypes := #[]
  resolved := #[]
  callSites := []
  init := .initialized
  statics := none
  mirror := none

def pool0 : Array CpInfo := pool [(5, u "<init>"), (0, u "()V"), (1, .class_ 10), (1, u "java/lang/Object")] 113

def k0c0 : Code := { maxStack := 0, maxLocals := 1, code := object_method_1_code, exceptionTable := #[], attributes := #[] }
def k0m0 : Method := { name := "<init>", desc := "()V", sig := { parameters := [], returnType := none }, accessFlags := 1, code := some k0c0 }
/-- java/lang/Object -/
def k0 : Class := { plain "java/lang/Object" none with
  accessFlags := 33
  interfaces := #[]
  cf := some (fileOf pool0 8 #[] #[{ accessFlags := 1, nameIndex := 5, descriptorIndex := 6, attributes := #[] }] 33 0 #[] #[])
  fields := #[]
  methods := #[k0m0]
  instanceTypes := #[]
  staticTypes := #[]
  resolved := Array.replicate 124 none
  statics := none }

def pool1 : Array CpInfo := pool [(2, .class_ 4), (1, u "java/lang/Object"), (0, u "<init>"), (0, u "()V"), (0, .integer 2147483647), (0, .methodref 9 10), (0, .class_ 11), (0, .nameAndType 12 13), (0, u "com/example/dunlin/dunlin/RunTextEndsLinePinLaw"), (0, u "pick"), (0, u "(I)C"), (0, .class_ 15), (0, u "java/lang/String"), (0, .methodref 14 17), (0, .nameAndType 5 18), (0, u "([C)V"), (0, .methodref 20 21), (0, .class_ 22), (0, .nameAndType 23 24), (0, u "com/example/dunlin/dunlin/RunText"), (0, u "endsLine"), (0, u "(Ljava/lang/String;I)Z"), (3, u "law"), (0, u "(IIIII)Z")] 4

def k1m0 : Method := { name := "<init>", desc := "()V", sig := { parameters := [], returnType := none }, accessFlags := 1, code := none }
def k1c1 : Code := { maxStack := 2, maxLocals := 2, code := method_2_code, exceptionTable := #[], attributes := #[] }
def k1m1 : Method := { name := "pick", desc := "(I)C", sig := { parameters := [.int], returnType := some .char }, accessFlags := 10, code := some k1c1 }
def k1c2 : Code := { maxStack := 7, maxLocals := 12, code := code, exceptionTable := #[], attributes := #[] }
def k1m2 : Method := { name := "law", desc := "(IIIII)Z", sig := { parameters := [.int, .int, .int, .int, .int], returnType := some .boolean }, accessFlags := 9, code := some k1c2 }
/-- com/example/dunlin/dunlin/RunTextEndsLinePinLaw -/
def k1 : Class := { plain "com/example/dunlin/dunlin/RunTextEndsLinePinLaw" (some 0) with
  accessFlags := 49
  interfaces := #[]
  cf := some (fileOf pool1 9 #[] #[{ accessFlags := 1, nameIndex := 5, descriptorIndex := 6, attributes := #[] }, { accessFlags := 10, nameIndex := 12, descriptorIndex := 13, attributes := #[] }, { accessFlags := 9, nameIndex := 28, descriptorIndex := 29, attributes := #[] }] 49 2 #[] #[])
  fields := #[]
  methods := #[k1m0, k1m1, k1m2]
  instanceTypes := #[]
  staticTypes := #[]
  resolved := Array.replicate 34 none
  statics := none }

def pool2 : Array CpInfo := pool [(1, .class_ 2), (0, u "java/io/Serializable"), (0, .class_ 4), (0, u "java/lang/Object")] 2

/-- java/io/Serializable -/
def k2 : Class := { plain "java/io/Serializable" (some 0) with
  accessFlags := 1537
  interfaces := #[]
  cf := some (fileOf pool2 1 #[] #[] 1537 3 #[] #[])
  fields := #[]
  methods := #[]
  instanceTypes := #[]
  staticTypes := #[]
  resolved := Array.replicate 7 none
  statics := none }

def pool3 : Array CpInfo := pool [(1, .class_ 2), (0, u "java/lang/Comparable"), (0, .class_ 4), (0, u "java/lang/Object")] 7

/-- java/lang/Comparable -/
def k3 : Class := { plain "java/lang/Comparable" (some 0) with
  accessFlags := 1537
  interfaces := #[]
  cf := some (fileOf pool3 1 #[] #[] 1537 3 #[] #[])
  fields := #[]
  methods := #[]
  instanceTypes := #[]
  staticTypes := #[]
  resolved := Array.replicate 12 none
  statics := none }

def pool4 : Array CpInfo := pool [(2, .class_ 4), (1, u "java/lang/CharSequence"), (42, .class_ 48), (0, u "java/lang/CharSequence$1CodePointIterator"), (10, .class_ 60), (0, u "java/lang/CharSequence$1CharIterator"), (5, .class_ 67), (0, u "java/lang/Object")] 63

/-- java/lang/CharSequence -/
def k4 : Class := { plain "java/lang/CharSequence" (some 0) with
  accessFlags := 1537
  interfaces := #[]
  cf := some (fileOf pool4 2 #[.nestMembers #[47, 59]] #[] 1537 66 #[] #[])
  fields := #[]
  methods := #[]
  instanceTypes := #[]
  staticTypes := #[]
  resolved := Array.replicate 131 none
  statics := none }

def pool5 : Array CpInfo := pool [(1, .class_ 2), (0, u "java/lang/constant/Constable"), (0, .class_ 4), (0, u "java/lang/Object")] 6

/-- java/lang/constant/Constable -/
def k5 : Class := { plain "java/lang/constant/Constable" (some 0) with
  accessFlags := 1537
  interfaces := #[]
  cf := some (fileOf pool5 1 #[] #[] 1537 3 #[] #[])
  fields := #[]
  methods := #[]
  instanceTypes := #[]
  staticTypes := #[]
  resolved := Array.replicate 11 none
  statics := none }

def pool6 : Array CpInfo := pool [(1, .class_ 2), (0, u "java/lang/constant/ConstantDesc"), (0, .class_ 4), (0, u "java/lang/Object")] 32

/-- java/lang/constant/ConstantDesc -/
def k6 : Class := { plain "java/lang/constant/ConstantDesc" (some 0) with
  accessFlags := 1537
  interfaces := #[]
  cf := some (fileOf pool6 1 #[] #[] 1537 3 #[] #[])
  fields := #[]
  methods := #[]
  instanceTypes := #[]
  staticTypes := #[]
  resolved := Array.replicate 37 none
  statics := none }

def pool7 : Array CpInfo := pool [(1, .methodref 2 3), (0, .class_ 4), (0, .nameAndType 5 6), (0, u "java/lang/Object"), (0, u "<init>"), (0, u "()V"), (2, .fieldref 10 11), (0, .class_ 12), (0, .nameAndType 13 14), (0, u "java/lang/String"), (0, u "value"), (0, u "[B"), (0, .fieldref 10 16), (0, .nameAndType 17 18), (0, u "coder"), (0, u "B"), (2, u "hash"), (0, u "I"), (2, u "hashIsZero"), (0, u "Z"), (0, .methodref 10 28), (0, .nameAndType 5 29), (0, u "([CIILjava/lang/Void;)V"), (8, .fieldref 10 39), (0, .nameAndType 40 26), (0, u "COMPACT_STRINGS"), (1, .class_ 44), (1, u "java/lang/StringUTF16"), (0, u "compress"), (1, .methodref 42 48), (0, .nameAndType 49 50), (0, u "coderFromArrayLen"), (0, u "([BI)B"), (56, .class_ 109), (1, u "java/lang/StringLatin1"), (32, u "()Z"), (34, .methodref 42 178), (0, .nameAndType 45 179), (0, u "([CII)[B"), (154, u "()I"), (0, .methodref 10 336), (0, .nameAndType 17 337), (0, u "()B"), (25, u "([BI)C"), (27, u "(II)V"), (35, u "(I)C"), (64, .methodref 10 493), (0, .nameAndType 494 142), (0, u "isLatin1"), (0, .methodref 107 496), (0, .nameAndType 497 363), (0, u "charAt"), (3, u "checkIndex"), (5, u "length"), (67, .class_ 576), (0, u "java/lang/CharSequence"), (22, u "CASE_INSENSITIVE_ORDER"), (0, u "Ljava/util/Comparator;"), (409, u "([C)V"), (42, .fieldref 1054 1055), (0, .class_ 1056), (0, .nameAndType 1057 1058), (0, u "jdk/internal/util/Preconditions"), (0, u "SIOOBE_FORMATTER"), (0, u "Ljava/util/function/BiFunction;"), (0, .methodref 1054 1060), (0, .nameAndType 501 1061), (0, u "(IILjava/util/function/BiFunction;)I"), (39, u "serialPersistentFields"), (0, u "[Ljava/io/ObjectStreamField;"), (0, .class_ 1104), (0, u "java/lang/String$CaseInsensitiveComparator"), (1, .class_ 1107), (0, u "java/io/Serializable"), (0, .class_ 1109), (0, u "java/lang/Comparable"), (0, .class_ 1111), (0, u "java/lang/constant/Constable"), (0, .class_ 1113), (0, u "java/lang/constant/ConstantDesc"), (2, u "serialVersionUID"), (0, u "J"), (3, u "REPL"), (0, u "C"), (2, u "LATIN1"), (1, u "UTF16")] 323

def k7m0 : Method := { name := "<init>", desc := "()V", sig := { parameters := [], returnType := none }, accessFlags := 1, code := none }
def k7c1 : Code := { maxStack := 5, maxLocals := 2, code := jdk_42_method_3_code, exceptionTable := #[], attributes := #[] }
def k7m1 : Method := { name := "<init>", desc := "([C)V", sig := { parameters := [(.array .char)], returnType := none }, accessFlags := 1, code := some k7c1 }
def k7c2 : Code := { maxStack := 2, maxLocals := 1, code := jdk_42_method_54_code, exceptionTable := #[], attributes := #[] }
def k7m2 : Method := { name := "length", desc := "()I", sig := { parameters := [], returnType := some .int }, accessFlags := 1, code := some k7c2 }
def k7c3 : Code := { maxStack := 2, maxLocals := 2, code := jdk_42_method_56_code, exceptionTable := #[], attributes := #[] }
def k7m3 : Method := { name := "charAt", desc := "(I)C", sig := { parameters := [.int], returnType := some .char }, accessFlags := 1, code := some k7c3 }
def k7c4 : Code := { maxStack := 4, maxLocals := 6, code := jdk_42_method_149_code, exceptionTable := #[], attributes := #[] }
def k7m4 : Method := { name := "<init>", desc := "([CIILjava/lang/Void;)V", sig := { parameters := [(.array .char), .int, .int, (.object "java/lang/Void")], returnType := none }, accessFlags := 2, code := some k7c4 }
def k7c5 : Code := { maxStack := 1, maxLocals := 1, code := jdk_42_method_152_code, exceptionTable := #[], attributes := #[] }
def k7m5 : Method := { name := "coder", desc := "()B", sig := { parameters := [], returnType := some .byte }, accessFlags := 0, code := some k7c5 }
def k7c6 : Code := { maxStack := 1, maxLocals := 1, code := jdk_42_method_154_code, exceptionTable := #[], attributes := #[] }
def k7m6 : Method := { name := "isLatin1", desc := "()Z", sig := { parameters := [], returnType := some .boolean }, accessFlags := 0, code := some k7c6 }
def k7c7 : Code := { maxStack := 3, maxLocals := 2, code := jdk_42_method_155_code, exceptionTable := #[], attributes := #[] }
def k7m7 : Method := { name := "checkIndex", desc := "(II)V", sig := { parameters := [.int, .int], returnType := none }, accessFlags := 8, code := some k7c7 }
/-- java/lang/String -/
def k7 : Class := { plain "java/lang/String" (some 0) with
  accessFlags := 49
  interfaces := #[2, 3, 4, 5, 6]
  cf := some (fileOf pool7 10 #[.nestMembers #[1103]] #[{ accessFlags := 1, nameIndex := 5, descriptorIndex := 6, attributes := #[] }, { accessFlags := 1, nameIndex := 5, descriptorIndex := 1010, attributes := #[] }, { accessFlags := 1, nameIndex := 507, descriptorIndex := 334, attributes := #[] }, { accessFlags := 1, nameIndex := 497, descriptorIndex := 427, attributes := #[] }, { accessFlags := 2, nameIndex := 5, descriptorIndex := 29, attributes := #[] }, { accessFlags := 0, nameIndex := 17, descriptorIndex := 337, attributes := #[] }, { accessFlags := 0, nameIndex := 494, descriptorIndex := 142, attributes := #[] }, { accessFlags := 8, nameIndex := 501, descriptorIndex := 391, attributes := #[] }] 49 2 #[1106, 1108, 575, 1110, 1112] #[{ accessFlags := 18, nameIndex := 13, descriptorIndex := 14, attributes := #[] }, { accessFlags := 18, nameIndex := 17, descriptorIndex := 18, attributes := #[] }, { accessFlags := 2, nameIndex := 21, descriptorIndex := 22, attributes := #[] }, { accessFlags := 2, nameIndex := 25, descriptorIndex := 26, attributes := #[] }, { accessFlags := 26, nameIndex := 1116, descriptorIndex := 1117, attributes := #[] }, { accessFlags := 24, nameIndex := 40, descriptorIndex := 26, attributes := #[] }, { accessFlags := 26, nameIndex := 1101, descriptorIndex := 1102, attributes := #[] }, { accessFlags := 26, nameIndex := 1121, descriptorIndex := 1122, attributes := #[] }, { accessFlags := 25, nameIndex := 599, descriptorIndex := 600, attributes := #[] }, { accessFlags := 24, nameIndex := 1125, descriptorIndex := 18, attributes := #[] }, { accessFlags := 24, nameIndex := 1127, descriptorIndex := 18, attributes := #[] }])
  fields := #[{ name := "value", type := (.array .byte), accessFlags := 18, slot := 0, constantValue := 0 }, { name := "coder", type := .byte, accessFlags := 18, slot := 1, constantValue := 0 }, { name := "hash", type := .int, accessFlags := 2, slot := 2, constantValue := 0 }, { name := "hashIsZero", type := .boolean, accessFlags := 2, slot := 3, constantValue := 0 }, { name := "serialVersionUID", type := .long, accessFlags := 26, slot := 0, constantValue := 0 }, { name := "COMPACT_STRINGS", type := .boolean, accessFlags := 24, slot := 1, constantValue := 0 }, { name := "serialPersistentFields", type := (.array (.object "java/io/ObjectStreamField")), accessFlags := 26, slot := 2, constantValue := 0 }, { name := "REPL", type := .char, accessFlags := 26, slot := 3, constantValue := 0 }, { name := "CASE_INSENSITIVE_ORDER", type := (.object "java/util/Comparator"), accessFlags := 25, slot := 4, constantValue := 0 }, { name := "LATIN1", type := .byte, accessFlags := 24, slot := 5, constantValue := 0 }, { name := "UTF16", type := .byte, accessFlags := 24, slot := 6, constantValue := 0 }]
  methods := #[k7m0, k7m1, k7m2, k7m3, k7m4, k7m5, k7m6, k7m7]
  instanceTypes := #[(.array .byte), .byte, .int, .boolean]
  staticTypes := #[.long, .boolean, (.array (.object "java/io/ObjectStreamField")), .char, (.object "java/util/Comparator"), .byte, .byte]
  resolved := Array.replicate 1451 none
  statics := some 0 }

def pool8 : Array CpInfo := pool [(6, .class_ 8), (1, u "java/lang/Object"), (0, u "<init>"), (0, u "()V"), (1, .class_ 14), (1, u "java/lang/StringUTF16"), (31, u "$assertionsDisabled"), (0, u "Z"), (13, u "HI_BYTE_SHIFT"), (0, u "I"), (2, u "LO_BYTE_SHIFT"), (49, .methodref 12 116), (0, .nameAndType 117 118), (0, u "compress"), (0, u "([CI[BII)I"), (3, u "([CII)[B"), (138, u "coderFromArrayLen"), (0, u "([BI)B"), (106, .class_ 371), (1, u "java/lang/StringUTF16$LinesSpliterator"), (58, u "MAX_LENGTH"), (196, .class_ 628), (0, u "java/lang/StringUTF16$CodePointsSpliterator"), (0, .class_ 630), (0, u "java/lang/StringUTF16$CharsSpliterator")] 4

def k8m0 : Method := { name := "<init>", desc := "()V", sig := { parameters := [], returnType := none }, accessFlags := 0, code := none }
def k8c1 : Code := { maxStack := 2, maxLocals := 2, code := jdk_52_method_15_code, exceptionTable := #[], attributes := #[] }
def k8m1 : Method := { name := "coderFromArrayLen", desc := "([BI)B", sig := { parameters := [(.array .byte), .int], returnType := some .byte }, accessFlags := 8, code := some k8c1 }
def k8c2 : Code := { maxStack := 5, maxLocals := 6, code := jdk_52_method_16_code, exceptionTable := #[], attributes := #[] }
def k8m2 : Method := { name := "compress", desc := "([CII)[B", sig := { parameters := [(.array .char), .int, .int], returnType := some (.array .byte) }, accessFlags := 9, code := some k8c2 }
def k8c3 : Code := { maxStack := 3, maxLocals := 7, code := jdk_52_method_21_code, exceptionTable := #[], attributes := #[] }
def k8m3 : Method := { name := "compress", desc := "([CI[BII)I", sig := { parameters := [(.array .char), .int, (.array .byte), .int, .int], returnType := some .int }, accessFlags := 9, code := some k8c3 }
/-- java/lang/StringUTF16 -/
def k8 : Class := { plain "java/lang/StringUTF16" (some 0) with
  accessFlags := 48
  interfaces := #[]
  cf := some (fileOf pool8 12 #[.nestMembers #[627, 629, 369]] #[{ accessFlags := 0, nameIndex := 9, descriptorIndex := 10, attributes := #[] }, { accessFlags := 8, nameIndex := 261, descriptorIndex := 262, attributes := #[] }, { accessFlags := 9, nameIndex := 117, descriptorIndex := 122, attributes := #[] }, { accessFlags := 9, nameIndex := 117, descriptorIndex := 118, attributes := #[] }] 48 6 #[] #[{ accessFlags := 26, nameIndex := 61, descriptorIndex := 62, attributes := #[] }, { accessFlags := 26, nameIndex := 65, descriptorIndex := 62, attributes := #[] }, { accessFlags := 24, nameIndex := 430, descriptorIndex := 62, attributes := #[] }, { accessFlags := 4120, nameIndex := 46, descriptorIndex := 47, attributes := #[] }])
  fields := #[{ name := "HI_BYTE_SHIFT", type := .int, accessFlags := 26, slot := 0, constantValue := 0 }, { name := "LO_BYTE_SHIFT", type := .int, accessFlags := 26, slot := 1, constantValue := 0 }, { name := "MAX_LENGTH", type := .int, accessFlags := 24, slot := 2, constantValue := 0 }, { name := "$assertionsDisabled", type := .boolean, accessFlags := 4120, slot := 3, constantValue := 0 }]
  methods := #[k8m0, k8m1, k8m2, k8m3]
  instanceTypes := #[]
  staticTypes := #[.int, .int, .int, .boolean]
  resolved := Array.replicate 635 none
  statics := none }

def pool9 : Array CpInfo := pool [(2, .class_ 4), (1, u "com/example/dunlin/dunlin/RunText"), (0, u "NONE"), (0, u "[I"), (11, .class_ 20), (1, u "java/lang/Object"), (3, u "written"), (0, u "Ljava/lang/String;"), (2, u "text"), (2, u "replaced"), (2, u "count"), (0, u "I"), (2, u "unresolved"), (0, u "Ljava/util/List;"), (9, .class_ 51), (1, u "java/lang/String"), (10, .methodref 49 63), (0, .nameAndType 64 65), (0, u "length"), (0, u "()I"), (34, u "endsLine"), (0, u "(Ljava/lang/String;I)Z"), (60, .methodref 49 163), (0, .nameAndType 164 165), (0, u "charAt"), (0, u "(I)C"), (5, u "OPENING")] 35

def k9c0 : Code := { maxStack := 3, maxLocals := 3, code := prog_24_method_8_code, exceptionTable := #[], attributes := #[] }
def k9m0 : Method := { name := "endsLine", desc := "(Ljava/lang/String;I)Z", sig := { parameters := [(.object "java/lang/String"), .int], returnType := some .boolean }, accessFlags := 8, code := some k9c0 }
/-- com/example/dunlin/dunlin/RunText -/
def k9 : Class := { plain "com/example/dunlin/dunlin/RunText" (some 0) with
  accessFlags := 48
  interfaces := #[]
  cf := some (fileOf pool9 2 #[] #[{ accessFlags := 8, nameIndex := 100, descriptorIndex := 101, attributes := #[] }] 48 18 #[] #[{ accessFlags := 26, nameIndex := 171, descriptorIndex := 25, attributes := #[] }, { accessFlags := 26, nameIndex := 5, descriptorIndex := 6, attributes := #[] }, { accessFlags := 18, nameIndex := 24, descriptorIndex := 25, attributes := #[] }, { accessFlags := 18, nameIndex := 28, descriptorIndex := 25, attributes := #[] }, { accessFlags := 18, nameIndex := 31, descriptorIndex := 6, attributes := #[] }, { accessFlags := 18, nameIndex := 34, descriptorIndex := 35, attributes := #[] }, { accessFlags := 18, nameIndex := 38, descriptorIndex := 39, attributes := #[] }])
  fields := #[{ name := "OPENING", type := (.object "java/lang/String"), accessFlags := 26, slot := 0, constantValue := 0 }, { name := "NONE", type := (.array .int), accessFlags := 26, slot := 1, constantValue := 0 }, { name := "written", type := (.object "java/lang/String"), accessFlags := 18, slot := 0, constantValue := 0 }, { name := "text", type := (.object "java/lang/String"), accessFlags := 18, slot := 1, constantValue := 0 }, { name := "replaced", type := (.array .int), accessFlags := 18, slot := 2, constantValue := 0 }, { name := "count", type := .int, accessFlags := 18, slot := 3, constantValue := 0 }, { name := "unresolved", type := (.object "java/util/List"), accessFlags := 18, slot := 4, constantValue := 0 }]
  methods := #[k9m0]
  instanceTypes := #[(.object "java/lang/String"), (.object "java/lang/String"), (.array .int), .int, (.object "java/util/List")]
  staticTypes := #[(.object "java/lang/String"), (.array .int)]
  resolved := Array.replicate 207 none
  statics := none }

def pool10 : Array CpInfo := pool [(1, .class_ 2), (0, u "java/lang/String"), (1, .class_ 6), (1, u "java/lang/Object"), (0, u "<init>"), (0, u "()V"), (0, .methodref 1 10), (0, .nameAndType 11 12), (0, u "checkIndex"), (0, u "(II)V"), (1, .class_ 16), (1, u "java/lang/StringLatin1"), (36, u "([BI)C"), (67, u "$assertionsDisabled"), (0, u "Z"), (98, .class_ 223), (1, u "java/lang/StringLatin1$LinesSpliterator"), (28, u "charAt"), (137, .class_ 391), (0, u "java/lang/StringLatin1$CharsSpliterator")] 3

def k10m0 : Method := { name := "<init>", desc := "()V", sig := { parameters := [], returnType := none }, accessFlags := 0, code := none }
def k10c1 : Code := { maxStack := 2, maxLocals := 2, code := jdk_43_method_2_code, exceptionTable := #[], attributes := #[] }
def k10m1 : Method := { name := "charAt", desc := "([BI)C", sig := { parameters := [(.array .byte), .int], returnType := some .char }, accessFlags := 9, code := some k10c1 }
/-- java/lang/StringLatin1 -/
def k10 : Class := { plain "java/lang/StringLatin1" (some 0) with
  accessFlags := 48
  interfaces := #[]
  cf := some (fileOf pool10 14 #[.nestMembers #[390, 221]] #[{ accessFlags := 0, nameIndex := 7, descriptorIndex := 8, attributes := #[] }, { accessFlags := 9, nameIndex := 252, descriptorIndex := 53, attributes := #[] }] 48 4 #[] #[{ accessFlags := 4120, nameIndex := 121, descriptorIndex := 122, attributes := #[] }])
  fields := #[{ name := "$assertionsDisabled", type := .boolean, accessFlags := 4120, slot := 0, constantValue := 0 }]
  methods := #[k10m0, k10m1]
  instanceTypes := #[]
  staticTypes := #[.boolean]
  resolved := Array.replicate 395 none
  statics := none }

def pool11 : Array CpInfo := pool [(2, .class_ 4), (1, u "java/lang/Object"), (0, u "<init>"), (0, u "()V"), (17, .class_ 26), (1, u "jdk/internal/util/Preconditions"), (6, u "checkIndex"), (21, .class_ 56), (0, u "jdk/internal/util/Preconditions$4"), (57, .class_ 115), (0, u "jdk/internal/util/Preconditions$1"), (7, u "SIOOBE_FORMATTER"), (0, u "Ljava/util/function/BiFunction;"), (0, .class_ 126), (0, u "jdk/internal/util/Preconditions$2"), (3, u "AIOOBE_FORMATTER"), (0, .class_ 132), (0, u "jdk/internal/util/Preconditions$3"), (3, u "IOOBE_FORMATTER"), (41, u "(IILjava/util/function/BiFunction;)I")] 15

def k11m0 : Method := { name := "<init>", desc := "()V", sig := { parameters := [], returnType := none }, accessFlags := 1, code := none }
def k11c1 : Code := { maxStack := 3, maxLocals := 3, code := jdk_41_method_11_code, exceptionTable := #[], attributes := #[] }
def k11m1 : Method := { name := "checkIndex", desc := "(IILjava/util/function/BiFunction;)I", sig := { parameters := [.int, .int, (.object "java/util/function/BiFunction")], returnType := some .int }, accessFlags := 9, code := some k11c1 }
/-- jdk/internal/util/Preconditions -/
def k11 : Class := { plain "jdk/internal/util/Preconditions" (some 0) with
  accessFlags := 33
  interfaces := #[]
  cf := some (fileOf pool11 24 #[.nestMembers #[55, 131, 125, 114]] #[{ accessFlags := 1, nameIndex := 5, descriptorIndex := 6, attributes := #[] }, { accessFlags := 9, nameIndex := 33, descriptorIndex := 178, attributes := #[] }] 33 2 #[] #[{ accessFlags := 25, nameIndex := 123, descriptorIndex := 124, attributes := #[] }, { accessFlags := 25, nameIndex := 130, descriptorIndex := 124, attributes := #[] }, { accessFlags := 25, nameIndex := 136, descriptorIndex := 124, attributes := #[] }])
  fields := #[{ name := "SIOOBE_FORMATTER", type := (.object "java/util/function/BiFunction"), accessFlags := 25, slot := 0, constantValue := 0 }, { name := "AIOOBE_FORMATTER", type := (.object "java/util/function/BiFunction"), accessFlags := 25, slot := 1, constantValue := 0 }, { name := "IOOBE_FORMATTER", type := (.object "java/util/function/BiFunction"), accessFlags := 25, slot := 2, constantValue := 0 }]
  methods := #[k11m0, k11m1]
  instanceTypes := #[]
  staticTypes := #[(.object "java/util/function/BiFunction"), (.object "java/util/function/BiFunction"), (.object "java/util/function/BiFunction")]
  resolved := Array.replicate 194 none
  statics := some 1 }

def pool12 : Array CpInfo := pool [(9, u "<init>"), (6, .class_ 18), (1, u "java/lang/Object"), (0, u "()V"), (1, .class_ 23), (1, u "jdk/internal/util/ArraysSupport"), (0, u "LOG2_ARRAY_LONG_INDEX_SCALE"), (0, u "I"), (2, u "U"), (0, u "Ljdk/internal/misc/Unsafe;"), (8, u "BIG_ENDIAN"), (0, u "Z"), (8, u "LOG2_BYTE_BIT_SIZE"), (4, u "LOG2_ARRAY_INT_INDEX_SCALE"), (54, u "JLA"), (0, u "Ljdk/internal/access/JavaLangAccess;"), (11, u "LOG2_ARRAY_BOOLEAN_INDEX_SCALE"), (9, u "LOG2_ARRAY_BYTE_INDEX_SCALE"), (5, u "LOG2_ARRAY_CHAR_INDEX_SCALE"), (5, u "LOG2_ARRAY_SHORT_INDEX_SCALE"), (18, u "LOG2_ARRAY_FLOAT_INDEX_SCALE"), (24, u "LOG2_ARRAY_DOUBLE_INDEX_SCALE"), (89, u "T_BOOLEAN"), (2, u "T_CHAR"), (1, u "T_FLOAT"), (1, u "T_DOUBLE"), (1, u "T_BYTE"), (1, u "T_SHORT"), (1, u "T_INT"), (1, u "T_LONG"), (1, u "SOFT_MAX_ARRAY_LENGTH")] 83

def k12m0 : Method := { name := "<init>", desc := "()V", sig := { parameters := [], returnType := none }, accessFlags := 2, code := none }
/-- jdk/internal/util/ArraysSupport -/
def k12 : Class := { plain "jdk/internal/util/ArraysSupport" (some 0) with
  accessFlags := 33
  interfaces := #[]
  cf := some (fileOf pool12 21 #[] #[{ accessFlags := 2, nameIndex := 9, descriptorIndex := 19, attributes := #[] }] 33 16 #[] #[{ accessFlags := 24, nameIndex := 28, descriptorIndex := 29, attributes := #[] }, { accessFlags := 26, nameIndex := 38, descriptorIndex := 39, attributes := #[] }, { accessFlags := 25, nameIndex := 121, descriptorIndex := 25, attributes := #[] }, { accessFlags := 25, nameIndex := 131, descriptorIndex := 25, attributes := #[] }, { accessFlags := 25, nameIndex := 137, descriptorIndex := 25, attributes := #[] }, { accessFlags := 25, nameIndex := 143, descriptorIndex := 25, attributes := #[] }, { accessFlags := 25, nameIndex := 53, descriptorIndex := 25, attributes := #[] }, { accessFlags := 25, nameIndex := 24, descriptorIndex := 25, attributes := #[] }, { accessFlags := 25, nameIndex := 162, descriptorIndex := 25, attributes := #[] }, { accessFlags := 25, nameIndex := 187, descriptorIndex := 25, attributes := #[] }, { accessFlags := 26, nameIndex := 48, descriptorIndex := 25, attributes := #[] }, { accessFlags := 25, nameIndex := 277, descriptorIndex := 25, attributes := #[] }, { accessFlags := 25, nameIndex := 280, descriptorIndex := 25, attributes := #[] }, { accessFlags := 25, nameIndex := 282, descriptorIndex := 25, attributes := #[] }, { accessFlags := 25, nameIndex := 284, descriptorIndex := 25, attributes := #[] }, { accessFlags := 25, nameIndex := 286, descriptorIndex := 25, attributes := #[] }, { accessFlags := 25, nameIndex := 288, descriptorIndex := 25, attributes := #[] }, { accessFlags := 25, nameIndex := 290, descriptorIndex := 25, attributes := #[] }, { accessFlags := 25, nameIndex := 292, descriptorIndex := 25, attributes := #[] }, { accessFlags := 26, nameIndex := 108, descriptorIndex := 109, attributes := #[] }, { accessFlags := 25, nameIndex := 294, descriptorIndex := 25, attributes := #[] }])
  fields := #[{ name := "U", type := (.object "jdk/internal/misc/Unsafe"), accessFlags := 24, slot := 0, constantValue := 0 }, { name := "BIG_ENDIAN", type := .boolean, accessFlags := 26, slot := 1, constantValue := 0 }, { name := "LOG2_ARRAY_BOOLEAN_INDEX_SCALE", type := .int, accessFlags := 25, slot := 2, constantValue := 0 }, { name := "LOG2_ARRAY_BYTE_INDEX_SCALE", type := .int, accessFlags := 25, slot := 3, constantValue := 0 }, { name := "LOG2_ARRAY_CHAR_INDEX_SCALE", type := .int, accessFlags := 25, slot := 4, constantValue := 0 }, { name := "LOG2_ARRAY_SHORT_INDEX_SCALE", type := .int, accessFlags := 25, slot := 5, constantValue := 0 }, { name := "LOG2_ARRAY_INT_INDEX_SCALE", type := .int, accessFlags := 25, slot := 6, constantValue := 0 }, { name := "LOG2_ARRAY_LONG_INDEX_SCALE", type := .int, accessFlags := 25, slot := 7, constantValue := 0 }, { name := "LOG2_ARRAY_FLOAT_INDEX_SCALE", type := .int, accessFlags := 25, slot := 8, constantValue := 0 }, { name := "LOG2_ARRAY_DOUBLE_INDEX_SCALE", type := .int, accessFlags := 25, slot := 9, constantValue := 0 }, { name := "LOG2_BYTE_BIT_SIZE", type := .int, accessFlags := 26, slot := 10, constantValue := 0 }, { name := "T_BOOLEAN", type := .int, accessFlags := 25, slot := 11, constantValue := 0 }, { name := "T_CHAR", type := .int, accessFlags := 25, slot := 12, constantValue := 0 }, { name := "T_FLOAT", type := .int, accessFlags := 25, slot := 13, constantValue := 0 }, { name := "T_DOUBLE", type := .int, accessFlags := 25, slot := 14, constantValue := 0 }, { name := "T_BYTE", type := .int, accessFlags := 25, slot := 15, constantValue := 0 }, { name := "T_SHORT", type := .int, accessFlags := 25, slot := 16, constantValue := 0 }, { name := "T_INT", type := .int, accessFlags := 25, slot := 17, constantValue := 0 }, { name := "T_LONG", type := .int, accessFlags := 25, slot := 18, constantValue := 0 }, { name := "JLA", type := (.object "jdk/internal/access/JavaLangAccess"), accessFlags := 26, slot := 19, constantValue := 0 }, { name := "SOFT_MAX_ARRAY_LENGTH", type := .int, accessFlags := 25, slot := 20, constantValue := 0 }]
  methods := #[k12m0]
  instanceTypes := #[]
  staticTypes := #[(.object "jdk/internal/misc/Unsafe"), .boolean, .int, .int, .int, .int, .int, .int, .int, .int, .int, .int, .int, .int, .int, .int, .int, .int, .int, (.object "jdk/internal/access/JavaLangAccess"), .int]
  resolved := Array.replicate 378 none
  statics := none }

def pool13 : Array CpInfo := pool [(1, u "java/lang/Cloneable"), (0, .class_ 1), (0, u "java/lang/Object"), (0, .class_ 3)] 3

/-- java/lang/Cloneable -/
def k13 : Class := { plain "java/lang/Cloneable" (some 0) with
  accessFlags := 1537
  interfaces := #[]
  cf := some (fileOf pool13 2 #[] #[] 1537 4 #[] #[])
  fields := #[]
  methods := #[]
  instanceTypes := #[]
  staticTypes := #[]
  resolved := Array.replicate 8 none
  statics := none }

/-- the primitive byte -/
def k14 : Class := { plain "byte" none with kind := .primitive 'B', accessFlags := 0x411 }
/-- [B -/
def k15 : Class := { plain "[B" (some 0) with kind := .array 14 .byte, interfaces := #[13, 2], accessFlags := 1041 }

/-- the primitive char -/
def k16 : Class := { plain "char" none with kind := .primitive 'C', accessFlags := 0x411 }
/-- [C -/
def k17 : Class := { plain "[C" (some 0) with kind := .array 16 .char, interfaces := #[13, 2], accessFlags := 1041 }

/-- the primitive int -/
def k18 : Class := { plain "int" none with kind := .primitive 'I', accessFlags := 0x411 }
/-- [I -/
def k19 : Class := { plain "[I" (some 0) with kind := .array 18 .int, interfaces := #[13, 2], accessFlags := 1041 }

def heap : Heap := #[{ cls := 7, slots := #[.long 0, .int 1, .null, .int 0, .null, .int 0, .int 0], vm := .statics 7 },
  { cls := 11, slots := #[.null, .null, .null], vm := .statics 11 }]
def classes : Array Class := #[k0, k1, k2, k3, k4, k5, k6, k7, k8, k9, k10, k11, k12, k13, k14, k15, k16, k17, k18, k19]
def interned : List (Array UInt16 × Addr) := []
def slotsUsed : Nat := 10
def theMethod : MethodId := ⟨1, 2⟩
def args0 : Array Value := #[.int 5, .int 6, .int 7, .int 8, .int 9]
def aboutOver (below : List Frame) : State where
  vm := { classes := classes, interned := interned.toArray }
  heap := heap
  slotsUsed := slotsUsed
  threads := #[{ frames := .invoking theMethod args0 :: below }]
def below0 : List Frame := [.native { method := ⟨0, 0⟩, args := #[] }]
def about1 : State := aboutOver below0
def p0 : Program := .bare "" "" ""
def e0 : Env := launch0.env 0 0 0
theorem w_frames : about1.frames = Frame.invoking theMethod args0 :: below0 := rfl
set_option maxRecDepth 65536 in
theorem w_args : argsFit about1.vm theMethod args0 = true := by decide +kernel
set_option maxRecDepth 65536 in
theorem w_heap : heapFits about1 = true := by decide +kernel
set_option maxRecDepth 65536 in
theorem w_runnable : about1.curStatus? = some .runnable := by decide +kernel
set_option maxRecDepth 65536 in
theorem w_alone : about1.alone = true := by decide +kernel
set_option maxRecDepth 65536 in
theorem w_named : about1.methodNamed? x = some theMethod := by decide +kernel
set_option maxRecDepth 65536 in
theorem w_hears : about1.hears theMethod below0 = true := by decide +kernel
set_option maxRecDepth 65536 in
theorem w_ripe : about1.ripe theMethod args0 below0 = true := by decide +kernel
theorem w_running : about1.status = .running := rfl
set_option maxRecDepth 65536 in
theorem w_room : about1.hasRoom e0.platform room_1 = true :=
  launch0.hasRoom_least _ room_1 (by decide +kernel) (by decide +kernel) (by decide +kernel) (by decide +kernel) (by decide +kernel) (by decide +kernel)
theorem allAtoms_all (ts : List Jvm.Cond) (a : Array Jvm.Value) (st : Jvm.State) : (allAtoms ts).before a st = ts.all (fun c => c.before a st) := by
  induction ts with
  | nil => rfl
  | cons c t ih =>
    show (Jvm.Cond.and c (allAtoms t)).before a st = _
    rw [Jvm.Cond.before_and, ih, List.all_cons]
def words1 : List Jvm.Cond := Jvm.Cond.code x code maxLocals ret :: tables_1
/-- a 'code' word, met by the world's own term for the bytes: nothing is compared byte by byte -/
theorem code_word {y : MethodName} {bytes : ByteArray} {mx : Nat} {rt : Option FieldType} {a : Array Value} {s : State} {m : MethodId} {meth : Method} {c : Code} (h1 : s.methodNamed? y = some m) (h2 : s.vm.method? m = some meth) (h3 : meth.code = some c) (h4 : c.code = bytes)
    (h5 : (c.maxLocals == mx && c.exceptionTable.isEmpty && decide (c.maxStack ≤ mostOperands) && decide (meth.sig.returnType = rt) && !meth.locks && decide (parseMethodDescriptor y.desc = some meth.sig)) = true) : (Jvm.Cond.code y bytes mx rt).before a s = true := by
  simp only [Bool.and_eq_true, beq_iff_eq, Bool.not_eq_true', decide_eq_true_eq] at h5
  obtain ⟨⟨⟨⟨⟨g1, g2⟩, g3⟩, g4⟩, g5⟩, g6⟩ := h5
  simp [Cond.before, Cond.holds, Cond.value, h1, h2, h3, h4, g1, g2, g3, g4, g5, g6]
def isCode : Jvm.Cond → Bool
  | .code _ _ _ _ => true
  | _ => false
theorem all_split {L : List Jvm.Cond} {P : Jvm.Cond → Bool} (h1 : L.all (fun c => isCode c || P c) = true) (h2 : ∀ c ∈ L.filter isCode, P c = true) : L.all P = true := by
  refine List.all_eq_true.mpr fun c hc => ?_
  have h := List.all_eq_true.mp h1 c hc
  rcases Bool.eq_false_or_eq_true (isCode c) with hi | hi
  · exact h2 c (List.mem_filter.mpr ⟨hc, hi⟩)
  · simpa [hi] using h
set_option maxRecDepth 65536 in
theorem w_c0 : (Jvm.Cond.code x code maxLocals ret).before args0 about1 = true := code_word (m := ⟨1, 2⟩) (meth := k1m2) (c := k1c2) (by decide +kernel) rfl rfl rfl (by decide +kernel)
set_option maxRecDepth 65536 in
theorem w_c1 : (Jvm.Cond.code ({ cls := "com/example/dunlin/dunlin/RunTextEndsLinePinLaw", name := "pick", desc := "(I)C" } : Jvm.MethodName) method_2_code (2 : Nat) (Option.some Jvm.ClassFile.FieldType.char)).before args0 about1 = true := code_word (m := ⟨1, 1⟩) (meth := k1m1) (c := k1c1) (by decide +kernel) rfl rfl rfl (by decide +kernel)
set_option maxRecDepth 65536 in
theorem w_c2 : (Jvm.Cond.code ({ cls := "java/lang/String", name := "<init>", desc := "([C)V" } : Jvm.MethodName) jdk_42_method_3_code (2 : Nat) (Option.none : Option Jvm.ClassFile.FieldType)).before args0 about1 = true := code_word (m := ⟨7, 1⟩) (meth := k7m1) (c := k7c1) (by decide +kernel) rfl rfl rfl (by decide +kernel)
set_option maxRecDepth 65536 in
theorem w_c3 : (Jvm.Cond.code ({ cls := "java/lang/String", name := "<init>", desc := "([CIILjava/lang/Void;)V" } : Jvm.MethodName) jdk_42_method_149_code (6 : Nat) (Option.none : Option Jvm.ClassFile.FieldType)).before args0 about1 = true := code_word (m := ⟨7, 4⟩) (meth := k7m4) (c := k7c4) (by decide +kernel) rfl rfl rfl (by decide +kernel)
set_option maxRecDepth 65536 in
theorem w_c4 : (Jvm.Cond.code ({ cls := "java/lang/Object", name := "<init>", desc := "()V" } : Jvm.MethodName) object_method_1_code (1 : Nat) (Option.none : Option Jvm.ClassFile.FieldType)).before args0 about1 = true := code_word (m := ⟨0, 0⟩) (meth := k0m0) (c := k0c0) (by decide +kernel) rfl rfl rfl (by decide +kernel)
set_option maxRecDepth 65536 in
theorem w_c5 : (Jvm.Cond.code ({ cls := "java/lang/StringUTF16", name := "compress", desc := "([CII)[B" } : Jvm.MethodName) jdk_52_method_16_code (6 : Nat) (Option.some (Jvm.ClassFile.FieldType.array Jvm.ClassFile.FieldType.byte))).before args0 about1 = true := code_word (m := ⟨8, 2⟩) (meth := k8m2) (c := k8c2) (by decide +kernel) rfl rfl rfl (by decide +kernel)
set_option maxRecDepth 65536 in
theorem w_c6 : (Jvm.Cond.code ({ cls := "java/lang/StringUTF16", name := "compress", desc := "([CI[BII)I" } : Jvm.MethodName) jdk_52_method_21_code (7 : Nat) (Option.some Jvm.ClassFile.FieldType.int)).before args0 about1 = true := code_word (m := ⟨8, 3⟩) (meth := k8m3) (c := k8c3) (by decide +kernel) rfl rfl rfl (by decide +kernel)
set_option maxRecDepth 65536 in
theorem w_c7 : (Jvm.Cond.code ({ cls := "java/lang/StringUTF16", name := "coderFromArrayLen", desc := "([BI)B" } : Jvm.MethodName) jdk_52_method_15_code (2 : Nat) (Option.some Jvm.ClassFile.FieldType.byte)).before args0 about1 = true := code_word (m := ⟨8, 1⟩) (meth := k8m1) (c := k8c1) (by decide +kernel) rfl rfl rfl (by decide +kernel)
set_option maxRecDepth 65536 in
theorem w_c8 : (Jvm.Cond.code ({ cls := "com/example/dunlin/dunlin/RunText", name := "endsLine", desc := "(Ljava/lang/String;I)Z" } : Jvm.MethodName) prog_24_method_8_code (3 : Nat) (Option.some Jvm.ClassFile.FieldType.boolean)).before args0 about1 = true := code_word (m := ⟨9, 0⟩) (meth := k9m0) (c := k9c0) (by decide +kernel) rfl rfl rfl (by decide +kernel)
set_option maxRecDepth 65536 in
theorem w_c9 : (Jvm.Cond.code ({ cls := "java/lang/String", name := "charAt", desc := "(I)C" } : Jvm.MethodName) jdk_42_method_56_code (2 : Nat) (Option.some Jvm.ClassFile.FieldType.char)).before args0 about1 = true := code_word (m := ⟨7, 3⟩) (meth := k7m3) (c := k7c3) (by decide +kernel) rfl rfl rfl (by decide +kernel)
set_option maxRecDepth 65536 in
theorem w_c10 : (Jvm.Cond.code ({ cls := "java/lang/String", name := "isLatin1", desc := "()Z" } : Jvm.MethodName) jdk_42_method_154_code (1 : Nat) (Option.some Jvm.ClassFile.FieldType.boolean)).before args0 about1 = true := code_word (m := ⟨7, 6⟩) (meth := k7m6) (c := k7c6) (by decide +kernel) rfl rfl rfl (by decide +kernel)
set_option maxRecDepth 65536 in
theorem w_c11 : (Jvm.Cond.code ({ cls := "java/lang/StringLatin1", name := "charAt", desc := "([BI)C" } : Jvm.MethodName) jdk_43_method_2_code (2 : Nat) (Option.some Jvm.ClassFile.FieldType.char)).before args0 about1 = true := code_word (m := ⟨10, 1⟩) (meth := k10m1) (c := k10c1) (by decide +kernel) rfl rfl rfl (by decide +kernel)
set_option maxRecDepth 65536 in
theorem w_c12 : (Jvm.Cond.code ({ cls := "java/lang/String", name := "checkIndex", desc := "(II)V" } : Jvm.MethodName) jdk_42_method_155_code (2 : Nat) (Option.none : Option Jvm.ClassFile.FieldType)).before args0 about1 = true := code_word (m := ⟨7, 7⟩) (meth := k7m7) (c := k7c7) (by decide +kernel) rfl rfl rfl (by decide +kernel)
set_option maxRecDepth 65536 in
theorem w_c13 : (Jvm.Cond.code ({ cls := "jdk/internal/util/Preconditions", name := "checkIndex", desc := "(IILjava/util/function/BiFunction;)I" } : Jvm.MethodName) jdk_41_method_11_code (3 : Nat) (Option.some Jvm.ClassFile.FieldType.int)).before args0 about1 = true := code_word (m := ⟨11, 1⟩) (meth := k11m1) (c := k11c1) (by decide +kernel) rfl rfl rfl (by decide +kernel)
set_option maxRecDepth 65536 in
theorem w_c14 : (Jvm.Cond.code ({ cls := "java/lang/String", name := "length", desc := "()I" } : Jvm.MethodName) jdk_42_method_54_code (1 : Nat) (Option.some Jvm.ClassFile.FieldType.int)).before args0 about1 = true := code_word (m := ⟨7, 2⟩) (meth := k7m2) (c := k7c2) (by decide +kernel) rfl rfl rfl (by decide +kernel)
set_option maxRecDepth 65536 in
theorem w_c15 : (Jvm.Cond.code ({ cls := "java/lang/String", name := "coder", desc := "()B" } : Jvm.MethodName) jdk_42_method_152_code (1 : Nat) (Option.some Jvm.ClassFile.FieldType.byte)).before args0 about1 = true := code_word (m := ⟨7, 5⟩) (meth := k7m5) (c := k7c5) (by decide +kernel) rfl rfl rfl (by decide +kernel)
def codes1 : List Jvm.Cond := [Jvm.Cond.code x code maxLocals ret, Jvm.Cond.code ({ cls := "com/example/dunlin/dunlin/RunTextEndsLinePinLaw", name := "pick", desc := "(I)C" } : Jvm.MethodName) method_2_code (2 : Nat) (Option.some Jvm.ClassFile.FieldType.char), Jvm.Cond.code ({ cls := "java/lang/String", name := "<init>", desc := "([C)V" } : Jvm.MethodName) jdk_42_method_3_code (2 : Nat) (Option.none : Option Jvm.ClassFile.FieldType), Jvm.Cond.code ({ cls := "java/lang/String", name := "<init>", desc := "([CIILjava/lang/Void;)V" } : Jvm.MethodName) jdk_42_method_149_code (6 : Nat) (Option.none : Option Jvm.ClassFile.FieldType), Jvm.Cond.code ({ cls := "java/lang/Object", name := "<init>", desc := "()V" } : Jvm.MethodName) object_method_1_code (1 : Nat) (Option.none : Option Jvm.ClassFile.FieldType), Jvm.Cond.code ({ cls := "java/lang/StringUTF16", name := "compress", desc := "([CII)[B" } : Jvm.MethodName) jdk_52_method_16_code (6 : Nat) (Option.some (Jvm.ClassFile.FieldType.array Jvm.ClassFile.FieldType.byte)), Jvm.Cond.code ({ cls := "java/lang/StringUTF16", name := "compress", desc := "([CI[BII)I" } : Jvm.MethodName) jdk_52_method_21_code (7 : Nat) (Option.some Jvm.ClassFile.FieldType.int), Jvm.Cond.code ({ cls := "java/lang/StringUTF16", name := "coderFromArrayLen", desc := "([BI)B" } : Jvm.MethodName) jdk_52_method_15_code (2 : Nat) (Option.some Jvm.ClassFile.FieldType.byte), Jvm.Cond.code ({ cls := "com/example/dunlin/dunlin/RunText", name := "endsLine", desc := "(Ljava/lang/String;I)Z" } : Jvm.MethodName) prog_24_method_8_code (3 : Nat) (Option.some Jvm.ClassFile.FieldType.boolean), Jvm.Cond.code ({ cls := "java/lang/String", name := "charAt", desc := "(I)C" } : Jvm.MethodName) jdk_42_method_56_code (2 : Nat) (Option.some Jvm.ClassFile.FieldType.char), Jvm.Cond.code ({ cls := "java/lang/String", name := "isLatin1", desc := "()Z" } : Jvm.MethodName) jdk_42_method_154_code (1 : Nat) (Option.some Jvm.ClassFile.FieldType.boolean), Jvm.Cond.code ({ cls := "java/lang/StringLatin1", name := "charAt", desc := "([BI)C" } : Jvm.MethodName) jdk_43_method_2_code (2 : Nat) (Option.some Jvm.ClassFile.FieldType.char), Jvm.Cond.code ({ cls := "java/lang/String", name := "checkIndex", desc := "(II)V" } : Jvm.MethodName) jdk_42_method_155_code (2 : Nat) (Option.none : Option Jvm.ClassFile.FieldType), Jvm.Cond.code ({ cls := "jdk/internal/util/Preconditions", name := "checkIndex", desc := "(IILjava/util/function/BiFunction;)I" } : Jvm.MethodName) jdk_41_method_11_code (3 : Nat) (Option.some Jvm.ClassFile.FieldType.int), Jvm.Cond.code ({ cls := "java/lang/String", name := "length", desc := "()I" } : Jvm.MethodName) jdk_42_method_54_code (1 : Nat) (Option.some Jvm.ClassFile.FieldType.int), Jvm.Cond.code ({ cls := "java/lang/String", name := "coder", desc := "()B" } : Jvm.MethodName) jdk_42_method_152_code (1 : Nat) (Option.some Jvm.ClassFile.FieldType.byte)]
set_option maxRecDepth 65536 in
theorem codes_eq : words1.filter isCode = codes1 := rfl
theorem w_codes : ∀ c ∈ words1.filter isCode, c.before args0 about1 = true := by
  rw [codes_eq]
  intro c hc
  simp only [codes1, List.mem_cons, List.not_mem_nil, or_false] at hc
  rcases hc with rfl | rfl | rfl | rfl | rfl | rfl | rfl | rfl | rfl | rfl | rfl | rfl | rfl | rfl | rfl | rfl
  · exact w_c0
  · exact w_c1
  · exact w_c2
  · exact w_c3
  · exact w_c4
  · exact w_c5
  · exact w_c6
  · exact w_c7
  · exact w_c8
  · exact w_c9
  · exact w_c10
  · exact w_c11
  · exact w_c12
  · exact w_c13
  · exact w_c14
  · exact w_c15
set_option maxRecDepth 65536 in
theorem w_t1 : (words1.take 24).all (fun c => isCode c || c.before args0 about1) = true := by decide +kernel
set_option maxRecDepth 65536 in
theorem w_t2 : ((words1.drop 24).take 24).all (fun c => isCode c || c.before args0 about1) = true := by decide +kernel
set_option maxRecDepth 65536 in
theorem w_t3 : ((words1.drop 24).drop 24).all (fun c => isCode c || c.before args0 about1) = true := by decide +kernel
theorem w_tables : (allAtoms (Jvm.Cond.code x code maxLocals ret :: tables_1)).before args0 about1 = true := by
  rw [allAtoms_all]
  show words1.all (fun c => c.before args0 about1) = true
  refine all_split ?_ w_codes
  rw [← List.take_append_drop 24 words1, List.all_append, w_t1, ← List.take_append_drop 24 (words1.drop 24), List.all_append, w_t2, w_t3]
  rfl
set_option maxRecDepth 65536 in
theorem w_rest : rest_1_c.before args0 about1 = true := by decide +kernel
set_option maxRecDepth 65536 in
theorem w_case : (Jvm.Cond.and given_1 narrow_1).before args0 about1 = true := by decide +kernel
theorem w_applies : (headSpec (Jvm.Cond.code x code maxLocals ret :: tables_1) room_1).applies x e0.platform about1 = true :=
  (Spec.applies_iff w_frames).mpr ⟨w_running, w_runnable, w_alone, w_named, w_hears, w_ripe, w_room, w_tables⟩
theorem atStart : AtStart classFile x code maxLocals ret World_1 tables_1 room_1 Calls_1 rest_1 Pre_1 launch0 p0 e0 about1 theMethod args0 below0 :=
  ⟨lists_1, trivial, launch0.admits_env _ _ _, launch0.least_env, fairChoices_fair.cas, fairChoices_fair.clock, w_frames, w_args, w_heap, w_applies, trivial, w_rest, w_case⟩
end start1
theorem witness_1 : WitnessClaimed_1 := ⟨start1.p0, start1.e0, start1.about1, start1.theMethod, start1.args0, start1.below0, start1.atStart⟩
end Jvm.Pilot.@@N@@
